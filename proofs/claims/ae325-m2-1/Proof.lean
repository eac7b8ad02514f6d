import JvmDerived
import JvmDerived.Pilot.@@N@@Statement
import JvmDerived.Pilot.@@N@@Code
set_option linter.unusedVariables false
set_option linter.unusedSimpArgs false
namespace Jvm.RoadKit
open Sem ClassFile Op Lib Jvm.Stand Jvm.Free Jvm.LawKit
section New
variable {p : Program} {l : Launch} {e : Env} {R : Room} {s : State} {m : MethodId} {args : Array Value} {below : List Frame} {meth : Method} {c : Code} {T : State} {locs : List Loc} {cells slots : Nat}
theorem retI (X : Stand p l e R s m args below meth c T locs cells slots) (hx : p.tables.exec = Jvm.exec) {pc : Nat} {Ls : Array Slot} {z : Int32} {rest : List Value} (hret : meth.sig.returnType = some .int) (hd : decode c.code pc = .ok (.ireturn, 1)) {fs : List Frame}
    (hl : ∀ (f : JFrame) (acts : List Action), f.method = m → f.locked = none → f.entered = [] → (doReturn e (T.setTop f) acts (some (.int z))).1 = T.setFrames fs) : Steps p.tables e below (T.setTop (mkF m pc Ls (.int z :: rest))) (T.setFrames fs) :=
  retOut X hx hret rfl (Or.inl ⟨rfl, Or.inl rfl, _, rfl⟩) hd hl
end New
end Jvm.RoadKit
namespace Jvm.Own
open Sem ClassFile Op Lib Jvm.Stand Jvm.Free Jvm.LawKit Jvm.RoadKit
/-- from here the run comes to a state that meets F -/
def Go (tb : Tables) (e : Env) (below : List Frame) (F : State → Prop) (T : State) (g : JFrame) : Prop := ∃ t, Steps tb e below (T.setTop g) t ∧ F t
section Steps0
variable {tb : Tables} {e : Env} {below : List Frame} {F : State → Prop} {T T' : State} {g g' : JFrame}
theorem Go.st (q : ∀ t, Steps tb e below (T'.setTop g') t → Steps tb e below (T.setTop g) t) (k : Go tb e below F T' g') : Go tb e below F T g := by
  obtain ⟨t, h1, h2⟩ := k
  exact ⟨t, q t h1, h2⟩
theorem Go.tr (q : Steps tb e below (T.setTop g) (T'.setTop g')) (k : Go tb e below F T' g') : Go tb e below F T g := by
  obtain ⟨t, h1, h2⟩ := k
  exact ⟨t, q.trans h1, h2⟩
end Steps0
section Steps
variable {tb : Tables} [Ours tb] {e : Env} {below : List Frame} {F : State → Prop} {T T' : State} {m : MethodId} {c : Code} {pc pc' : Nat} {Ls Ls' : Array Slot} {sk : List Value}
theorem s_iload (h : At T m c below) (hx : tb.exec = Jvm.exec) {k : Nat} {v : Int32} (hd : decode c.code pc = .ok (.iload k, 2)) (hp : pc + 2 = pc') (hl : Ls[k]? = some (.val (.int v)))  (q : Go tb e below F T (mkF m pc' Ls ((.int v) :: sk))) : Go tb e below F T (mkF m pc Ls (sk)) := by
  subst hp; exact Go.st (fun _ r => XS.iload (g := mkF m pc Ls (sk)) h hx rfl hd hl  r) q
theorem s_iloadN (h : At T m c below) (hx : tb.exec = Jvm.exec) {k : Fin 4} {v : Int32} (hd : decode c.code pc = .ok (.iload_n k, 1)) (hp : pc + 1 = pc') (hl : Ls[k.val]? = some (.val (.int v)))  (q : Go tb e below F T (mkF m pc' Ls ((.int v) :: sk))) : Go tb e below F T (mkF m pc Ls (sk)) := by
  subst hp; exact Go.st (fun _ r => XS.iloadN (g := mkF m pc Ls (sk)) h hx rfl hd hl  r) q
theorem s_istore (h : At T m c below) (hx : tb.exec = Jvm.exec) {k : Nat} {v : Int32} (hd : decode c.code pc = .ok (.istore k, 2)) (hp : pc + 2 = pc')  (hl : storeLocals Ls k (.int v) = some Ls') (q : Go tb e below F T (mkF m pc' Ls' (sk))) : Go tb e below F T (mkF m pc Ls ((.int v) :: sk)) := by
  subst hp; exact Go.st (fun _ r => XS.istore (g := mkF m pc Ls ((.int v) :: sk)) h hx rfl hd rfl  hl r) q
theorem s_istoreN (h : At T m c below) (hx : tb.exec = Jvm.exec) {k : Fin 4} {v : Int32} (hd : decode c.code pc = .ok (.istore_n k, 1)) (hp : pc + 1 = pc')  (hl : storeLocals Ls k.val (.int v) = some Ls') (q : Go tb e below F T (mkF m pc' Ls' (sk))) : Go tb e below F T (mkF m pc Ls ((.int v) :: sk)) := by
  subst hp; exact Go.st (fun _ r => XS.istoreN (g := mkF m pc Ls ((.int v) :: sk)) h hx rfl hd rfl  hl r) q
theorem s_lload (h : At T m c below) (hx : tb.exec = Jvm.exec) {k : Nat} {v : Int64} (hd : decode c.code pc = .ok (.lload k, 2)) (hp : pc + 2 = pc') (hl : Ls[k]? = some (.val (.long v)))  (q : Go tb e below F T (mkF m pc' Ls ((.long v) :: sk))) : Go tb e below F T (mkF m pc Ls (sk)) := by
  subst hp; exact Go.st (fun _ r => XS.lload (g := mkF m pc Ls (sk)) h hx rfl hd hl  r) q
theorem s_lloadN (h : At T m c below) (hx : tb.exec = Jvm.exec) {k : Fin 4} {v : Int64} (hd : decode c.code pc = .ok (.lload_n k, 1)) (hp : pc + 1 = pc') (hl : Ls[k.val]? = some (.val (.long v)))  (q : Go tb e below F T (mkF m pc' Ls ((.long v) :: sk))) : Go tb e below F T (mkF m pc Ls (sk)) := by
  subst hp; exact Go.st (fun _ r => XS.lloadN (g := mkF m pc Ls (sk)) h hx rfl hd hl  r) q
theorem s_lstore (h : At T m c below) (hx : tb.exec = Jvm.exec) {k : Nat} {v : Int64} (hd : decode c.code pc = .ok (.lstore k, 2)) (hp : pc + 2 = pc')  (hl : storeLocals Ls k (.long v) = some Ls') (q : Go tb e below F T (mkF m pc' Ls' (sk))) : Go tb e below F T (mkF m pc Ls ((.long v) :: sk)) := by
  subst hp; exact Go.st (fun _ r => XS.lstore (g := mkF m pc Ls ((.long v) :: sk)) h hx rfl hd rfl  hl r) q
theorem s_lstoreN (h : At T m c below) (hx : tb.exec = Jvm.exec) {k : Fin 4} {v : Int64} (hd : decode c.code pc = .ok (.lstore_n k, 1)) (hp : pc + 1 = pc')  (hl : storeLocals Ls k.val (.long v) = some Ls') (q : Go tb e below F T (mkF m pc' Ls' (sk))) : Go tb e below F T (mkF m pc Ls ((.long v) :: sk)) := by
  subst hp; exact Go.st (fun _ r => XS.lstoreN (g := mkF m pc Ls ((.long v) :: sk)) h hx rfl hd rfl  hl r) q
theorem s_dload (h : At T m c below) (hx : tb.exec = Jvm.exec) {k : Nat} {v : UInt64} (hd : decode c.code pc = .ok (.dload k, 2)) (hp : pc + 2 = pc') (hl : Ls[k]? = some (.val (.double v)))  (q : Go tb e below F T (mkF m pc' Ls ((.double v) :: sk))) : Go tb e below F T (mkF m pc Ls (sk)) := by
  subst hp; exact Go.st (fun _ r => XS.dload (g := mkF m pc Ls (sk)) h hx rfl hd hl  r) q
theorem s_dloadN (h : At T m c below) (hx : tb.exec = Jvm.exec) {k : Fin 4} {v : UInt64} (hd : decode c.code pc = .ok (.dload_n k, 1)) (hp : pc + 1 = pc') (hl : Ls[k.val]? = some (.val (.double v)))  (q : Go tb e below F T (mkF m pc' Ls ((.double v) :: sk))) : Go tb e below F T (mkF m pc Ls (sk)) := by
  subst hp; exact Go.st (fun _ r => XS.dloadN (g := mkF m pc Ls (sk)) h hx rfl hd hl  r) q
theorem s_dstore (h : At T m c below) (hx : tb.exec = Jvm.exec) {k : Nat} {v : UInt64} (hd : decode c.code pc = .ok (.dstore k, 2)) (hp : pc + 2 = pc')  (hl : storeLocals Ls k (.double v) = some Ls') (q : Go tb e below F T (mkF m pc' Ls' (sk))) : Go tb e below F T (mkF m pc Ls ((.double v) :: sk)) := by
  subst hp; exact Go.st (fun _ r => XS.dstore (g := mkF m pc Ls ((.double v) :: sk)) h hx rfl hd rfl  hl r) q
theorem s_dstoreN (h : At T m c below) (hx : tb.exec = Jvm.exec) {k : Fin 4} {v : UInt64} (hd : decode c.code pc = .ok (.dstore_n k, 1)) (hp : pc + 1 = pc')  (hl : storeLocals Ls k.val (.double v) = some Ls') (q : Go tb e below F T (mkF m pc' Ls' (sk))) : Go tb e below F T (mkF m pc Ls ((.double v) :: sk)) := by
  subst hp; exact Go.st (fun _ r => XS.dstoreN (g := mkF m pc Ls ((.double v) :: sk)) h hx rfl hd rfl  hl r) q
theorem s_aload (h : At T m c below) (hx : tb.exec = Jvm.exec) {k : Nat} {v : Value} (hd : decode c.code pc = .ok (.aload k, 2)) (hp : pc + 2 = pc') (hl : Ls[k]? = some (.val (v))) (hv : v.isRef = true) (q : Go tb e below F T (mkF m pc' Ls ((v) :: sk))) : Go tb e below F T (mkF m pc Ls (sk)) := by
  subst hp; exact Go.st (fun _ r => XS.aload (g := mkF m pc Ls (sk)) h hx rfl hd hl hv r) q
theorem s_aloadN (h : At T m c below) (hx : tb.exec = Jvm.exec) {k : Fin 4} {v : Value} (hd : decode c.code pc = .ok (.aload_n k, 1)) (hp : pc + 1 = pc') (hl : Ls[k.val]? = some (.val (v))) (hv : v.isRef = true) (q : Go tb e below F T (mkF m pc' Ls ((v) :: sk))) : Go tb e below F T (mkF m pc Ls (sk)) := by
  subst hp; exact Go.st (fun _ r => XS.aloadN (g := mkF m pc Ls (sk)) h hx rfl hd hl hv r) q
theorem s_astore (h : At T m c below) (hx : tb.exec = Jvm.exec) {k : Nat} {v : Value} (hd : decode c.code pc = .ok (.astore k, 2)) (hp : pc + 2 = pc') (hv : v.isRef = true) (hl : storeLocals Ls k (v) = some Ls') (q : Go tb e below F T (mkF m pc' Ls' (sk))) : Go tb e below F T (mkF m pc Ls ((v) :: sk)) := by
  subst hp; exact Go.st (fun _ r => XS.astore (g := mkF m pc Ls ((v) :: sk)) h hx rfl hd rfl hv hl r) q
theorem s_astoreN (h : At T m c below) (hx : tb.exec = Jvm.exec) {k : Fin 4} {v : Value} (hd : decode c.code pc = .ok (.astore_n k, 1)) (hp : pc + 1 = pc') (hv : v.isRef = true) (hl : storeLocals Ls k.val (v) = some Ls') (q : Go tb e below F T (mkF m pc' Ls' (sk))) : Go tb e below F T (mkF m pc Ls ((v) :: sk)) := by
  subst hp; exact Go.st (fun _ r => XS.astoreN (g := mkF m pc Ls ((v) :: sk)) h hx rfl hd rfl hv hl r) q
theorem s_iconst (h : At T m c below) (hx : tb.exec = Jvm.exec) {i : Int} {v : Int32} (hd : decode c.code pc = .ok (.iconst i, 1)) (hp : pc + 1 = pc') (hv : Int32.ofInt i = v) (q : Go tb e below F T (mkF m pc' Ls ((.int v) :: sk))) : Go tb e below F T (mkF m pc Ls sk) := by
  subst hp hv; exact Go.st (fun _ r => XS.iconst (g := mkF m pc Ls sk) h hx rfl hd r) q
theorem s_bipush (h : At T m c below) (hx : tb.exec = Jvm.exec) {i : Int} {v : Int32} (hd : decode c.code pc = .ok (.bipush i, 2)) (hp : pc + 2 = pc') (hv : (Int8.ofInt i).toInt32 = v) (q : Go tb e below F T (mkF m pc' Ls ((.int v) :: sk))) : Go tb e below F T (mkF m pc Ls sk) := by
  subst hp hv; exact Go.st (fun _ r => XS.bipush (g := mkF m pc Ls sk) h hx rfl hd r) q
theorem s_sipush (h : At T m c below) (hx : tb.exec = Jvm.exec) {i : Int} {v : Int32} (hd : decode c.code pc = .ok (.sipush i, 3)) (hp : pc + 3 = pc') (hv : (Int16.ofInt i).toInt32 = v) (q : Go tb e below F T (mkF m pc' Ls ((.int v) :: sk))) : Go tb e below F T (mkF m pc Ls sk) := by
  subst hp hv; exact Go.st (fun _ r => XS.sipush (g := mkF m pc Ls sk) h hx rfl hd r) q
theorem s_aconst_null (h : At T m c below) (hx : tb.exec = Jvm.exec) (hd : decode c.code pc = .ok (.aconst_null, 1)) (hp : pc + 1 = pc') (q : Go tb e below F T (mkF m pc' Ls (.null :: sk))) : Go tb e below F T (mkF m pc Ls sk) := by
  subst hp; exact Go.st (fun _ r => XS.aconstNull (g := mkF m pc Ls sk) h hx rfl hd r) q
theorem s_iadd (h : At T m c below) (hx : tb.exec = Jvm.exec) {x y z : Int32} (hd : decode c.code pc = .ok (.iadd, 1)) (hp : pc + 1 = pc') (hv : x + y = z) (q : Go tb e below F T (mkF m pc' Ls (.int z :: sk))) : Go tb e below F T (mkF m pc Ls (.int y :: .int x :: sk)) := by
  subst hp hv; exact Go.st (fun _ r => XS.iadd (g := mkF m pc Ls (.int y :: .int x :: sk)) h hx rfl hd rfl r) q
theorem s_isub (h : At T m c below) (hx : tb.exec = Jvm.exec) {x y z : Int32} (hd : decode c.code pc = .ok (.isub, 1)) (hp : pc + 1 = pc') (hv : x - y = z) (q : Go tb e below F T (mkF m pc' Ls (.int z :: sk))) : Go tb e below F T (mkF m pc Ls (.int y :: .int x :: sk)) := by
  subst hp hv; exact Go.st (fun _ r => XS.isub (g := mkF m pc Ls (.int y :: .int x :: sk)) h hx rfl hd rfl r) q
theorem s_imul (h : At T m c below) (hx : tb.exec = Jvm.exec) {x y z : Int32} (hd : decode c.code pc = .ok (.imul, 1)) (hp : pc + 1 = pc') (hv : x * y = z) (q : Go tb e below F T (mkF m pc' Ls (.int z :: sk))) : Go tb e below F T (mkF m pc Ls (.int y :: .int x :: sk)) := by
  subst hp hv; exact Go.st (fun _ r => XS.imul (g := mkF m pc Ls (.int y :: .int x :: sk)) h hx rfl hd rfl r) q
theorem s_iand (h : At T m c below) (hx : tb.exec = Jvm.exec) {x y z : Int32} (hd : decode c.code pc = .ok (.iand, 1)) (hp : pc + 1 = pc') (hv : x &&& y = z) (q : Go tb e below F T (mkF m pc' Ls (.int z :: sk))) : Go tb e below F T (mkF m pc Ls (.int y :: .int x :: sk)) := by
  subst hp hv; exact Go.st (fun _ r => XS.iand (g := mkF m pc Ls (.int y :: .int x :: sk)) h hx rfl hd rfl r) q
theorem s_ior (h : At T m c below) (hx : tb.exec = Jvm.exec) {x y z : Int32} (hd : decode c.code pc = .ok (.ior, 1)) (hp : pc + 1 = pc') (hv : x ||| y = z) (q : Go tb e below F T (mkF m pc' Ls (.int z :: sk))) : Go tb e below F T (mkF m pc Ls (.int y :: .int x :: sk)) := by
  subst hp hv; exact Go.st (fun _ r => XS.ior (g := mkF m pc Ls (.int y :: .int x :: sk)) h hx rfl hd rfl r) q
theorem s_ixor (h : At T m c below) (hx : tb.exec = Jvm.exec) {x y z : Int32} (hd : decode c.code pc = .ok (.ixor, 1)) (hp : pc + 1 = pc') (hv : x ^^^ y = z) (q : Go tb e below F T (mkF m pc' Ls (.int z :: sk))) : Go tb e below F T (mkF m pc Ls (.int y :: .int x :: sk)) := by
  subst hp hv; exact Go.st (fun _ r => XS.ixor (g := mkF m pc Ls (.int y :: .int x :: sk)) h hx rfl hd rfl r) q
theorem s_ishl (h : At T m c below) (hx : tb.exec = Jvm.exec) {x y z : Int32} (hd : decode c.code pc = .ok (.ishl, 1)) (hp : pc + 1 = pc') (hv : x <<< (y &&& 31) = z) (q : Go tb e below F T (mkF m pc' Ls (.int z :: sk))) : Go tb e below F T (mkF m pc Ls (.int y :: .int x :: sk)) := by
  subst hp hv; exact Go.st (fun _ r => XS.ishl (g := mkF m pc Ls (.int y :: .int x :: sk)) h hx rfl hd rfl r) q
theorem s_ishr (h : At T m c below) (hx : tb.exec = Jvm.exec) {x y z : Int32} (hd : decode c.code pc = .ok (.ishr, 1)) (hp : pc + 1 = pc') (hv : x >>> (y &&& 31) = z) (q : Go tb e below F T (mkF m pc' Ls (.int z :: sk))) : Go tb e below F T (mkF m pc Ls (.int y :: .int x :: sk)) := by
  subst hp hv; exact Go.st (fun _ r => XS.ishr (g := mkF m pc Ls (.int y :: .int x :: sk)) h hx rfl hd rfl r) q
theorem s_iushr (h : At T m c below) (hx : tb.exec = Jvm.exec) {x y z : Int32} (hd : decode c.code pc = .ok (.iushr, 1)) (hp : pc + 1 = pc') (hv : (x.toUInt32 >>> (y &&& 31).toUInt32).toInt32 = z) (q : Go tb e below F T (mkF m pc' Ls (.int z :: sk))) : Go tb e below F T (mkF m pc Ls (.int y :: .int x :: sk)) := by
  subst hp hv; exact Go.st (fun _ r => XS.iushr (g := mkF m pc Ls (.int y :: .int x :: sk)) h hx rfl hd rfl r) q
theorem s_ladd (h : At T m c below) (hx : tb.exec = Jvm.exec) {x y z : Int64} (hd : decode c.code pc = .ok (.ladd, 1)) (hp : pc + 1 = pc') (hv : x + y = z) (q : Go tb e below F T (mkF m pc' Ls (.long z :: sk))) : Go tb e below F T (mkF m pc Ls (.long y :: .long x :: sk)) := by
  subst hp hv; exact Go.st (fun _ r => XS.ladd (g := mkF m pc Ls (.long y :: .long x :: sk)) h hx rfl hd rfl r) q
theorem s_lsub (h : At T m c below) (hx : tb.exec = Jvm.exec) {x y z : Int64} (hd : decode c.code pc = .ok (.lsub, 1)) (hp : pc + 1 = pc') (hv : x - y = z) (q : Go tb e below F T (mkF m pc' Ls (.long z :: sk))) : Go tb e below F T (mkF m pc Ls (.long y :: .long x :: sk)) := by
  subst hp hv; exact Go.st (fun _ r => XS.lsub (g := mkF m pc Ls (.long y :: .long x :: sk)) h hx rfl hd rfl r) q
theorem s_lmul (h : At T m c below) (hx : tb.exec = Jvm.exec) {x y z : Int64} (hd : decode c.code pc = .ok (.lmul, 1)) (hp : pc + 1 = pc') (hv : x * y = z) (q : Go tb e below F T (mkF m pc' Ls (.long z :: sk))) : Go tb e below F T (mkF m pc Ls (.long y :: .long x :: sk)) := by
  subst hp hv; exact Go.st (fun _ r => XS.lmul (g := mkF m pc Ls (.long y :: .long x :: sk)) h hx rfl hd rfl r) q
theorem s_land (h : At T m c below) (hx : tb.exec = Jvm.exec) {x y z : Int64} (hd : decode c.code pc = .ok (.land, 1)) (hp : pc + 1 = pc') (hv : x &&& y = z) (q : Go tb e below F T (mkF m pc' Ls (.long z :: sk))) : Go tb e below F T (mkF m pc Ls (.long y :: .long x :: sk)) := by
  subst hp hv; exact Go.st (fun _ r => XS.land (g := mkF m pc Ls (.long y :: .long x :: sk)) h hx rfl hd rfl r) q
theorem s_lor (h : At T m c below) (hx : tb.exec = Jvm.exec) {x y z : Int64} (hd : decode c.code pc = .ok (.lor, 1)) (hp : pc + 1 = pc') (hv : x ||| y = z) (q : Go tb e below F T (mkF m pc' Ls (.long z :: sk))) : Go tb e below F T (mkF m pc Ls (.long y :: .long x :: sk)) := by
  subst hp hv; exact Go.st (fun _ r => XS.lor (g := mkF m pc Ls (.long y :: .long x :: sk)) h hx rfl hd rfl r) q
theorem s_lxor (h : At T m c below) (hx : tb.exec = Jvm.exec) {x y z : Int64} (hd : decode c.code pc = .ok (.lxor, 1)) (hp : pc + 1 = pc') (hv : x ^^^ y = z) (q : Go tb e below F T (mkF m pc' Ls (.long z :: sk))) : Go tb e below F T (mkF m pc Ls (.long y :: .long x :: sk)) := by
  subst hp hv; exact Go.st (fun _ r => XS.lxor (g := mkF m pc Ls (.long y :: .long x :: sk)) h hx rfl hd rfl r) q
theorem s_lshl (h : At T m c below) (hx : tb.exec = Jvm.exec) {x z : Int64} {y : Int32} (hd : decode c.code pc = .ok (.lshl, 1)) (hp : pc + 1 = pc') (hv : x <<< (y &&& 0x3f).toInt64 = z) (q : Go tb e below F T (mkF m pc' Ls (.long z :: sk))) : Go tb e below F T (mkF m pc Ls (.int y :: .long x :: sk)) := by
  subst hp hv; exact Go.st (fun _ r => XS.lshl (g := mkF m pc Ls (.int y :: .long x :: sk)) h hx rfl hd rfl r) q
theorem s_lshr (h : At T m c below) (hx : tb.exec = Jvm.exec) {x z : Int64} {y : Int32} (hd : decode c.code pc = .ok (.lshr, 1)) (hp : pc + 1 = pc') (hv : x >>> (y &&& 0x3f).toInt64 = z) (q : Go tb e below F T (mkF m pc' Ls (.long z :: sk))) : Go tb e below F T (mkF m pc Ls (.int y :: .long x :: sk)) := by
  subst hp hv; exact Go.st (fun _ r => XS.lshr (g := mkF m pc Ls (.int y :: .long x :: sk)) h hx rfl hd rfl r) q
theorem s_lushr (h : At T m c below) (hx : tb.exec = Jvm.exec) {x z : Int64} {y : Int32} (hd : decode c.code pc = .ok (.lushr, 1)) (hp : pc + 1 = pc') (hv : (x.toUInt64 >>> (y &&& 0x3f).toInt64.toUInt64).toInt64 = z) (q : Go tb e below F T (mkF m pc' Ls (.long z :: sk))) : Go tb e below F T (mkF m pc Ls (.int y :: .long x :: sk)) := by
  subst hp hv; exact Go.st (fun _ r => XS.lushr (g := mkF m pc Ls (.int y :: .long x :: sk)) h hx rfl hd rfl r) q
theorem s_ineg (h : At T m c below) (hx : tb.exec = Jvm.exec) {x : Int32} {z : Int32} (hd : decode c.code pc = .ok (.ineg, 1)) (hp : pc + 1 = pc') (hv : -x = z) (q : Go tb e below F T (mkF m pc' Ls (.int z :: sk))) : Go tb e below F T (mkF m pc Ls (.int x :: sk)) := by
  subst hp hv; exact Go.st (fun _ r => XS.ineg (g := mkF m pc Ls (.int x :: sk)) h hx rfl hd rfl r) q
theorem s_lneg (h : At T m c below) (hx : tb.exec = Jvm.exec) {x : Int64} {z : Int64} (hd : decode c.code pc = .ok (.lneg, 1)) (hp : pc + 1 = pc') (hv : -x = z) (q : Go tb e below F T (mkF m pc' Ls (.long z :: sk))) : Go tb e below F T (mkF m pc Ls (.long x :: sk)) := by
  subst hp hv; exact Go.st (fun _ r => XS.lneg (g := mkF m pc Ls (.long x :: sk)) h hx rfl hd rfl r) q
theorem s_i2l (h : At T m c below) (hx : tb.exec = Jvm.exec) {x : Int32} {z : Int64} (hd : decode c.code pc = .ok (.i2l, 1)) (hp : pc + 1 = pc') (hv : x.toInt64 = z) (q : Go tb e below F T (mkF m pc' Ls (.long z :: sk))) : Go tb e below F T (mkF m pc Ls (.int x :: sk)) := by
  subst hp hv; exact Go.st (fun _ r => XS.i2l (g := mkF m pc Ls (.int x :: sk)) h hx rfl hd rfl r) q
theorem s_l2i (h : At T m c below) (hx : tb.exec = Jvm.exec) {x : Int64} {z : Int32} (hd : decode c.code pc = .ok (.l2i, 1)) (hp : pc + 1 = pc') (hv : x.toInt32 = z) (q : Go tb e below F T (mkF m pc' Ls (.int z :: sk))) : Go tb e below F T (mkF m pc Ls (.long x :: sk)) := by
  subst hp hv; exact Go.st (fun _ r => XS.l2i (g := mkF m pc Ls (.long x :: sk)) h hx rfl hd rfl r) q
theorem s_i2b (h : At T m c below) (hx : tb.exec = Jvm.exec) {x : Int32} {z : Int32} (hd : decode c.code pc = .ok (.i2b, 1)) (hp : pc + 1 = pc') (hv : x.toInt8.toInt32 = z) (q : Go tb e below F T (mkF m pc' Ls (.int z :: sk))) : Go tb e below F T (mkF m pc Ls (.int x :: sk)) := by
  subst hp hv; exact Go.st (fun _ r => XS.i2b (g := mkF m pc Ls (.int x :: sk)) h hx rfl hd rfl r) q
theorem s_i2s (h : At T m c below) (hx : tb.exec = Jvm.exec) {x : Int32} {z : Int32} (hd : decode c.code pc = .ok (.i2s, 1)) (hp : pc + 1 = pc') (hv : x.toInt16.toInt32 = z) (q : Go tb e below F T (mkF m pc' Ls (.int z :: sk))) : Go tb e below F T (mkF m pc Ls (.int x :: sk)) := by
  subst hp hv; exact Go.st (fun _ r => XS.i2s (g := mkF m pc Ls (.int x :: sk)) h hx rfl hd rfl r) q
theorem s_i2c (h : At T m c below) (hx : tb.exec = Jvm.exec) {x : Int32} {z : Int32} (hd : decode c.code pc = .ok (.i2c, 1)) (hp : pc + 1 = pc') (hv : x.toUInt32.toUInt16.toUInt32.toInt32 = z) (q : Go tb e below F T (mkF m pc' Ls (.int z :: sk))) : Go tb e below F T (mkF m pc Ls (.int x :: sk)) := by
  subst hp hv; exact Go.st (fun _ r => XS.i2c (g := mkF m pc Ls (.int x :: sk)) h hx rfl hd rfl r) q
theorem s_lcmp (h : At T m c below) (hx : tb.exec = Jvm.exec) {x y : Int64} {z : Int32} (hd : decode c.code pc = .ok (.lcmp, 1)) (hp : pc + 1 = pc') (hv : lcmpW x y = z) (q : Go tb e below F T (mkF m pc' Ls (.int z :: sk))) : Go tb e below F T (mkF m pc Ls (.long y :: .long x :: sk)) := by
  subst hp hv; exact Go.st (fun _ r => XS.lcmp (g := mkF m pc Ls (.long y :: .long x :: sk)) h hx rfl hd rfl r) q
theorem s_idiv (h : At T m c below) (hx : tb.exec = Jvm.exec) {x y z : Int32} (hd : decode c.code pc = .ok (.idiv, 1)) (hp : pc + 1 = pc') (hy : ¬ y = 0) (hv : x / y = z) (q : Go tb e below F T (mkF m pc' Ls (.int z :: sk))) : Go tb e below F T (mkF m pc Ls (.int y :: .int x :: sk)) := by
  subst hp hv; exact Go.st (fun _ r => XS.idiv (g := mkF m pc Ls (.int y :: .int x :: sk)) h hx rfl hd rfl hy r) q
theorem s_irem (h : At T m c below) (hx : tb.exec = Jvm.exec) {x y z : Int32} (hd : decode c.code pc = .ok (.irem, 1)) (hp : pc + 1 = pc') (hy : ¬ y = 0) (hv : x % y = z) (q : Go tb e below F T (mkF m pc' Ls (.int z :: sk))) : Go tb e below F T (mkF m pc Ls (.int y :: .int x :: sk)) := by
  subst hp; rw [← irem_eq_mod x y] at hv; subst hv; exact Go.st (fun _ r => XS.irem (g := mkF m pc Ls (.int y :: .int x :: sk)) h hx rfl hd rfl hy r) q
theorem s_ldiv (h : At T m c below) (hx : tb.exec = Jvm.exec) {x y z : Int64} (hd : decode c.code pc = .ok (.ldiv, 1)) (hp : pc + 1 = pc') (hy : ¬ y = 0) (hv : x / y = z) (q : Go tb e below F T (mkF m pc' Ls (.long z :: sk))) : Go tb e below F T (mkF m pc Ls (.long y :: .long x :: sk)) := by
  subst hp hv; exact Go.st (fun _ r => XS.ldiv (g := mkF m pc Ls (.long y :: .long x :: sk)) h hx rfl hd rfl hy r) q
theorem s_lrem (h : At T m c below) (hx : tb.exec = Jvm.exec) {x y z : Int64} (hd : decode c.code pc = .ok (.lrem, 1)) (hp : pc + 1 = pc') (hy : ¬ y = 0) (hv : x % y = z) (q : Go tb e below F T (mkF m pc' Ls (.long z :: sk))) : Go tb e below F T (mkF m pc Ls (.long y :: .long x :: sk)) := by
  subst hp; rw [← lrem_mod x y] at hv; subst hv; exact Go.st (fun _ r => XS.lrem (g := mkF m pc Ls (.long y :: .long x :: sk)) h hx rfl hd rfl hy r) q
theorem s_dup (h : At T m c below) (hx : tb.exec = Jvm.exec) {v : Value} (hd : decode c.code pc = .ok (.dup, 1)) (hp : pc + 1 = pc') (hc : v.category = 1) (q : Go tb e below F T (mkF m pc' Ls (v :: v :: sk))) : Go tb e below F T (mkF m pc Ls (v :: sk)) := by
  subst hp; exact Go.st (fun _ r => XS.dup (g := mkF m pc Ls (v :: sk)) h hx rfl hd rfl hc r) q
theorem s_pop (h : At T m c below) (hx : tb.exec = Jvm.exec) {v : Value} (hd : decode c.code pc = .ok (.pop, 1)) (hp : pc + 1 = pc') (hc : v.category = 1) (q : Go tb e below F T (mkF m pc' Ls (sk))) : Go tb e below F T (mkF m pc Ls (v :: sk)) := by
  subst hp; exact Go.st (fun _ r => XS.pop (g := mkF m pc Ls (v :: sk)) h hx rfl hd rfl hc r) q
theorem s_dup_x1 (h : At T m c below) (hx : tb.exec = Jvm.exec) {v w : Value} (hd : decode c.code pc = .ok (.dup_x1, 1)) (hp : pc + 1 = pc') (hc : v.category = 1) (hc' : w.category = 1) (q : Go tb e below F T (mkF m pc' Ls (v :: w :: v :: sk))) : Go tb e below F T (mkF m pc Ls (v :: w :: sk)) := by
  subst hp; exact Go.st (fun _ r => XS.dupX1 (g := mkF m pc Ls (v :: w :: sk)) h hx rfl hd rfl hc hc' r) q
theorem s_iinc (h : At T m c below) (hx : tb.exec = Jvm.exec) {k : Nat} {i : Int} (hd : decode c.code pc = .ok (.iinc k i, 3)) (hp : pc + 3 = pc') {x z : Int32} (hl : Ls[k]? = some (.val (.int x))) (hv : x + Int32.ofInt i = z) (hs : storeLocals Ls k (.int z) = some Ls') (q : Go tb e below F T (mkF m pc' Ls' (sk))) : Go tb e below F T (mkF m pc Ls (sk)) := by
  subst hp hv; exact Go.st (fun _ r => XS.iinc (g := mkF m pc Ls (sk)) h hx rfl hd hl hs r) q
theorem s_lconst (h : At T m c below) (hx : tb.exec = Jvm.exec) {i : Fin 2} {v : Int64} (hd : decode c.code pc = .ok (.lconst i, 1)) (hp : pc + 1 = pc') (hv : Int64.ofNat i = v) (q : Go tb e below F T (mkF m pc' Ls (.long v :: sk))) : Go tb e below F T (mkF m pc Ls (sk)) := by
  subst hp hv; exact Go.st (fun _ r => XS.lconst (g := mkF m pc Ls (sk)) h hx rfl hd  r) q
theorem s_i2d (h : At T m c below) (hx : tb.exec = Jvm.exec) {x : Int32} {z : UInt64} (hd : decode c.code pc = .ok (.i2d, 1)) (hp : pc + 1 = pc') (hv : FP.i2d x = z) (q : Go tb e below F T (mkF m pc' Ls (.double z :: sk))) : Go tb e below F T (mkF m pc Ls (.int x :: sk)) := by
  subst hp; exact Go.st (fun _ r => XS.i2dS (g := mkF m pc Ls (.int x :: sk)) h hx rfl hd rfl hv r) q
theorem s_l2d (h : At T m c below) (hx : tb.exec = Jvm.exec) {x : Int64} {z : UInt64} (hd : decode c.code pc = .ok (.l2d, 1)) (hp : pc + 1 = pc') (hv : FP.l2d x = z) (q : Go tb e below F T (mkF m pc' Ls (.double z :: sk))) : Go tb e below F T (mkF m pc Ls (.long x :: sk)) := by
  subst hp; exact Go.st (fun _ r => XS.l2dS (g := mkF m pc Ls (.long x :: sk)) h hx rfl hd rfl hv r) q
theorem s_d2i (h : At T m c below) (hx : tb.exec = Jvm.exec) {x : UInt64} {z : Int32} (hd : decode c.code pc = .ok (.d2i, 1)) (hp : pc + 1 = pc') (hv : FP.d2i x = z) (q : Go tb e below F T (mkF m pc' Ls (.int z :: sk))) : Go tb e below F T (mkF m pc Ls (.double x :: sk)) := by
  subst hp; exact Go.st (fun _ r => XS.d2iS (g := mkF m pc Ls (.double x :: sk)) h hx rfl hd rfl hv r) q
theorem s_d2l (h : At T m c below) (hx : tb.exec = Jvm.exec) {x : UInt64} {z : Int64} (hd : decode c.code pc = .ok (.d2l, 1)) (hp : pc + 1 = pc') (hv : FP.d2l x = z) (q : Go tb e below F T (mkF m pc' Ls (.long z :: sk))) : Go tb e below F T (mkF m pc Ls (.double x :: sk)) := by
  subst hp; exact Go.st (fun _ r => XS.d2lS (g := mkF m pc Ls (.double x :: sk)) h hx rfl hd rfl hv r) q
theorem s_dneg (h : At T m c below) (hx : tb.exec = Jvm.exec) {x z : UInt64} (hd : decode c.code pc = .ok (.dneg, 1)) (hp : pc + 1 = pc') (hv : FP.dneg x = z) (q : Go tb e below F T (mkF m pc' Ls (.double z :: sk))) : Go tb e below F T (mkF m pc Ls (.double x :: sk)) := by
  subst hp; exact Go.st (fun _ r => XS.dnegS (g := mkF m pc Ls (.double x :: sk)) h hx rfl hd rfl hv r) q
theorem s_dcmpl (h : At T m c below) (hx : tb.exec = Jvm.exec) {x y : UInt64} {z : Int32} (hd : decode c.code pc = .ok (.dcmp .l, 1)) (hp : pc + 1 = pc') (hv : cmpValue (FP.dcmp x y) .l = z) (q : Go tb e below F T (mkF m pc' Ls (.int z :: sk))) : Go tb e below F T (mkF m pc Ls (.double y :: .double x :: sk)) := by
  subst hp; exact Go.st (fun _ r => XS.dcmpS (g := mkF m pc Ls (.double y :: .double x :: sk)) h hx rfl hd rfl hv r) q
theorem s_dcmpg (h : At T m c below) (hx : tb.exec = Jvm.exec) {x y : UInt64} {z : Int32} (hd : decode c.code pc = .ok (.dcmp .g, 1)) (hp : pc + 1 = pc') (hv : cmpValue (FP.dcmp x y) .g = z) (q : Go tb e below F T (mkF m pc' Ls (.int z :: sk))) : Go tb e below F T (mkF m pc Ls (.double y :: .double x :: sk)) := by
  subst hp; exact Go.st (fun _ r => XS.dcmpS (g := mkF m pc Ls (.double y :: .double x :: sk)) h hx rfl hd rfl hv r) q
theorem s_dadd (h : At T m c below) (hx : tb.exec = Jvm.exec) {x y z : UInt64} (hd : decode c.code pc = .ok (.dadd, 1)) (hp : pc + 1 = pc') (hn : Jvm.Free.Fl.NoNaN64 (FP.dadd x y)) (hv : FP.dadd x y = z) (q : Go tb e below F T (mkF m pc' Ls (.double z :: sk))) : Go tb e below F T (mkF m pc Ls (.double y :: .double x :: sk)) := by
  subst hp; exact Go.st (fun _ r => XS.daddS (g := mkF m pc Ls (.double y :: .double x :: sk)) h hx rfl hd rfl hn hv r) q
theorem s_dsub (h : At T m c below) (hx : tb.exec = Jvm.exec) {x y z : UInt64} (hd : decode c.code pc = .ok (.dsub, 1)) (hp : pc + 1 = pc') (hn : Jvm.Free.Fl.NoNaN64 (FP.dsub x y)) (hv : FP.dsub x y = z) (q : Go tb e below F T (mkF m pc' Ls (.double z :: sk))) : Go tb e below F T (mkF m pc Ls (.double y :: .double x :: sk)) := by
  subst hp; exact Go.st (fun _ r => XS.dsubS (g := mkF m pc Ls (.double y :: .double x :: sk)) h hx rfl hd rfl hn hv r) q
theorem s_dmul (h : At T m c below) (hx : tb.exec = Jvm.exec) {x y z : UInt64} (hd : decode c.code pc = .ok (.dmul, 1)) (hp : pc + 1 = pc') (hn : Jvm.Free.Fl.NoNaN64 (FP.dmul x y)) (hv : FP.dmul x y = z) (q : Go tb e below F T (mkF m pc' Ls (.double z :: sk))) : Go tb e below F T (mkF m pc Ls (.double y :: .double x :: sk)) := by
  subst hp; exact Go.st (fun _ r => XS.dmulS (g := mkF m pc Ls (.double y :: .double x :: sk)) h hx rfl hd rfl hn hv r) q
theorem s_ddiv (h : At T m c below) (hx : tb.exec = Jvm.exec) {x y z : UInt64} (hd : decode c.code pc = .ok (.ddiv, 1)) (hp : pc + 1 = pc') (hn : Jvm.Free.Fl.NoNaN64 (FP.ddiv x y)) (hv : FP.ddiv x y = z) (q : Go tb e below F T (mkF m pc' Ls (.double z :: sk))) : Go tb e below F T (mkF m pc Ls (.double y :: .double x :: sk)) := by
  subst hp; exact Go.st (fun _ r => XS.ddivS (g := mkF m pc Ls (.double y :: .double x :: sk)) h hx rfl hd rfl hn hv r) q
theorem s_dconst0 (h : At T m c below) (hx : tb.exec = Jvm.exec) {v : UInt64} (hd : decode c.code pc = .ok (.dconst 0, 1)) (hp : pc + 1 = pc') (hv : FP.dconst0 = v) (q : Go tb e below F T (mkF m pc' Ls (.double v :: sk))) : Go tb e below F T (mkF m pc Ls (sk)) := by
  subst hp; exact Go.st (fun _ r => XS.dconst0 (g := mkF m pc Ls (sk)) h hx rfl hd hv r) q
theorem s_dconst1 (h : At T m c below) (hx : tb.exec = Jvm.exec) {v : UInt64} (hd : decode c.code pc = .ok (.dconst 1, 1)) (hp : pc + 1 = pc') (hv : FP.dconst1 = v) (q : Go tb e below F T (mkF m pc' Ls (.double v :: sk))) : Go tb e below F T (mkF m pc Ls (sk)) := by
  subst hp; exact Go.st (fun _ r => XS.dconst1 (g := mkF m pc Ls (sk)) h hx rfl hd hv r) q
theorem s_goto (h : At T m c below) (hx : tb.exec = Jvm.exec) {o : Int} (hd : decode c.code pc = .ok (.goto o, 3)) (ho : 0 ≤ (pc : Int) + o) (hp : ((pc : Int) + o).toNat = pc') (q : Go tb e below F T (mkF m pc' Ls sk)) : Go tb e below F T (mkF m pc Ls sk) :=
  Go.st (fun _ r => XS.goto (g := mkF m pc Ls sk) h hx rfl (pc0 := pc) (pc' := pc') rfl hd ho hp r) q
theorem s_ifY (h : At T m c below) (hx : tb.exec = Jvm.exec) {cd : ClassFile.Cond} {o : Int} {x : Int32} (hd : decode c.code pc = .ok (.ifCond cd o, 3)) (hc : ifCond.holds cd x = true) (ho : 0 ≤ (pc : Int) + o) (hp : ((pc : Int) + o).toNat = pc') (q : Go tb e below F T (mkF m pc' Ls sk)) : Go tb e below F T (mkF m pc Ls (.int x :: sk)) :=
  Go.st (fun _ r => XS.ifYes (g := mkF m pc Ls (.int x :: sk)) h hx rfl (pc0 := pc) (pc' := pc') rfl hd rfl hc ho hp r) q
theorem s_ifN (h : At T m c below) (hx : tb.exec = Jvm.exec) {cd : ClassFile.Cond} {o : Int} {x : Int32} (hd : decode c.code pc = .ok (.ifCond cd o, 3)) (hp : pc + 3 = pc') (hc : ifCond.holds cd x = false) (q : Go tb e below F T (mkF m pc' Ls sk)) : Go tb e below F T (mkF m pc Ls (.int x :: sk)) := by
  subst hp; exact Go.st (fun _ r => XS.ifNo (g := mkF m pc Ls (.int x :: sk)) h hx rfl hd rfl hc r) q
theorem s_icmpY (h : At T m c below) (hx : tb.exec = Jvm.exec) {cd : ClassFile.Cond} {o : Int} {x y : Int32} (hd : decode c.code pc = .ok (.if_icmp cd o, 3)) (hc : if_icmp.holds cd x y = true) (ho : 0 ≤ (pc : Int) + o) (hp : ((pc : Int) + o).toNat = pc') (q : Go tb e below F T (mkF m pc' Ls sk)) : Go tb e below F T (mkF m pc Ls (.int y :: .int x :: sk)) :=
  Go.st (fun _ r => XS.icmpYes (g := mkF m pc Ls (.int y :: .int x :: sk)) h hx rfl (pc0 := pc) (pc' := pc') rfl hd rfl hc ho hp r) q
theorem s_icmpN (h : At T m c below) (hx : tb.exec = Jvm.exec) {cd : ClassFile.Cond} {o : Int} {x y : Int32} (hd : decode c.code pc = .ok (.if_icmp cd o, 3)) (hp : pc + 3 = pc') (hc : if_icmp.holds cd x y = false) (q : Go tb e below F T (mkF m pc' Ls sk)) : Go tb e below F T (mkF m pc Ls (.int y :: .int x :: sk)) := by
  subst hp; exact Go.st (fun _ r => XS.icmpNo (g := mkF m pc Ls (.int y :: .int x :: sk)) h hx rfl hd rfl hc r) q
theorem s_ifnullY (h : At T m c below) (hx : tb.exec = Jvm.exec) {o : Int} (hd : decode c.code pc = .ok (.ifnull o, 3)) (ho : 0 ≤ (pc : Int) + o) (hp : ((pc : Int) + o).toNat = pc') (q : Go tb e below F T (mkF m pc' Ls sk)) : Go tb e below F T (mkF m pc Ls (.null :: sk)) :=
  Go.st (fun _ r => XS.ifnullYes (g := mkF m pc Ls (.null :: sk)) h hx rfl (pc0 := pc) (pc' := pc') rfl hd rfl ho hp r) q
theorem s_ifnullN (h : At T m c below) (hx : tb.exec = Jvm.exec) {o : Int} {b : Addr} (hd : decode c.code pc = .ok (.ifnull o, 3)) (hp : pc + 3 = pc') (q : Go tb e below F T (mkF m pc' Ls sk)) : Go tb e below F T (mkF m pc Ls ((.ref b) :: sk)) := by
  subst hp; exact Go.st (fun _ r => XS.ifnullNo (g := mkF m pc Ls ((.ref b) :: sk)) h hx rfl hd rfl r) q
theorem s_ifnonnullY (h : At T m c below) (hx : tb.exec = Jvm.exec) {o : Int} {b : Addr} (hd : decode c.code pc = .ok (.ifnonnull o, 3)) (ho : 0 ≤ (pc : Int) + o) (hp : ((pc : Int) + o).toNat = pc') (q : Go tb e below F T (mkF m pc' Ls sk)) : Go tb e below F T (mkF m pc Ls ((.ref b) :: sk)) :=
  Go.st (fun _ r => XS.ifnonnullYes (g := mkF m pc Ls ((.ref b) :: sk)) h hx rfl (pc0 := pc) (pc' := pc') rfl hd rfl ho hp r) q
theorem s_ifnonnullN (h : At T m c below) (hx : tb.exec = Jvm.exec) {o : Int} (hd : decode c.code pc = .ok (.ifnonnull o, 3)) (hp : pc + 3 = pc') (q : Go tb e below F T (mkF m pc' Ls sk)) : Go tb e below F T (mkF m pc Ls (.null :: sk)) := by
  subst hp; exact Go.st (fun _ r => XS.ifnonnullNo (g := mkF m pc Ls (.null :: sk)) h hx rfl hd rfl r) q
end Steps
end Jvm.Own
namespace Jvm.Own
open Sem ClassFile Op Lib Bundle Jvm.Stand Jvm.Free Jvm.LawKit Jvm.RoadKit
section Ends
variable {tb : Tables} {e : Env} {below : List Frame} {F : State → Prop} {T t : State} {g : JFrame}
theorem Go.fin (h : Steps tb e below (T.setTop g) t) (k : F t) : Go tb e below F T g := ⟨t, h, k⟩
theorem fin_of {P : State → Outcome → Prop} (k : ∀ F : State → Prop, (∀ t o, t.status = .running → Ended t below o → P t o → F t) → Go tb e below F T g) : ∃ s₂ o, Steps tb e below (T.setTop g) s₂ ∧ s₂.status = .running ∧ Ended s₂ below o ∧ P s₂ o := by
  obtain ⟨t, h1, o, h2, h3, h4⟩ := k (fun t => ∃ o, t.status = .running ∧ Ended t below o ∧ P t o) fun t o h2 h3 h4 => ⟨o, h2, h3, h4⟩
  exact ⟨t, o, h1, h2, h3, h4⟩
end Ends
theorem cat_of_ref {v : Value} (h : v.isRef = true) : v.category = 1 := by rcases ref_cases h with rfl | ⟨a, rfl⟩ <;> rfl
theorem own_fits_ref {v : Value} {t : FieldType} (ht : t.isReference = true) (h : v.isRef = true) : fits t v = true := by rcases ref_cases h with rfl | ⟨a, rfl⟩ <;> cases t <;> first | rfl | (cases ht)
theorem own_narrow_ref {v : Value} {t : FieldType} (h : v.isRef = true) : narrow t v = v := by rcases ref_cases h with rfl | ⟨a, rfl⟩ <;> cases t <;> rfl
theorem wideOn {Z s : State} {vm0 vm1 : Vm} {n : Nat} {own : String} {k : ClassId} (hZ : Z.Warmed39 vm0) (hS : (s.setVm vm0).Since vm1 n) (hown : vm0.findClass own = some k) : Z.Warmed39 vm1 ∧ vm1.findClass own = some k :=
  ⟨State.Warmed39.trans (t := s.setVm vm0) hZ hS.1, by rw [hS.1.alike.findClass]; exact hown⟩
section BackX
variable {p : Program} {l : Launch} {e : Env} {R : Room} {s : State} {args : Array Value} {below : List Frame} {Z : State} {a0 : Array Value} {EL : List (String × Nat)} {h : Heap} {vm0 : Vm}
/-- what pays a call of a body that may load literals, whose objects xs are no literal's -/
theorem backX {y : MethodName} {bytes : ByteArray} {maxL : Nat} {ret : Option FieldType} {rm : Room} {len W : Nat} {as' : Array Value} {Q : Option Value → Heap → List Loc → Prop} {xs : List Addr}
    (hM : MetFree l y (head1 [Cond.code y bytes maxL ret] rm) (fun a U => a = as' ∧ Z.Warmed39 U.vm ∧ U.heap = h ∧ CHv Z EL U.vm h ∧ ∀ x ∈ xs, Safe Z EL U.vm h x) (fun _ _ _ _ _ => True) (fun _ U o U' => ∃ v L, o = .returned v ∧ Q v U'.heap L ∧ CHr Z EL U.vm U.heap U'.vm U'.heap ∧ ReturnedEndW U o U' L rm.cells rm.slots))
    (hZ : Z.Warmed39 vm0) (wc : (Cond.code y bytes maxL ret).before a0 Z = true) (wz : (Cond.initialized y.cls).before a0 Z = true) (hf : rm.frames + 1 ≤ R.frames) (hl : W + (maxL + 11) + rm.locals ≤ R.locals) (hEL : EW Z a0 EL) (H : CHv Z EL vm0 h) (hs : ∀ x ∈ xs, x < h.size ∧ Safe Z EL vm0 h x) :
    BackS l R p e below (s.setVm vm0) args y len W (fun A a => a = as' ∧ A.U.heap = h ∧ A.cells + rm.cells ≤ R.cells ∧ A.slots + rm.slots ≤ R.slots)
      (fun A _ v B => ∃ L, Q v B.U.heap L ∧ B.locs = A.locs ++ L ∧ B.cells = A.cells + rm.cells ∧ B.slots = A.slots + rm.slots ∧ CHr Z EL vm0 h B.U.vm B.U.heap) := by
  refine BackS.of_freeW (bytes := bytes) (maxL := maxL) (ret := ret) (E := fun _ first o t L k n => k = rm.cells ∧ n = rm.slots ∧ (∃ v, o = .returned v ∧ Q v t.heap L) ∧ CHr Z EL first.vm first.heap t.vm t.heap) hM hf hl ?_ ?_ (fun _ _ _ _ _ _ _ _ _ => trivial) ?_ ?_
  · intro m meth c A a Y hp
    have hU : Z.Warmed39 A.U.vm := wtrans (s := s.setVm vm0) hZ Y.warmed
    exact ⟨by show (Cond.and _ .tt).before a A.U = true; rw [Cond.before_and, mv hU wc]; rfl, mv hU wc, mv hU wz, hp.2.2.1, hp.2.2.2⟩
  · intro m meth c A a g mk Y hp
    have K := CHv.at Y hZ hEL H
    exact ⟨hp.1, wtrans (s := s.setVm vm0) hZ Y.warmed, hp.2.1, K.1, fun x hx => K.safe (hs x hx).1 (hs x hx).2⟩
  · intro _ _ _ _ ⟨v, L, h1, h2, h3, h4⟩
    exact ⟨L, _, _, h4, rfl, rfl, ⟨v, h1, h2⟩, h3⟩
  · intro m meth c A a g mk v t L k n Y hp _ _ ⟨e1, e2, ⟨v', e3, e4⟩, e5⟩
    cases e3; subst e1 e2
    refine ⟨L, e4, rfl, rfl, rfl, (CHv.at Y hZ hEL H).trans ?_⟩
    rw [← hp.2.1]; exact e5
end BackX
/-! small numbers -/
theorem eq32 {a b : Int32} (h : a.toInt = b.toInt) : a = b := Int32.toInt_inj.mp h
theorem chr_nar {c : Int32} (h : ¬ c < 0 ∧ ¬ (255 : Int32) < c) : nar .char c = c := by
  have q := c_i2c c
  have e1 : (255 : Int32).toInt = 255 := rfl
  have e0 : (0 : Int32).toInt = 0 := rfl
  have h1 := h.1; have h2 := h.2
  rw [Int32.lt_iff_toInt_lt] at h1 h2
  exact eq32 (by show c.toUInt32.toUInt16.toUInt32.toInt32.toInt = _; omega)
theorem chr_i2c {c : Int32} (h : ¬ c < 0 ∧ ¬ (255 : Int32) < c) : c.toUInt32.toUInt16.toUInt32.toInt32 = c := chr_nar h
theorem chr_mask (x : Int32) : ¬ (x &&& 255) < 0 ∧ ¬ (255 : Int32) < (x &&& 255) := by
  have q := c_mask x 255 8 (by decide) (by decide)
  have e1 : (255 : Int32).toInt = 255 := rfl
  have e0 : (0 : Int32).toInt = 0 := rfl
  rw [Int32.lt_iff_toInt_lt, Int32.lt_iff_toInt_lt]
  omega
theorem chr_lit {k : Nat} (h : k < 256) : ¬ (Int32.ofNat k) < 0 ∧ ¬ (255 : Int32) < (Int32.ofNat k) := by
  have q : (Int32.ofNat k).toInt = k := Int32.toInt_ofNat_small (by omega)
  have e1 : (255 : Int32).toInt = 255 := rfl
  have e0 : (0 : Int32).toInt = 0 := rfl
  rw [Int32.lt_iff_toInt_lt, Int32.lt_iff_toInt_lt]
  omega
theorem chr_up {cs : List Int32} (h : ∀ c ∈ cs, ¬ c < 0 ∧ ¬ (255 : Int32) < c) : ∀ c ∈ cs, ¬ c < 0 ∧ ¬ (65535 : Int32) < c := fun c hc => ⟨(h c hc).1, fun q => (h c hc).2 (by rw [Int32.lt_iff_toInt_lt] at q ⊢; have e1 : (65535 : Int32).toInt = 65535 := rfl; have e2 : (255 : Int32).toInt = 255 := rfl; omega)⟩
theorem bit01 (P : Prop) [Decidable P] : (if P then (0 : Int32) else 1) = 0 ∨ (if P then (0 : Int32) else 1) = 1 := by by_cases h : P <;> simp [h]
theorem nar_b {x : Int32} (h : x = 0 ∨ x = 1) : nar .boolean x = x := by rcases h with rfl | rfl <;> decide
theorem narZ {k : Int32} (h : k = 0 ∨ k = 1) : narrow .boolean (.int k) = .int k := by rcases h with rfl | rfl <;> decide
theorem fitZ {k : Int32} (h : k = 0 ∨ k = 1) : fits .boolean (.int k) = true := by rcases h with rfl | rfl <;> decide
end Jvm.Own
namespace Jvm.Pilot.@@N@@
open Jvm Jvm.ClassFile Sem Op Lib Jvm.Free Jvm.Stand Jvm.LawKit Jvm.RoadKit Jvm.Own Bundle Jvm.Pilot.@@N@@.Jvm.D
abbrev yN0 : MethodName := ⟨"com/example/kingfisher/kingfisher/eval/TopicRanking", "<init>", "([ZI)V"⟩
abbrev yN1 : MethodName := ⟨"com/example/kingfisher/kingfisher/eval/TopicRanking", "interpolatedPrecision", "(I)D"⟩
abbrev yN2 : MethodName := ⟨"com/example/kingfisher/kingfisher/eval/TopicRanking", "retrieved", "()I"⟩
abbrev yN3 : MethodName := ⟨"com/example/kingfisher/kingfisher/eval/TopicRankingInterpolatedPrecisionPinLaw", "better", "(DIIJ)D"⟩
abbrev yN4 : MethodName := ⟨"java/lang/Math", "max", "(DD)D"⟩
abbrev vi (x : Int32) : Slot := .val (.int x)
abbrev vr (x : Addr) : Slot := .val (.ref x)
abbrev un : Slot := .unset
abbrev sn : Slot := .second
theorem hv {a0 : Array Value} {Z : State} (hw : ∀ d ∈ tables_1, d.before a0 Z = true) (i : Nat) {d : Jvm.Cond} (h : tables_1[i]? = some d) : d.before a0 Z = true := hw d (List.mem_of_getElem? h)
open Jvm.Free.Fl
def needd (t r : Int32) : Int64 := FP.d2l (FP.dadd (FP.dmul (FP.ddiv (FP.i2d t) (4621819117588971520 : UInt64)) (FP.i2d r)) (4606281698874543309 : UInt64))
def mst (H : UInt64) (c r : Int32) (nd : Int64) : UInt64 := if c.toInt64 < nd then H else Native.java_lang_Math.nans.pick64 true H (FP.ddiv (FP.i2d c) (FP.i2d r))
def bst (B : UInt64) (q r : Int32) (nd : Int64) : UInt64 := if q.toInt64 < nd then B else if (0 : Int32) < cmpValue (FP.dcmp (FP.ddiv (FP.i2d q) (FP.i2d r)) B) .l then (FP.ddiv (FP.i2d q) (FP.i2d r)) else B
theorem mst_lt {H : UInt64} {c r : Int32} {nd : Int64} (h : c.toInt64 < nd) : H = mst H c r nd := (if_pos h).symm
theorem mst_ge {H : UInt64} {c r : Int32} {nd : Int64} (h : ¬ c.toInt64 < nd) : Native.java_lang_Math.nans.pick64 true H (FP.ddiv (FP.i2d c) (FP.i2d r)) = mst H c r nd := (if_neg h).symm
theorem k10f : Fin64 (4621819117588971520 : UInt64) := by unfold Fin64; decide
theorem k10z : Nz64 (4621819117588971520 : UInt64) := by unfold Nz64; decide
theorem k09f : Fin64 (4606281698874543309 : UInt64) := by unfold Fin64; decide
theorem d0f : Fin64 FP.dconst0 := by unfold Fin64; decide
theorem nn1 (t : Int32) : NoNaN64 (FP.ddiv (FP.i2d t) (4621819117588971520 : UInt64)) := ddiv_out (i2d_fin t).noNaN k10f k10z
theorem nn2 (t : Int32) {r : Int32} (h : r ≠ 0) : NoNaN64 (FP.dmul (FP.ddiv (FP.i2d t) (4621819117588971520 : UInt64)) (FP.i2d r)) := dmul_outNz (nn1 t) (i2d_fin r) (i2d_nz h)
theorem nn3 (t : Int32) {r : Int32} (h : r ≠ 0) : NoNaN64 (FP.dadd (FP.dmul (FP.ddiv (FP.i2d t) (4621819117588971520 : UInt64)) (FP.i2d r)) (4606281698874543309 : UInt64)) := dadd_out (nn2 t h) k09f
theorem nnq (c : Int32) {r : Int32} (h : r ≠ 0) : NoNaN64 (FP.ddiv (FP.i2d c) (FP.i2d r)) := ddiv_out (i2d_fin c).noNaN (i2d_fin r) (i2d_nz h)
theorem pick_nn {a b : UInt64} (ha : NoNaN64 a) (hb : NoNaN64 b) : NoNaN64 (Native.java_lang_Math.nans.pick64 true a b) := by
  unfold Native.java_lang_Math.nans.pick64
  split
  · exact hb
  · exact ha
  · split
    · exact hb
    · exact ha
theorem mst_nn {H : UInt64} {c r : Int32} {nd : Int64} (hH : NoNaN64 H) (hr : r ≠ 0) : NoNaN64 (mst H c r nd) := by
  unfold mst; split
  · exact hH
  · exact pick_nn hH (nnq c hr)
theorem thr (nd : Int64) : (¬ (0 : Int32).toInt64 < nd ∧ ¬ (1 : Int32).toInt64 < nd ∧ ¬ (2 : Int32).toInt64 < nd ∧ ¬ (3 : Int32).toInt64 < nd ∧ ¬ (4 : Int32).toInt64 < nd) ∨ ((0 : Int32).toInt64 < nd ∧ ¬ (1 : Int32).toInt64 < nd ∧ ¬ (2 : Int32).toInt64 < nd ∧ ¬ (3 : Int32).toInt64 < nd ∧ ¬ (4 : Int32).toInt64 < nd) ∨ ((0 : Int32).toInt64 < nd ∧ (1 : Int32).toInt64 < nd ∧ ¬ (2 : Int32).toInt64 < nd ∧ ¬ (3 : Int32).toInt64 < nd ∧ ¬ (4 : Int32).toInt64 < nd) ∨ ((0 : Int32).toInt64 < nd ∧ (1 : Int32).toInt64 < nd ∧ (2 : Int32).toInt64 < nd ∧ ¬ (3 : Int32).toInt64 < nd ∧ ¬ (4 : Int32).toInt64 < nd) ∨ ((0 : Int32).toInt64 < nd ∧ (1 : Int32).toInt64 < nd ∧ (2 : Int32).toInt64 < nd ∧ (3 : Int32).toInt64 < nd ∧ ¬ (4 : Int32).toInt64 < nd) ∨ ((0 : Int32).toInt64 < nd ∧ (1 : Int32).toInt64 < nd ∧ (2 : Int32).toInt64 < nd ∧ (3 : Int32).toInt64 < nd ∧ (4 : Int32).toInt64 < nd) := by
  have e0 : (0 : Int32).toInt64.toInt = 0 := rfl
  have e1 : (1 : Int32).toInt64.toInt = 1 := rfl
  have e2 : (2 : Int32).toInt64.toInt = 2 := rfl
  have e3 : (3 : Int32).toInt64.toInt = 3 := rfl
  have e4 : (4 : Int32).toInt64.toInt = 4 := rfl
  simp only [Int64.lt_iff_toInt_lt, e0, e1, e2, e3, e4]
  omega
theorem rc_nz (x : Int32) : (if (x &&& 2147483647) = (0 : Int32) then (1 : Int32) else (x &&& 2147483647)) ≠ 0 := by
  by_cases h : (x &&& 2147483647) = (0 : Int32)
  · rw [if_pos h]; decide
  · rw [if_neg h]; exact h
theorem mod5 (x : Int32) : (x &&& 2147483647) % 5 = 0 ∨ (x &&& 2147483647) % 5 = 1 ∨ (x &&& 2147483647) % 5 = 2 ∨ (x &&& 2147483647) % 5 = 3 ∨ (x &&& 2147483647) % 5 = 4 := by
  have q := c_mask x 2147483647 31 (by decide) (by decide)
  have r := (c_irem (x &&& 2147483647) 5 5 rfl).1 (by omega)
  have e : ∀ k : Int32, k = 0 ∨ k = 1 ∨ k = 2 ∨ k = 3 ∨ k = 4 ↔ (k.toInt = 0 ∨ k.toInt = 1 ∨ k.toInt = 2 ∨ k.toInt = 3 ∨ k.toInt = 4) := fun k => by
    constructor
    · rintro (rfl | rfl | rfl | rfl | rfl) <;> decide
    · rintro (h | h | h | h | h)
      · exact Or.inl (eq32 h)
      · exact Or.inr (Or.inl (eq32 h))
      · exact Or.inr (Or.inr (Or.inl (eq32 h)))
      · exact Or.inr (Or.inr (Or.inr (Or.inl (eq32 h))))
      · exact Or.inr (Or.inr (Or.inr (Or.inr (eq32 h))))
  exact (e _).mpr (by omega)
theorem pn_0 : plainName "com/example/kingfisher/kingfisher/eval/TopicRanking" = true := by first | (simp [plainName, overriddenIn]; done) | decide +kernel
theorem d_prog_21_m1_0 : decode prog_21_method_1_code 0 = .ok (.aload_n 0, 1) := by decide +kernel
theorem d_prog_21_m1_1 : decode prog_21_method_1_code 1 = .ok (.invokespecial 1, 3) := by decide +kernel
theorem d_prog_21_m1_4 : decode prog_21_method_1_code 4 = .ok (.aload_n 0, 1) := by decide +kernel
theorem d_prog_21_m1_5 : decode prog_21_method_1_code 5 = .ok (.aload_n 1, 1) := by decide +kernel
theorem d_prog_21_m1_6 : decode prog_21_method_1_code 6 = .ok (.arraylength, 1) := by decide +kernel
theorem d_prog_21_m1_7 : decode prog_21_method_1_code 7 = .ok (.iconst 1, 1) := by decide +kernel
theorem d_prog_21_m1_8 : decode prog_21_method_1_code 8 = .ok (.iadd, 1) := by decide +kernel
theorem d_prog_21_m1_9 : decode prog_21_method_1_code 9 = .ok (.newarray .int, 2) := by decide +kernel
theorem d_prog_21_m1_11 : decode prog_21_method_1_code 11 = .ok (.putfield 7, 3) := by decide +kernel
theorem d_prog_21_m1_14 : decode prog_21_method_1_code 14 = .ok (.iconst 1, 1) := by decide +kernel
theorem d_prog_21_m1_15 : decode prog_21_method_1_code 15 = .ok (.istore_n 3, 1) := by decide +kernel
theorem d_prog_21_m1_16 : decode prog_21_method_1_code 16 = .ok (.iload_n 3, 1) := by decide +kernel
theorem d_prog_21_m1_17 : decode prog_21_method_1_code 17 = .ok (.aload_n 1, 1) := by decide +kernel
theorem d_prog_21_m1_18 : decode prog_21_method_1_code 18 = .ok (.arraylength, 1) := by decide +kernel
theorem d_prog_21_m1_19 : decode prog_21_method_1_code 19 = .ok (.if_icmp .gt 37, 3) := by decide +kernel
theorem d_prog_21_m1_56 : decode prog_21_method_1_code 56 = .ok (.aload_n 0, 1) := by decide +kernel
theorem d_prog_21_m1_57 : decode prog_21_method_1_code 57 = .ok (.iload_n 2, 1) := by decide +kernel
theorem d_prog_21_m1_58 : decode prog_21_method_1_code 58 = .ok (.putfield 13, 3) := by decide +kernel
theorem d_prog_21_m1_61 : decode prog_21_method_1_code 61 = .ok (.return_, 1) := by decide +kernel
def QN0 (Z : State) (a b : Addr) (kb : ClassId) (rc : Int32) (h0 : Heap) (n0 : Nat) (v : Option Value) (h : Heap) (L : List Loc) : Prop := v = none ∧ Fr n0 L ∧ Keep h0 h [a] ∧ Exa Z h a "com/example/kingfisher/kingfisher/eval/TopicRanking" ∧ Fld Z h a "com/example/kingfisher/kingfisher/eval/TopicRanking" "relevantCount" "I" (.int rc) ∧ ∃ (t : Addr) (k : ClassId), Fld Z h a "com/example/kingfisher/kingfisher/eval/TopicRanking" "relevantWithin" "[I" (.ref t) ∧ Arv Z h t k .int 1 [(.int 0)] (.int 0)
set_option maxRecDepth 65536 in
set_option maxHeartbeats 40000000 in
theorem rmN0 (l : Launch) (Z : State) (a0 : Array Value) (hw : ∀ d ∈ tables_1, d.before a0 Z = true) (ws : List Jvm.Cond) (a b : Addr) (kb : ClassId) (rc : Int32) (h0 : Heap) (n0 : Nat) (X00 : Old Z n0 h0) (ge_a : n0 ≤ a) (hne : b ≠ a) (E : Exa Z h0 a "com/example/kingfisher/kingfisher/eval/TopicRanking") (F1 : Fld Z h0 a "com/example/kingfisher/kingfisher/eval/TopicRanking" "relevantWithin" "[I" .null) (F2 : Fld Z h0 a "com/example/kingfisher/kingfisher/eval/TopicRanking" "relevantCount" "I" (.int 0)) (VB : Arv Z h0 b kb .boolean 0 [] (.int 0))  :
  MetFree l yN0 (head1 (Jvm.Cond.code yN0 prog_21_method_1_code 4 none :: ws) ({ frames := 1, cells := 1, slots := 1, locals := 20 } : Room)) (fun aa U => aa = #[(.ref a), (.ref b), (.int rc)] ∧ Z.Warmed39 U.vm ∧ U.heap = h0) (fun _ _ _ _ _ => True) (fun _ U o U' => ∃ v L, o = .returned v ∧ QN0 Z a b kb rc h0 n0 v U'.heap L ∧ FrameEnd U o U' L ({ frames := 1, cells := 1, slots := 1, locals := 20 } : Room).cells ({ frames := 1, cells := 1, slots := 1, locals := 20 } : Room).slots) := by
 refine MetFree.of_bodySF (plainFor_of_name pn_0) hisR ?_
 intro p e s m args below meth c s₁ Bd hml0 hP hK
 obtain ⟨rfl, hZ, hh⟩ := hP
 have hx := Bd.exec
 have hby := Bd.bytes
 have hml : c.maxLocals = 4 := hml0
 have hown : s.vm.findClass "com/example/kingfisher/kingfisher/eval/TopicRanking" = some m.cls := findClass_of_methodNamed Bd.named
 have hnm := (name_of_methodNamed Bd.named Bd.method).1
 have X0 : Stand p l e ({ frames := 1, cells := 1, slots := 1, locals := 20 } : Room) s m #[(.ref a), (.ref b), (.int rc)] below meth c s₁ [] 0 0 := Stand.of_body Bd
 have e0 : s₁.heap = h0 := by rw [← hh, Bd.state]; rfl
 have N0 := Fr.nil n0
 have K0 := Keep.refl h0 [a]
 have ef : entryFrame m #[(.ref a), (.ref b), (.int rc)] 4 = mkF m 0 #[vr a, vr b, vi rc, un] [] := (by first | (simp [entryFrame, mkF, argsToLocals, Value.category]; done) | rfl : entryFrame m #[(.ref a), (.ref b), (.int rc)] 4 = mkF m 0 #[vr a, vr b, vi rc, un] [])
 rw [ef]
 refine fin_of fun Kx hF => ?_
 show Go p.tables e below Kx _ (mkF m 0 _ [])
 refine s_aloadN (pc' := 1) X0.here hx (hb hby d_prog_21_m1_0) rfl rfl rfl ?_
 obtain ⟨T1, X1, e1, st1⟩ := initO X0 hx hZ hown (hv hw 8 rfl) (hv hw 9 rfl) (hv hw 10 rfl) e0 (g := (mkF m 1 #[vr a, vr b, vi rc, un] [(.ref a)])) rfl (by rw [hml]; rfl) rfl (hb hby d_prog_21_m1_1) (by decide) (W := 0) (by exact Nat.le_of_eq rfl) (by decide)
 refine Go.st st1 ?_
 show Go p.tables e below Kx _ (mkF m 4 _ [])
 refine s_aloadN (pc' := 5) X1.here hx (hb hby d_prog_21_m1_4) rfl rfl rfl ?_
 refine s_aloadN (pc' := 6) X1.here hx (hb hby d_prog_21_m1_5) rfl rfl rfl ?_
 obtain ⟨cl2, Ar2, Aq2, As2, An2, Ah2, Ag2⟩ := id VB
 refine Go.st (X1.arraylength hx (by rw [e1]; exact Ar2.1) (State.isArrayOf_alike hZ.alike Ar2.2.1) (g := (mkF m 6 #[vr a, vr b, vi rc, un] [(.ref b), (.ref a)])) rfl rfl (hb hby d_prog_21_m1_6)) ?_
 rw [len_of As2 An2]
 show Go p.tables e below Kx _ (mkF m 7 _ [(.int 0), (.ref a)])
 refine s_iconst (pc' := 8) (v := 1) X1.here hx (hb hby d_prog_21_m1_7) rfl rfl ?_
 refine s_iadd (pc' := 9) (z := 1) X1.here hx (hb hby d_prog_21_m1_8) rfl (by decide) ?_
 obtain ⟨T3, h3, k3, X3, e3, E3, A3, st3⟩ := newP X1 hx hZ (hv hw 11 rfl) e1 (g := (mkF m 9 #[vr a, vr b, vi rc, un] [(.int 1), (.ref a)])) rfl (hb hby d_prog_21_m1_9) rfl (by decide) (cap := 1) (by decide) (by decide) (by decide) (by decide)
 obtain ⟨b3, g3⟩ : ∃ z, z = h0.size := ⟨_, rfl⟩
 rw [← g3] at A3 st3
 have sz3 : h0.size ≤ b3 := Nat.le_trans K0.1 (Nat.le_of_eq g3.symm)
 have ge3 : n0 ≤ b3 := Nat.le_trans (X00.1 ▸ X00.2.1) (Nat.le_of_eq g3.symm)
 have K3 : Keep h0 h3 [a] := K0.ext E3
 have O3 : Old Z n0 h3 := X00.ext E3
 have V3 : Arv Z h3 b3 k3 .int 1 [(.int 0)] (.int 0) := (Arv.new A3 (by decide)).pad (pad_rep [] (.int 0) 1)
 refine Go.st st3 ?_
 show Go p.tables e below Kx _ (mkF m 11 _ [(.ref b3), (.ref a)])
 have f4 : Fld Z h3 a "com/example/kingfisher/kingfisher/eval/TopicRanking" "relevantWithin" "[I" .null := (F1.ext E3)
 have f5 : Exa Z h3 a "com/example/kingfisher/kingfisher/eval/TopicRanking" := (E.ext E3)
 obtain ⟨T6, h6, X6, e6, W6, st6⟩ := putF X3 hx hZ hown (host := "") (Or.inl (hv hw 12 rfl)) Via.refl e3 f4 f5 (Or.inr ⟨(hv hw 13 rfl), rfl, hnm⟩) (hv hw 3 rfl) (ty := (.array .int)) (by decide) rfl rfl (g := (mkF m 11 #[vr a, vr b, vi rc, un] [(.ref b3), (.ref a)])) rfl rfl (hb hby d_prog_21_m1_11)
 have Fw6 : Fld Z h6 a "com/example/kingfisher/kingfisher/eval/TopicRanking" "relevantWithin" "[I" (.ref b3) := f4.same W6
 have K6 : Keep h0 h6 [a] := K3.wr W6 (Or.inl (List.mem_of_getElem? (i := 0) rfl))
 have O6 : Old Z n0 h6 := O3.wr W6 ge_a
 have N6 := Fr.snoc X6 N0 ge_a
 refine Go.st st6 ?_
 show Go p.tables e below Kx _ (mkF m 14 _ [])
 refine s_iconst (pc' := 15) (v := 1) X6.here hx (hb hby d_prog_21_m1_14) rfl rfl ?_
 refine s_istoreN (pc' := 16) (Ls' := #[vr a, vr b, vi rc, vi 1]) X6.here hx (hb hby d_prog_21_m1_15) rfl  rfl ?_
 refine s_iloadN (pc' := 17) X6.here hx (hb hby d_prog_21_m1_16) rfl rfl ?_
 refine s_aloadN (pc' := 18) X6.here hx (hb hby d_prog_21_m1_17) rfl rfl rfl ?_
 have f7 : Arv Z h6 b kb .boolean 0 [] (.int 0) := ((VB.ext E3).other W6 hne)
 obtain ⟨cl8, Ar8, Aq8, As8, An8, Ah8, Ag8⟩ := id f7
 refine Go.st (X6.arraylength hx (by rw [e6]; exact Ar8.1) (State.isArrayOf_alike hZ.alike Ar8.2.1) (g := (mkF m 18 #[vr a, vr b, vi rc, vi 1] [(.ref b), (.int 1)])) rfl rfl (hb hby d_prog_21_m1_18)) ?_
 rw [len_of As8 An8]
 show Go p.tables e below Kx _ (mkF m 19 _ [(.int 0), (.int 1)])
 refine s_icmpY (pc' := 56) X6.here hx (hb hby d_prog_21_m1_19) (tlt (by decide)).2.2.1 (by decide) (by decide) ?_
 refine s_aloadN (pc' := 57) X6.here hx (hb hby d_prog_21_m1_56) rfl rfl rfl ?_
 refine s_iloadN (pc' := 58) X6.here hx (hb hby d_prog_21_m1_57) rfl rfl ?_
 have f9 : Fld Z h6 a "com/example/kingfisher/kingfisher/eval/TopicRanking" "relevantCount" "I" (.int 0) := ((F2.ext E3).other W6 (Or.inr (slot_ne (Or.inr (hv hw 15 rfl)) (Or.inr (hv hw 13 rfl)) (by decide) (t := .int) (t' := (.array .int)) (by decide) (by decide))))
 have f10 : Exa Z h6 a "com/example/kingfisher/kingfisher/eval/TopicRanking" := (f5.wr W6)
 obtain ⟨T11, h11, X11, e11, W11, st11⟩ := putF X6 hx hZ hown (host := "") (Or.inl (hv hw 14 rfl)) Via.refl e6 f9 f10 (Or.inr ⟨(hv hw 15 rfl), rfl, hnm⟩) (hv hw 3 rfl) (ty := .int) (by decide) rfl rfl (g := (mkF m 58 #[vr a, vr b, vi rc, vi 1] [(.int rc), (.ref a)])) rfl rfl (hb hby d_prog_21_m1_58)
 have Fw11 : Fld Z h11 a "com/example/kingfisher/kingfisher/eval/TopicRanking" "relevantCount" "I" (.int rc) := f9.same W11
 have K11 : Keep h0 h11 [a] := K6.wr W11 (Or.inl (List.mem_of_getElem? (i := 0) rfl))
 have O11 : Old Z n0 h11 := O6.wr W11 ge_a
 have N11 := Fr.snoc X11 N6 ge_a
 refine Go.st st11 ?_
 show Go p.tables e below Kx _ (mkF m 61 _ [])
 have f12 : Exa Z h11 a "com/example/kingfisher/kingfisher/eval/TopicRanking" := (f10.wr W11)
 have f13 : Fld Z h11 a "com/example/kingfisher/kingfisher/eval/TopicRanking" "relevantWithin" "[I" (.ref b3) := (Fw6.other W11 (Or.inr (slot_ne (Or.inr (hv hw 13 rfl)) (Or.inr (hv hw 15 rfl)) (by decide) (t := (.array .int)) (t' := .int) (by decide) (by decide))))
 have f14 : Arv Z h11 b3 k3 .int 1 [(.int 0)] (.int 0) := ((V3.other W6 (Ne.symm (Nat.ne_of_lt (Nat.lt_of_lt_of_le E.lt (Nat.le_of_eq g3.symm))))).other W11 (Ne.symm (Nat.ne_of_lt (Nat.lt_of_lt_of_le E.lt (Nat.le_of_eq g3.symm)))))
 obtain ⟨fs, hr, hrun, hended, hW, hsame⟩ := X11.leave (v := none) (fun _ => rfl)
 refine Go.fin (X11.returnOut hx Bd.returns (hb hby d_prog_21_m1_61) hr) (hF _ _ hrun hended ⟨_, _, rfl, ?_, ⟨_, rfl⟩, hW, hsame.mono (by decide) (by decide)⟩)
 ·
  show QN0 Z a b kb rc h0 n0 (none : Option Value) T11.heap _
  rw [e11]
  exact ⟨rfl, N11, K11, f12, Fw11, b3, _, f13, f14⟩
theorem d_prog_21_m2_0 : decode prog_21_method_2_code 0 = .ok (.aload_n 0, 1) := by decide +kernel
theorem d_prog_21_m2_1 : decode prog_21_method_2_code 1 = .ok (.getfield 7, 3) := by decide +kernel
theorem d_prog_21_m2_4 : decode prog_21_method_2_code 4 = .ok (.arraylength, 1) := by decide +kernel
theorem d_prog_21_m2_5 : decode prog_21_method_2_code 5 = .ok (.iconst 1, 1) := by decide +kernel
theorem d_prog_21_m2_6 : decode prog_21_method_2_code 6 = .ok (.isub, 1) := by decide +kernel
theorem d_prog_21_m2_7 : decode prog_21_method_2_code 7 = .ok (.ireturn, 1) := by decide +kernel
def QV0 (Z : State) (a t : Addr) (k : ClassId) (h0 : Heap) (n0 : Nat) (v : Option Value) (h : Heap) (L : List Loc) : Prop := v = some (.int 0) ∧ Fr n0 L ∧ h = h0
set_option maxRecDepth 65536 in
set_option maxHeartbeats 40000000 in
theorem rmV0 (l : Launch) (Z : State) (a0 : Array Value) (hw : ∀ d ∈ tables_1, d.before a0 Z = true) (ws : List Jvm.Cond) (a t : Addr) (k : ClassId) (h0 : Heap) (n0 : Nat) (X00 : Old Z n0 h0) (F1 : Fld Z h0 a "com/example/kingfisher/kingfisher/eval/TopicRanking" "relevantWithin" "[I" (.ref t)) (VT : Arv Z h0 t k .int 1 [(.int 0)] (.int 0)) :
  MetFree l yN2 (head1 (Jvm.Cond.code yN2 prog_21_method_2_code 1 (some .int) :: ws) ({ frames := 0, cells := 0, slots := 0, locals := 0 } : Room)) (fun aa U => aa = #[(.ref a)] ∧ Z.Warmed39 U.vm ∧ U.heap = h0) (fun _ _ _ _ _ => True) (fun _ U o U' => ∃ v L, o = .returned v ∧ QV0 Z a t k h0 n0 v U'.heap L ∧ FrameEnd U o U' L ({ frames := 0, cells := 0, slots := 0, locals := 0 } : Room).cells ({ frames := 0, cells := 0, slots := 0, locals := 0 } : Room).slots) := by
 refine MetFree.of_bodySF (plainFor_of_name pn_0) hisR ?_
 intro p e s m args below meth c s₁ Bd hml0 hP hK
 obtain ⟨rfl, hZ, hh⟩ := hP
 have hx := Bd.exec
 have hby := Bd.bytes
 have hml : c.maxLocals = 1 := hml0
 have hown : s.vm.findClass "com/example/kingfisher/kingfisher/eval/TopicRanking" = some m.cls := findClass_of_methodNamed Bd.named
 have hnm := (name_of_methodNamed Bd.named Bd.method).1
 have X0 : Stand p l e ({ frames := 0, cells := 0, slots := 0, locals := 0 } : Room) s m #[(.ref a)] below meth c s₁ [] 0 0 := Stand.of_body Bd
 have e0 : s₁.heap = h0 := by rw [← hh, Bd.state]; rfl
 have N0 := Fr.nil n0
 have K0 := Keep.refl h0 []
 have ef : entryFrame m #[(.ref a)] 1 = mkF m 0 #[vr a] [] := (by first | (simp [entryFrame, mkF, argsToLocals, Value.category]; done) | rfl : entryFrame m #[(.ref a)] 1 = mkF m 0 #[vr a] [])
 rw [ef]
 refine fin_of fun Kx hF => ?_
 show Go p.tables e below Kx _ (mkF m 0 _ [])
 refine s_aloadN (pc' := 1) X0.here hx (hb hby d_prog_21_m2_0) rfl rfl rfl ?_
 obtain ⟨T15, X15, e15, st15⟩ := getF X0 hx hZ hown (host := "") (Or.inl (hv hw 12 rfl)) Via.refl e0 F1 (g := (mkF m 1 #[vr a] [(.ref a)])) rfl rfl (hb hby d_prog_21_m2_1)
 refine Go.st st15 ?_
 show Go p.tables e below Kx _ (mkF m 4 _ [(.ref t)])
 obtain ⟨cl16, Ar16, Aq16, As16, An16, Ah16, Ag16⟩ := id VT
 refine Go.st (X15.arraylength hx (by rw [e15]; exact Ar16.1) (State.isArrayOf_alike hZ.alike Ar16.2.1) (g := (mkF m 4 #[vr a] [(.ref t)])) rfl rfl (hb hby d_prog_21_m2_4)) ?_
 rw [len_of As16 An16]
 show Go p.tables e below Kx _ (mkF m 5 _ [(.int 1)])
 refine s_iconst (pc' := 6) (v := 1) X15.here hx (hb hby d_prog_21_m2_5) rfl rfl ?_
 refine s_isub (pc' := 7) (z := 0) X15.here hx (hb hby d_prog_21_m2_6) rfl (by decide) ?_
 obtain ⟨fs, hr, hrun, hended, hW, hsame⟩ := X15.leave (v := (some (.int 0))) (fun h => by rw [Bd.returns] at h; cases h)
 refine Go.fin (retI X15 hx Bd.returns (hb hby d_prog_21_m2_7) hr) (hF _ _ hrun hended ⟨_, _, rfl, ?_, ⟨_, rfl⟩, hW, hsame.mono (by decide) (by decide)⟩)
 ·
  show QV0 Z a t k h0 n0 ((some (.int 0)) : Option Value) T15.heap _
  rw [e15]
  exact ⟨rfl, N0, rfl⟩
theorem d_prog_21_m8_0 : decode prog_21_method_8_code 0 = .ok (.iload_n 1, 1) := by decide +kernel
theorem d_prog_21_m8_1 : decode prog_21_method_8_code 1 = .ok (.i2d, 1) := by decide +kernel
theorem d_prog_21_m8_2 : decode prog_21_method_8_code 2 = .ok (.ldc2_w 27, 3) := by decide +kernel
theorem d_prog_21_m8_5 : decode prog_21_method_8_code 5 = .ok (.ddiv, 1) := by decide +kernel
theorem d_prog_21_m8_6 : decode prog_21_method_8_code 6 = .ok (.aload_n 0, 1) := by decide +kernel
theorem d_prog_21_m8_7 : decode prog_21_method_8_code 7 = .ok (.getfield 13, 3) := by decide +kernel
theorem d_prog_21_m8_10 : decode prog_21_method_8_code 10 = .ok (.i2d, 1) := by decide +kernel
theorem d_prog_21_m8_11 : decode prog_21_method_8_code 11 = .ok (.dmul, 1) := by decide +kernel
theorem d_prog_21_m8_12 : decode prog_21_method_8_code 12 = .ok (.ldc2_w 29, 3) := by decide +kernel
theorem d_prog_21_m8_15 : decode prog_21_method_8_code 15 = .ok (.dadd, 1) := by decide +kernel
theorem d_prog_21_m8_16 : decode prog_21_method_8_code 16 = .ok (.d2l, 1) := by decide +kernel
theorem d_prog_21_m8_17 : decode prog_21_method_8_code 17 = .ok (.lstore_n 2, 1) := by decide +kernel
theorem d_prog_21_m8_18 : decode prog_21_method_8_code 18 = .ok (.dconst 0, 1) := by decide +kernel
theorem d_prog_21_m8_19 : decode prog_21_method_8_code 19 = .ok (.dstore 4, 2) := by decide +kernel
theorem d_prog_21_m8_21 : decode prog_21_method_8_code 21 = .ok (.iconst 1, 1) := by decide +kernel
theorem d_prog_21_m8_22 : decode prog_21_method_8_code 22 = .ok (.istore 6, 2) := by decide +kernel
theorem d_prog_21_m8_24 : decode prog_21_method_8_code 24 = .ok (.iload 6, 2) := by decide +kernel
theorem d_prog_21_m8_26 : decode prog_21_method_8_code 26 = .ok (.aload_n 0, 1) := by decide +kernel
theorem pd_0 : parseMethodDescriptor "()I" = some ⟨[], some .int⟩ := by decide +kernel
theorem d_prog_21_m8_27 : decode prog_21_method_8_code 27 = .ok (.invokevirtual 17, 3) := by decide +kernel
theorem d_prog_21_m8_30 : decode prog_21_method_8_code 30 = .ok (.if_icmp .gt 41, 3) := by decide +kernel
theorem d_prog_21_m8_71 : decode prog_21_method_8_code 71 = .ok (.dload 4, 2) := by decide +kernel
theorem d_prog_21_m8_73 : decode prog_21_method_8_code 73 = .ok (.dreturn, 1) := by decide +kernel
def QA0 (Z : State) (a t : Addr) (k : ClassId) (rc tn : Int32) (h0 : Heap) (n0 : Nat) (v : Option Value) (h : Heap) (L : List Loc) : Prop := v = some (.double FP.dconst0) ∧ Fr n0 L ∧ h = h0
set_option maxRecDepth 65536 in
set_option maxHeartbeats 40000000 in
theorem rmA0 (l : Launch) (Z : State) (a0 : Array Value) (hw : ∀ d ∈ tables_1, d.before a0 Z = true) (ws : List Jvm.Cond) (a t : Addr) (k : ClassId) (rc tn : Int32) (h0 : Heap) (n0 : Nat) (X00 : Old Z n0 h0) (hrc : rc ≠ 0) (E : Exa Z h0 a "com/example/kingfisher/kingfisher/eval/TopicRanking") (F1 : Fld Z h0 a "com/example/kingfisher/kingfisher/eval/TopicRanking" "relevantWithin" "[I" (.ref t)) (F2 : Fld Z h0 a "com/example/kingfisher/kingfisher/eval/TopicRanking" "relevantCount" "I" (.int rc)) (VT : Arv Z h0 t k .int 1 [(.int 0)] (.int 0)) :
  MetFree l yN1 (head1 (Jvm.Cond.code yN1 prog_21_method_8_code 7 (some .double) :: ws) ({ frames := 1, cells := 0, slots := 0, locals := 40 } : Room)) (fun aa U => aa = #[(.ref a), (.int tn)] ∧ Z.Warmed39 U.vm ∧ U.heap = h0) (fun _ _ _ _ _ => True) (fun _ U o U' => ∃ v L, o = .returned v ∧ QA0 Z a t k rc tn h0 n0 v U'.heap L ∧ FrameEnd U o U' L ({ frames := 1, cells := 0, slots := 0, locals := 40 } : Room).cells ({ frames := 1, cells := 0, slots := 0, locals := 40 } : Room).slots) := by
 refine MetFree.of_bodySF (plainFor_of_name pn_0) hisR ?_
 intro p e s m args below meth c s₁ Bd hml0 hP hK
 obtain ⟨rfl, hZ, hh⟩ := hP
 have hx := Bd.exec
 have hby := Bd.bytes
 have hml : c.maxLocals = 7 := hml0
 have hown : s.vm.findClass "com/example/kingfisher/kingfisher/eval/TopicRanking" = some m.cls := findClass_of_methodNamed Bd.named
 have hnm := (name_of_methodNamed Bd.named Bd.method).1
 have X0 : Stand p l e ({ frames := 1, cells := 0, slots := 0, locals := 40 } : Room) s m #[(.ref a), (.int tn)] below meth c s₁ [] 0 0 := Stand.of_body Bd
 have e0 : s₁.heap = h0 := by rw [← hh, Bd.state]; rfl
 have N0 := Fr.nil n0
 have K0 := Keep.refl h0 []
 have ef : entryFrame m #[(.ref a), (.int tn)] 7 = mkF m 0 #[vr a, vi tn, un, un, un, un, un] [] := (by first | (simp [entryFrame, mkF, argsToLocals, Value.category]; done) | rfl : entryFrame m #[(.ref a), (.int tn)] 7 = mkF m 0 #[vr a, vi tn, un, un, un, un, un] [])
 rw [ef]
 refine fin_of fun Kx hF => ?_
 show Go p.tables e below Kx _ (mkF m 0 _ [])
 refine s_iloadN (pc' := 1) X0.here hx (hb hby d_prog_21_m8_0) rfl rfl ?_
 refine s_i2d (pc' := 2) X0.here hx (hb hby d_prog_21_m8_1) rfl rfl ?_
 refine Go.st (X0.ldc2DoubleC hx hown (mvT hZ (hv hw 21 rfl)) (g := (mkF m 2 #[vr a, vi tn, un, un, un, un, un] [(.double (FP.i2d tn))])) rfl (hb hby d_prog_21_m8_2)) ?_
 show Go p.tables e below Kx _ (mkF m 5 _ [(.double (4621819117588971520 : UInt64)), (.double (FP.i2d tn))])
 refine s_ddiv (pc' := 6) X0.here hx (hb hby d_prog_21_m8_5) rfl (nn1 tn) rfl ?_
 refine s_aloadN (pc' := 7) X0.here hx (hb hby d_prog_21_m8_6) rfl rfl rfl ?_
 obtain ⟨T17, X17, e17, st17⟩ := getF X0 hx hZ hown (host := "") (Or.inl (hv hw 14 rfl)) Via.refl e0 F2 (g := (mkF m 7 #[vr a, vi tn, un, un, un, un, un] [(.ref a), (.double (FP.ddiv (FP.i2d tn) (4621819117588971520 : UInt64)))])) rfl rfl (hb hby d_prog_21_m8_7)
 refine Go.st st17 ?_
 show Go p.tables e below Kx _ (mkF m 10 _ [(.int rc), (.double (FP.ddiv (FP.i2d tn) (4621819117588971520 : UInt64)))])
 refine s_i2d (pc' := 11) X17.here hx (hb hby d_prog_21_m8_10) rfl rfl ?_
 refine s_dmul (pc' := 12) X17.here hx (hb hby d_prog_21_m8_11) rfl (nn2 tn hrc) rfl ?_
 refine Go.st (X17.ldc2DoubleC hx hown (mvT hZ (hv hw 22 rfl)) (g := (mkF m 12 #[vr a, vi tn, un, un, un, un, un] [(.double (FP.dmul (FP.ddiv (FP.i2d tn) (4621819117588971520 : UInt64)) (FP.i2d rc)))])) rfl (hb hby d_prog_21_m8_12)) ?_
 show Go p.tables e below Kx _ (mkF m 15 _ [(.double (4606281698874543309 : UInt64)), (.double (FP.dmul (FP.ddiv (FP.i2d tn) (4621819117588971520 : UInt64)) (FP.i2d rc)))])
 refine s_dadd (pc' := 16) X17.here hx (hb hby d_prog_21_m8_15) rfl (nn3 tn hrc) rfl ?_
 refine s_d2l (pc' := 17) (z := needd tn rc) X17.here hx (hb hby d_prog_21_m8_16) rfl rfl ?_
 refine s_lstoreN (pc' := 18) (Ls' := #[vr a, vi tn, .val (.long (needd tn rc)), sn, un, un, un]) X17.here hx (hb hby d_prog_21_m8_17) rfl  rfl ?_
 refine s_dconst0 (pc' := 19) X17.here hx (hb hby d_prog_21_m8_18) rfl rfl ?_
 refine s_dstore (pc' := 21) (Ls' := #[vr a, vi tn, .val (.long (needd tn rc)), sn, .val (.double FP.dconst0), sn, un]) X17.here hx (hb hby d_prog_21_m8_19) rfl  rfl ?_
 refine s_iconst (pc' := 22) (v := 1) X17.here hx (hb hby d_prog_21_m8_21) rfl rfl ?_
 refine s_istore (pc' := 24) (Ls' := #[vr a, vi tn, .val (.long (needd tn rc)), sn, .val (.double FP.dconst0), sn, vi 1]) X17.here hx (hb hby d_prog_21_m8_22) rfl  rfl ?_
 refine s_iload (pc' := 26) X17.here hx (hb hby d_prog_21_m8_24) rfl rfl ?_
 refine s_aloadN (pc' := 27) X17.here hx (hb hby d_prog_21_m8_26) rfl rfl rfl ?_
 obtain ⟨cq18, kq18, q18a, q18b, q18c⟩ := isOf hZ e17 E
 obtain ⟨_, _, ⟨T18, L18, k18, n18⟩, -, X18, ⟨Lc18, hQ18, l18, y18, z18⟩, st18⟩ := X17.virtualBack hx (y := yN2) (z := yN2) hown (mvT hZ (hv hw 23 rfl)) (mvT hZ (hv hw 24 rfl)) (notFace_of_selects (args := #[]) (mvT hZ (hv hw 26 rfl))) (mvT hZ (hv hw 26 rfl)) (mvT hZ (hv hw 25 rfl)) (by decide) (backOf (W := 1) (rmV0 l Z a0 hw [] a t k  h0 n0 X00 F1 VT) hZ (hv hw 27 rfl) (hv hw 4 rfl) (by decide) (by decide)) q18a q18c (g := (mkF m 27 #[vr a, vi tn, .val (.long (needd tn rc)), sn, .val (.double FP.dconst0), sn, vi 1] [(.ref a), (.int 1)])) rfl (by rw [hml]; rfl) (Steps.refl _) (argsL := []) (rest := [(.int 1)]) (lenOf pd_0 rfl) rfl (by exact Nat.le_of_eq rfl) (hb hby d_prog_21_m8_27) (fun _ _ => ⟨rfl, e17, (by decide : 0 + 0 ≤ _), (by decide : 0 + 0 ≤ _)⟩)
 dsimp only [Pt.U, Pt.locs, Pt.cells, Pt.slots] at X18 l18 y18 z18 st18 hQ18
 rw [l18, y18, z18] at X18
 obtain ⟨rfl, Nq18, hE18⟩ := hQ18
 have N18 := Fr.app N0 Nq18
 refine Go.tr st18 ?_
 show Go p.tables e below Kx _ (mkF m 30 _ [(.int 0), (.int 1)])
 refine s_icmpY (pc' := 71) X18.here hx (hb hby d_prog_21_m8_30) (tlt (by decide)).2.2.1 (by decide) (by decide) ?_
 refine s_dload (pc' := 73) X18.here hx (hb hby d_prog_21_m8_71) rfl rfl ?_
 obtain ⟨fs, hr, hrun, hended, hW, hsame⟩ := X18.leave (v := (some (.double FP.dconst0))) (fun h => by rw [Bd.returns] at h; cases h)
 refine Go.fin (retOut X18 hx Bd.returns rfl (Or.inr (Or.inr (Or.inl ⟨rfl, rfl, _, rfl⟩))) (hb hby d_prog_21_m8_73) hr) (hF _ _ hrun hended ⟨_, _, rfl, ?_, ⟨_, rfl⟩, hW, hsame.mono (by decide) (by decide)⟩)
 ·
  show QA0 Z a t k rc tn h0 n0 ((some (.double FP.dconst0)) : Option Value) T18.heap _
  rw [hE18]
  exact ⟨rfl, N18, rfl⟩
theorem d_prog_21_m1_22 : decode prog_21_method_1_code 22 = .ok (.aload_n 0, 1) := by decide +kernel
theorem d_prog_21_m1_23 : decode prog_21_method_1_code 23 = .ok (.getfield 7, 3) := by decide +kernel
theorem d_prog_21_m1_26 : decode prog_21_method_1_code 26 = .ok (.iload_n 3, 1) := by decide +kernel
theorem d_prog_21_m1_27 : decode prog_21_method_1_code 27 = .ok (.aload_n 0, 1) := by decide +kernel
theorem d_prog_21_m1_28 : decode prog_21_method_1_code 28 = .ok (.getfield 7, 3) := by decide +kernel
theorem d_prog_21_m1_31 : decode prog_21_method_1_code 31 = .ok (.iload_n 3, 1) := by decide +kernel
theorem d_prog_21_m1_32 : decode prog_21_method_1_code 32 = .ok (.iconst 1, 1) := by decide +kernel
theorem d_prog_21_m1_33 : decode prog_21_method_1_code 33 = .ok (.isub, 1) := by decide +kernel
theorem d_prog_21_m1_34 : decode prog_21_method_1_code 34 = .ok (.iaload, 1) := by decide +kernel
theorem d_prog_21_m1_35 : decode prog_21_method_1_code 35 = .ok (.aload_n 1, 1) := by decide +kernel
theorem d_prog_21_m1_36 : decode prog_21_method_1_code 36 = .ok (.iload_n 3, 1) := by decide +kernel
theorem d_prog_21_m1_37 : decode prog_21_method_1_code 37 = .ok (.iconst 1, 1) := by decide +kernel
theorem d_prog_21_m1_38 : decode prog_21_method_1_code 38 = .ok (.isub, 1) := by decide +kernel
theorem d_prog_21_m1_39 : decode prog_21_method_1_code 39 = .ok (.baload, 1) := by decide +kernel
theorem d_prog_21_m1_40 : decode prog_21_method_1_code 40 = .ok (.ifCond .eq 7, 3) := by decide +kernel
theorem d_prog_21_m1_47 : decode prog_21_method_1_code 47 = .ok (.iconst 0, 1) := by decide +kernel
theorem d_prog_21_m1_43 : decode prog_21_method_1_code 43 = .ok (.iconst 1, 1) := by decide +kernel
theorem d_prog_21_m1_44 : decode prog_21_method_1_code 44 = .ok (.goto 4, 3) := by decide +kernel
theorem d_prog_21_m1_48 : decode prog_21_method_1_code 48 = .ok (.iadd, 1) := by decide +kernel
theorem d_prog_21_m1_49 : decode prog_21_method_1_code 49 = .ok (.iastore, 1) := by decide +kernel
theorem d_prog_21_m1_50 : decode prog_21_method_1_code 50 = .ok (.iinc 3 1, 3) := by decide +kernel
theorem d_prog_21_m1_53 : decode prog_21_method_1_code 53 = .ok (.goto (-37), 3) := by decide +kernel
def QN1 (Z : State) (a b : Addr) (kb : ClassId) (x1 c1 rc : Int32) (h0 : Heap) (n0 : Nat) (v : Option Value) (h : Heap) (L : List Loc) : Prop := v = none ∧ Fr n0 L ∧ Keep h0 h [a] ∧ Exa Z h a "com/example/kingfisher/kingfisher/eval/TopicRanking" ∧ Fld Z h a "com/example/kingfisher/kingfisher/eval/TopicRanking" "relevantCount" "I" (.int rc) ∧ ∃ (t : Addr) (k : ClassId), Fld Z h a "com/example/kingfisher/kingfisher/eval/TopicRanking" "relevantWithin" "[I" (.ref t) ∧ Arv Z h t k .int 2 [(.int 0), (.int c1)] (.int 0)
set_option maxRecDepth 65536 in
set_option maxHeartbeats 40000000 in
theorem rmN1 (l : Launch) (Z : State) (a0 : Array Value) (hw : ∀ d ∈ tables_1, d.before a0 Z = true) (ws : List Jvm.Cond) (a b : Addr) (kb : ClassId) (x1 c1 rc : Int32) (h0 : Heap) (n0 : Nat) (X00 : Old Z n0 h0) (ge_a : n0 ≤ a) (hne : b ≠ a) (E : Exa Z h0 a "com/example/kingfisher/kingfisher/eval/TopicRanking") (F1 : Fld Z h0 a "com/example/kingfisher/kingfisher/eval/TopicRanking" "relevantWithin" "[I" .null) (F2 : Fld Z h0 a "com/example/kingfisher/kingfisher/eval/TopicRanking" "relevantCount" "I" (.int 0)) (VB : Arv Z h0 b kb .boolean (1 : Int32) [(.int x1)] (.int 0)) (hc1 : ((0 : Int32) + (if x1 = (0 : Int32) then (0 : Int32) else (1 : Int32))) = c1) :
  MetFree l yN0 (head1 (Jvm.Cond.code yN0 prog_21_method_1_code 4 none :: ws) ({ frames := 1, cells := 1, slots := 2, locals := 20 } : Room)) (fun aa U => aa = #[(.ref a), (.ref b), (.int rc)] ∧ Z.Warmed39 U.vm ∧ U.heap = h0) (fun _ _ _ _ _ => True) (fun _ U o U' => ∃ v L, o = .returned v ∧ QN1 Z a b kb x1 c1 rc h0 n0 v U'.heap L ∧ FrameEnd U o U' L ({ frames := 1, cells := 1, slots := 2, locals := 20 } : Room).cells ({ frames := 1, cells := 1, slots := 2, locals := 20 } : Room).slots) := by
 refine MetFree.of_bodySF (plainFor_of_name pn_0) hisR ?_
 intro p e s m args below meth c s₁ Bd hml0 hP hK
 obtain ⟨rfl, hZ, hh⟩ := hP
 have hx := Bd.exec
 have hby := Bd.bytes
 have hml : c.maxLocals = 4 := hml0
 have hown : s.vm.findClass "com/example/kingfisher/kingfisher/eval/TopicRanking" = some m.cls := findClass_of_methodNamed Bd.named
 have hnm := (name_of_methodNamed Bd.named Bd.method).1
 have X0 : Stand p l e ({ frames := 1, cells := 1, slots := 2, locals := 20 } : Room) s m #[(.ref a), (.ref b), (.int rc)] below meth c s₁ [] 0 0 := Stand.of_body Bd
 have e0 : s₁.heap = h0 := by rw [← hh, Bd.state]; rfl
 have N0 := Fr.nil n0
 have K0 := Keep.refl h0 [a]
 have ef : entryFrame m #[(.ref a), (.ref b), (.int rc)] 4 = mkF m 0 #[vr a, vr b, vi rc, un] [] := (by first | (simp [entryFrame, mkF, argsToLocals, Value.category]; done) | rfl : entryFrame m #[(.ref a), (.ref b), (.int rc)] 4 = mkF m 0 #[vr a, vr b, vi rc, un] [])
 rw [ef]
 refine fin_of fun Kx hF => ?_
 show Go p.tables e below Kx _ (mkF m 0 _ [])
 refine s_aloadN (pc' := 1) X0.here hx (hb hby d_prog_21_m1_0) rfl rfl rfl ?_
 obtain ⟨T19, X19, e19, st19⟩ := initO X0 hx hZ hown (hv hw 8 rfl) (hv hw 9 rfl) (hv hw 10 rfl) e0 (g := (mkF m 1 #[vr a, vr b, vi rc, un] [(.ref a)])) rfl (by rw [hml]; rfl) rfl (hb hby d_prog_21_m1_1) (by decide) (W := 0) (by exact Nat.le_of_eq rfl) (by decide)
 refine Go.st st19 ?_
 show Go p.tables e below Kx _ (mkF m 4 _ [])
 refine s_aloadN (pc' := 5) X19.here hx (hb hby d_prog_21_m1_4) rfl rfl rfl ?_
 refine s_aloadN (pc' := 6) X19.here hx (hb hby d_prog_21_m1_5) rfl rfl rfl ?_
 obtain ⟨cl20, Ar20, Aq20, As20, An20, Ah20, Ag20⟩ := id VB
 refine Go.st (X19.arraylength hx (by rw [e19]; exact Ar20.1) (State.isArrayOf_alike hZ.alike Ar20.2.1) (g := (mkF m 6 #[vr a, vr b, vi rc, un] [(.ref b), (.ref a)])) rfl rfl (hb hby d_prog_21_m1_6)) ?_
 rw [len_of As20 An20]
 show Go p.tables e below Kx _ (mkF m 7 _ [(.int 1), (.ref a)])
 refine s_iconst (pc' := 8) (v := 1) X19.here hx (hb hby d_prog_21_m1_7) rfl rfl ?_
 refine s_iadd (pc' := 9) (z := 2) X19.here hx (hb hby d_prog_21_m1_8) rfl (by decide) ?_
 obtain ⟨T21, h21, k21, X21, e21, E21, A21, st21⟩ := newP X19 hx hZ (hv hw 11 rfl) e19 (g := (mkF m 9 #[vr a, vr b, vi rc, un] [(.int 2), (.ref a)])) rfl (hb hby d_prog_21_m1_9) rfl (by decide) (cap := 2) (by decide) (by decide) (by decide) (by decide)
 obtain ⟨b21, g21⟩ : ∃ z, z = h0.size := ⟨_, rfl⟩
 rw [← g21] at A21 st21
 have sz21 : h0.size ≤ b21 := Nat.le_trans K0.1 (Nat.le_of_eq g21.symm)
 have ge21 : n0 ≤ b21 := Nat.le_trans (X00.1 ▸ X00.2.1) (Nat.le_of_eq g21.symm)
 have K21 : Keep h0 h21 [a] := K0.ext E21
 have O21 : Old Z n0 h21 := X00.ext E21
 have V21 : Arv Z h21 b21 k21 .int 2 [(.int 0), (.int 0)] (.int 0) := (Arv.new A21 (by decide)).pad (pad_rep [] (.int 0) 2)
 refine Go.st st21 ?_
 show Go p.tables e below Kx _ (mkF m 11 _ [(.ref b21), (.ref a)])
 have f22 : Fld Z h21 a "com/example/kingfisher/kingfisher/eval/TopicRanking" "relevantWithin" "[I" .null := (F1.ext E21)
 have f23 : Exa Z h21 a "com/example/kingfisher/kingfisher/eval/TopicRanking" := (E.ext E21)
 obtain ⟨T24, h24, X24, e24, W24, st24⟩ := putF X21 hx hZ hown (host := "") (Or.inl (hv hw 12 rfl)) Via.refl e21 f22 f23 (Or.inr ⟨(hv hw 13 rfl), rfl, hnm⟩) (hv hw 3 rfl) (ty := (.array .int)) (by decide) rfl rfl (g := (mkF m 11 #[vr a, vr b, vi rc, un] [(.ref b21), (.ref a)])) rfl rfl (hb hby d_prog_21_m1_11)
 have Fw24 : Fld Z h24 a "com/example/kingfisher/kingfisher/eval/TopicRanking" "relevantWithin" "[I" (.ref b21) := f22.same W24
 have K24 : Keep h0 h24 [a] := K21.wr W24 (Or.inl (List.mem_of_getElem? (i := 0) rfl))
 have O24 : Old Z n0 h24 := O21.wr W24 ge_a
 have N24 := Fr.snoc X24 N0 ge_a
 refine Go.st st24 ?_
 show Go p.tables e below Kx _ (mkF m 14 _ [])
 refine s_iconst (pc' := 15) (v := 1) X24.here hx (hb hby d_prog_21_m1_14) rfl rfl ?_
 refine s_istoreN (pc' := 16) (Ls' := #[vr a, vr b, vi rc, vi 1]) X24.here hx (hb hby d_prog_21_m1_15) rfl  rfl ?_
 refine s_iloadN (pc' := 17) X24.here hx (hb hby d_prog_21_m1_16) rfl rfl ?_
 refine s_aloadN (pc' := 18) X24.here hx (hb hby d_prog_21_m1_17) rfl rfl rfl ?_
 have f25 : Arv Z h24 b kb .boolean 1 [(.int x1)] (.int 0) := ((VB.ext E21).other W24 hne)
 obtain ⟨cl26, Ar26, Aq26, As26, An26, Ah26, Ag26⟩ := id f25
 refine Go.st (X24.arraylength hx (by rw [e24]; exact Ar26.1) (State.isArrayOf_alike hZ.alike Ar26.2.1) (g := (mkF m 18 #[vr a, vr b, vi rc, vi 1] [(.ref b), (.int 1)])) rfl rfl (hb hby d_prog_21_m1_18)) ?_
 rw [len_of As26 An26]
 show Go p.tables e below Kx _ (mkF m 19 _ [(.int 1), (.int 1)])
 refine s_icmpN (pc' := 22) X24.here hx (hb hby d_prog_21_m1_19) rfl (flt (by decide)).2.2.1 ?_
 refine s_aloadN (pc' := 23) X24.here hx (hb hby d_prog_21_m1_22) rfl rfl rfl ?_
 obtain ⟨T27, X27, e27, st27⟩ := getF X24 hx hZ hown (host := "") (Or.inl (hv hw 12 rfl)) Via.refl e24 Fw24 (g := (mkF m 23 #[vr a, vr b, vi rc, vi 1] [(.ref a)])) rfl rfl (hb hby d_prog_21_m1_23)
 refine Go.st st27 ?_
 show Go p.tables e below Kx _ (mkF m 26 _ [(.ref b21)])
 refine s_iloadN (pc' := 27) X27.here hx (hb hby d_prog_21_m1_26) rfl rfl ?_
 refine s_aloadN (pc' := 28) X27.here hx (hb hby d_prog_21_m1_27) rfl rfl rfl ?_
 obtain ⟨T28, X28, e28, st28⟩ := getF X27 hx hZ hown (host := "") (Or.inl (hv hw 12 rfl)) Via.refl e27 Fw24 (g := (mkF m 28 #[vr a, vr b, vi rc, vi 1] [(.ref a), (.int 1), (.ref b21)])) rfl rfl (hb hby d_prog_21_m1_28)
 refine Go.st st28 ?_
 show Go p.tables e below Kx _ (mkF m 31 _ [(.ref b21), (.int 1), (.ref b21)])
 refine s_iloadN (pc' := 32) X28.here hx (hb hby d_prog_21_m1_31) rfl rfl ?_
 refine s_iconst (pc' := 33) (v := 1) X28.here hx (hb hby d_prog_21_m1_32) rfl rfl ?_
 refine s_isub (pc' := 34) (z := 0) X28.here hx (hb hby d_prog_21_m1_33) rfl (by decide) ?_
 have f29 : Arv Z h24 b21 k21 .int 2 [(.int 0), (.int 0)] (.int 0) := (V21.other W24 (Ne.symm (Nat.ne_of_lt (Nat.lt_of_lt_of_le E.lt (Nat.le_of_eq g21.symm)))))
 obtain ⟨cl30, Ar30, Aq30, As30, An30, Ah30, Ag30⟩ := id f29
 have in31 := inb_of (j := 0) As30 (by decide)
 have at31 : cl30.slots[((0 : Int32)).toNatClampNeg]? = some (.int 0) := Ah30.at in31 rfl
 refine Go.st (X28.iaload hx (j := 0) (v := (.int 0)) (by rw [e28]; exact Ar30.1) (State.isArrayOf_alike hZ.alike Ar30.2.1) Ar30.2.2 in31 at31 (g := (mkF m 34 #[vr a, vr b, vi rc, vi 1] [(.int 0), (.ref b21), (.int 1), (.ref b21)])) rfl rfl (hb hby d_prog_21_m1_34)) ?_
 show Go p.tables e below Kx _ (mkF m 35 _ [(.int 0), (.int 1), (.ref b21)])
 refine s_aloadN (pc' := 36) X28.here hx (hb hby d_prog_21_m1_35) rfl rfl rfl ?_
 refine s_iloadN (pc' := 37) X28.here hx (hb hby d_prog_21_m1_36) rfl rfl ?_
 refine s_iconst (pc' := 38) (v := 1) X28.here hx (hb hby d_prog_21_m1_37) rfl rfl ?_
 refine s_isub (pc' := 39) (z := 0) X28.here hx (hb hby d_prog_21_m1_38) rfl (by decide) ?_
 obtain ⟨cl32, Ar32, Aq32, As32, An32, Ah32, Ag32⟩ := id f25
 have in33 := inb_of (j := 0) As32 (by decide)
 have at33 : cl32.slots[((0 : Int32)).toNatClampNeg]? = some (.int x1) := Ah32.at in33 rfl
 refine Go.st (X28.baloadBooleans hx (j := 0) (v := (.int x1)) (by rw [e28]; exact Ar32.1) (State.isArrayOf_alike hZ.alike Ar32.2.1) Ar32.2.2 in33 at33 (g := (mkF m 39 #[vr a, vr b, vi rc, vi 1] [(.int 0), (.ref b), (.int 0), (.int 1), (.ref b21)])) rfl rfl (hb hby d_prog_21_m1_39)) ?_
 show Go p.tables e below Kx _ (mkF m 40 _ [(.int x1), (.int 0), (.int 1), (.ref b21)])
 suffices J35 : Go p.tables e below Kx T28 (mkF m 48 #[vr a, vr b, vi rc, vi 1] [(.int (if x1 = (0 : Int32) then (0 : Int32) else (1 : Int32))), (.int 0), (.int 1), (.ref b21)]) by
  by_cases hc34 : x1 = (0 : Int32)
  ·
   simp only [if_pos hc34] at J35
   refine s_ifY (pc' := 47) X28.here hx (hb hby d_prog_21_m1_40) ((if0 _ _).trans (teq hc34).1) (by decide) (by decide) ?_
   refine s_iconst (pc' := 48) (v := 0) X28.here hx (hb hby d_prog_21_m1_47) rfl rfl ?_
   exact J35
  ·
   simp only [if_neg hc34] at J35
   refine s_ifN (pc' := 43) X28.here hx (hb hby d_prog_21_m1_40) rfl ((if0 _ _).trans (feq hc34).1) ?_
   refine s_iconst (pc' := 44) (v := 1) X28.here hx (hb hby d_prog_21_m1_43) rfl rfl ?_
   refine s_goto (pc' := 48) X28.here hx (hb hby d_prog_21_m1_44) (by decide) (by decide) ?_
   exact J35
 refine s_iadd (pc' := 49) X28.here hx (hb hby d_prog_21_m1_48) rfl rfl ?_
 rw [hc1]
 show Go p.tables e below Kx _ (mkF m 49 _ [(.int c1), (.int 1), (.ref b21)])
 obtain ⟨cl36, Ar36, Aq36, As36, An36, Ah36, Ag36⟩ := id f29
 have in37 := inb_of (j := 1) As36 (by decide)
 obtain ⟨T37, h37, X37, e37, W37, st37⟩ := stI X28 hx hZ e28 Ar36 (j := 1) in37 (g := (mkF m 49 #[vr a, vr b, vi rc, vi 1] [(.int c1), (.int 1), (.ref b21)])) rfl rfl (hb hby d_prog_21_m1_49)
 have V37 : Arv Z h37 b21 k21 .int 2 [(.int 0), (.int c1)] (.int 0) := Arv.set Ar36 Aq36 As36 An36 Ah36 Ag36 rfl W37 1 rfl (Nat.le_of_ble_eq_true rfl)
 have K37 : Keep h0 h37 [a] := K24.wr W37 (Or.inr sz21)
 have O37 : Old Z n0 h37 := O24.wr W37 ge21
 have N37 := Fr.snoc X37 N24 ge21
 refine Go.st st37 ?_
 show Go p.tables e below Kx _ (mkF m 50 _ [])
 refine s_iinc (pc' := 53) (Ls' := #[vr a, vr b, vi rc, vi 2]) (z := 2) X37.here hx (hb hby d_prog_21_m1_50) rfl rfl (by decide) rfl ?_
 refine s_goto (pc' := 16) X37.here hx (hb hby d_prog_21_m1_53) (by decide) (by decide) ?_
 refine s_iloadN (pc' := 17) X37.here hx (hb hby d_prog_21_m1_16) rfl rfl ?_
 refine s_aloadN (pc' := 18) X37.here hx (hb hby d_prog_21_m1_17) rfl rfl rfl ?_
 have f38 : Arv Z h37 b kb .boolean 1 [(.int x1)] (.int 0) := (f25.other W37 (Nat.ne_of_lt (Nat.lt_of_lt_of_le VB.lt (Nat.le_of_eq g21.symm))))
 obtain ⟨cl39, Ar39, Aq39, As39, An39, Ah39, Ag39⟩ := id f38
 refine Go.st (X37.arraylength hx (by rw [e37]; exact Ar39.1) (State.isArrayOf_alike hZ.alike Ar39.2.1) (g := (mkF m 18 #[vr a, vr b, vi rc, vi 2] [(.ref b), (.int 2)])) rfl rfl (hb hby d_prog_21_m1_18)) ?_
 rw [len_of As39 An39]
 show Go p.tables e below Kx _ (mkF m 19 _ [(.int 1), (.int 2)])
 refine s_icmpY (pc' := 56) X37.here hx (hb hby d_prog_21_m1_19) (tlt (by decide)).2.2.1 (by decide) (by decide) ?_
 refine s_aloadN (pc' := 57) X37.here hx (hb hby d_prog_21_m1_56) rfl rfl rfl ?_
 refine s_iloadN (pc' := 58) X37.here hx (hb hby d_prog_21_m1_57) rfl rfl ?_
 have f40 : Fld Z h37 a "com/example/kingfisher/kingfisher/eval/TopicRanking" "relevantCount" "I" (.int 0) := (((F2.ext E21).other W24 (Or.inr (slot_ne (Or.inr (hv hw 15 rfl)) (Or.inr (hv hw 13 rfl)) (by decide) (t := .int) (t' := (.array .int)) (by decide) (by decide)))).other W37 (Or.inl (Nat.ne_of_lt (Nat.lt_of_lt_of_le E.lt (Nat.le_of_eq g21.symm)))))
 have f41 : Exa Z h37 a "com/example/kingfisher/kingfisher/eval/TopicRanking" := ((f23.wr W24).wr W37)
 obtain ⟨T42, h42, X42, e42, W42, st42⟩ := putF X37 hx hZ hown (host := "") (Or.inl (hv hw 14 rfl)) Via.refl e37 f40 f41 (Or.inr ⟨(hv hw 15 rfl), rfl, hnm⟩) (hv hw 3 rfl) (ty := .int) (by decide) rfl rfl (g := (mkF m 58 #[vr a, vr b, vi rc, vi 2] [(.int rc), (.ref a)])) rfl rfl (hb hby d_prog_21_m1_58)
 have Fw42 : Fld Z h42 a "com/example/kingfisher/kingfisher/eval/TopicRanking" "relevantCount" "I" (.int rc) := f40.same W42
 have K42 : Keep h0 h42 [a] := K37.wr W42 (Or.inl (List.mem_of_getElem? (i := 0) rfl))
 have O42 : Old Z n0 h42 := O37.wr W42 ge_a
 have N42 := Fr.snoc X42 N37 ge_a
 refine Go.st st42 ?_
 show Go p.tables e below Kx _ (mkF m 61 _ [])
 have f43 : Exa Z h42 a "com/example/kingfisher/kingfisher/eval/TopicRanking" := (f41.wr W42)
 have f44 : Fld Z h42 a "com/example/kingfisher/kingfisher/eval/TopicRanking" "relevantWithin" "[I" (.ref b21) := ((Fw24.other W37 (Or.inl (Nat.ne_of_lt (Nat.lt_of_lt_of_le E.lt (Nat.le_of_eq g21.symm))))).other W42 (Or.inr (slot_ne (Or.inr (hv hw 13 rfl)) (Or.inr (hv hw 15 rfl)) (by decide) (t := (.array .int)) (t' := .int) (by decide) (by decide))))
 have f45 : Arv Z h42 b21 k21 .int 2 [(.int 0), (.int c1)] (.int 0) := (V37.other W42 (Ne.symm (Nat.ne_of_lt (Nat.lt_of_lt_of_le E.lt (Nat.le_of_eq g21.symm)))))
 obtain ⟨fs, hr, hrun, hended, hW, hsame⟩ := X42.leave (v := none) (fun _ => rfl)
 refine Go.fin (X42.returnOut hx Bd.returns (hb hby d_prog_21_m1_61) hr) (hF _ _ hrun hended ⟨_, _, rfl, ?_, ⟨_, rfl⟩, hW, hsame.mono (by decide) (by decide)⟩)
 ·
  show QN1 Z a b kb x1 c1 rc h0 n0 (none : Option Value) T42.heap _
  rw [e42]
  exact ⟨rfl, N42, K42, f43, Fw42, b21, _, f44, f45⟩
def QV1 (Z : State) (a t : Addr) (k : ClassId) (c1 : Int32) (h0 : Heap) (n0 : Nat) (v : Option Value) (h : Heap) (L : List Loc) : Prop := v = some (.int 1) ∧ Fr n0 L ∧ h = h0
set_option maxRecDepth 65536 in
set_option maxHeartbeats 40000000 in
theorem rmV1 (l : Launch) (Z : State) (a0 : Array Value) (hw : ∀ d ∈ tables_1, d.before a0 Z = true) (ws : List Jvm.Cond) (a t : Addr) (k : ClassId) (c1 : Int32) (h0 : Heap) (n0 : Nat) (X00 : Old Z n0 h0) (F1 : Fld Z h0 a "com/example/kingfisher/kingfisher/eval/TopicRanking" "relevantWithin" "[I" (.ref t)) (VT : Arv Z h0 t k .int 2 [(.int 0), (.int c1)] (.int 0)) :
  MetFree l yN2 (head1 (Jvm.Cond.code yN2 prog_21_method_2_code 1 (some .int) :: ws) ({ frames := 0, cells := 0, slots := 0, locals := 0 } : Room)) (fun aa U => aa = #[(.ref a)] ∧ Z.Warmed39 U.vm ∧ U.heap = h0) (fun _ _ _ _ _ => True) (fun _ U o U' => ∃ v L, o = .returned v ∧ QV1 Z a t k c1 h0 n0 v U'.heap L ∧ FrameEnd U o U' L ({ frames := 0, cells := 0, slots := 0, locals := 0 } : Room).cells ({ frames := 0, cells := 0, slots := 0, locals := 0 } : Room).slots) := by
 refine MetFree.of_bodySF (plainFor_of_name pn_0) hisR ?_
 intro p e s m args below meth c s₁ Bd hml0 hP hK
 obtain ⟨rfl, hZ, hh⟩ := hP
 have hx := Bd.exec
 have hby := Bd.bytes
 have hml : c.maxLocals = 1 := hml0
 have hown : s.vm.findClass "com/example/kingfisher/kingfisher/eval/TopicRanking" = some m.cls := findClass_of_methodNamed Bd.named
 have hnm := (name_of_methodNamed Bd.named Bd.method).1
 have X0 : Stand p l e ({ frames := 0, cells := 0, slots := 0, locals := 0 } : Room) s m #[(.ref a)] below meth c s₁ [] 0 0 := Stand.of_body Bd
 have e0 : s₁.heap = h0 := by rw [← hh, Bd.state]; rfl
 have N0 := Fr.nil n0
 have K0 := Keep.refl h0 []
 have ef : entryFrame m #[(.ref a)] 1 = mkF m 0 #[vr a] [] := (by first | (simp [entryFrame, mkF, argsToLocals, Value.category]; done) | rfl : entryFrame m #[(.ref a)] 1 = mkF m 0 #[vr a] [])
 rw [ef]
 refine fin_of fun Kx hF => ?_
 show Go p.tables e below Kx _ (mkF m 0 _ [])
 refine s_aloadN (pc' := 1) X0.here hx (hb hby d_prog_21_m2_0) rfl rfl rfl ?_
 obtain ⟨T46, X46, e46, st46⟩ := getF X0 hx hZ hown (host := "") (Or.inl (hv hw 12 rfl)) Via.refl e0 F1 (g := (mkF m 1 #[vr a] [(.ref a)])) rfl rfl (hb hby d_prog_21_m2_1)
 refine Go.st st46 ?_
 show Go p.tables e below Kx _ (mkF m 4 _ [(.ref t)])
 obtain ⟨cl47, Ar47, Aq47, As47, An47, Ah47, Ag47⟩ := id VT
 refine Go.st (X46.arraylength hx (by rw [e46]; exact Ar47.1) (State.isArrayOf_alike hZ.alike Ar47.2.1) (g := (mkF m 4 #[vr a] [(.ref t)])) rfl rfl (hb hby d_prog_21_m2_4)) ?_
 rw [len_of As47 An47]
 show Go p.tables e below Kx _ (mkF m 5 _ [(.int 2)])
 refine s_iconst (pc' := 6) (v := 1) X46.here hx (hb hby d_prog_21_m2_5) rfl rfl ?_
 refine s_isub (pc' := 7) (z := 1) X46.here hx (hb hby d_prog_21_m2_6) rfl (by decide) ?_
 obtain ⟨fs, hr, hrun, hended, hW, hsame⟩ := X46.leave (v := (some (.int 1))) (fun h => by rw [Bd.returns] at h; cases h)
 refine Go.fin (retI X46 hx Bd.returns (hb hby d_prog_21_m2_7) hr) (hF _ _ hrun hended ⟨_, _, rfl, ?_, ⟨_, rfl⟩, hW, hsame.mono (by decide) (by decide)⟩)
 ·
  show QV1 Z a t k c1 h0 n0 ((some (.int 1)) : Option Value) T46.heap _
  rw [e46]
  exact ⟨rfl, N0, rfl⟩
theorem d_prog_21_m8_33 : decode prog_21_method_8_code 33 = .ok (.aload_n 0, 1) := by decide +kernel
theorem d_prog_21_m8_34 : decode prog_21_method_8_code 34 = .ok (.getfield 7, 3) := by decide +kernel
theorem d_prog_21_m8_37 : decode prog_21_method_8_code 37 = .ok (.iload 6, 2) := by decide +kernel
theorem d_prog_21_m8_39 : decode prog_21_method_8_code 39 = .ok (.iaload, 1) := by decide +kernel
theorem d_prog_21_m8_40 : decode prog_21_method_8_code 40 = .ok (.i2l, 1) := by decide +kernel
theorem d_prog_21_m8_41 : decode prog_21_method_8_code 41 = .ok (.lload_n 2, 1) := by decide +kernel
theorem d_prog_21_m8_42 : decode prog_21_method_8_code 42 = .ok (.lcmp, 1) := by decide +kernel
theorem d_prog_21_m8_65 : decode prog_21_method_8_code 65 = .ok (.iinc 6 1, 3) := by decide +kernel
theorem d_prog_21_m8_68 : decode prog_21_method_8_code 68 = .ok (.goto (-44), 3) := by decide +kernel
theorem d_prog_21_m8_43 : decode prog_21_method_8_code 43 = .ok (.ifCond .lt 22, 3) := by decide +kernel
theorem d_prog_21_m8_46 : decode prog_21_method_8_code 46 = .ok (.dload 4, 2) := by decide +kernel
theorem d_prog_21_m8_48 : decode prog_21_method_8_code 48 = .ok (.aload_n 0, 1) := by decide +kernel
theorem d_prog_21_m8_49 : decode prog_21_method_8_code 49 = .ok (.getfield 7, 3) := by decide +kernel
theorem d_prog_21_m8_52 : decode prog_21_method_8_code 52 = .ok (.iload 6, 2) := by decide +kernel
theorem d_prog_21_m8_54 : decode prog_21_method_8_code 54 = .ok (.iaload, 1) := by decide +kernel
theorem d_prog_21_m8_55 : decode prog_21_method_8_code 55 = .ok (.i2d, 1) := by decide +kernel
theorem d_prog_21_m8_56 : decode prog_21_method_8_code 56 = .ok (.iload 6, 2) := by decide +kernel
theorem d_prog_21_m8_58 : decode prog_21_method_8_code 58 = .ok (.i2d, 1) := by decide +kernel
theorem d_prog_21_m8_59 : decode prog_21_method_8_code 59 = .ok (.ddiv, 1) := by decide +kernel
theorem pd_1 : parseMethodDescriptor "(DD)D" = some ⟨[.double, .double], some .double⟩ := by decide +kernel
theorem d_prog_21_m8_60 : decode prog_21_method_8_code 60 = .ok (.invokestatic 31, 3) := by decide +kernel
theorem d_prog_21_m8_63 : decode prog_21_method_8_code 63 = .ok (.dstore 4, 2) := by decide +kernel
def QA1 (Z : State) (a t : Addr) (k : ClassId) (c1 : Int32) (rc tn : Int32) (h0 : Heap) (n0 : Nat) (v : Option Value) (h : Heap) (L : List Loc) : Prop := v = some (.double (mst FP.dconst0 c1 1 (needd tn rc))) ∧ Fr n0 L ∧ h = h0
set_option maxRecDepth 65536 in
set_option maxHeartbeats 40000000 in
theorem rmA1 (l : Launch) (Z : State) (a0 : Array Value) (hw : ∀ d ∈ tables_1, d.before a0 Z = true) (ws : List Jvm.Cond) (a t : Addr) (k : ClassId) (c1 : Int32) (rc tn : Int32) (h0 : Heap) (n0 : Nat) (X00 : Old Z n0 h0) (hrc : rc ≠ 0) (E : Exa Z h0 a "com/example/kingfisher/kingfisher/eval/TopicRanking") (F1 : Fld Z h0 a "com/example/kingfisher/kingfisher/eval/TopicRanking" "relevantWithin" "[I" (.ref t)) (F2 : Fld Z h0 a "com/example/kingfisher/kingfisher/eval/TopicRanking" "relevantCount" "I" (.int rc)) (VT : Arv Z h0 t k .int 2 [(.int 0), (.int c1)] (.int 0)) :
  MetFree l yN1 (head1 (Jvm.Cond.code yN1 prog_21_method_8_code 7 (some .double) :: ws) ({ frames := 1, cells := 0, slots := 0, locals := 40 } : Room)) (fun aa U => aa = #[(.ref a), (.int tn)] ∧ Z.Warmed39 U.vm ∧ U.heap = h0) (fun _ _ _ _ _ => True) (fun _ U o U' => ∃ v L, o = .returned v ∧ QA1 Z a t k c1 rc tn h0 n0 v U'.heap L ∧ FrameEnd U o U' L ({ frames := 1, cells := 0, slots := 0, locals := 40 } : Room).cells ({ frames := 1, cells := 0, slots := 0, locals := 40 } : Room).slots) := by
 refine MetFree.of_bodySF (plainFor_of_name pn_0) hisR ?_
 intro p e s m args below meth c s₁ Bd hml0 hP hK
 obtain ⟨rfl, hZ, hh⟩ := hP
 have hx := Bd.exec
 have hby := Bd.bytes
 have hml : c.maxLocals = 7 := hml0
 have hown : s.vm.findClass "com/example/kingfisher/kingfisher/eval/TopicRanking" = some m.cls := findClass_of_methodNamed Bd.named
 have hnm := (name_of_methodNamed Bd.named Bd.method).1
 have X0 : Stand p l e ({ frames := 1, cells := 0, slots := 0, locals := 40 } : Room) s m #[(.ref a), (.int tn)] below meth c s₁ [] 0 0 := Stand.of_body Bd
 have e0 : s₁.heap = h0 := by rw [← hh, Bd.state]; rfl
 have N0 := Fr.nil n0
 have K0 := Keep.refl h0 []
 have ef : entryFrame m #[(.ref a), (.int tn)] 7 = mkF m 0 #[vr a, vi tn, un, un, un, un, un] [] := (by first | (simp [entryFrame, mkF, argsToLocals, Value.category]; done) | rfl : entryFrame m #[(.ref a), (.int tn)] 7 = mkF m 0 #[vr a, vi tn, un, un, un, un, un] [])
 rw [ef]
 refine fin_of fun Kx hF => ?_
 show Go p.tables e below Kx _ (mkF m 0 _ [])
 refine s_iloadN (pc' := 1) X0.here hx (hb hby d_prog_21_m8_0) rfl rfl ?_
 refine s_i2d (pc' := 2) X0.here hx (hb hby d_prog_21_m8_1) rfl rfl ?_
 refine Go.st (X0.ldc2DoubleC hx hown (mvT hZ (hv hw 21 rfl)) (g := (mkF m 2 #[vr a, vi tn, un, un, un, un, un] [(.double (FP.i2d tn))])) rfl (hb hby d_prog_21_m8_2)) ?_
 show Go p.tables e below Kx _ (mkF m 5 _ [(.double (4621819117588971520 : UInt64)), (.double (FP.i2d tn))])
 refine s_ddiv (pc' := 6) X0.here hx (hb hby d_prog_21_m8_5) rfl (nn1 tn) rfl ?_
 refine s_aloadN (pc' := 7) X0.here hx (hb hby d_prog_21_m8_6) rfl rfl rfl ?_
 obtain ⟨T48, X48, e48, st48⟩ := getF X0 hx hZ hown (host := "") (Or.inl (hv hw 14 rfl)) Via.refl e0 F2 (g := (mkF m 7 #[vr a, vi tn, un, un, un, un, un] [(.ref a), (.double (FP.ddiv (FP.i2d tn) (4621819117588971520 : UInt64)))])) rfl rfl (hb hby d_prog_21_m8_7)
 refine Go.st st48 ?_
 show Go p.tables e below Kx _ (mkF m 10 _ [(.int rc), (.double (FP.ddiv (FP.i2d tn) (4621819117588971520 : UInt64)))])
 refine s_i2d (pc' := 11) X48.here hx (hb hby d_prog_21_m8_10) rfl rfl ?_
 refine s_dmul (pc' := 12) X48.here hx (hb hby d_prog_21_m8_11) rfl (nn2 tn hrc) rfl ?_
 refine Go.st (X48.ldc2DoubleC hx hown (mvT hZ (hv hw 22 rfl)) (g := (mkF m 12 #[vr a, vi tn, un, un, un, un, un] [(.double (FP.dmul (FP.ddiv (FP.i2d tn) (4621819117588971520 : UInt64)) (FP.i2d rc)))])) rfl (hb hby d_prog_21_m8_12)) ?_
 show Go p.tables e below Kx _ (mkF m 15 _ [(.double (4606281698874543309 : UInt64)), (.double (FP.dmul (FP.ddiv (FP.i2d tn) (4621819117588971520 : UInt64)) (FP.i2d rc)))])
 refine s_dadd (pc' := 16) X48.here hx (hb hby d_prog_21_m8_15) rfl (nn3 tn hrc) rfl ?_
 refine s_d2l (pc' := 17) (z := needd tn rc) X48.here hx (hb hby d_prog_21_m8_16) rfl rfl ?_
 refine s_lstoreN (pc' := 18) (Ls' := #[vr a, vi tn, .val (.long (needd tn rc)), sn, un, un, un]) X48.here hx (hb hby d_prog_21_m8_17) rfl  rfl ?_
 refine s_dconst0 (pc' := 19) X48.here hx (hb hby d_prog_21_m8_18) rfl rfl ?_
 refine s_dstore (pc' := 21) (Ls' := #[vr a, vi tn, .val (.long (needd tn rc)), sn, .val (.double FP.dconst0), sn, un]) X48.here hx (hb hby d_prog_21_m8_19) rfl  rfl ?_
 refine s_iconst (pc' := 22) (v := 1) X48.here hx (hb hby d_prog_21_m8_21) rfl rfl ?_
 refine s_istore (pc' := 24) (Ls' := #[vr a, vi tn, .val (.long (needd tn rc)), sn, .val (.double FP.dconst0), sn, vi 1]) X48.here hx (hb hby d_prog_21_m8_22) rfl  rfl ?_
 refine s_iload (pc' := 26) X48.here hx (hb hby d_prog_21_m8_24) rfl rfl ?_
 refine s_aloadN (pc' := 27) X48.here hx (hb hby d_prog_21_m8_26) rfl rfl rfl ?_
 obtain ⟨cq49, kq49, q49a, q49b, q49c⟩ := isOf hZ e48 E
 obtain ⟨_, _, ⟨T49, L49, k49, n49⟩, -, X49, ⟨Lc49, hQ49, l49, y49, z49⟩, st49⟩ := X48.virtualBack hx (y := yN2) (z := yN2) hown (mvT hZ (hv hw 23 rfl)) (mvT hZ (hv hw 24 rfl)) (notFace_of_selects (args := #[]) (mvT hZ (hv hw 26 rfl))) (mvT hZ (hv hw 26 rfl)) (mvT hZ (hv hw 25 rfl)) (by decide) (backOf (W := 1) (rmV1 l Z a0 hw [] a t k c1 h0 n0 X00 F1 VT) hZ (hv hw 27 rfl) (hv hw 4 rfl) (by decide) (by decide)) q49a q49c (g := (mkF m 27 #[vr a, vi tn, .val (.long (needd tn rc)), sn, .val (.double FP.dconst0), sn, vi 1] [(.ref a), (.int 1)])) rfl (by rw [hml]; rfl) (Steps.refl _) (argsL := []) (rest := [(.int 1)]) (lenOf pd_0 rfl) rfl (by exact Nat.le_of_eq rfl) (hb hby d_prog_21_m8_27) (fun _ _ => ⟨rfl, e48, (by decide : 0 + 0 ≤ _), (by decide : 0 + 0 ≤ _)⟩)
 dsimp only [Pt.U, Pt.locs, Pt.cells, Pt.slots] at X49 l49 y49 z49 st49 hQ49
 rw [l49, y49, z49] at X49
 obtain ⟨rfl, Nq49, hE49⟩ := hQ49
 have N49 := Fr.app N0 Nq49
 refine Go.tr st49 ?_
 show Go p.tables e below Kx _ (mkF m 30 _ [(.int 1), (.int 1)])
 refine s_icmpN (pc' := 33) X49.here hx (hb hby d_prog_21_m8_30) rfl (flt (by decide)).2.2.1 ?_
 refine s_aloadN (pc' := 34) X49.here hx (hb hby d_prog_21_m8_33) rfl rfl rfl ?_
 obtain ⟨T50, X50, e50, st50⟩ := getF X49 hx hZ hown (host := "") (Or.inl (hv hw 12 rfl)) Via.refl hE49 F1 (g := (mkF m 34 #[vr a, vi tn, .val (.long (needd tn rc)), sn, .val (.double FP.dconst0), sn, vi 1] [(.ref a)])) rfl rfl (hb hby d_prog_21_m8_34)
 refine Go.st st50 ?_
 show Go p.tables e below Kx _ (mkF m 37 _ [(.ref t)])
 refine s_iload (pc' := 39) X50.here hx (hb hby d_prog_21_m8_37) rfl rfl ?_
 obtain ⟨cl51, Ar51, Aq51, As51, An51, Ah51, Ag51⟩ := id VT
 have in52 := inb_of (j := 1) As51 (by decide)
 have at52 : cl51.slots[((1 : Int32)).toNatClampNeg]? = some (.int c1) := Ah51.at in52 rfl
 refine Go.st (X50.iaload hx (j := 1) (v := (.int c1)) (by rw [e50]; exact Ar51.1) (State.isArrayOf_alike hZ.alike Ar51.2.1) Ar51.2.2 in52 at52 (g := (mkF m 39 #[vr a, vi tn, .val (.long (needd tn rc)), sn, .val (.double FP.dconst0), sn, vi 1] [(.int 1), (.ref t)])) rfl rfl (hb hby d_prog_21_m8_39)) ?_
 show Go p.tables e below Kx _ (mkF m 40 _ [(.int c1)])
 refine s_i2l (pc' := 41) X50.here hx (hb hby d_prog_21_m8_40) rfl rfl ?_
 refine s_lloadN (pc' := 42) X50.here hx (hb hby d_prog_21_m8_41) rfl rfl ?_
 refine s_lcmp (pc' := 43) X50.here hx (hb hby d_prog_21_m8_42) rfl rfl ?_
 have J1 : ∀ (s1 : UInt64) (TJ1 : State) (LJ1 : List Loc), Stand p l e ({ frames := 1, cells := 0, slots := 0, locals := 40 } : Room) s m #[(.ref a), (.int tn)] below meth c TJ1 LJ1 0 0 → Fr n0 LJ1 → TJ1.heap = h0 → s1 = (mst FP.dconst0 c1 1 (needd tn rc)) → Go p.tables e below Kx TJ1 (mkF m 65 #[vr a, vi tn, .val (.long (needd tn rc)), sn, .val (.double s1), sn, vi 1] []) := by
  intro s1 TJ1 LJ1 XJ1 NJ1 eJ1 hs1
  subst hs1
  show Go p.tables e below Kx _ (mkF m 65 _ [])
  refine s_iinc (pc' := 68) (Ls' := #[vr a, vi tn, .val (.long (needd tn rc)), sn, .val (.double (mst FP.dconst0 c1 1 (needd tn rc))), sn, vi 2]) (z := 2) XJ1.here hx (hb hby d_prog_21_m8_65) rfl rfl (by decide) rfl ?_
  refine s_goto (pc' := 24) XJ1.here hx (hb hby d_prog_21_m8_68) (by decide) (by decide) ?_
  refine s_iload (pc' := 26) XJ1.here hx (hb hby d_prog_21_m8_24) rfl rfl ?_
  refine s_aloadN (pc' := 27) XJ1.here hx (hb hby d_prog_21_m8_26) rfl rfl rfl ?_
  obtain ⟨cq54, kq54, q54a, q54b, q54c⟩ := isOf hZ eJ1 E
  obtain ⟨_, _, ⟨T54, L54, k54, n54⟩, -, X54, ⟨Lc54, hQ54, l54, y54, z54⟩, st54⟩ := XJ1.virtualBack hx (y := yN2) (z := yN2) hown (mvT hZ (hv hw 23 rfl)) (mvT hZ (hv hw 24 rfl)) (notFace_of_selects (args := #[]) (mvT hZ (hv hw 26 rfl))) (mvT hZ (hv hw 26 rfl)) (mvT hZ (hv hw 25 rfl)) (by decide) (backOf (W := 1) (rmV1 l Z a0 hw [] a t k c1 h0 n0 X00 F1 VT) hZ (hv hw 27 rfl) (hv hw 4 rfl) (by decide) (by decide)) q54a q54c (g := (mkF m 27 #[vr a, vi tn, .val (.long (needd tn rc)), sn, .val (.double (mst FP.dconst0 c1 1 (needd tn rc))), sn, vi 2] [(.ref a), (.int 2)])) rfl (by rw [hml]; rfl) (Steps.refl _) (argsL := []) (rest := [(.int 2)]) (lenOf pd_0 rfl) rfl (by exact Nat.le_of_eq rfl) (hb hby d_prog_21_m8_27) (fun _ _ => ⟨rfl, eJ1, (by decide : 0 + 0 ≤ _), (by decide : 0 + 0 ≤ _)⟩)
  dsimp only [Pt.U, Pt.locs, Pt.cells, Pt.slots] at X54 l54 y54 z54 st54 hQ54
  rw [l54, y54, z54] at X54
  obtain ⟨rfl, Nq54, hE54⟩ := hQ54
  have N54 := Fr.app NJ1 Nq54
  refine Go.tr st54 ?_
  show Go p.tables e below Kx _ (mkF m 30 _ [(.int 1), (.int 2)])
  refine s_icmpY (pc' := 71) X54.here hx (hb hby d_prog_21_m8_30) (tlt (by decide)).2.2.1 (by decide) (by decide) ?_
  refine s_dload (pc' := 73) X54.here hx (hb hby d_prog_21_m8_71) rfl rfl ?_
  obtain ⟨fs, hr, hrun, hended, hW, hsame⟩ := X54.leave (v := (some (.double (mst FP.dconst0 c1 1 (needd tn rc))))) (fun h => by rw [Bd.returns] at h; cases h)
  refine Go.fin (retOut X54 hx Bd.returns rfl (Or.inr (Or.inr (Or.inl ⟨rfl, rfl, _, rfl⟩))) (hb hby d_prog_21_m8_73) hr) (hF _ _ hrun hended ⟨_, _, rfl, ?_, ⟨_, rfl⟩, hW, hsame.mono (by decide) (by decide)⟩)
  ·
   show QA1 Z a t k c1 rc tn h0 n0 ((some (.double (mst FP.dconst0 c1 1 (needd tn rc)))) : Option Value) T54.heap _
   rw [hE54]
   exact ⟨rfl, N54, rfl⟩
 by_cases hc53 : (lcmpW (c1.toInt64) (needd tn rc)) < (0 : Int32)
 ·
  refine s_ifY (pc' := 65) X50.here hx (hb hby d_prog_21_m8_43) ((if0 _ _).trans (tlt hc53).1) (by decide) (by decide) ?_
  exact J1 _ _ _ X50 N49 e50 (mst_lt ((lw_lt _ _).mp hc53))
 ·
  refine s_ifN (pc' := 46) X50.here hx (hb hby d_prog_21_m8_43) rfl ((if0 _ _).trans (flt hc53).1) ?_
  refine s_dload (pc' := 48) X50.here hx (hb hby d_prog_21_m8_46) rfl rfl ?_
  refine s_aloadN (pc' := 49) X50.here hx (hb hby d_prog_21_m8_48) rfl rfl rfl ?_
  obtain ⟨T55, X55, e55, st55⟩ := getF X50 hx hZ hown (host := "") (Or.inl (hv hw 12 rfl)) Via.refl e50 F1 (g := (mkF m 49 #[vr a, vi tn, .val (.long (needd tn rc)), sn, .val (.double FP.dconst0), sn, vi 1] [(.ref a), (.double FP.dconst0)])) rfl rfl (hb hby d_prog_21_m8_49)
  refine Go.st st55 ?_
  show Go p.tables e below Kx _ (mkF m 52 _ [(.ref t), (.double FP.dconst0)])
  refine s_iload (pc' := 54) X55.here hx (hb hby d_prog_21_m8_52) rfl rfl ?_
  obtain ⟨cl56, Ar56, Aq56, As56, An56, Ah56, Ag56⟩ := id VT
  have in57 := inb_of (j := 1) As56 (by decide)
  have at57 : cl56.slots[((1 : Int32)).toNatClampNeg]? = some (.int c1) := Ah56.at in57 rfl
  refine Go.st (X55.iaload hx (j := 1) (v := (.int c1)) (by rw [e55]; exact Ar56.1) (State.isArrayOf_alike hZ.alike Ar56.2.1) Ar56.2.2 in57 at57 (g := (mkF m 54 #[vr a, vi tn, .val (.long (needd tn rc)), sn, .val (.double FP.dconst0), sn, vi 1] [(.int 1), (.ref t), (.double FP.dconst0)])) rfl rfl (hb hby d_prog_21_m8_54)) ?_
  show Go p.tables e below Kx _ (mkF m 55 _ [(.int c1), (.double FP.dconst0)])
  refine s_i2d (pc' := 56) X55.here hx (hb hby d_prog_21_m8_55) rfl rfl ?_
  refine s_iload (pc' := 58) X55.here hx (hb hby d_prog_21_m8_56) rfl rfl ?_
  refine s_i2d (pc' := 59) X55.here hx (hb hby d_prog_21_m8_58) rfl rfl ?_
  refine s_ddiv (pc' := 60) X55.here hx (hb hby d_prog_21_m8_59) rfl (nnq _ (by decide)) rfl ?_
  obtain ⟨_, vm58, ⟨T58, L58, k58, n58⟩, -, X58, ⟨hQ58, hB58⟩, st58⟩ := Jvm.LawKit.callS X55 hx (y := yN4) hown (mvT hZ (hv hw 34 rfl)) (mvT hZ (hv hw 35 rfl)) (mvT hZ (hv hw 36 rfl)) (mvT hZ (hv hw 37 rfl)) (by decide) (Jvm.Free.Fl.Abs.maxD_pays (W := 0) FP.dconst0 (FP.ddiv (FP.i2d c1) (FP.i2d 1)) (mvT hZ (hv hw 37 rfl)) (by decide) (by decide)) (g := (mkF m 60 #[vr a, vi tn, .val (.long (needd tn rc)), sn, .val (.double FP.dconst0), sn, vi 1] [(.double (FP.ddiv (FP.i2d c1) (FP.i2d 1))), (.double FP.dconst0)])) rfl (by rw [hml]; rfl) (argsL := [(.double FP.dconst0), (.double (FP.ddiv (FP.i2d c1) (FP.i2d 1)))]) (rest := []) (lenOf pd_1 rfl) rfl (by exact Nat.le_of_eq rfl) (hb hby d_prog_21_m8_60) (fun _ _ => ⟨(by decide : 0 ≤ _), (by decide : 0 ≤ _), rfl, d0f.noNaN, nnq _ (by decide)⟩)
  cases hB58
  dsimp only [Pt.U, Pt.locs, Pt.cells, Pt.slots] at X58 st58
  have hE58 : (T55.setVm vm58).heap = h0 := e55
  subst hQ58
  refine Go.st st58 ?_
  show Go p.tables e below Kx (T55.setVm vm58) (mkF m 63 #[vr a, vi tn, .val (.long (needd tn rc)), sn, .val (.double FP.dconst0), sn, vi 1] [(.double (Native.java_lang_Math.nans.pick64 true FP.dconst0 (FP.ddiv (FP.i2d c1) (FP.i2d 1))))])
  refine s_dstore (pc' := 65) (Ls' := #[vr a, vi tn, .val (.long (needd tn rc)), sn, .val (.double (Native.java_lang_Math.nans.pick64 true FP.dconst0 (FP.ddiv (FP.i2d c1) (FP.i2d 1)))), sn, vi 1]) X58.here hx (hb hby d_prog_21_m8_63) rfl  rfl ?_
  exact J1 _ _ _ X58 N49 hE58 (mst_ge (fun z => hc53 ((lw_lt _ _).mpr z)))
def QN2 (Z : State) (a b : Addr) (kb : ClassId) (x1 x2 c1 c2 rc : Int32) (h0 : Heap) (n0 : Nat) (v : Option Value) (h : Heap) (L : List Loc) : Prop := v = none ∧ Fr n0 L ∧ Keep h0 h [a] ∧ Exa Z h a "com/example/kingfisher/kingfisher/eval/TopicRanking" ∧ Fld Z h a "com/example/kingfisher/kingfisher/eval/TopicRanking" "relevantCount" "I" (.int rc) ∧ ∃ (t : Addr) (k : ClassId), Fld Z h a "com/example/kingfisher/kingfisher/eval/TopicRanking" "relevantWithin" "[I" (.ref t) ∧ Arv Z h t k .int 3 [(.int 0), (.int c1), (.int c2)] (.int 0)
set_option maxRecDepth 65536 in
set_option maxHeartbeats 40000000 in
theorem rmN2 (l : Launch) (Z : State) (a0 : Array Value) (hw : ∀ d ∈ tables_1, d.before a0 Z = true) (ws : List Jvm.Cond) (a b : Addr) (kb : ClassId) (x1 x2 c1 c2 rc : Int32) (h0 : Heap) (n0 : Nat) (X00 : Old Z n0 h0) (ge_a : n0 ≤ a) (hne : b ≠ a) (E : Exa Z h0 a "com/example/kingfisher/kingfisher/eval/TopicRanking") (F1 : Fld Z h0 a "com/example/kingfisher/kingfisher/eval/TopicRanking" "relevantWithin" "[I" .null) (F2 : Fld Z h0 a "com/example/kingfisher/kingfisher/eval/TopicRanking" "relevantCount" "I" (.int 0)) (VB : Arv Z h0 b kb .boolean (2 : Int32) [(.int x1), (.int x2)] (.int 0)) (hc1 : ((0 : Int32) + (if x1 = (0 : Int32) then (0 : Int32) else (1 : Int32))) = c1) (hc2 : (c1 + (if x2 = (0 : Int32) then (0 : Int32) else (1 : Int32))) = c2) :
  MetFree l yN0 (head1 (Jvm.Cond.code yN0 prog_21_method_1_code 4 none :: ws) ({ frames := 1, cells := 1, slots := 3, locals := 20 } : Room)) (fun aa U => aa = #[(.ref a), (.ref b), (.int rc)] ∧ Z.Warmed39 U.vm ∧ U.heap = h0) (fun _ _ _ _ _ => True) (fun _ U o U' => ∃ v L, o = .returned v ∧ QN2 Z a b kb x1 x2 c1 c2 rc h0 n0 v U'.heap L ∧ FrameEnd U o U' L ({ frames := 1, cells := 1, slots := 3, locals := 20 } : Room).cells ({ frames := 1, cells := 1, slots := 3, locals := 20 } : Room).slots) := by
 refine MetFree.of_bodySF (plainFor_of_name pn_0) hisR ?_
 intro p e s m args below meth c s₁ Bd hml0 hP hK
 obtain ⟨rfl, hZ, hh⟩ := hP
 have hx := Bd.exec
 have hby := Bd.bytes
 have hml : c.maxLocals = 4 := hml0
 have hown : s.vm.findClass "com/example/kingfisher/kingfisher/eval/TopicRanking" = some m.cls := findClass_of_methodNamed Bd.named
 have hnm := (name_of_methodNamed Bd.named Bd.method).1
 have X0 : Stand p l e ({ frames := 1, cells := 1, slots := 3, locals := 20 } : Room) s m #[(.ref a), (.ref b), (.int rc)] below meth c s₁ [] 0 0 := Stand.of_body Bd
 have e0 : s₁.heap = h0 := by rw [← hh, Bd.state]; rfl
 have N0 := Fr.nil n0
 have K0 := Keep.refl h0 [a]
 have ef : entryFrame m #[(.ref a), (.ref b), (.int rc)] 4 = mkF m 0 #[vr a, vr b, vi rc, un] [] := (by first | (simp [entryFrame, mkF, argsToLocals, Value.category]; done) | rfl : entryFrame m #[(.ref a), (.ref b), (.int rc)] 4 = mkF m 0 #[vr a, vr b, vi rc, un] [])
 rw [ef]
 refine fin_of fun Kx hF => ?_
 show Go p.tables e below Kx _ (mkF m 0 _ [])
 refine s_aloadN (pc' := 1) X0.here hx (hb hby d_prog_21_m1_0) rfl rfl rfl ?_
 obtain ⟨T59, X59, e59, st59⟩ := initO X0 hx hZ hown (hv hw 8 rfl) (hv hw 9 rfl) (hv hw 10 rfl) e0 (g := (mkF m 1 #[vr a, vr b, vi rc, un] [(.ref a)])) rfl (by rw [hml]; rfl) rfl (hb hby d_prog_21_m1_1) (by decide) (W := 0) (by exact Nat.le_of_eq rfl) (by decide)
 refine Go.st st59 ?_
 show Go p.tables e below Kx _ (mkF m 4 _ [])
 refine s_aloadN (pc' := 5) X59.here hx (hb hby d_prog_21_m1_4) rfl rfl rfl ?_
 refine s_aloadN (pc' := 6) X59.here hx (hb hby d_prog_21_m1_5) rfl rfl rfl ?_
 obtain ⟨cl60, Ar60, Aq60, As60, An60, Ah60, Ag60⟩ := id VB
 refine Go.st (X59.arraylength hx (by rw [e59]; exact Ar60.1) (State.isArrayOf_alike hZ.alike Ar60.2.1) (g := (mkF m 6 #[vr a, vr b, vi rc, un] [(.ref b), (.ref a)])) rfl rfl (hb hby d_prog_21_m1_6)) ?_
 rw [len_of As60 An60]
 show Go p.tables e below Kx _ (mkF m 7 _ [(.int 2), (.ref a)])
 refine s_iconst (pc' := 8) (v := 1) X59.here hx (hb hby d_prog_21_m1_7) rfl rfl ?_
 refine s_iadd (pc' := 9) (z := 3) X59.here hx (hb hby d_prog_21_m1_8) rfl (by decide) ?_
 obtain ⟨T61, h61, k61, X61, e61, E61, A61, st61⟩ := newP X59 hx hZ (hv hw 11 rfl) e59 (g := (mkF m 9 #[vr a, vr b, vi rc, un] [(.int 3), (.ref a)])) rfl (hb hby d_prog_21_m1_9) rfl (by decide) (cap := 3) (by decide) (by decide) (by decide) (by decide)
 obtain ⟨b61, g61⟩ : ∃ z, z = h0.size := ⟨_, rfl⟩
 rw [← g61] at A61 st61
 have sz61 : h0.size ≤ b61 := Nat.le_trans K0.1 (Nat.le_of_eq g61.symm)
 have ge61 : n0 ≤ b61 := Nat.le_trans (X00.1 ▸ X00.2.1) (Nat.le_of_eq g61.symm)
 have K61 : Keep h0 h61 [a] := K0.ext E61
 have O61 : Old Z n0 h61 := X00.ext E61
 have V61 : Arv Z h61 b61 k61 .int 3 [(.int 0), (.int 0), (.int 0)] (.int 0) := (Arv.new A61 (by decide)).pad (pad_rep [] (.int 0) 3)
 refine Go.st st61 ?_
 show Go p.tables e below Kx _ (mkF m 11 _ [(.ref b61), (.ref a)])
 have f62 : Fld Z h61 a "com/example/kingfisher/kingfisher/eval/TopicRanking" "relevantWithin" "[I" .null := (F1.ext E61)
 have f63 : Exa Z h61 a "com/example/kingfisher/kingfisher/eval/TopicRanking" := (E.ext E61)
 obtain ⟨T64, h64, X64, e64, W64, st64⟩ := putF X61 hx hZ hown (host := "") (Or.inl (hv hw 12 rfl)) Via.refl e61 f62 f63 (Or.inr ⟨(hv hw 13 rfl), rfl, hnm⟩) (hv hw 3 rfl) (ty := (.array .int)) (by decide) rfl rfl (g := (mkF m 11 #[vr a, vr b, vi rc, un] [(.ref b61), (.ref a)])) rfl rfl (hb hby d_prog_21_m1_11)
 have Fw64 : Fld Z h64 a "com/example/kingfisher/kingfisher/eval/TopicRanking" "relevantWithin" "[I" (.ref b61) := f62.same W64
 have K64 : Keep h0 h64 [a] := K61.wr W64 (Or.inl (List.mem_of_getElem? (i := 0) rfl))
 have O64 : Old Z n0 h64 := O61.wr W64 ge_a
 have N64 := Fr.snoc X64 N0 ge_a
 refine Go.st st64 ?_
 show Go p.tables e below Kx _ (mkF m 14 _ [])
 refine s_iconst (pc' := 15) (v := 1) X64.here hx (hb hby d_prog_21_m1_14) rfl rfl ?_
 refine s_istoreN (pc' := 16) (Ls' := #[vr a, vr b, vi rc, vi 1]) X64.here hx (hb hby d_prog_21_m1_15) rfl  rfl ?_
 refine s_iloadN (pc' := 17) X64.here hx (hb hby d_prog_21_m1_16) rfl rfl ?_
 refine s_aloadN (pc' := 18) X64.here hx (hb hby d_prog_21_m1_17) rfl rfl rfl ?_
 have f65 : Arv Z h64 b kb .boolean 2 [(.int x1), (.int x2)] (.int 0) := ((VB.ext E61).other W64 hne)
 obtain ⟨cl66, Ar66, Aq66, As66, An66, Ah66, Ag66⟩ := id f65
 refine Go.st (X64.arraylength hx (by rw [e64]; exact Ar66.1) (State.isArrayOf_alike hZ.alike Ar66.2.1) (g := (mkF m 18 #[vr a, vr b, vi rc, vi 1] [(.ref b), (.int 1)])) rfl rfl (hb hby d_prog_21_m1_18)) ?_
 rw [len_of As66 An66]
 show Go p.tables e below Kx _ (mkF m 19 _ [(.int 2), (.int 1)])
 refine s_icmpN (pc' := 22) X64.here hx (hb hby d_prog_21_m1_19) rfl (flt (by decide)).2.2.1 ?_
 refine s_aloadN (pc' := 23) X64.here hx (hb hby d_prog_21_m1_22) rfl rfl rfl ?_
 obtain ⟨T67, X67, e67, st67⟩ := getF X64 hx hZ hown (host := "") (Or.inl (hv hw 12 rfl)) Via.refl e64 Fw64 (g := (mkF m 23 #[vr a, vr b, vi rc, vi 1] [(.ref a)])) rfl rfl (hb hby d_prog_21_m1_23)
 refine Go.st st67 ?_
 show Go p.tables e below Kx _ (mkF m 26 _ [(.ref b61)])
 refine s_iloadN (pc' := 27) X67.here hx (hb hby d_prog_21_m1_26) rfl rfl ?_
 refine s_aloadN (pc' := 28) X67.here hx (hb hby d_prog_21_m1_27) rfl rfl rfl ?_
 obtain ⟨T68, X68, e68, st68⟩ := getF X67 hx hZ hown (host := "") (Or.inl (hv hw 12 rfl)) Via.refl e67 Fw64 (g := (mkF m 28 #[vr a, vr b, vi rc, vi 1] [(.ref a), (.int 1), (.ref b61)])) rfl rfl (hb hby d_prog_21_m1_28)
 refine Go.st st68 ?_
 show Go p.tables e below Kx _ (mkF m 31 _ [(.ref b61), (.int 1), (.ref b61)])
 refine s_iloadN (pc' := 32) X68.here hx (hb hby d_prog_21_m1_31) rfl rfl ?_
 refine s_iconst (pc' := 33) (v := 1) X68.here hx (hb hby d_prog_21_m1_32) rfl rfl ?_
 refine s_isub (pc' := 34) (z := 0) X68.here hx (hb hby d_prog_21_m1_33) rfl (by decide) ?_
 have f69 : Arv Z h64 b61 k61 .int 3 [(.int 0), (.int 0), (.int 0)] (.int 0) := (V61.other W64 (Ne.symm (Nat.ne_of_lt (Nat.lt_of_lt_of_le E.lt (Nat.le_of_eq g61.symm)))))
 obtain ⟨cl70, Ar70, Aq70, As70, An70, Ah70, Ag70⟩ := id f69
 have in71 := inb_of (j := 0) As70 (by decide)
 have at71 : cl70.slots[((0 : Int32)).toNatClampNeg]? = some (.int 0) := Ah70.at in71 rfl
 refine Go.st (X68.iaload hx (j := 0) (v := (.int 0)) (by rw [e68]; exact Ar70.1) (State.isArrayOf_alike hZ.alike Ar70.2.1) Ar70.2.2 in71 at71 (g := (mkF m 34 #[vr a, vr b, vi rc, vi 1] [(.int 0), (.ref b61), (.int 1), (.ref b61)])) rfl rfl (hb hby d_prog_21_m1_34)) ?_
 show Go p.tables e below Kx _ (mkF m 35 _ [(.int 0), (.int 1), (.ref b61)])
 refine s_aloadN (pc' := 36) X68.here hx (hb hby d_prog_21_m1_35) rfl rfl rfl ?_
 refine s_iloadN (pc' := 37) X68.here hx (hb hby d_prog_21_m1_36) rfl rfl ?_
 refine s_iconst (pc' := 38) (v := 1) X68.here hx (hb hby d_prog_21_m1_37) rfl rfl ?_
 refine s_isub (pc' := 39) (z := 0) X68.here hx (hb hby d_prog_21_m1_38) rfl (by decide) ?_
 obtain ⟨cl72, Ar72, Aq72, As72, An72, Ah72, Ag72⟩ := id f65
 have in73 := inb_of (j := 0) As72 (by decide)
 have at73 : cl72.slots[((0 : Int32)).toNatClampNeg]? = some (.int x1) := Ah72.at in73 rfl
 refine Go.st (X68.baloadBooleans hx (j := 0) (v := (.int x1)) (by rw [e68]; exact Ar72.1) (State.isArrayOf_alike hZ.alike Ar72.2.1) Ar72.2.2 in73 at73 (g := (mkF m 39 #[vr a, vr b, vi rc, vi 1] [(.int 0), (.ref b), (.int 0), (.int 1), (.ref b61)])) rfl rfl (hb hby d_prog_21_m1_39)) ?_
 show Go p.tables e below Kx _ (mkF m 40 _ [(.int x1), (.int 0), (.int 1), (.ref b61)])
 suffices J75 : Go p.tables e below Kx T68 (mkF m 48 #[vr a, vr b, vi rc, vi 1] [(.int (if x1 = (0 : Int32) then (0 : Int32) else (1 : Int32))), (.int 0), (.int 1), (.ref b61)]) by
  by_cases hc74 : x1 = (0 : Int32)
  ·
   simp only [if_pos hc74] at J75
   refine s_ifY (pc' := 47) X68.here hx (hb hby d_prog_21_m1_40) ((if0 _ _).trans (teq hc74).1) (by decide) (by decide) ?_
   refine s_iconst (pc' := 48) (v := 0) X68.here hx (hb hby d_prog_21_m1_47) rfl rfl ?_
   exact J75
  ·
   simp only [if_neg hc74] at J75
   refine s_ifN (pc' := 43) X68.here hx (hb hby d_prog_21_m1_40) rfl ((if0 _ _).trans (feq hc74).1) ?_
   refine s_iconst (pc' := 44) (v := 1) X68.here hx (hb hby d_prog_21_m1_43) rfl rfl ?_
   refine s_goto (pc' := 48) X68.here hx (hb hby d_prog_21_m1_44) (by decide) (by decide) ?_
   exact J75
 refine s_iadd (pc' := 49) X68.here hx (hb hby d_prog_21_m1_48) rfl rfl ?_
 rw [hc1]
 show Go p.tables e below Kx _ (mkF m 49 _ [(.int c1), (.int 1), (.ref b61)])
 obtain ⟨cl76, Ar76, Aq76, As76, An76, Ah76, Ag76⟩ := id f69
 have in77 := inb_of (j := 1) As76 (by decide)
 obtain ⟨T77, h77, X77, e77, W77, st77⟩ := stI X68 hx hZ e68 Ar76 (j := 1) in77 (g := (mkF m 49 #[vr a, vr b, vi rc, vi 1] [(.int c1), (.int 1), (.ref b61)])) rfl rfl (hb hby d_prog_21_m1_49)
 have V77 : Arv Z h77 b61 k61 .int 3 [(.int 0), (.int c1), (.int 0)] (.int 0) := Arv.set Ar76 Aq76 As76 An76 Ah76 Ag76 rfl W77 1 rfl (Nat.le_of_ble_eq_true rfl)
 have K77 : Keep h0 h77 [a] := K64.wr W77 (Or.inr sz61)
 have O77 : Old Z n0 h77 := O64.wr W77 ge61
 have N77 := Fr.snoc X77 N64 ge61
 refine Go.st st77 ?_
 show Go p.tables e below Kx _ (mkF m 50 _ [])
 refine s_iinc (pc' := 53) (Ls' := #[vr a, vr b, vi rc, vi 2]) (z := 2) X77.here hx (hb hby d_prog_21_m1_50) rfl rfl (by decide) rfl ?_
 refine s_goto (pc' := 16) X77.here hx (hb hby d_prog_21_m1_53) (by decide) (by decide) ?_
 refine s_iloadN (pc' := 17) X77.here hx (hb hby d_prog_21_m1_16) rfl rfl ?_
 refine s_aloadN (pc' := 18) X77.here hx (hb hby d_prog_21_m1_17) rfl rfl rfl ?_
 have f78 : Arv Z h77 b kb .boolean 2 [(.int x1), (.int x2)] (.int 0) := (f65.other W77 (Nat.ne_of_lt (Nat.lt_of_lt_of_le VB.lt (Nat.le_of_eq g61.symm))))
 obtain ⟨cl79, Ar79, Aq79, As79, An79, Ah79, Ag79⟩ := id f78
 refine Go.st (X77.arraylength hx (by rw [e77]; exact Ar79.1) (State.isArrayOf_alike hZ.alike Ar79.2.1) (g := (mkF m 18 #[vr a, vr b, vi rc, vi 2] [(.ref b), (.int 2)])) rfl rfl (hb hby d_prog_21_m1_18)) ?_
 rw [len_of As79 An79]
 show Go p.tables e below Kx _ (mkF m 19 _ [(.int 2), (.int 2)])
 refine s_icmpN (pc' := 22) X77.here hx (hb hby d_prog_21_m1_19) rfl (flt (by decide)).2.2.1 ?_
 refine s_aloadN (pc' := 23) X77.here hx (hb hby d_prog_21_m1_22) rfl rfl rfl ?_
 have f80 : Fld Z h77 a "com/example/kingfisher/kingfisher/eval/TopicRanking" "relevantWithin" "[I" (.ref b61) := (Fw64.other W77 (Or.inl (Nat.ne_of_lt (Nat.lt_of_lt_of_le E.lt (Nat.le_of_eq g61.symm)))))
 obtain ⟨T81, X81, e81, st81⟩ := getF X77 hx hZ hown (host := "") (Or.inl (hv hw 12 rfl)) Via.refl e77 f80 (g := (mkF m 23 #[vr a, vr b, vi rc, vi 2] [(.ref a)])) rfl rfl (hb hby d_prog_21_m1_23)
 refine Go.st st81 ?_
 show Go p.tables e below Kx _ (mkF m 26 _ [(.ref b61)])
 refine s_iloadN (pc' := 27) X81.here hx (hb hby d_prog_21_m1_26) rfl rfl ?_
 refine s_aloadN (pc' := 28) X81.here hx (hb hby d_prog_21_m1_27) rfl rfl rfl ?_
 obtain ⟨T82, X82, e82, st82⟩ := getF X81 hx hZ hown (host := "") (Or.inl (hv hw 12 rfl)) Via.refl e81 f80 (g := (mkF m 28 #[vr a, vr b, vi rc, vi 2] [(.ref a), (.int 2), (.ref b61)])) rfl rfl (hb hby d_prog_21_m1_28)
 refine Go.st st82 ?_
 show Go p.tables e below Kx _ (mkF m 31 _ [(.ref b61), (.int 2), (.ref b61)])
 refine s_iloadN (pc' := 32) X82.here hx (hb hby d_prog_21_m1_31) rfl rfl ?_
 refine s_iconst (pc' := 33) (v := 1) X82.here hx (hb hby d_prog_21_m1_32) rfl rfl ?_
 refine s_isub (pc' := 34) (z := 1) X82.here hx (hb hby d_prog_21_m1_33) rfl (by decide) ?_
 obtain ⟨cl83, Ar83, Aq83, As83, An83, Ah83, Ag83⟩ := id V77
 have in84 := inb_of (j := 1) As83 (by decide)
 have at84 : cl83.slots[((1 : Int32)).toNatClampNeg]? = some (.int c1) := Ah83.at in84 rfl
 refine Go.st (X82.iaload hx (j := 1) (v := (.int c1)) (by rw [e82]; exact Ar83.1) (State.isArrayOf_alike hZ.alike Ar83.2.1) Ar83.2.2 in84 at84 (g := (mkF m 34 #[vr a, vr b, vi rc, vi 2] [(.int 1), (.ref b61), (.int 2), (.ref b61)])) rfl rfl (hb hby d_prog_21_m1_34)) ?_
 show Go p.tables e below Kx _ (mkF m 35 _ [(.int c1), (.int 2), (.ref b61)])
 refine s_aloadN (pc' := 36) X82.here hx (hb hby d_prog_21_m1_35) rfl rfl rfl ?_
 refine s_iloadN (pc' := 37) X82.here hx (hb hby d_prog_21_m1_36) rfl rfl ?_
 refine s_iconst (pc' := 38) (v := 1) X82.here hx (hb hby d_prog_21_m1_37) rfl rfl ?_
 refine s_isub (pc' := 39) (z := 1) X82.here hx (hb hby d_prog_21_m1_38) rfl (by decide) ?_
 obtain ⟨cl85, Ar85, Aq85, As85, An85, Ah85, Ag85⟩ := id f78
 have in86 := inb_of (j := 1) As85 (by decide)
 have at86 : cl85.slots[((1 : Int32)).toNatClampNeg]? = some (.int x2) := Ah85.at in86 rfl
 refine Go.st (X82.baloadBooleans hx (j := 1) (v := (.int x2)) (by rw [e82]; exact Ar85.1) (State.isArrayOf_alike hZ.alike Ar85.2.1) Ar85.2.2 in86 at86 (g := (mkF m 39 #[vr a, vr b, vi rc, vi 2] [(.int 1), (.ref b), (.int c1), (.int 2), (.ref b61)])) rfl rfl (hb hby d_prog_21_m1_39)) ?_
 show Go p.tables e below Kx _ (mkF m 40 _ [(.int x2), (.int c1), (.int 2), (.ref b61)])
 suffices J88 : Go p.tables e below Kx T82 (mkF m 48 #[vr a, vr b, vi rc, vi 2] [(.int (if x2 = (0 : Int32) then (0 : Int32) else (1 : Int32))), (.int c1), (.int 2), (.ref b61)]) by
  by_cases hc87 : x2 = (0 : Int32)
  ·
   simp only [if_pos hc87] at J88
   refine s_ifY (pc' := 47) X82.here hx (hb hby d_prog_21_m1_40) ((if0 _ _).trans (teq hc87).1) (by decide) (by decide) ?_
   refine s_iconst (pc' := 48) (v := 0) X82.here hx (hb hby d_prog_21_m1_47) rfl rfl ?_
   exact J88
  ·
   simp only [if_neg hc87] at J88
   refine s_ifN (pc' := 43) X82.here hx (hb hby d_prog_21_m1_40) rfl ((if0 _ _).trans (feq hc87).1) ?_
   refine s_iconst (pc' := 44) (v := 1) X82.here hx (hb hby d_prog_21_m1_43) rfl rfl ?_
   refine s_goto (pc' := 48) X82.here hx (hb hby d_prog_21_m1_44) (by decide) (by decide) ?_
   exact J88
 refine s_iadd (pc' := 49) X82.here hx (hb hby d_prog_21_m1_48) rfl rfl ?_
 rw [hc2]
 show Go p.tables e below Kx _ (mkF m 49 _ [(.int c2), (.int 2), (.ref b61)])
 obtain ⟨cl89, Ar89, Aq89, As89, An89, Ah89, Ag89⟩ := id V77
 have in90 := inb_of (j := 2) As89 (by decide)
 obtain ⟨T90, h90, X90, e90, W90, st90⟩ := stI X82 hx hZ e82 Ar89 (j := 2) in90 (g := (mkF m 49 #[vr a, vr b, vi rc, vi 2] [(.int c2), (.int 2), (.ref b61)])) rfl rfl (hb hby d_prog_21_m1_49)
 have V90 : Arv Z h90 b61 k61 .int 3 [(.int 0), (.int c1), (.int c2)] (.int 0) := Arv.set Ar89 Aq89 As89 An89 Ah89 Ag89 rfl W90 2 rfl (Nat.le_of_ble_eq_true rfl)
 have K90 : Keep h0 h90 [a] := K77.wr W90 (Or.inr sz61)
 have O90 : Old Z n0 h90 := O77.wr W90 ge61
 have N90 := Fr.snoc X90 N77 ge61
 refine Go.st st90 ?_
 show Go p.tables e below Kx _ (mkF m 50 _ [])
 refine s_iinc (pc' := 53) (Ls' := #[vr a, vr b, vi rc, vi 3]) (z := 3) X90.here hx (hb hby d_prog_21_m1_50) rfl rfl (by decide) rfl ?_
 refine s_goto (pc' := 16) X90.here hx (hb hby d_prog_21_m1_53) (by decide) (by decide) ?_
 refine s_iloadN (pc' := 17) X90.here hx (hb hby d_prog_21_m1_16) rfl rfl ?_
 refine s_aloadN (pc' := 18) X90.here hx (hb hby d_prog_21_m1_17) rfl rfl rfl ?_
 have f91 : Arv Z h90 b kb .boolean 2 [(.int x1), (.int x2)] (.int 0) := (f78.other W90 (Nat.ne_of_lt (Nat.lt_of_lt_of_le VB.lt (Nat.le_of_eq g61.symm))))
 obtain ⟨cl92, Ar92, Aq92, As92, An92, Ah92, Ag92⟩ := id f91
 refine Go.st (X90.arraylength hx (by rw [e90]; exact Ar92.1) (State.isArrayOf_alike hZ.alike Ar92.2.1) (g := (mkF m 18 #[vr a, vr b, vi rc, vi 3] [(.ref b), (.int 3)])) rfl rfl (hb hby d_prog_21_m1_18)) ?_
 rw [len_of As92 An92]
 show Go p.tables e below Kx _ (mkF m 19 _ [(.int 2), (.int 3)])
 refine s_icmpY (pc' := 56) X90.here hx (hb hby d_prog_21_m1_19) (tlt (by decide)).2.2.1 (by decide) (by decide) ?_
 refine s_aloadN (pc' := 57) X90.here hx (hb hby d_prog_21_m1_56) rfl rfl rfl ?_
 refine s_iloadN (pc' := 58) X90.here hx (hb hby d_prog_21_m1_57) rfl rfl ?_
 have f93 : Fld Z h90 a "com/example/kingfisher/kingfisher/eval/TopicRanking" "relevantCount" "I" (.int 0) := ((((F2.ext E61).other W64 (Or.inr (slot_ne (Or.inr (hv hw 15 rfl)) (Or.inr (hv hw 13 rfl)) (by decide) (t := .int) (t' := (.array .int)) (by decide) (by decide)))).other W77 (Or.inl (Nat.ne_of_lt (Nat.lt_of_lt_of_le E.lt (Nat.le_of_eq g61.symm))))).other W90 (Or.inl (Nat.ne_of_lt (Nat.lt_of_lt_of_le E.lt (Nat.le_of_eq g61.symm)))))
 have f94 : Exa Z h90 a "com/example/kingfisher/kingfisher/eval/TopicRanking" := (((f63.wr W64).wr W77).wr W90)
 obtain ⟨T95, h95, X95, e95, W95, st95⟩ := putF X90 hx hZ hown (host := "") (Or.inl (hv hw 14 rfl)) Via.refl e90 f93 f94 (Or.inr ⟨(hv hw 15 rfl), rfl, hnm⟩) (hv hw 3 rfl) (ty := .int) (by decide) rfl rfl (g := (mkF m 58 #[vr a, vr b, vi rc, vi 3] [(.int rc), (.ref a)])) rfl rfl (hb hby d_prog_21_m1_58)
 have Fw95 : Fld Z h95 a "com/example/kingfisher/kingfisher/eval/TopicRanking" "relevantCount" "I" (.int rc) := f93.same W95
 have K95 : Keep h0 h95 [a] := K90.wr W95 (Or.inl (List.mem_of_getElem? (i := 0) rfl))
 have O95 : Old Z n0 h95 := O90.wr W95 ge_a
 have N95 := Fr.snoc X95 N90 ge_a
 refine Go.st st95 ?_
 show Go p.tables e below Kx _ (mkF m 61 _ [])
 have f96 : Exa Z h95 a "com/example/kingfisher/kingfisher/eval/TopicRanking" := (f94.wr W95)
 have f97 : Fld Z h95 a "com/example/kingfisher/kingfisher/eval/TopicRanking" "relevantWithin" "[I" (.ref b61) := ((f80.other W90 (Or.inl (Nat.ne_of_lt (Nat.lt_of_lt_of_le E.lt (Nat.le_of_eq g61.symm))))).other W95 (Or.inr (slot_ne (Or.inr (hv hw 13 rfl)) (Or.inr (hv hw 15 rfl)) (by decide) (t := (.array .int)) (t' := .int) (by decide) (by decide))))
 have f98 : Arv Z h95 b61 k61 .int 3 [(.int 0), (.int c1), (.int c2)] (.int 0) := (V90.other W95 (Ne.symm (Nat.ne_of_lt (Nat.lt_of_lt_of_le E.lt (Nat.le_of_eq g61.symm)))))
 obtain ⟨fs, hr, hrun, hended, hW, hsame⟩ := X95.leave (v := none) (fun _ => rfl)
 refine Go.fin (X95.returnOut hx Bd.returns (hb hby d_prog_21_m1_61) hr) (hF _ _ hrun hended ⟨_, _, rfl, ?_, ⟨_, rfl⟩, hW, hsame.mono (by decide) (by decide)⟩)
 ·
  show QN2 Z a b kb x1 x2 c1 c2 rc h0 n0 (none : Option Value) T95.heap _
  rw [e95]
  exact ⟨rfl, N95, K95, f96, Fw95, b61, _, f97, f98⟩
def QV2 (Z : State) (a t : Addr) (k : ClassId) (c1 c2 : Int32) (h0 : Heap) (n0 : Nat) (v : Option Value) (h : Heap) (L : List Loc) : Prop := v = some (.int 2) ∧ Fr n0 L ∧ h = h0
set_option maxRecDepth 65536 in
set_option maxHeartbeats 40000000 in
theorem rmV2 (l : Launch) (Z : State) (a0 : Array Value) (hw : ∀ d ∈ tables_1, d.before a0 Z = true) (ws : List Jvm.Cond) (a t : Addr) (k : ClassId) (c1 c2 : Int32) (h0 : Heap) (n0 : Nat) (X00 : Old Z n0 h0) (F1 : Fld Z h0 a "com/example/kingfisher/kingfisher/eval/TopicRanking" "relevantWithin" "[I" (.ref t)) (VT : Arv Z h0 t k .int 3 [(.int 0), (.int c1), (.int c2)] (.int 0)) :
  MetFree l yN2 (head1 (Jvm.Cond.code yN2 prog_21_method_2_code 1 (some .int) :: ws) ({ frames := 0, cells := 0, slots := 0, locals := 0 } : Room)) (fun aa U => aa = #[(.ref a)] ∧ Z.Warmed39 U.vm ∧ U.heap = h0) (fun _ _ _ _ _ => True) (fun _ U o U' => ∃ v L, o = .returned v ∧ QV2 Z a t k c1 c2 h0 n0 v U'.heap L ∧ FrameEnd U o U' L ({ frames := 0, cells := 0, slots := 0, locals := 0 } : Room).cells ({ frames := 0, cells := 0, slots := 0, locals := 0 } : Room).slots) := by
 refine MetFree.of_bodySF (plainFor_of_name pn_0) hisR ?_
 intro p e s m args below meth c s₁ Bd hml0 hP hK
 obtain ⟨rfl, hZ, hh⟩ := hP
 have hx := Bd.exec
 have hby := Bd.bytes
 have hml : c.maxLocals = 1 := hml0
 have hown : s.vm.findClass "com/example/kingfisher/kingfisher/eval/TopicRanking" = some m.cls := findClass_of_methodNamed Bd.named
 have hnm := (name_of_methodNamed Bd.named Bd.method).1
 have X0 : Stand p l e ({ frames := 0, cells := 0, slots := 0, locals := 0 } : Room) s m #[(.ref a)] below meth c s₁ [] 0 0 := Stand.of_body Bd
 have e0 : s₁.heap = h0 := by rw [← hh, Bd.state]; rfl
 have N0 := Fr.nil n0
 have K0 := Keep.refl h0 []
 have ef : entryFrame m #[(.ref a)] 1 = mkF m 0 #[vr a] [] := (by first | (simp [entryFrame, mkF, argsToLocals, Value.category]; done) | rfl : entryFrame m #[(.ref a)] 1 = mkF m 0 #[vr a] [])
 rw [ef]
 refine fin_of fun Kx hF => ?_
 show Go p.tables e below Kx _ (mkF m 0 _ [])
 refine s_aloadN (pc' := 1) X0.here hx (hb hby d_prog_21_m2_0) rfl rfl rfl ?_
 obtain ⟨T99, X99, e99, st99⟩ := getF X0 hx hZ hown (host := "") (Or.inl (hv hw 12 rfl)) Via.refl e0 F1 (g := (mkF m 1 #[vr a] [(.ref a)])) rfl rfl (hb hby d_prog_21_m2_1)
 refine Go.st st99 ?_
 show Go p.tables e below Kx _ (mkF m 4 _ [(.ref t)])
 obtain ⟨cl100, Ar100, Aq100, As100, An100, Ah100, Ag100⟩ := id VT
 refine Go.st (X99.arraylength hx (by rw [e99]; exact Ar100.1) (State.isArrayOf_alike hZ.alike Ar100.2.1) (g := (mkF m 4 #[vr a] [(.ref t)])) rfl rfl (hb hby d_prog_21_m2_4)) ?_
 rw [len_of As100 An100]
 show Go p.tables e below Kx _ (mkF m 5 _ [(.int 3)])
 refine s_iconst (pc' := 6) (v := 1) X99.here hx (hb hby d_prog_21_m2_5) rfl rfl ?_
 refine s_isub (pc' := 7) (z := 2) X99.here hx (hb hby d_prog_21_m2_6) rfl (by decide) ?_
 obtain ⟨fs, hr, hrun, hended, hW, hsame⟩ := X99.leave (v := (some (.int 2))) (fun h => by rw [Bd.returns] at h; cases h)
 refine Go.fin (retI X99 hx Bd.returns (hb hby d_prog_21_m2_7) hr) (hF _ _ hrun hended ⟨_, _, rfl, ?_, ⟨_, rfl⟩, hW, hsame.mono (by decide) (by decide)⟩)
 ·
  show QV2 Z a t k c1 c2 h0 n0 ((some (.int 2)) : Option Value) T99.heap _
  rw [e99]
  exact ⟨rfl, N0, rfl⟩
def QA2 (Z : State) (a t : Addr) (k : ClassId) (c1 c2 : Int32) (rc tn : Int32) (h0 : Heap) (n0 : Nat) (v : Option Value) (h : Heap) (L : List Loc) : Prop := v = some (.double (mst (mst FP.dconst0 c1 1 (needd tn rc)) c2 2 (needd tn rc))) ∧ Fr n0 L ∧ h = h0
set_option maxRecDepth 65536 in
set_option maxHeartbeats 40000000 in
theorem rmA2 (l : Launch) (Z : State) (a0 : Array Value) (hw : ∀ d ∈ tables_1, d.before a0 Z = true) (ws : List Jvm.Cond) (a t : Addr) (k : ClassId) (c1 c2 : Int32) (rc tn : Int32) (h0 : Heap) (n0 : Nat) (X00 : Old Z n0 h0) (hrc : rc ≠ 0) (E : Exa Z h0 a "com/example/kingfisher/kingfisher/eval/TopicRanking") (F1 : Fld Z h0 a "com/example/kingfisher/kingfisher/eval/TopicRanking" "relevantWithin" "[I" (.ref t)) (F2 : Fld Z h0 a "com/example/kingfisher/kingfisher/eval/TopicRanking" "relevantCount" "I" (.int rc)) (VT : Arv Z h0 t k .int 3 [(.int 0), (.int c1), (.int c2)] (.int 0)) :
  MetFree l yN1 (head1 (Jvm.Cond.code yN1 prog_21_method_8_code 7 (some .double) :: ws) ({ frames := 1, cells := 0, slots := 0, locals := 40 } : Room)) (fun aa U => aa = #[(.ref a), (.int tn)] ∧ Z.Warmed39 U.vm ∧ U.heap = h0) (fun _ _ _ _ _ => True) (fun _ U o U' => ∃ v L, o = .returned v ∧ QA2 Z a t k c1 c2 rc tn h0 n0 v U'.heap L ∧ FrameEnd U o U' L ({ frames := 1, cells := 0, slots := 0, locals := 40 } : Room).cells ({ frames := 1, cells := 0, slots := 0, locals := 40 } : Room).slots) := by
 refine MetFree.of_bodySF (plainFor_of_name pn_0) hisR ?_
 intro p e s m args below meth c s₁ Bd hml0 hP hK
 obtain ⟨rfl, hZ, hh⟩ := hP
 have hx := Bd.exec
 have hby := Bd.bytes
 have hml : c.maxLocals = 7 := hml0
 have hown : s.vm.findClass "com/example/kingfisher/kingfisher/eval/TopicRanking" = some m.cls := findClass_of_methodNamed Bd.named
 have hnm := (name_of_methodNamed Bd.named Bd.method).1
 have X0 : Stand p l e ({ frames := 1, cells := 0, slots := 0, locals := 40 } : Room) s m #[(.ref a), (.int tn)] below meth c s₁ [] 0 0 := Stand.of_body Bd
 have e0 : s₁.heap = h0 := by rw [← hh, Bd.state]; rfl
 have N0 := Fr.nil n0
 have K0 := Keep.refl h0 []
 have ef : entryFrame m #[(.ref a), (.int tn)] 7 = mkF m 0 #[vr a, vi tn, un, un, un, un, un] [] := (by first | (simp [entryFrame, mkF, argsToLocals, Value.category]; done) | rfl : entryFrame m #[(.ref a), (.int tn)] 7 = mkF m 0 #[vr a, vi tn, un, un, un, un, un] [])
 rw [ef]
 refine fin_of fun Kx hF => ?_
 show Go p.tables e below Kx _ (mkF m 0 _ [])
 refine s_iloadN (pc' := 1) X0.here hx (hb hby d_prog_21_m8_0) rfl rfl ?_
 refine s_i2d (pc' := 2) X0.here hx (hb hby d_prog_21_m8_1) rfl rfl ?_
 refine Go.st (X0.ldc2DoubleC hx hown (mvT hZ (hv hw 21 rfl)) (g := (mkF m 2 #[vr a, vi tn, un, un, un, un, un] [(.double (FP.i2d tn))])) rfl (hb hby d_prog_21_m8_2)) ?_
 show Go p.tables e below Kx _ (mkF m 5 _ [(.double (4621819117588971520 : UInt64)), (.double (FP.i2d tn))])
 refine s_ddiv (pc' := 6) X0.here hx (hb hby d_prog_21_m8_5) rfl (nn1 tn) rfl ?_
 refine s_aloadN (pc' := 7) X0.here hx (hb hby d_prog_21_m8_6) rfl rfl rfl ?_
 obtain ⟨T101, X101, e101, st101⟩ := getF X0 hx hZ hown (host := "") (Or.inl (hv hw 14 rfl)) Via.refl e0 F2 (g := (mkF m 7 #[vr a, vi tn, un, un, un, un, un] [(.ref a), (.double (FP.ddiv (FP.i2d tn) (4621819117588971520 : UInt64)))])) rfl rfl (hb hby d_prog_21_m8_7)
 refine Go.st st101 ?_
 show Go p.tables e below Kx _ (mkF m 10 _ [(.int rc), (.double (FP.ddiv (FP.i2d tn) (4621819117588971520 : UInt64)))])
 refine s_i2d (pc' := 11) X101.here hx (hb hby d_prog_21_m8_10) rfl rfl ?_
 refine s_dmul (pc' := 12) X101.here hx (hb hby d_prog_21_m8_11) rfl (nn2 tn hrc) rfl ?_
 refine Go.st (X101.ldc2DoubleC hx hown (mvT hZ (hv hw 22 rfl)) (g := (mkF m 12 #[vr a, vi tn, un, un, un, un, un] [(.double (FP.dmul (FP.ddiv (FP.i2d tn) (4621819117588971520 : UInt64)) (FP.i2d rc)))])) rfl (hb hby d_prog_21_m8_12)) ?_
 show Go p.tables e below Kx _ (mkF m 15 _ [(.double (4606281698874543309 : UInt64)), (.double (FP.dmul (FP.ddiv (FP.i2d tn) (4621819117588971520 : UInt64)) (FP.i2d rc)))])
 refine s_dadd (pc' := 16) X101.here hx (hb hby d_prog_21_m8_15) rfl (nn3 tn hrc) rfl ?_
 refine s_d2l (pc' := 17) (z := needd tn rc) X101.here hx (hb hby d_prog_21_m8_16) rfl rfl ?_
 refine s_lstoreN (pc' := 18) (Ls' := #[vr a, vi tn, .val (.long (needd tn rc)), sn, un, un, un]) X101.here hx (hb hby d_prog_21_m8_17) rfl  rfl ?_
 refine s_dconst0 (pc' := 19) X101.here hx (hb hby d_prog_21_m8_18) rfl rfl ?_
 refine s_dstore (pc' := 21) (Ls' := #[vr a, vi tn, .val (.long (needd tn rc)), sn, .val (.double FP.dconst0), sn, un]) X101.here hx (hb hby d_prog_21_m8_19) rfl  rfl ?_
 refine s_iconst (pc' := 22) (v := 1) X101.here hx (hb hby d_prog_21_m8_21) rfl rfl ?_
 refine s_istore (pc' := 24) (Ls' := #[vr a, vi tn, .val (.long (needd tn rc)), sn, .val (.double FP.dconst0), sn, vi 1]) X101.here hx (hb hby d_prog_21_m8_22) rfl  rfl ?_
 refine s_iload (pc' := 26) X101.here hx (hb hby d_prog_21_m8_24) rfl rfl ?_
 refine s_aloadN (pc' := 27) X101.here hx (hb hby d_prog_21_m8_26) rfl rfl rfl ?_
 obtain ⟨cq102, kq102, q102a, q102b, q102c⟩ := isOf hZ e101 E
 obtain ⟨_, _, ⟨T102, L102, k102, n102⟩, -, X102, ⟨Lc102, hQ102, l102, y102, z102⟩, st102⟩ := X101.virtualBack hx (y := yN2) (z := yN2) hown (mvT hZ (hv hw 23 rfl)) (mvT hZ (hv hw 24 rfl)) (notFace_of_selects (args := #[]) (mvT hZ (hv hw 26 rfl))) (mvT hZ (hv hw 26 rfl)) (mvT hZ (hv hw 25 rfl)) (by decide) (backOf (W := 1) (rmV2 l Z a0 hw [] a t k c1 c2 h0 n0 X00 F1 VT) hZ (hv hw 27 rfl) (hv hw 4 rfl) (by decide) (by decide)) q102a q102c (g := (mkF m 27 #[vr a, vi tn, .val (.long (needd tn rc)), sn, .val (.double FP.dconst0), sn, vi 1] [(.ref a), (.int 1)])) rfl (by rw [hml]; rfl) (Steps.refl _) (argsL := []) (rest := [(.int 1)]) (lenOf pd_0 rfl) rfl (by exact Nat.le_of_eq rfl) (hb hby d_prog_21_m8_27) (fun _ _ => ⟨rfl, e101, (by decide : 0 + 0 ≤ _), (by decide : 0 + 0 ≤ _)⟩)
 dsimp only [Pt.U, Pt.locs, Pt.cells, Pt.slots] at X102 l102 y102 z102 st102 hQ102
 rw [l102, y102, z102] at X102
 obtain ⟨rfl, Nq102, hE102⟩ := hQ102
 have N102 := Fr.app N0 Nq102
 refine Go.tr st102 ?_
 show Go p.tables e below Kx _ (mkF m 30 _ [(.int 2), (.int 1)])
 refine s_icmpN (pc' := 33) X102.here hx (hb hby d_prog_21_m8_30) rfl (flt (by decide)).2.2.1 ?_
 refine s_aloadN (pc' := 34) X102.here hx (hb hby d_prog_21_m8_33) rfl rfl rfl ?_
 obtain ⟨T103, X103, e103, st103⟩ := getF X102 hx hZ hown (host := "") (Or.inl (hv hw 12 rfl)) Via.refl hE102 F1 (g := (mkF m 34 #[vr a, vi tn, .val (.long (needd tn rc)), sn, .val (.double FP.dconst0), sn, vi 1] [(.ref a)])) rfl rfl (hb hby d_prog_21_m8_34)
 refine Go.st st103 ?_
 show Go p.tables e below Kx _ (mkF m 37 _ [(.ref t)])
 refine s_iload (pc' := 39) X103.here hx (hb hby d_prog_21_m8_37) rfl rfl ?_
 obtain ⟨cl104, Ar104, Aq104, As104, An104, Ah104, Ag104⟩ := id VT
 have in105 := inb_of (j := 1) As104 (by decide)
 have at105 : cl104.slots[((1 : Int32)).toNatClampNeg]? = some (.int c1) := Ah104.at in105 rfl
 refine Go.st (X103.iaload hx (j := 1) (v := (.int c1)) (by rw [e103]; exact Ar104.1) (State.isArrayOf_alike hZ.alike Ar104.2.1) Ar104.2.2 in105 at105 (g := (mkF m 39 #[vr a, vi tn, .val (.long (needd tn rc)), sn, .val (.double FP.dconst0), sn, vi 1] [(.int 1), (.ref t)])) rfl rfl (hb hby d_prog_21_m8_39)) ?_
 show Go p.tables e below Kx _ (mkF m 40 _ [(.int c1)])
 refine s_i2l (pc' := 41) X103.here hx (hb hby d_prog_21_m8_40) rfl rfl ?_
 refine s_lloadN (pc' := 42) X103.here hx (hb hby d_prog_21_m8_41) rfl rfl ?_
 refine s_lcmp (pc' := 43) X103.here hx (hb hby d_prog_21_m8_42) rfl rfl ?_
 have J1 : ∀ (s1 : UInt64) (TJ1 : State) (LJ1 : List Loc), Stand p l e ({ frames := 1, cells := 0, slots := 0, locals := 40 } : Room) s m #[(.ref a), (.int tn)] below meth c TJ1 LJ1 0 0 → Fr n0 LJ1 → TJ1.heap = h0 → s1 = (mst FP.dconst0 c1 1 (needd tn rc)) → Go p.tables e below Kx TJ1 (mkF m 65 #[vr a, vi tn, .val (.long (needd tn rc)), sn, .val (.double s1), sn, vi 1] []) := by
  intro s1 TJ1 LJ1 XJ1 NJ1 eJ1 hs1
  subst hs1
  show Go p.tables e below Kx _ (mkF m 65 _ [])
  refine s_iinc (pc' := 68) (Ls' := #[vr a, vi tn, .val (.long (needd tn rc)), sn, .val (.double (mst FP.dconst0 c1 1 (needd tn rc))), sn, vi 2]) (z := 2) XJ1.here hx (hb hby d_prog_21_m8_65) rfl rfl (by decide) rfl ?_
  refine s_goto (pc' := 24) XJ1.here hx (hb hby d_prog_21_m8_68) (by decide) (by decide) ?_
  refine s_iload (pc' := 26) XJ1.here hx (hb hby d_prog_21_m8_24) rfl rfl ?_
  refine s_aloadN (pc' := 27) XJ1.here hx (hb hby d_prog_21_m8_26) rfl rfl rfl ?_
  obtain ⟨cq107, kq107, q107a, q107b, q107c⟩ := isOf hZ eJ1 E
  obtain ⟨_, _, ⟨T107, L107, k107, n107⟩, -, X107, ⟨Lc107, hQ107, l107, y107, z107⟩, st107⟩ := XJ1.virtualBack hx (y := yN2) (z := yN2) hown (mvT hZ (hv hw 23 rfl)) (mvT hZ (hv hw 24 rfl)) (notFace_of_selects (args := #[]) (mvT hZ (hv hw 26 rfl))) (mvT hZ (hv hw 26 rfl)) (mvT hZ (hv hw 25 rfl)) (by decide) (backOf (W := 1) (rmV2 l Z a0 hw [] a t k c1 c2 h0 n0 X00 F1 VT) hZ (hv hw 27 rfl) (hv hw 4 rfl) (by decide) (by decide)) q107a q107c (g := (mkF m 27 #[vr a, vi tn, .val (.long (needd tn rc)), sn, .val (.double (mst FP.dconst0 c1 1 (needd tn rc))), sn, vi 2] [(.ref a), (.int 2)])) rfl (by rw [hml]; rfl) (Steps.refl _) (argsL := []) (rest := [(.int 2)]) (lenOf pd_0 rfl) rfl (by exact Nat.le_of_eq rfl) (hb hby d_prog_21_m8_27) (fun _ _ => ⟨rfl, eJ1, (by decide : 0 + 0 ≤ _), (by decide : 0 + 0 ≤ _)⟩)
  dsimp only [Pt.U, Pt.locs, Pt.cells, Pt.slots] at X107 l107 y107 z107 st107 hQ107
  rw [l107, y107, z107] at X107
  obtain ⟨rfl, Nq107, hE107⟩ := hQ107
  have N107 := Fr.app NJ1 Nq107
  refine Go.tr st107 ?_
  show Go p.tables e below Kx _ (mkF m 30 _ [(.int 2), (.int 2)])
  refine s_icmpN (pc' := 33) X107.here hx (hb hby d_prog_21_m8_30) rfl (flt (by decide)).2.2.1 ?_
  refine s_aloadN (pc' := 34) X107.here hx (hb hby d_prog_21_m8_33) rfl rfl rfl ?_
  obtain ⟨T108, X108, e108, st108⟩ := getF X107 hx hZ hown (host := "") (Or.inl (hv hw 12 rfl)) Via.refl hE107 F1 (g := (mkF m 34 #[vr a, vi tn, .val (.long (needd tn rc)), sn, .val (.double (mst FP.dconst0 c1 1 (needd tn rc))), sn, vi 2] [(.ref a)])) rfl rfl (hb hby d_prog_21_m8_34)
  refine Go.st st108 ?_
  show Go p.tables e below Kx _ (mkF m 37 _ [(.ref t)])
  refine s_iload (pc' := 39) X108.here hx (hb hby d_prog_21_m8_37) rfl rfl ?_
  obtain ⟨cl109, Ar109, Aq109, As109, An109, Ah109, Ag109⟩ := id VT
  have in110 := inb_of (j := 2) As109 (by decide)
  have at110 : cl109.slots[((2 : Int32)).toNatClampNeg]? = some (.int c2) := Ah109.at in110 rfl
  refine Go.st (X108.iaload hx (j := 2) (v := (.int c2)) (by rw [e108]; exact Ar109.1) (State.isArrayOf_alike hZ.alike Ar109.2.1) Ar109.2.2 in110 at110 (g := (mkF m 39 #[vr a, vi tn, .val (.long (needd tn rc)), sn, .val (.double (mst FP.dconst0 c1 1 (needd tn rc))), sn, vi 2] [(.int 2), (.ref t)])) rfl rfl (hb hby d_prog_21_m8_39)) ?_
  show Go p.tables e below Kx _ (mkF m 40 _ [(.int c2)])
  refine s_i2l (pc' := 41) X108.here hx (hb hby d_prog_21_m8_40) rfl rfl ?_
  refine s_lloadN (pc' := 42) X108.here hx (hb hby d_prog_21_m8_41) rfl rfl ?_
  refine s_lcmp (pc' := 43) X108.here hx (hb hby d_prog_21_m8_42) rfl rfl ?_
  have J2 : ∀ (s2 : UInt64) (TJ2 : State) (LJ2 : List Loc), Stand p l e ({ frames := 1, cells := 0, slots := 0, locals := 40 } : Room) s m #[(.ref a), (.int tn)] below meth c TJ2 LJ2 0 0 → Fr n0 LJ2 → TJ2.heap = h0 → s2 = (mst (mst FP.dconst0 c1 1 (needd tn rc)) c2 2 (needd tn rc)) → Go p.tables e below Kx TJ2 (mkF m 65 #[vr a, vi tn, .val (.long (needd tn rc)), sn, .val (.double s2), sn, vi 2] []) := by
   intro s2 TJ2 LJ2 XJ2 NJ2 eJ2 hs2
   subst hs2
   show Go p.tables e below Kx _ (mkF m 65 _ [])
   refine s_iinc (pc' := 68) (Ls' := #[vr a, vi tn, .val (.long (needd tn rc)), sn, .val (.double (mst (mst FP.dconst0 c1 1 (needd tn rc)) c2 2 (needd tn rc))), sn, vi 3]) (z := 3) XJ2.here hx (hb hby d_prog_21_m8_65) rfl rfl (by decide) rfl ?_
   refine s_goto (pc' := 24) XJ2.here hx (hb hby d_prog_21_m8_68) (by decide) (by decide) ?_
   refine s_iload (pc' := 26) XJ2.here hx (hb hby d_prog_21_m8_24) rfl rfl ?_
   refine s_aloadN (pc' := 27) XJ2.here hx (hb hby d_prog_21_m8_26) rfl rfl rfl ?_
   obtain ⟨cq112, kq112, q112a, q112b, q112c⟩ := isOf hZ eJ2 E
   obtain ⟨_, _, ⟨T112, L112, k112, n112⟩, -, X112, ⟨Lc112, hQ112, l112, y112, z112⟩, st112⟩ := XJ2.virtualBack hx (y := yN2) (z := yN2) hown (mvT hZ (hv hw 23 rfl)) (mvT hZ (hv hw 24 rfl)) (notFace_of_selects (args := #[]) (mvT hZ (hv hw 26 rfl))) (mvT hZ (hv hw 26 rfl)) (mvT hZ (hv hw 25 rfl)) (by decide) (backOf (W := 1) (rmV2 l Z a0 hw [] a t k c1 c2 h0 n0 X00 F1 VT) hZ (hv hw 27 rfl) (hv hw 4 rfl) (by decide) (by decide)) q112a q112c (g := (mkF m 27 #[vr a, vi tn, .val (.long (needd tn rc)), sn, .val (.double (mst (mst FP.dconst0 c1 1 (needd tn rc)) c2 2 (needd tn rc))), sn, vi 3] [(.ref a), (.int 3)])) rfl (by rw [hml]; rfl) (Steps.refl _) (argsL := []) (rest := [(.int 3)]) (lenOf pd_0 rfl) rfl (by exact Nat.le_of_eq rfl) (hb hby d_prog_21_m8_27) (fun _ _ => ⟨rfl, eJ2, (by decide : 0 + 0 ≤ _), (by decide : 0 + 0 ≤ _)⟩)
   dsimp only [Pt.U, Pt.locs, Pt.cells, Pt.slots] at X112 l112 y112 z112 st112 hQ112
   rw [l112, y112, z112] at X112
   obtain ⟨rfl, Nq112, hE112⟩ := hQ112
   have N112 := Fr.app NJ2 Nq112
   refine Go.tr st112 ?_
   show Go p.tables e below Kx _ (mkF m 30 _ [(.int 2), (.int 3)])
   refine s_icmpY (pc' := 71) X112.here hx (hb hby d_prog_21_m8_30) (tlt (by decide)).2.2.1 (by decide) (by decide) ?_
   refine s_dload (pc' := 73) X112.here hx (hb hby d_prog_21_m8_71) rfl rfl ?_
   obtain ⟨fs, hr, hrun, hended, hW, hsame⟩ := X112.leave (v := (some (.double (mst (mst FP.dconst0 c1 1 (needd tn rc)) c2 2 (needd tn rc))))) (fun h => by rw [Bd.returns] at h; cases h)
   refine Go.fin (retOut X112 hx Bd.returns rfl (Or.inr (Or.inr (Or.inl ⟨rfl, rfl, _, rfl⟩))) (hb hby d_prog_21_m8_73) hr) (hF _ _ hrun hended ⟨_, _, rfl, ?_, ⟨_, rfl⟩, hW, hsame.mono (by decide) (by decide)⟩)
   ·
    show QA2 Z a t k c1 c2 rc tn h0 n0 ((some (.double (mst (mst FP.dconst0 c1 1 (needd tn rc)) c2 2 (needd tn rc)))) : Option Value) T112.heap _
    rw [hE112]
    exact ⟨rfl, N112, rfl⟩
  by_cases hc111 : (lcmpW (c2.toInt64) (needd tn rc)) < (0 : Int32)
  ·
   refine s_ifY (pc' := 65) X108.here hx (hb hby d_prog_21_m8_43) ((if0 _ _).trans (tlt hc111).1) (by decide) (by decide) ?_
   exact J2 _ _ _ X108 N107 e108 (mst_lt ((lw_lt _ _).mp hc111))
  ·
   refine s_ifN (pc' := 46) X108.here hx (hb hby d_prog_21_m8_43) rfl ((if0 _ _).trans (flt hc111).1) ?_
   refine s_dload (pc' := 48) X108.here hx (hb hby d_prog_21_m8_46) rfl rfl ?_
   refine s_aloadN (pc' := 49) X108.here hx (hb hby d_prog_21_m8_48) rfl rfl rfl ?_
   obtain ⟨T113, X113, e113, st113⟩ := getF X108 hx hZ hown (host := "") (Or.inl (hv hw 12 rfl)) Via.refl e108 F1 (g := (mkF m 49 #[vr a, vi tn, .val (.long (needd tn rc)), sn, .val (.double (mst FP.dconst0 c1 1 (needd tn rc))), sn, vi 2] [(.ref a), (.double (mst FP.dconst0 c1 1 (needd tn rc)))])) rfl rfl (hb hby d_prog_21_m8_49)
   refine Go.st st113 ?_
   show Go p.tables e below Kx _ (mkF m 52 _ [(.ref t), (.double (mst FP.dconst0 c1 1 (needd tn rc)))])
   refine s_iload (pc' := 54) X113.here hx (hb hby d_prog_21_m8_52) rfl rfl ?_
   obtain ⟨cl114, Ar114, Aq114, As114, An114, Ah114, Ag114⟩ := id VT
   have in115 := inb_of (j := 2) As114 (by decide)
   have at115 : cl114.slots[((2 : Int32)).toNatClampNeg]? = some (.int c2) := Ah114.at in115 rfl
   refine Go.st (X113.iaload hx (j := 2) (v := (.int c2)) (by rw [e113]; exact Ar114.1) (State.isArrayOf_alike hZ.alike Ar114.2.1) Ar114.2.2 in115 at115 (g := (mkF m 54 #[vr a, vi tn, .val (.long (needd tn rc)), sn, .val (.double (mst FP.dconst0 c1 1 (needd tn rc))), sn, vi 2] [(.int 2), (.ref t), (.double (mst FP.dconst0 c1 1 (needd tn rc)))])) rfl rfl (hb hby d_prog_21_m8_54)) ?_
   show Go p.tables e below Kx _ (mkF m 55 _ [(.int c2), (.double (mst FP.dconst0 c1 1 (needd tn rc)))])
   refine s_i2d (pc' := 56) X113.here hx (hb hby d_prog_21_m8_55) rfl rfl ?_
   refine s_iload (pc' := 58) X113.here hx (hb hby d_prog_21_m8_56) rfl rfl ?_
   refine s_i2d (pc' := 59) X113.here hx (hb hby d_prog_21_m8_58) rfl rfl ?_
   refine s_ddiv (pc' := 60) X113.here hx (hb hby d_prog_21_m8_59) rfl (nnq _ (by decide)) rfl ?_
   obtain ⟨_, vm116, ⟨T116, L116, k116, n116⟩, -, X116, ⟨hQ116, hB116⟩, st116⟩ := Jvm.LawKit.callS X113 hx (y := yN4) hown (mvT hZ (hv hw 34 rfl)) (mvT hZ (hv hw 35 rfl)) (mvT hZ (hv hw 36 rfl)) (mvT hZ (hv hw 37 rfl)) (by decide) (Jvm.Free.Fl.Abs.maxD_pays (W := 0) (mst FP.dconst0 c1 1 (needd tn rc)) (FP.ddiv (FP.i2d c2) (FP.i2d 2)) (mvT hZ (hv hw 37 rfl)) (by decide) (by decide)) (g := (mkF m 60 #[vr a, vi tn, .val (.long (needd tn rc)), sn, .val (.double (mst FP.dconst0 c1 1 (needd tn rc))), sn, vi 2] [(.double (FP.ddiv (FP.i2d c2) (FP.i2d 2))), (.double (mst FP.dconst0 c1 1 (needd tn rc)))])) rfl (by rw [hml]; rfl) (argsL := [(.double (mst FP.dconst0 c1 1 (needd tn rc))), (.double (FP.ddiv (FP.i2d c2) (FP.i2d 2)))]) (rest := []) (lenOf pd_1 rfl) rfl (by exact Nat.le_of_eq rfl) (hb hby d_prog_21_m8_60) (fun _ _ => ⟨(by decide : 0 ≤ _), (by decide : 0 ≤ _), rfl, (mst_nn d0f.noNaN (by decide)), nnq _ (by decide)⟩)
   cases hB116
   dsimp only [Pt.U, Pt.locs, Pt.cells, Pt.slots] at X116 st116
   have hE116 : (T113.setVm vm116).heap = h0 := e113
   subst hQ116
   refine Go.st st116 ?_
   show Go p.tables e below Kx (T113.setVm vm116) (mkF m 63 #[vr a, vi tn, .val (.long (needd tn rc)), sn, .val (.double (mst FP.dconst0 c1 1 (needd tn rc))), sn, vi 2] [(.double (Native.java_lang_Math.nans.pick64 true (mst FP.dconst0 c1 1 (needd tn rc)) (FP.ddiv (FP.i2d c2) (FP.i2d 2))))])
   refine s_dstore (pc' := 65) (Ls' := #[vr a, vi tn, .val (.long (needd tn rc)), sn, .val (.double (Native.java_lang_Math.nans.pick64 true (mst FP.dconst0 c1 1 (needd tn rc)) (FP.ddiv (FP.i2d c2) (FP.i2d 2)))), sn, vi 2]) X116.here hx (hb hby d_prog_21_m8_63) rfl  rfl ?_
   exact J2 _ _ _ X116 N107 hE116 (mst_ge (fun z => hc111 ((lw_lt _ _).mpr z)))
 by_cases hc106 : (lcmpW (c1.toInt64) (needd tn rc)) < (0 : Int32)
 ·
  refine s_ifY (pc' := 65) X103.here hx (hb hby d_prog_21_m8_43) ((if0 _ _).trans (tlt hc106).1) (by decide) (by decide) ?_
  exact J1 _ _ _ X103 N102 e103 (mst_lt ((lw_lt _ _).mp hc106))
 ·
  refine s_ifN (pc' := 46) X103.here hx (hb hby d_prog_21_m8_43) rfl ((if0 _ _).trans (flt hc106).1) ?_
  refine s_dload (pc' := 48) X103.here hx (hb hby d_prog_21_m8_46) rfl rfl ?_
  refine s_aloadN (pc' := 49) X103.here hx (hb hby d_prog_21_m8_48) rfl rfl rfl ?_
  obtain ⟨T117, X117, e117, st117⟩ := getF X103 hx hZ hown (host := "") (Or.inl (hv hw 12 rfl)) Via.refl e103 F1 (g := (mkF m 49 #[vr a, vi tn, .val (.long (needd tn rc)), sn, .val (.double FP.dconst0), sn, vi 1] [(.ref a), (.double FP.dconst0)])) rfl rfl (hb hby d_prog_21_m8_49)
  refine Go.st st117 ?_
  show Go p.tables e below Kx _ (mkF m 52 _ [(.ref t), (.double FP.dconst0)])
  refine s_iload (pc' := 54) X117.here hx (hb hby d_prog_21_m8_52) rfl rfl ?_
  obtain ⟨cl118, Ar118, Aq118, As118, An118, Ah118, Ag118⟩ := id VT
  have in119 := inb_of (j := 1) As118 (by decide)
  have at119 : cl118.slots[((1 : Int32)).toNatClampNeg]? = some (.int c1) := Ah118.at in119 rfl
  refine Go.st (X117.iaload hx (j := 1) (v := (.int c1)) (by rw [e117]; exact Ar118.1) (State.isArrayOf_alike hZ.alike Ar118.2.1) Ar118.2.2 in119 at119 (g := (mkF m 54 #[vr a, vi tn, .val (.long (needd tn rc)), sn, .val (.double FP.dconst0), sn, vi 1] [(.int 1), (.ref t), (.double FP.dconst0)])) rfl rfl (hb hby d_prog_21_m8_54)) ?_
  show Go p.tables e below Kx _ (mkF m 55 _ [(.int c1), (.double FP.dconst0)])
  refine s_i2d (pc' := 56) X117.here hx (hb hby d_prog_21_m8_55) rfl rfl ?_
  refine s_iload (pc' := 58) X117.here hx (hb hby d_prog_21_m8_56) rfl rfl ?_
  refine s_i2d (pc' := 59) X117.here hx (hb hby d_prog_21_m8_58) rfl rfl ?_
  refine s_ddiv (pc' := 60) X117.here hx (hb hby d_prog_21_m8_59) rfl (nnq _ (by decide)) rfl ?_
  obtain ⟨_, vm120, ⟨T120, L120, k120, n120⟩, -, X120, ⟨hQ120, hB120⟩, st120⟩ := Jvm.LawKit.callS X117 hx (y := yN4) hown (mvT hZ (hv hw 34 rfl)) (mvT hZ (hv hw 35 rfl)) (mvT hZ (hv hw 36 rfl)) (mvT hZ (hv hw 37 rfl)) (by decide) (Jvm.Free.Fl.Abs.maxD_pays (W := 0) FP.dconst0 (FP.ddiv (FP.i2d c1) (FP.i2d 1)) (mvT hZ (hv hw 37 rfl)) (by decide) (by decide)) (g := (mkF m 60 #[vr a, vi tn, .val (.long (needd tn rc)), sn, .val (.double FP.dconst0), sn, vi 1] [(.double (FP.ddiv (FP.i2d c1) (FP.i2d 1))), (.double FP.dconst0)])) rfl (by rw [hml]; rfl) (argsL := [(.double FP.dconst0), (.double (FP.ddiv (FP.i2d c1) (FP.i2d 1)))]) (rest := []) (lenOf pd_1 rfl) rfl (by exact Nat.le_of_eq rfl) (hb hby d_prog_21_m8_60) (fun _ _ => ⟨(by decide : 0 ≤ _), (by decide : 0 ≤ _), rfl, d0f.noNaN, nnq _ (by decide)⟩)
  cases hB120
  dsimp only [Pt.U, Pt.locs, Pt.cells, Pt.slots] at X120 st120
  have hE120 : (T117.setVm vm120).heap = h0 := e117
  subst hQ120
  refine Go.st st120 ?_
  show Go p.tables e below Kx (T117.setVm vm120) (mkF m 63 #[vr a, vi tn, .val (.long (needd tn rc)), sn, .val (.double FP.dconst0), sn, vi 1] [(.double (Native.java_lang_Math.nans.pick64 true FP.dconst0 (FP.ddiv (FP.i2d c1) (FP.i2d 1))))])
  refine s_dstore (pc' := 65) (Ls' := #[vr a, vi tn, .val (.long (needd tn rc)), sn, .val (.double (Native.java_lang_Math.nans.pick64 true FP.dconst0 (FP.ddiv (FP.i2d c1) (FP.i2d 1)))), sn, vi 1]) X120.here hx (hb hby d_prog_21_m8_63) rfl  rfl ?_
  exact J1 _ _ _ X120 N102 hE120 (mst_ge (fun z => hc106 ((lw_lt _ _).mpr z)))
def QN3 (Z : State) (a b : Addr) (kb : ClassId) (x1 x2 x3 c1 c2 c3 rc : Int32) (h0 : Heap) (n0 : Nat) (v : Option Value) (h : Heap) (L : List Loc) : Prop := v = none ∧ Fr n0 L ∧ Keep h0 h [a] ∧ Exa Z h a "com/example/kingfisher/kingfisher/eval/TopicRanking" ∧ Fld Z h a "com/example/kingfisher/kingfisher/eval/TopicRanking" "relevantCount" "I" (.int rc) ∧ ∃ (t : Addr) (k : ClassId), Fld Z h a "com/example/kingfisher/kingfisher/eval/TopicRanking" "relevantWithin" "[I" (.ref t) ∧ Arv Z h t k .int 4 [(.int 0), (.int c1), (.int c2), (.int c3)] (.int 0)
set_option maxRecDepth 65536 in
set_option maxHeartbeats 40000000 in
theorem rmN3 (l : Launch) (Z : State) (a0 : Array Value) (hw : ∀ d ∈ tables_1, d.before a0 Z = true) (ws : List Jvm.Cond) (a b : Addr) (kb : ClassId) (x1 x2 x3 c1 c2 c3 rc : Int32) (h0 : Heap) (n0 : Nat) (X00 : Old Z n0 h0) (ge_a : n0 ≤ a) (hne : b ≠ a) (E : Exa Z h0 a "com/example/kingfisher/kingfisher/eval/TopicRanking") (F1 : Fld Z h0 a "com/example/kingfisher/kingfisher/eval/TopicRanking" "relevantWithin" "[I" .null) (F2 : Fld Z h0 a "com/example/kingfisher/kingfisher/eval/TopicRanking" "relevantCount" "I" (.int 0)) (VB : Arv Z h0 b kb .boolean (3 : Int32) [(.int x1), (.int x2), (.int x3)] (.int 0)) (hc1 : ((0 : Int32) + (if x1 = (0 : Int32) then (0 : Int32) else (1 : Int32))) = c1) (hc2 : (c1 + (if x2 = (0 : Int32) then (0 : Int32) else (1 : Int32))) = c2) (hc3 : (c2 + (if x3 = (0 : Int32) then (0 : Int32) else (1 : Int32))) = c3) :
  MetFree l yN0 (head1 (Jvm.Cond.code yN0 prog_21_method_1_code 4 none :: ws) ({ frames := 1, cells := 1, slots := 4, locals := 20 } : Room)) (fun aa U => aa = #[(.ref a), (.ref b), (.int rc)] ∧ Z.Warmed39 U.vm ∧ U.heap = h0) (fun _ _ _ _ _ => True) (fun _ U o U' => ∃ v L, o = .returned v ∧ QN3 Z a b kb x1 x2 x3 c1 c2 c3 rc h0 n0 v U'.heap L ∧ FrameEnd U o U' L ({ frames := 1, cells := 1, slots := 4, locals := 20 } : Room).cells ({ frames := 1, cells := 1, slots := 4, locals := 20 } : Room).slots) := by
 refine MetFree.of_bodySF (plainFor_of_name pn_0) hisR ?_
 intro p e s m args below meth c s₁ Bd hml0 hP hK
 obtain ⟨rfl, hZ, hh⟩ := hP
 have hx := Bd.exec
 have hby := Bd.bytes
 have hml : c.maxLocals = 4 := hml0
 have hown : s.vm.findClass "com/example/kingfisher/kingfisher/eval/TopicRanking" = some m.cls := findClass_of_methodNamed Bd.named
 have hnm := (name_of_methodNamed Bd.named Bd.method).1
 have X0 : Stand p l e ({ frames := 1, cells := 1, slots := 4, locals := 20 } : Room) s m #[(.ref a), (.ref b), (.int rc)] below meth c s₁ [] 0 0 := Stand.of_body Bd
 have e0 : s₁.heap = h0 := by rw [← hh, Bd.state]; rfl
 have N0 := Fr.nil n0
 have K0 := Keep.refl h0 [a]
 have ef : entryFrame m #[(.ref a), (.ref b), (.int rc)] 4 = mkF m 0 #[vr a, vr b, vi rc, un] [] := (by first | (simp [entryFrame, mkF, argsToLocals, Value.category]; done) | rfl : entryFrame m #[(.ref a), (.ref b), (.int rc)] 4 = mkF m 0 #[vr a, vr b, vi rc, un] [])
 rw [ef]
 refine fin_of fun Kx hF => ?_
 show Go p.tables e below Kx _ (mkF m 0 _ [])
 refine s_aloadN (pc' := 1) X0.here hx (hb hby d_prog_21_m1_0) rfl rfl rfl ?_
 obtain ⟨T121, X121, e121, st121⟩ := initO X0 hx hZ hown (hv hw 8 rfl) (hv hw 9 rfl) (hv hw 10 rfl) e0 (g := (mkF m 1 #[vr a, vr b, vi rc, un] [(.ref a)])) rfl (by rw [hml]; rfl) rfl (hb hby d_prog_21_m1_1) (by decide) (W := 0) (by exact Nat.le_of_eq rfl) (by decide)
 refine Go.st st121 ?_
 show Go p.tables e below Kx _ (mkF m 4 _ [])
 refine s_aloadN (pc' := 5) X121.here hx (hb hby d_prog_21_m1_4) rfl rfl rfl ?_
 refine s_aloadN (pc' := 6) X121.here hx (hb hby d_prog_21_m1_5) rfl rfl rfl ?_
 obtain ⟨cl122, Ar122, Aq122, As122, An122, Ah122, Ag122⟩ := id VB
 refine Go.st (X121.arraylength hx (by rw [e121]; exact Ar122.1) (State.isArrayOf_alike hZ.alike Ar122.2.1) (g := (mkF m 6 #[vr a, vr b, vi rc, un] [(.ref b), (.ref a)])) rfl rfl (hb hby d_prog_21_m1_6)) ?_
 rw [len_of As122 An122]
 show Go p.tables e below Kx _ (mkF m 7 _ [(.int 3), (.ref a)])
 refine s_iconst (pc' := 8) (v := 1) X121.here hx (hb hby d_prog_21_m1_7) rfl rfl ?_
 refine s_iadd (pc' := 9) (z := 4) X121.here hx (hb hby d_prog_21_m1_8) rfl (by decide) ?_
 obtain ⟨T123, h123, k123, X123, e123, E123, A123, st123⟩ := newP X121 hx hZ (hv hw 11 rfl) e121 (g := (mkF m 9 #[vr a, vr b, vi rc, un] [(.int 4), (.ref a)])) rfl (hb hby d_prog_21_m1_9) rfl (by decide) (cap := 4) (by decide) (by decide) (by decide) (by decide)
 obtain ⟨b123, g123⟩ : ∃ z, z = h0.size := ⟨_, rfl⟩
 rw [← g123] at A123 st123
 have sz123 : h0.size ≤ b123 := Nat.le_trans K0.1 (Nat.le_of_eq g123.symm)
 have ge123 : n0 ≤ b123 := Nat.le_trans (X00.1 ▸ X00.2.1) (Nat.le_of_eq g123.symm)
 have K123 : Keep h0 h123 [a] := K0.ext E123
 have O123 : Old Z n0 h123 := X00.ext E123
 have V123 : Arv Z h123 b123 k123 .int 4 [(.int 0), (.int 0), (.int 0), (.int 0)] (.int 0) := (Arv.new A123 (by decide)).pad (pad_rep [] (.int 0) 4)
 refine Go.st st123 ?_
 show Go p.tables e below Kx _ (mkF m 11 _ [(.ref b123), (.ref a)])
 have f124 : Fld Z h123 a "com/example/kingfisher/kingfisher/eval/TopicRanking" "relevantWithin" "[I" .null := (F1.ext E123)
 have f125 : Exa Z h123 a "com/example/kingfisher/kingfisher/eval/TopicRanking" := (E.ext E123)
 obtain ⟨T126, h126, X126, e126, W126, st126⟩ := putF X123 hx hZ hown (host := "") (Or.inl (hv hw 12 rfl)) Via.refl e123 f124 f125 (Or.inr ⟨(hv hw 13 rfl), rfl, hnm⟩) (hv hw 3 rfl) (ty := (.array .int)) (by decide) rfl rfl (g := (mkF m 11 #[vr a, vr b, vi rc, un] [(.ref b123), (.ref a)])) rfl rfl (hb hby d_prog_21_m1_11)
 have Fw126 : Fld Z h126 a "com/example/kingfisher/kingfisher/eval/TopicRanking" "relevantWithin" "[I" (.ref b123) := f124.same W126
 have K126 : Keep h0 h126 [a] := K123.wr W126 (Or.inl (List.mem_of_getElem? (i := 0) rfl))
 have O126 : Old Z n0 h126 := O123.wr W126 ge_a
 have N126 := Fr.snoc X126 N0 ge_a
 refine Go.st st126 ?_
 show Go p.tables e below Kx _ (mkF m 14 _ [])
 refine s_iconst (pc' := 15) (v := 1) X126.here hx (hb hby d_prog_21_m1_14) rfl rfl ?_
 refine s_istoreN (pc' := 16) (Ls' := #[vr a, vr b, vi rc, vi 1]) X126.here hx (hb hby d_prog_21_m1_15) rfl  rfl ?_
 refine s_iloadN (pc' := 17) X126.here hx (hb hby d_prog_21_m1_16) rfl rfl ?_
 refine s_aloadN (pc' := 18) X126.here hx (hb hby d_prog_21_m1_17) rfl rfl rfl ?_
 have f127 : Arv Z h126 b kb .boolean 3 [(.int x1), (.int x2), (.int x3)] (.int 0) := ((VB.ext E123).other W126 hne)
 obtain ⟨cl128, Ar128, Aq128, As128, An128, Ah128, Ag128⟩ := id f127
 refine Go.st (X126.arraylength hx (by rw [e126]; exact Ar128.1) (State.isArrayOf_alike hZ.alike Ar128.2.1) (g := (mkF m 18 #[vr a, vr b, vi rc, vi 1] [(.ref b), (.int 1)])) rfl rfl (hb hby d_prog_21_m1_18)) ?_
 rw [len_of As128 An128]
 show Go p.tables e below Kx _ (mkF m 19 _ [(.int 3), (.int 1)])
 refine s_icmpN (pc' := 22) X126.here hx (hb hby d_prog_21_m1_19) rfl (flt (by decide)).2.2.1 ?_
 refine s_aloadN (pc' := 23) X126.here hx (hb hby d_prog_21_m1_22) rfl rfl rfl ?_
 obtain ⟨T129, X129, e129, st129⟩ := getF X126 hx hZ hown (host := "") (Or.inl (hv hw 12 rfl)) Via.refl e126 Fw126 (g := (mkF m 23 #[vr a, vr b, vi rc, vi 1] [(.ref a)])) rfl rfl (hb hby d_prog_21_m1_23)
 refine Go.st st129 ?_
 show Go p.tables e below Kx _ (mkF m 26 _ [(.ref b123)])
 refine s_iloadN (pc' := 27) X129.here hx (hb hby d_prog_21_m1_26) rfl rfl ?_
 refine s_aloadN (pc' := 28) X129.here hx (hb hby d_prog_21_m1_27) rfl rfl rfl ?_
 obtain ⟨T130, X130, e130, st130⟩ := getF X129 hx hZ hown (host := "") (Or.inl (hv hw 12 rfl)) Via.refl e129 Fw126 (g := (mkF m 28 #[vr a, vr b, vi rc, vi 1] [(.ref a), (.int 1), (.ref b123)])) rfl rfl (hb hby d_prog_21_m1_28)
 refine Go.st st130 ?_
 show Go p.tables e below Kx _ (mkF m 31 _ [(.ref b123), (.int 1), (.ref b123)])
 refine s_iloadN (pc' := 32) X130.here hx (hb hby d_prog_21_m1_31) rfl rfl ?_
 refine s_iconst (pc' := 33) (v := 1) X130.here hx (hb hby d_prog_21_m1_32) rfl rfl ?_
 refine s_isub (pc' := 34) (z := 0) X130.here hx (hb hby d_prog_21_m1_33) rfl (by decide) ?_
 have f131 : Arv Z h126 b123 k123 .int 4 [(.int 0), (.int 0), (.int 0), (.int 0)] (.int 0) := (V123.other W126 (Ne.symm (Nat.ne_of_lt (Nat.lt_of_lt_of_le E.lt (Nat.le_of_eq g123.symm)))))
 obtain ⟨cl132, Ar132, Aq132, As132, An132, Ah132, Ag132⟩ := id f131
 have in133 := inb_of (j := 0) As132 (by decide)
 have at133 : cl132.slots[((0 : Int32)).toNatClampNeg]? = some (.int 0) := Ah132.at in133 rfl
 refine Go.st (X130.iaload hx (j := 0) (v := (.int 0)) (by rw [e130]; exact Ar132.1) (State.isArrayOf_alike hZ.alike Ar132.2.1) Ar132.2.2 in133 at133 (g := (mkF m 34 #[vr a, vr b, vi rc, vi 1] [(.int 0), (.ref b123), (.int 1), (.ref b123)])) rfl rfl (hb hby d_prog_21_m1_34)) ?_
 show Go p.tables e below Kx _ (mkF m 35 _ [(.int 0), (.int 1), (.ref b123)])
 refine s_aloadN (pc' := 36) X130.here hx (hb hby d_prog_21_m1_35) rfl rfl rfl ?_
 refine s_iloadN (pc' := 37) X130.here hx (hb hby d_prog_21_m1_36) rfl rfl ?_
 refine s_iconst (pc' := 38) (v := 1) X130.here hx (hb hby d_prog_21_m1_37) rfl rfl ?_
 refine s_isub (pc' := 39) (z := 0) X130.here hx (hb hby d_prog_21_m1_38) rfl (by decide) ?_
 obtain ⟨cl134, Ar134, Aq134, As134, An134, Ah134, Ag134⟩ := id f127
 have in135 := inb_of (j := 0) As134 (by decide)
 have at135 : cl134.slots[((0 : Int32)).toNatClampNeg]? = some (.int x1) := Ah134.at in135 rfl
 refine Go.st (X130.baloadBooleans hx (j := 0) (v := (.int x1)) (by rw [e130]; exact Ar134.1) (State.isArrayOf_alike hZ.alike Ar134.2.1) Ar134.2.2 in135 at135 (g := (mkF m 39 #[vr a, vr b, vi rc, vi 1] [(.int 0), (.ref b), (.int 0), (.int 1), (.ref b123)])) rfl rfl (hb hby d_prog_21_m1_39)) ?_
 show Go p.tables e below Kx _ (mkF m 40 _ [(.int x1), (.int 0), (.int 1), (.ref b123)])
 suffices J137 : Go p.tables e below Kx T130 (mkF m 48 #[vr a, vr b, vi rc, vi 1] [(.int (if x1 = (0 : Int32) then (0 : Int32) else (1 : Int32))), (.int 0), (.int 1), (.ref b123)]) by
  by_cases hc136 : x1 = (0 : Int32)
  ·
   simp only [if_pos hc136] at J137
   refine s_ifY (pc' := 47) X130.here hx (hb hby d_prog_21_m1_40) ((if0 _ _).trans (teq hc136).1) (by decide) (by decide) ?_
   refine s_iconst (pc' := 48) (v := 0) X130.here hx (hb hby d_prog_21_m1_47) rfl rfl ?_
   exact J137
  ·
   simp only [if_neg hc136] at J137
   refine s_ifN (pc' := 43) X130.here hx (hb hby d_prog_21_m1_40) rfl ((if0 _ _).trans (feq hc136).1) ?_
   refine s_iconst (pc' := 44) (v := 1) X130.here hx (hb hby d_prog_21_m1_43) rfl rfl ?_
   refine s_goto (pc' := 48) X130.here hx (hb hby d_prog_21_m1_44) (by decide) (by decide) ?_
   exact J137
 refine s_iadd (pc' := 49) X130.here hx (hb hby d_prog_21_m1_48) rfl rfl ?_
 rw [hc1]
 show Go p.tables e below Kx _ (mkF m 49 _ [(.int c1), (.int 1), (.ref b123)])
 obtain ⟨cl138, Ar138, Aq138, As138, An138, Ah138, Ag138⟩ := id f131
 have in139 := inb_of (j := 1) As138 (by decide)
 obtain ⟨T139, h139, X139, e139, W139, st139⟩ := stI X130 hx hZ e130 Ar138 (j := 1) in139 (g := (mkF m 49 #[vr a, vr b, vi rc, vi 1] [(.int c1), (.int 1), (.ref b123)])) rfl rfl (hb hby d_prog_21_m1_49)
 have V139 : Arv Z h139 b123 k123 .int 4 [(.int 0), (.int c1), (.int 0), (.int 0)] (.int 0) := Arv.set Ar138 Aq138 As138 An138 Ah138 Ag138 rfl W139 1 rfl (Nat.le_of_ble_eq_true rfl)
 have K139 : Keep h0 h139 [a] := K126.wr W139 (Or.inr sz123)
 have O139 : Old Z n0 h139 := O126.wr W139 ge123
 have N139 := Fr.snoc X139 N126 ge123
 refine Go.st st139 ?_
 show Go p.tables e below Kx _ (mkF m 50 _ [])
 refine s_iinc (pc' := 53) (Ls' := #[vr a, vr b, vi rc, vi 2]) (z := 2) X139.here hx (hb hby d_prog_21_m1_50) rfl rfl (by decide) rfl ?_
 refine s_goto (pc' := 16) X139.here hx (hb hby d_prog_21_m1_53) (by decide) (by decide) ?_
 refine s_iloadN (pc' := 17) X139.here hx (hb hby d_prog_21_m1_16) rfl rfl ?_
 refine s_aloadN (pc' := 18) X139.here hx (hb hby d_prog_21_m1_17) rfl rfl rfl ?_
 have f140 : Arv Z h139 b kb .boolean 3 [(.int x1), (.int x2), (.int x3)] (.int 0) := (f127.other W139 (Nat.ne_of_lt (Nat.lt_of_lt_of_le VB.lt (Nat.le_of_eq g123.symm))))
 obtain ⟨cl141, Ar141, Aq141, As141, An141, Ah141, Ag141⟩ := id f140
 refine Go.st (X139.arraylength hx (by rw [e139]; exact Ar141.1) (State.isArrayOf_alike hZ.alike Ar141.2.1) (g := (mkF m 18 #[vr a, vr b, vi rc, vi 2] [(.ref b), (.int 2)])) rfl rfl (hb hby d_prog_21_m1_18)) ?_
 rw [len_of As141 An141]
 show Go p.tables e below Kx _ (mkF m 19 _ [(.int 3), (.int 2)])
 refine s_icmpN (pc' := 22) X139.here hx (hb hby d_prog_21_m1_19) rfl (flt (by decide)).2.2.1 ?_
 refine s_aloadN (pc' := 23) X139.here hx (hb hby d_prog_21_m1_22) rfl rfl rfl ?_
 have f142 : Fld Z h139 a "com/example/kingfisher/kingfisher/eval/TopicRanking" "relevantWithin" "[I" (.ref b123) := (Fw126.other W139 (Or.inl (Nat.ne_of_lt (Nat.lt_of_lt_of_le E.lt (Nat.le_of_eq g123.symm)))))
 obtain ⟨T143, X143, e143, st143⟩ := getF X139 hx hZ hown (host := "") (Or.inl (hv hw 12 rfl)) Via.refl e139 f142 (g := (mkF m 23 #[vr a, vr b, vi rc, vi 2] [(.ref a)])) rfl rfl (hb hby d_prog_21_m1_23)
 refine Go.st st143 ?_
 show Go p.tables e below Kx _ (mkF m 26 _ [(.ref b123)])
 refine s_iloadN (pc' := 27) X143.here hx (hb hby d_prog_21_m1_26) rfl rfl ?_
 refine s_aloadN (pc' := 28) X143.here hx (hb hby d_prog_21_m1_27) rfl rfl rfl ?_
 obtain ⟨T144, X144, e144, st144⟩ := getF X143 hx hZ hown (host := "") (Or.inl (hv hw 12 rfl)) Via.refl e143 f142 (g := (mkF m 28 #[vr a, vr b, vi rc, vi 2] [(.ref a), (.int 2), (.ref b123)])) rfl rfl (hb hby d_prog_21_m1_28)
 refine Go.st st144 ?_
 show Go p.tables e below Kx _ (mkF m 31 _ [(.ref b123), (.int 2), (.ref b123)])
 refine s_iloadN (pc' := 32) X144.here hx (hb hby d_prog_21_m1_31) rfl rfl ?_
 refine s_iconst (pc' := 33) (v := 1) X144.here hx (hb hby d_prog_21_m1_32) rfl rfl ?_
 refine s_isub (pc' := 34) (z := 1) X144.here hx (hb hby d_prog_21_m1_33) rfl (by decide) ?_
 obtain ⟨cl145, Ar145, Aq145, As145, An145, Ah145, Ag145⟩ := id V139
 have in146 := inb_of (j := 1) As145 (by decide)
 have at146 : cl145.slots[((1 : Int32)).toNatClampNeg]? = some (.int c1) := Ah145.at in146 rfl
 refine Go.st (X144.iaload hx (j := 1) (v := (.int c1)) (by rw [e144]; exact Ar145.1) (State.isArrayOf_alike hZ.alike Ar145.2.1) Ar145.2.2 in146 at146 (g := (mkF m 34 #[vr a, vr b, vi rc, vi 2] [(.int 1), (.ref b123), (.int 2), (.ref b123)])) rfl rfl (hb hby d_prog_21_m1_34)) ?_
 show Go p.tables e below Kx _ (mkF m 35 _ [(.int c1), (.int 2), (.ref b123)])
 refine s_aloadN (pc' := 36) X144.here hx (hb hby d_prog_21_m1_35) rfl rfl rfl ?_
 refine s_iloadN (pc' := 37) X144.here hx (hb hby d_prog_21_m1_36) rfl rfl ?_
 refine s_iconst (pc' := 38) (v := 1) X144.here hx (hb hby d_prog_21_m1_37) rfl rfl ?_
 refine s_isub (pc' := 39) (z := 1) X144.here hx (hb hby d_prog_21_m1_38) rfl (by decide) ?_
 obtain ⟨cl147, Ar147, Aq147, As147, An147, Ah147, Ag147⟩ := id f140
 have in148 := inb_of (j := 1) As147 (by decide)
 have at148 : cl147.slots[((1 : Int32)).toNatClampNeg]? = some (.int x2) := Ah147.at in148 rfl
 refine Go.st (X144.baloadBooleans hx (j := 1) (v := (.int x2)) (by rw [e144]; exact Ar147.1) (State.isArrayOf_alike hZ.alike Ar147.2.1) Ar147.2.2 in148 at148 (g := (mkF m 39 #[vr a, vr b, vi rc, vi 2] [(.int 1), (.ref b), (.int c1), (.int 2), (.ref b123)])) rfl rfl (hb hby d_prog_21_m1_39)) ?_
 show Go p.tables e below Kx _ (mkF m 40 _ [(.int x2), (.int c1), (.int 2), (.ref b123)])
 suffices J150 : Go p.tables e below Kx T144 (mkF m 48 #[vr a, vr b, vi rc, vi 2] [(.int (if x2 = (0 : Int32) then (0 : Int32) else (1 : Int32))), (.int c1), (.int 2), (.ref b123)]) by
  by_cases hc149 : x2 = (0 : Int32)
  ·
   simp only [if_pos hc149] at J150
   refine s_ifY (pc' := 47) X144.here hx (hb hby d_prog_21_m1_40) ((if0 _ _).trans (teq hc149).1) (by decide) (by decide) ?_
   refine s_iconst (pc' := 48) (v := 0) X144.here hx (hb hby d_prog_21_m1_47) rfl rfl ?_
   exact J150
  ·
   simp only [if_neg hc149] at J150
   refine s_ifN (pc' := 43) X144.here hx (hb hby d_prog_21_m1_40) rfl ((if0 _ _).trans (feq hc149).1) ?_
   refine s_iconst (pc' := 44) (v := 1) X144.here hx (hb hby d_prog_21_m1_43) rfl rfl ?_
   refine s_goto (pc' := 48) X144.here hx (hb hby d_prog_21_m1_44) (by decide) (by decide) ?_
   exact J150
 refine s_iadd (pc' := 49) X144.here hx (hb hby d_prog_21_m1_48) rfl rfl ?_
 rw [hc2]
 show Go p.tables e below Kx _ (mkF m 49 _ [(.int c2), (.int 2), (.ref b123)])
 obtain ⟨cl151, Ar151, Aq151, As151, An151, Ah151, Ag151⟩ := id V139
 have in152 := inb_of (j := 2) As151 (by decide)
 obtain ⟨T152, h152, X152, e152, W152, st152⟩ := stI X144 hx hZ e144 Ar151 (j := 2) in152 (g := (mkF m 49 #[vr a, vr b, vi rc, vi 2] [(.int c2), (.int 2), (.ref b123)])) rfl rfl (hb hby d_prog_21_m1_49)
 have V152 : Arv Z h152 b123 k123 .int 4 [(.int 0), (.int c1), (.int c2), (.int 0)] (.int 0) := Arv.set Ar151 Aq151 As151 An151 Ah151 Ag151 rfl W152 2 rfl (Nat.le_of_ble_eq_true rfl)
 have K152 : Keep h0 h152 [a] := K139.wr W152 (Or.inr sz123)
 have O152 : Old Z n0 h152 := O139.wr W152 ge123
 have N152 := Fr.snoc X152 N139 ge123
 refine Go.st st152 ?_
 show Go p.tables e below Kx _ (mkF m 50 _ [])
 refine s_iinc (pc' := 53) (Ls' := #[vr a, vr b, vi rc, vi 3]) (z := 3) X152.here hx (hb hby d_prog_21_m1_50) rfl rfl (by decide) rfl ?_
 refine s_goto (pc' := 16) X152.here hx (hb hby d_prog_21_m1_53) (by decide) (by decide) ?_
 refine s_iloadN (pc' := 17) X152.here hx (hb hby d_prog_21_m1_16) rfl rfl ?_
 refine s_aloadN (pc' := 18) X152.here hx (hb hby d_prog_21_m1_17) rfl rfl rfl ?_
 have f153 : Arv Z h152 b kb .boolean 3 [(.int x1), (.int x2), (.int x3)] (.int 0) := (f140.other W152 (Nat.ne_of_lt (Nat.lt_of_lt_of_le VB.lt (Nat.le_of_eq g123.symm))))
 obtain ⟨cl154, Ar154, Aq154, As154, An154, Ah154, Ag154⟩ := id f153
 refine Go.st (X152.arraylength hx (by rw [e152]; exact Ar154.1) (State.isArrayOf_alike hZ.alike Ar154.2.1) (g := (mkF m 18 #[vr a, vr b, vi rc, vi 3] [(.ref b), (.int 3)])) rfl rfl (hb hby d_prog_21_m1_18)) ?_
 rw [len_of As154 An154]
 show Go p.tables e below Kx _ (mkF m 19 _ [(.int 3), (.int 3)])
 refine s_icmpN (pc' := 22) X152.here hx (hb hby d_prog_21_m1_19) rfl (flt (by decide)).2.2.1 ?_
 refine s_aloadN (pc' := 23) X152.here hx (hb hby d_prog_21_m1_22) rfl rfl rfl ?_
 have f155 : Fld Z h152 a "com/example/kingfisher/kingfisher/eval/TopicRanking" "relevantWithin" "[I" (.ref b123) := (f142.other W152 (Or.inl (Nat.ne_of_lt (Nat.lt_of_lt_of_le E.lt (Nat.le_of_eq g123.symm)))))
 obtain ⟨T156, X156, e156, st156⟩ := getF X152 hx hZ hown (host := "") (Or.inl (hv hw 12 rfl)) Via.refl e152 f155 (g := (mkF m 23 #[vr a, vr b, vi rc, vi 3] [(.ref a)])) rfl rfl (hb hby d_prog_21_m1_23)
 refine Go.st st156 ?_
 show Go p.tables e below Kx _ (mkF m 26 _ [(.ref b123)])
 refine s_iloadN (pc' := 27) X156.here hx (hb hby d_prog_21_m1_26) rfl rfl ?_
 refine s_aloadN (pc' := 28) X156.here hx (hb hby d_prog_21_m1_27) rfl rfl rfl ?_
 obtain ⟨T157, X157, e157, st157⟩ := getF X156 hx hZ hown (host := "") (Or.inl (hv hw 12 rfl)) Via.refl e156 f155 (g := (mkF m 28 #[vr a, vr b, vi rc, vi 3] [(.ref a), (.int 3), (.ref b123)])) rfl rfl (hb hby d_prog_21_m1_28)
 refine Go.st st157 ?_
 show Go p.tables e below Kx _ (mkF m 31 _ [(.ref b123), (.int 3), (.ref b123)])
 refine s_iloadN (pc' := 32) X157.here hx (hb hby d_prog_21_m1_31) rfl rfl ?_
 refine s_iconst (pc' := 33) (v := 1) X157.here hx (hb hby d_prog_21_m1_32) rfl rfl ?_
 refine s_isub (pc' := 34) (z := 2) X157.here hx (hb hby d_prog_21_m1_33) rfl (by decide) ?_
 obtain ⟨cl158, Ar158, Aq158, As158, An158, Ah158, Ag158⟩ := id V152
 have in159 := inb_of (j := 2) As158 (by decide)
 have at159 : cl158.slots[((2 : Int32)).toNatClampNeg]? = some (.int c2) := Ah158.at in159 rfl
 refine Go.st (X157.iaload hx (j := 2) (v := (.int c2)) (by rw [e157]; exact Ar158.1) (State.isArrayOf_alike hZ.alike Ar158.2.1) Ar158.2.2 in159 at159 (g := (mkF m 34 #[vr a, vr b, vi rc, vi 3] [(.int 2), (.ref b123), (.int 3), (.ref b123)])) rfl rfl (hb hby d_prog_21_m1_34)) ?_
 show Go p.tables e below Kx _ (mkF m 35 _ [(.int c2), (.int 3), (.ref b123)])
 refine s_aloadN (pc' := 36) X157.here hx (hb hby d_prog_21_m1_35) rfl rfl rfl ?_
 refine s_iloadN (pc' := 37) X157.here hx (hb hby d_prog_21_m1_36) rfl rfl ?_
 refine s_iconst (pc' := 38) (v := 1) X157.here hx (hb hby d_prog_21_m1_37) rfl rfl ?_
 refine s_isub (pc' := 39) (z := 2) X157.here hx (hb hby d_prog_21_m1_38) rfl (by decide) ?_
 obtain ⟨cl160, Ar160, Aq160, As160, An160, Ah160, Ag160⟩ := id f153
 have in161 := inb_of (j := 2) As160 (by decide)
 have at161 : cl160.slots[((2 : Int32)).toNatClampNeg]? = some (.int x3) := Ah160.at in161 rfl
 refine Go.st (X157.baloadBooleans hx (j := 2) (v := (.int x3)) (by rw [e157]; exact Ar160.1) (State.isArrayOf_alike hZ.alike Ar160.2.1) Ar160.2.2 in161 at161 (g := (mkF m 39 #[vr a, vr b, vi rc, vi 3] [(.int 2), (.ref b), (.int c2), (.int 3), (.ref b123)])) rfl rfl (hb hby d_prog_21_m1_39)) ?_
 show Go p.tables e below Kx _ (mkF m 40 _ [(.int x3), (.int c2), (.int 3), (.ref b123)])
 suffices J163 : Go p.tables e below Kx T157 (mkF m 48 #[vr a, vr b, vi rc, vi 3] [(.int (if x3 = (0 : Int32) then (0 : Int32) else (1 : Int32))), (.int c2), (.int 3), (.ref b123)]) by
  by_cases hc162 : x3 = (0 : Int32)
  ·
   simp only [if_pos hc162] at J163
   refine s_ifY (pc' := 47) X157.here hx (hb hby d_prog_21_m1_40) ((if0 _ _).trans (teq hc162).1) (by decide) (by decide) ?_
   refine s_iconst (pc' := 48) (v := 0) X157.here hx (hb hby d_prog_21_m1_47) rfl rfl ?_
   exact J163
  ·
   simp only [if_neg hc162] at J163
   refine s_ifN (pc' := 43) X157.here hx (hb hby d_prog_21_m1_40) rfl ((if0 _ _).trans (feq hc162).1) ?_
   refine s_iconst (pc' := 44) (v := 1) X157.here hx (hb hby d_prog_21_m1_43) rfl rfl ?_
   refine s_goto (pc' := 48) X157.here hx (hb hby d_prog_21_m1_44) (by decide) (by decide) ?_
   exact J163
 refine s_iadd (pc' := 49) X157.here hx (hb hby d_prog_21_m1_48) rfl rfl ?_
 rw [hc3]
 show Go p.tables e below Kx _ (mkF m 49 _ [(.int c3), (.int 3), (.ref b123)])
 obtain ⟨cl164, Ar164, Aq164, As164, An164, Ah164, Ag164⟩ := id V152
 have in165 := inb_of (j := 3) As164 (by decide)
 obtain ⟨T165, h165, X165, e165, W165, st165⟩ := stI X157 hx hZ e157 Ar164 (j := 3) in165 (g := (mkF m 49 #[vr a, vr b, vi rc, vi 3] [(.int c3), (.int 3), (.ref b123)])) rfl rfl (hb hby d_prog_21_m1_49)
 have V165 : Arv Z h165 b123 k123 .int 4 [(.int 0), (.int c1), (.int c2), (.int c3)] (.int 0) := Arv.set Ar164 Aq164 As164 An164 Ah164 Ag164 rfl W165 3 rfl (Nat.le_of_ble_eq_true rfl)
 have K165 : Keep h0 h165 [a] := K152.wr W165 (Or.inr sz123)
 have O165 : Old Z n0 h165 := O152.wr W165 ge123
 have N165 := Fr.snoc X165 N152 ge123
 refine Go.st st165 ?_
 show Go p.tables e below Kx _ (mkF m 50 _ [])
 refine s_iinc (pc' := 53) (Ls' := #[vr a, vr b, vi rc, vi 4]) (z := 4) X165.here hx (hb hby d_prog_21_m1_50) rfl rfl (by decide) rfl ?_
 refine s_goto (pc' := 16) X165.here hx (hb hby d_prog_21_m1_53) (by decide) (by decide) ?_
 refine s_iloadN (pc' := 17) X165.here hx (hb hby d_prog_21_m1_16) rfl rfl ?_
 refine s_aloadN (pc' := 18) X165.here hx (hb hby d_prog_21_m1_17) rfl rfl rfl ?_
 have f166 : Arv Z h165 b kb .boolean 3 [(.int x1), (.int x2), (.int x3)] (.int 0) := (f153.other W165 (Nat.ne_of_lt (Nat.lt_of_lt_of_le VB.lt (Nat.le_of_eq g123.symm))))
 obtain ⟨cl167, Ar167, Aq167, As167, An167, Ah167, Ag167⟩ := id f166
 refine Go.st (X165.arraylength hx (by rw [e165]; exact Ar167.1) (State.isArrayOf_alike hZ.alike Ar167.2.1) (g := (mkF m 18 #[vr a, vr b, vi rc, vi 4] [(.ref b), (.int 4)])) rfl rfl (hb hby d_prog_21_m1_18)) ?_
 rw [len_of As167 An167]
 show Go p.tables e below Kx _ (mkF m 19 _ [(.int 3), (.int 4)])
 refine s_icmpY (pc' := 56) X165.here hx (hb hby d_prog_21_m1_19) (tlt (by decide)).2.2.1 (by decide) (by decide) ?_
 refine s_aloadN (pc' := 57) X165.here hx (hb hby d_prog_21_m1_56) rfl rfl rfl ?_
 refine s_iloadN (pc' := 58) X165.here hx (hb hby d_prog_21_m1_57) rfl rfl ?_
 have f168 : Fld Z h165 a "com/example/kingfisher/kingfisher/eval/TopicRanking" "relevantCount" "I" (.int 0) := (((((F2.ext E123).other W126 (Or.inr (slot_ne (Or.inr (hv hw 15 rfl)) (Or.inr (hv hw 13 rfl)) (by decide) (t := .int) (t' := (.array .int)) (by decide) (by decide)))).other W139 (Or.inl (Nat.ne_of_lt (Nat.lt_of_lt_of_le E.lt (Nat.le_of_eq g123.symm))))).other W152 (Or.inl (Nat.ne_of_lt (Nat.lt_of_lt_of_le E.lt (Nat.le_of_eq g123.symm))))).other W165 (Or.inl (Nat.ne_of_lt (Nat.lt_of_lt_of_le E.lt (Nat.le_of_eq g123.symm)))))
 have f169 : Exa Z h165 a "com/example/kingfisher/kingfisher/eval/TopicRanking" := ((((f125.wr W126).wr W139).wr W152).wr W165)
 obtain ⟨T170, h170, X170, e170, W170, st170⟩ := putF X165 hx hZ hown (host := "") (Or.inl (hv hw 14 rfl)) Via.refl e165 f168 f169 (Or.inr ⟨(hv hw 15 rfl), rfl, hnm⟩) (hv hw 3 rfl) (ty := .int) (by decide) rfl rfl (g := (mkF m 58 #[vr a, vr b, vi rc, vi 4] [(.int rc), (.ref a)])) rfl rfl (hb hby d_prog_21_m1_58)
 have Fw170 : Fld Z h170 a "com/example/kingfisher/kingfisher/eval/TopicRanking" "relevantCount" "I" (.int rc) := f168.same W170
 have K170 : Keep h0 h170 [a] := K165.wr W170 (Or.inl (List.mem_of_getElem? (i := 0) rfl))
 have O170 : Old Z n0 h170 := O165.wr W170 ge_a
 have N170 := Fr.snoc X170 N165 ge_a
 refine Go.st st170 ?_
 show Go p.tables e below Kx _ (mkF m 61 _ [])
 have f171 : Exa Z h170 a "com/example/kingfisher/kingfisher/eval/TopicRanking" := (f169.wr W170)
 have f172 : Fld Z h170 a "com/example/kingfisher/kingfisher/eval/TopicRanking" "relevantWithin" "[I" (.ref b123) := ((f155.other W165 (Or.inl (Nat.ne_of_lt (Nat.lt_of_lt_of_le E.lt (Nat.le_of_eq g123.symm))))).other W170 (Or.inr (slot_ne (Or.inr (hv hw 13 rfl)) (Or.inr (hv hw 15 rfl)) (by decide) (t := (.array .int)) (t' := .int) (by decide) (by decide))))
 have f173 : Arv Z h170 b123 k123 .int 4 [(.int 0), (.int c1), (.int c2), (.int c3)] (.int 0) := (V165.other W170 (Ne.symm (Nat.ne_of_lt (Nat.lt_of_lt_of_le E.lt (Nat.le_of_eq g123.symm)))))
 obtain ⟨fs, hr, hrun, hended, hW, hsame⟩ := X170.leave (v := none) (fun _ => rfl)
 refine Go.fin (X170.returnOut hx Bd.returns (hb hby d_prog_21_m1_61) hr) (hF _ _ hrun hended ⟨_, _, rfl, ?_, ⟨_, rfl⟩, hW, hsame.mono (by decide) (by decide)⟩)
 ·
  show QN3 Z a b kb x1 x2 x3 c1 c2 c3 rc h0 n0 (none : Option Value) T170.heap _
  rw [e170]
  exact ⟨rfl, N170, K170, f171, Fw170, b123, _, f172, f173⟩
def QV3 (Z : State) (a t : Addr) (k : ClassId) (c1 c2 c3 : Int32) (h0 : Heap) (n0 : Nat) (v : Option Value) (h : Heap) (L : List Loc) : Prop := v = some (.int 3) ∧ Fr n0 L ∧ h = h0
set_option maxRecDepth 65536 in
set_option maxHeartbeats 40000000 in
theorem rmV3 (l : Launch) (Z : State) (a0 : Array Value) (hw : ∀ d ∈ tables_1, d.before a0 Z = true) (ws : List Jvm.Cond) (a t : Addr) (k : ClassId) (c1 c2 c3 : Int32) (h0 : Heap) (n0 : Nat) (X00 : Old Z n0 h0) (F1 : Fld Z h0 a "com/example/kingfisher/kingfisher/eval/TopicRanking" "relevantWithin" "[I" (.ref t)) (VT : Arv Z h0 t k .int 4 [(.int 0), (.int c1), (.int c2), (.int c3)] (.int 0)) :
  MetFree l yN2 (head1 (Jvm.Cond.code yN2 prog_21_method_2_code 1 (some .int) :: ws) ({ frames := 0, cells := 0, slots := 0, locals := 0 } : Room)) (fun aa U => aa = #[(.ref a)] ∧ Z.Warmed39 U.vm ∧ U.heap = h0) (fun _ _ _ _ _ => True) (fun _ U o U' => ∃ v L, o = .returned v ∧ QV3 Z a t k c1 c2 c3 h0 n0 v U'.heap L ∧ FrameEnd U o U' L ({ frames := 0, cells := 0, slots := 0, locals := 0 } : Room).cells ({ frames := 0, cells := 0, slots := 0, locals := 0 } : Room).slots) := by
 refine MetFree.of_bodySF (plainFor_of_name pn_0) hisR ?_
 intro p e s m args below meth c s₁ Bd hml0 hP hK
 obtain ⟨rfl, hZ, hh⟩ := hP
 have hx := Bd.exec
 have hby := Bd.bytes
 have hml : c.maxLocals = 1 := hml0
 have hown : s.vm.findClass "com/example/kingfisher/kingfisher/eval/TopicRanking" = some m.cls := findClass_of_methodNamed Bd.named
 have hnm := (name_of_methodNamed Bd.named Bd.method).1
 have X0 : Stand p l e ({ frames := 0, cells := 0, slots := 0, locals := 0 } : Room) s m #[(.ref a)] below meth c s₁ [] 0 0 := Stand.of_body Bd
 have e0 : s₁.heap = h0 := by rw [← hh, Bd.state]; rfl
 have N0 := Fr.nil n0
 have K0 := Keep.refl h0 []
 have ef : entryFrame m #[(.ref a)] 1 = mkF m 0 #[vr a] [] := (by first | (simp [entryFrame, mkF, argsToLocals, Value.category]; done) | rfl : entryFrame m #[(.ref a)] 1 = mkF m 0 #[vr a] [])
 rw [ef]
 refine fin_of fun Kx hF => ?_
 show Go p.tables e below Kx _ (mkF m 0 _ [])
 refine s_aloadN (pc' := 1) X0.here hx (hb hby d_prog_21_m2_0) rfl rfl rfl ?_
 obtain ⟨T174, X174, e174, st174⟩ := getF X0 hx hZ hown (host := "") (Or.inl (hv hw 12 rfl)) Via.refl e0 F1 (g := (mkF m 1 #[vr a] [(.ref a)])) rfl rfl (hb hby d_prog_21_m2_1)
 refine Go.st st174 ?_
 show Go p.tables e below Kx _ (mkF m 4 _ [(.ref t)])
 obtain ⟨cl175, Ar175, Aq175, As175, An175, Ah175, Ag175⟩ := id VT
 refine Go.st (X174.arraylength hx (by rw [e174]; exact Ar175.1) (State.isArrayOf_alike hZ.alike Ar175.2.1) (g := (mkF m 4 #[vr a] [(.ref t)])) rfl rfl (hb hby d_prog_21_m2_4)) ?_
 rw [len_of As175 An175]
 show Go p.tables e below Kx _ (mkF m 5 _ [(.int 4)])
 refine s_iconst (pc' := 6) (v := 1) X174.here hx (hb hby d_prog_21_m2_5) rfl rfl ?_
 refine s_isub (pc' := 7) (z := 3) X174.here hx (hb hby d_prog_21_m2_6) rfl (by decide) ?_
 obtain ⟨fs, hr, hrun, hended, hW, hsame⟩ := X174.leave (v := (some (.int 3))) (fun h => by rw [Bd.returns] at h; cases h)
 refine Go.fin (retI X174 hx Bd.returns (hb hby d_prog_21_m2_7) hr) (hF _ _ hrun hended ⟨_, _, rfl, ?_, ⟨_, rfl⟩, hW, hsame.mono (by decide) (by decide)⟩)
 ·
  show QV3 Z a t k c1 c2 c3 h0 n0 ((some (.int 3)) : Option Value) T174.heap _
  rw [e174]
  exact ⟨rfl, N0, rfl⟩
def QA3 (Z : State) (a t : Addr) (k : ClassId) (c1 c2 c3 : Int32) (rc tn : Int32) (h0 : Heap) (n0 : Nat) (v : Option Value) (h : Heap) (L : List Loc) : Prop := v = some (.double (mst (mst (mst FP.dconst0 c1 1 (needd tn rc)) c2 2 (needd tn rc)) c3 3 (needd tn rc))) ∧ Fr n0 L ∧ h = h0
set_option maxRecDepth 65536 in
set_option maxHeartbeats 40000000 in
theorem rmA3 (l : Launch) (Z : State) (a0 : Array Value) (hw : ∀ d ∈ tables_1, d.before a0 Z = true) (ws : List Jvm.Cond) (a t : Addr) (k : ClassId) (c1 c2 c3 : Int32) (rc tn : Int32) (h0 : Heap) (n0 : Nat) (X00 : Old Z n0 h0) (hrc : rc ≠ 0) (E : Exa Z h0 a "com/example/kingfisher/kingfisher/eval/TopicRanking") (F1 : Fld Z h0 a "com/example/kingfisher/kingfisher/eval/TopicRanking" "relevantWithin" "[I" (.ref t)) (F2 : Fld Z h0 a "com/example/kingfisher/kingfisher/eval/TopicRanking" "relevantCount" "I" (.int rc)) (VT : Arv Z h0 t k .int 4 [(.int 0), (.int c1), (.int c2), (.int c3)] (.int 0)) :
  MetFree l yN1 (head1 (Jvm.Cond.code yN1 prog_21_method_8_code 7 (some .double) :: ws) ({ frames := 1, cells := 0, slots := 0, locals := 40 } : Room)) (fun aa U => aa = #[(.ref a), (.int tn)] ∧ Z.Warmed39 U.vm ∧ U.heap = h0) (fun _ _ _ _ _ => True) (fun _ U o U' => ∃ v L, o = .returned v ∧ QA3 Z a t k c1 c2 c3 rc tn h0 n0 v U'.heap L ∧ FrameEnd U o U' L ({ frames := 1, cells := 0, slots := 0, locals := 40 } : Room).cells ({ frames := 1, cells := 0, slots := 0, locals := 40 } : Room).slots) := by
 refine MetFree.of_bodySF (plainFor_of_name pn_0) hisR ?_
 intro p e s m args below meth c s₁ Bd hml0 hP hK
 obtain ⟨rfl, hZ, hh⟩ := hP
 have hx := Bd.exec
 have hby := Bd.bytes
 have hml : c.maxLocals = 7 := hml0
 have hown : s.vm.findClass "com/example/kingfisher/kingfisher/eval/TopicRanking" = some m.cls := findClass_of_methodNamed Bd.named
 have hnm := (name_of_methodNamed Bd.named Bd.method).1
 have X0 : Stand p l e ({ frames := 1, cells := 0, slots := 0, locals := 40 } : Room) s m #[(.ref a), (.int tn)] below meth c s₁ [] 0 0 := Stand.of_body Bd
 have e0 : s₁.heap = h0 := by rw [← hh, Bd.state]; rfl
 have N0 := Fr.nil n0
 have K0 := Keep.refl h0 []
 have ef : entryFrame m #[(.ref a), (.int tn)] 7 = mkF m 0 #[vr a, vi tn, un, un, un, un, un] [] := (by first | (simp [entryFrame, mkF, argsToLocals, Value.category]; done) | rfl : entryFrame m #[(.ref a), (.int tn)] 7 = mkF m 0 #[vr a, vi tn, un, un, un, un, un] [])
 rw [ef]
 refine fin_of fun Kx hF => ?_
 show Go p.tables e below Kx _ (mkF m 0 _ [])
 refine s_iloadN (pc' := 1) X0.here hx (hb hby d_prog_21_m8_0) rfl rfl ?_
 refine s_i2d (pc' := 2) X0.here hx (hb hby d_prog_21_m8_1) rfl rfl ?_
 refine Go.st (X0.ldc2DoubleC hx hown (mvT hZ (hv hw 21 rfl)) (g := (mkF m 2 #[vr a, vi tn, un, un, un, un, un] [(.double (FP.i2d tn))])) rfl (hb hby d_prog_21_m8_2)) ?_
 show Go p.tables e below Kx _ (mkF m 5 _ [(.double (4621819117588971520 : UInt64)), (.double (FP.i2d tn))])
 refine s_ddiv (pc' := 6) X0.here hx (hb hby d_prog_21_m8_5) rfl (nn1 tn) rfl ?_
 refine s_aloadN (pc' := 7) X0.here hx (hb hby d_prog_21_m8_6) rfl rfl rfl ?_
 obtain ⟨T176, X176, e176, st176⟩ := getF X0 hx hZ hown (host := "") (Or.inl (hv hw 14 rfl)) Via.refl e0 F2 (g := (mkF m 7 #[vr a, vi tn, un, un, un, un, un] [(.ref a), (.double (FP.ddiv (FP.i2d tn) (4621819117588971520 : UInt64)))])) rfl rfl (hb hby d_prog_21_m8_7)
 refine Go.st st176 ?_
 show Go p.tables e below Kx _ (mkF m 10 _ [(.int rc), (.double (FP.ddiv (FP.i2d tn) (4621819117588971520 : UInt64)))])
 refine s_i2d (pc' := 11) X176.here hx (hb hby d_prog_21_m8_10) rfl rfl ?_
 refine s_dmul (pc' := 12) X176.here hx (hb hby d_prog_21_m8_11) rfl (nn2 tn hrc) rfl ?_
 refine Go.st (X176.ldc2DoubleC hx hown (mvT hZ (hv hw 22 rfl)) (g := (mkF m 12 #[vr a, vi tn, un, un, un, un, un] [(.double (FP.dmul (FP.ddiv (FP.i2d tn) (4621819117588971520 : UInt64)) (FP.i2d rc)))])) rfl (hb hby d_prog_21_m8_12)) ?_
 show Go p.tables e below Kx _ (mkF m 15 _ [(.double (4606281698874543309 : UInt64)), (.double (FP.dmul (FP.ddiv (FP.i2d tn) (4621819117588971520 : UInt64)) (FP.i2d rc)))])
 refine s_dadd (pc' := 16) X176.here hx (hb hby d_prog_21_m8_15) rfl (nn3 tn hrc) rfl ?_
 refine s_d2l (pc' := 17) (z := needd tn rc) X176.here hx (hb hby d_prog_21_m8_16) rfl rfl ?_
 refine s_lstoreN (pc' := 18) (Ls' := #[vr a, vi tn, .val (.long (needd tn rc)), sn, un, un, un]) X176.here hx (hb hby d_prog_21_m8_17) rfl  rfl ?_
 refine s_dconst0 (pc' := 19) X176.here hx (hb hby d_prog_21_m8_18) rfl rfl ?_
 refine s_dstore (pc' := 21) (Ls' := #[vr a, vi tn, .val (.long (needd tn rc)), sn, .val (.double FP.dconst0), sn, un]) X176.here hx (hb hby d_prog_21_m8_19) rfl  rfl ?_
 refine s_iconst (pc' := 22) (v := 1) X176.here hx (hb hby d_prog_21_m8_21) rfl rfl ?_
 refine s_istore (pc' := 24) (Ls' := #[vr a, vi tn, .val (.long (needd tn rc)), sn, .val (.double FP.dconst0), sn, vi 1]) X176.here hx (hb hby d_prog_21_m8_22) rfl  rfl ?_
 refine s_iload (pc' := 26) X176.here hx (hb hby d_prog_21_m8_24) rfl rfl ?_
 refine s_aloadN (pc' := 27) X176.here hx (hb hby d_prog_21_m8_26) rfl rfl rfl ?_
 obtain ⟨cq177, kq177, q177a, q177b, q177c⟩ := isOf hZ e176 E
 obtain ⟨_, _, ⟨T177, L177, k177, n177⟩, -, X177, ⟨Lc177, hQ177, l177, y177, z177⟩, st177⟩ := X176.virtualBack hx (y := yN2) (z := yN2) hown (mvT hZ (hv hw 23 rfl)) (mvT hZ (hv hw 24 rfl)) (notFace_of_selects (args := #[]) (mvT hZ (hv hw 26 rfl))) (mvT hZ (hv hw 26 rfl)) (mvT hZ (hv hw 25 rfl)) (by decide) (backOf (W := 1) (rmV3 l Z a0 hw [] a t k c1 c2 c3 h0 n0 X00 F1 VT) hZ (hv hw 27 rfl) (hv hw 4 rfl) (by decide) (by decide)) q177a q177c (g := (mkF m 27 #[vr a, vi tn, .val (.long (needd tn rc)), sn, .val (.double FP.dconst0), sn, vi 1] [(.ref a), (.int 1)])) rfl (by rw [hml]; rfl) (Steps.refl _) (argsL := []) (rest := [(.int 1)]) (lenOf pd_0 rfl) rfl (by exact Nat.le_of_eq rfl) (hb hby d_prog_21_m8_27) (fun _ _ => ⟨rfl, e176, (by decide : 0 + 0 ≤ _), (by decide : 0 + 0 ≤ _)⟩)
 dsimp only [Pt.U, Pt.locs, Pt.cells, Pt.slots] at X177 l177 y177 z177 st177 hQ177
 rw [l177, y177, z177] at X177
 obtain ⟨rfl, Nq177, hE177⟩ := hQ177
 have N177 := Fr.app N0 Nq177
 refine Go.tr st177 ?_
 show Go p.tables e below Kx _ (mkF m 30 _ [(.int 3), (.int 1)])
 refine s_icmpN (pc' := 33) X177.here hx (hb hby d_prog_21_m8_30) rfl (flt (by decide)).2.2.1 ?_
 refine s_aloadN (pc' := 34) X177.here hx (hb hby d_prog_21_m8_33) rfl rfl rfl ?_
 obtain ⟨T178, X178, e178, st178⟩ := getF X177 hx hZ hown (host := "") (Or.inl (hv hw 12 rfl)) Via.refl hE177 F1 (g := (mkF m 34 #[vr a, vi tn, .val (.long (needd tn rc)), sn, .val (.double FP.dconst0), sn, vi 1] [(.ref a)])) rfl rfl (hb hby d_prog_21_m8_34)
 refine Go.st st178 ?_
 show Go p.tables e below Kx _ (mkF m 37 _ [(.ref t)])
 refine s_iload (pc' := 39) X178.here hx (hb hby d_prog_21_m8_37) rfl rfl ?_
 obtain ⟨cl179, Ar179, Aq179, As179, An179, Ah179, Ag179⟩ := id VT
 have in180 := inb_of (j := 1) As179 (by decide)
 have at180 : cl179.slots[((1 : Int32)).toNatClampNeg]? = some (.int c1) := Ah179.at in180 rfl
 refine Go.st (X178.iaload hx (j := 1) (v := (.int c1)) (by rw [e178]; exact Ar179.1) (State.isArrayOf_alike hZ.alike Ar179.2.1) Ar179.2.2 in180 at180 (g := (mkF m 39 #[vr a, vi tn, .val (.long (needd tn rc)), sn, .val (.double FP.dconst0), sn, vi 1] [(.int 1), (.ref t)])) rfl rfl (hb hby d_prog_21_m8_39)) ?_
 show Go p.tables e below Kx _ (mkF m 40 _ [(.int c1)])
 refine s_i2l (pc' := 41) X178.here hx (hb hby d_prog_21_m8_40) rfl rfl ?_
 refine s_lloadN (pc' := 42) X178.here hx (hb hby d_prog_21_m8_41) rfl rfl ?_
 refine s_lcmp (pc' := 43) X178.here hx (hb hby d_prog_21_m8_42) rfl rfl ?_
 have J1 : ∀ (s1 : UInt64) (TJ1 : State) (LJ1 : List Loc), Stand p l e ({ frames := 1, cells := 0, slots := 0, locals := 40 } : Room) s m #[(.ref a), (.int tn)] below meth c TJ1 LJ1 0 0 → Fr n0 LJ1 → TJ1.heap = h0 → s1 = (mst FP.dconst0 c1 1 (needd tn rc)) → Go p.tables e below Kx TJ1 (mkF m 65 #[vr a, vi tn, .val (.long (needd tn rc)), sn, .val (.double s1), sn, vi 1] []) := by
  intro s1 TJ1 LJ1 XJ1 NJ1 eJ1 hs1
  subst hs1
  show Go p.tables e below Kx _ (mkF m 65 _ [])
  refine s_iinc (pc' := 68) (Ls' := #[vr a, vi tn, .val (.long (needd tn rc)), sn, .val (.double (mst FP.dconst0 c1 1 (needd tn rc))), sn, vi 2]) (z := 2) XJ1.here hx (hb hby d_prog_21_m8_65) rfl rfl (by decide) rfl ?_
  refine s_goto (pc' := 24) XJ1.here hx (hb hby d_prog_21_m8_68) (by decide) (by decide) ?_
  refine s_iload (pc' := 26) XJ1.here hx (hb hby d_prog_21_m8_24) rfl rfl ?_
  refine s_aloadN (pc' := 27) XJ1.here hx (hb hby d_prog_21_m8_26) rfl rfl rfl ?_
  obtain ⟨cq182, kq182, q182a, q182b, q182c⟩ := isOf hZ eJ1 E
  obtain ⟨_, _, ⟨T182, L182, k182, n182⟩, -, X182, ⟨Lc182, hQ182, l182, y182, z182⟩, st182⟩ := XJ1.virtualBack hx (y := yN2) (z := yN2) hown (mvT hZ (hv hw 23 rfl)) (mvT hZ (hv hw 24 rfl)) (notFace_of_selects (args := #[]) (mvT hZ (hv hw 26 rfl))) (mvT hZ (hv hw 26 rfl)) (mvT hZ (hv hw 25 rfl)) (by decide) (backOf (W := 1) (rmV3 l Z a0 hw [] a t k c1 c2 c3 h0 n0 X00 F1 VT) hZ (hv hw 27 rfl) (hv hw 4 rfl) (by decide) (by decide)) q182a q182c (g := (mkF m 27 #[vr a, vi tn, .val (.long (needd tn rc)), sn, .val (.double (mst FP.dconst0 c1 1 (needd tn rc))), sn, vi 2] [(.ref a), (.int 2)])) rfl (by rw [hml]; rfl) (Steps.refl _) (argsL := []) (rest := [(.int 2)]) (lenOf pd_0 rfl) rfl (by exact Nat.le_of_eq rfl) (hb hby d_prog_21_m8_27) (fun _ _ => ⟨rfl, eJ1, (by decide : 0 + 0 ≤ _), (by decide : 0 + 0 ≤ _)⟩)
  dsimp only [Pt.U, Pt.locs, Pt.cells, Pt.slots] at X182 l182 y182 z182 st182 hQ182
  rw [l182, y182, z182] at X182
  obtain ⟨rfl, Nq182, hE182⟩ := hQ182
  have N182 := Fr.app NJ1 Nq182
  refine Go.tr st182 ?_
  show Go p.tables e below Kx _ (mkF m 30 _ [(.int 3), (.int 2)])
  refine s_icmpN (pc' := 33) X182.here hx (hb hby d_prog_21_m8_30) rfl (flt (by decide)).2.2.1 ?_
  refine s_aloadN (pc' := 34) X182.here hx (hb hby d_prog_21_m8_33) rfl rfl rfl ?_
  obtain ⟨T183, X183, e183, st183⟩ := getF X182 hx hZ hown (host := "") (Or.inl (hv hw 12 rfl)) Via.refl hE182 F1 (g := (mkF m 34 #[vr a, vi tn, .val (.long (needd tn rc)), sn, .val (.double (mst FP.dconst0 c1 1 (needd tn rc))), sn, vi 2] [(.ref a)])) rfl rfl (hb hby d_prog_21_m8_34)
  refine Go.st st183 ?_
  show Go p.tables e below Kx _ (mkF m 37 _ [(.ref t)])
  refine s_iload (pc' := 39) X183.here hx (hb hby d_prog_21_m8_37) rfl rfl ?_
  obtain ⟨cl184, Ar184, Aq184, As184, An184, Ah184, Ag184⟩ := id VT
  have in185 := inb_of (j := 2) As184 (by decide)
  have at185 : cl184.slots[((2 : Int32)).toNatClampNeg]? = some (.int c2) := Ah184.at in185 rfl
  refine Go.st (X183.iaload hx (j := 2) (v := (.int c2)) (by rw [e183]; exact Ar184.1) (State.isArrayOf_alike hZ.alike Ar184.2.1) Ar184.2.2 in185 at185 (g := (mkF m 39 #[vr a, vi tn, .val (.long (needd tn rc)), sn, .val (.double (mst FP.dconst0 c1 1 (needd tn rc))), sn, vi 2] [(.int 2), (.ref t)])) rfl rfl (hb hby d_prog_21_m8_39)) ?_
  show Go p.tables e below Kx _ (mkF m 40 _ [(.int c2)])
  refine s_i2l (pc' := 41) X183.here hx (hb hby d_prog_21_m8_40) rfl rfl ?_
  refine s_lloadN (pc' := 42) X183.here hx (hb hby d_prog_21_m8_41) rfl rfl ?_
  refine s_lcmp (pc' := 43) X183.here hx (hb hby d_prog_21_m8_42) rfl rfl ?_
  have J2 : ∀ (s2 : UInt64) (TJ2 : State) (LJ2 : List Loc), Stand p l e ({ frames := 1, cells := 0, slots := 0, locals := 40 } : Room) s m #[(.ref a), (.int tn)] below meth c TJ2 LJ2 0 0 → Fr n0 LJ2 → TJ2.heap = h0 → s2 = (mst (mst FP.dconst0 c1 1 (needd tn rc)) c2 2 (needd tn rc)) → Go p.tables e below Kx TJ2 (mkF m 65 #[vr a, vi tn, .val (.long (needd tn rc)), sn, .val (.double s2), sn, vi 2] []) := by
   intro s2 TJ2 LJ2 XJ2 NJ2 eJ2 hs2
   subst hs2
   show Go p.tables e below Kx _ (mkF m 65 _ [])
   refine s_iinc (pc' := 68) (Ls' := #[vr a, vi tn, .val (.long (needd tn rc)), sn, .val (.double (mst (mst FP.dconst0 c1 1 (needd tn rc)) c2 2 (needd tn rc))), sn, vi 3]) (z := 3) XJ2.here hx (hb hby d_prog_21_m8_65) rfl rfl (by decide) rfl ?_
   refine s_goto (pc' := 24) XJ2.here hx (hb hby d_prog_21_m8_68) (by decide) (by decide) ?_
   refine s_iload (pc' := 26) XJ2.here hx (hb hby d_prog_21_m8_24) rfl rfl ?_
   refine s_aloadN (pc' := 27) XJ2.here hx (hb hby d_prog_21_m8_26) rfl rfl rfl ?_
   obtain ⟨cq187, kq187, q187a, q187b, q187c⟩ := isOf hZ eJ2 E
   obtain ⟨_, _, ⟨T187, L187, k187, n187⟩, -, X187, ⟨Lc187, hQ187, l187, y187, z187⟩, st187⟩ := XJ2.virtualBack hx (y := yN2) (z := yN2) hown (mvT hZ (hv hw 23 rfl)) (mvT hZ (hv hw 24 rfl)) (notFace_of_selects (args := #[]) (mvT hZ (hv hw 26 rfl))) (mvT hZ (hv hw 26 rfl)) (mvT hZ (hv hw 25 rfl)) (by decide) (backOf (W := 1) (rmV3 l Z a0 hw [] a t k c1 c2 c3 h0 n0 X00 F1 VT) hZ (hv hw 27 rfl) (hv hw 4 rfl) (by decide) (by decide)) q187a q187c (g := (mkF m 27 #[vr a, vi tn, .val (.long (needd tn rc)), sn, .val (.double (mst (mst FP.dconst0 c1 1 (needd tn rc)) c2 2 (needd tn rc))), sn, vi 3] [(.ref a), (.int 3)])) rfl (by rw [hml]; rfl) (Steps.refl _) (argsL := []) (rest := [(.int 3)]) (lenOf pd_0 rfl) rfl (by exact Nat.le_of_eq rfl) (hb hby d_prog_21_m8_27) (fun _ _ => ⟨rfl, eJ2, (by decide : 0 + 0 ≤ _), (by decide : 0 + 0 ≤ _)⟩)
   dsimp only [Pt.U, Pt.locs, Pt.cells, Pt.slots] at X187 l187 y187 z187 st187 hQ187
   rw [l187, y187, z187] at X187
   obtain ⟨rfl, Nq187, hE187⟩ := hQ187
   have N187 := Fr.app NJ2 Nq187
   refine Go.tr st187 ?_
   show Go p.tables e below Kx _ (mkF m 30 _ [(.int 3), (.int 3)])
   refine s_icmpN (pc' := 33) X187.here hx (hb hby d_prog_21_m8_30) rfl (flt (by decide)).2.2.1 ?_
   refine s_aloadN (pc' := 34) X187.here hx (hb hby d_prog_21_m8_33) rfl rfl rfl ?_
   obtain ⟨T188, X188, e188, st188⟩ := getF X187 hx hZ hown (host := "") (Or.inl (hv hw 12 rfl)) Via.refl hE187 F1 (g := (mkF m 34 #[vr a, vi tn, .val (.long (needd tn rc)), sn, .val (.double (mst (mst FP.dconst0 c1 1 (needd tn rc)) c2 2 (needd tn rc))), sn, vi 3] [(.ref a)])) rfl rfl (hb hby d_prog_21_m8_34)
   refine Go.st st188 ?_
   show Go p.tables e below Kx _ (mkF m 37 _ [(.ref t)])
   refine s_iload (pc' := 39) X188.here hx (hb hby d_prog_21_m8_37) rfl rfl ?_
   obtain ⟨cl189, Ar189, Aq189, As189, An189, Ah189, Ag189⟩ := id VT
   have in190 := inb_of (j := 3) As189 (by decide)
   have at190 : cl189.slots[((3 : Int32)).toNatClampNeg]? = some (.int c3) := Ah189.at in190 rfl
   refine Go.st (X188.iaload hx (j := 3) (v := (.int c3)) (by rw [e188]; exact Ar189.1) (State.isArrayOf_alike hZ.alike Ar189.2.1) Ar189.2.2 in190 at190 (g := (mkF m 39 #[vr a, vi tn, .val (.long (needd tn rc)), sn, .val (.double (mst (mst FP.dconst0 c1 1 (needd tn rc)) c2 2 (needd tn rc))), sn, vi 3] [(.int 3), (.ref t)])) rfl rfl (hb hby d_prog_21_m8_39)) ?_
   show Go p.tables e below Kx _ (mkF m 40 _ [(.int c3)])
   refine s_i2l (pc' := 41) X188.here hx (hb hby d_prog_21_m8_40) rfl rfl ?_
   refine s_lloadN (pc' := 42) X188.here hx (hb hby d_prog_21_m8_41) rfl rfl ?_
   refine s_lcmp (pc' := 43) X188.here hx (hb hby d_prog_21_m8_42) rfl rfl ?_
   have J3 : ∀ (s3 : UInt64) (TJ3 : State) (LJ3 : List Loc), Stand p l e ({ frames := 1, cells := 0, slots := 0, locals := 40 } : Room) s m #[(.ref a), (.int tn)] below meth c TJ3 LJ3 0 0 → Fr n0 LJ3 → TJ3.heap = h0 → s3 = (mst (mst (mst FP.dconst0 c1 1 (needd tn rc)) c2 2 (needd tn rc)) c3 3 (needd tn rc)) → Go p.tables e below Kx TJ3 (mkF m 65 #[vr a, vi tn, .val (.long (needd tn rc)), sn, .val (.double s3), sn, vi 3] []) := by
    intro s3 TJ3 LJ3 XJ3 NJ3 eJ3 hs3
    subst hs3
    show Go p.tables e below Kx _ (mkF m 65 _ [])
    refine s_iinc (pc' := 68) (Ls' := #[vr a, vi tn, .val (.long (needd tn rc)), sn, .val (.double (mst (mst (mst FP.dconst0 c1 1 (needd tn rc)) c2 2 (needd tn rc)) c3 3 (needd tn rc))), sn, vi 4]) (z := 4) XJ3.here hx (hb hby d_prog_21_m8_65) rfl rfl (by decide) rfl ?_
    refine s_goto (pc' := 24) XJ3.here hx (hb hby d_prog_21_m8_68) (by decide) (by decide) ?_
    refine s_iload (pc' := 26) XJ3.here hx (hb hby d_prog_21_m8_24) rfl rfl ?_
    refine s_aloadN (pc' := 27) XJ3.here hx (hb hby d_prog_21_m8_26) rfl rfl rfl ?_
    obtain ⟨cq192, kq192, q192a, q192b, q192c⟩ := isOf hZ eJ3 E
    obtain ⟨_, _, ⟨T192, L192, k192, n192⟩, -, X192, ⟨Lc192, hQ192, l192, y192, z192⟩, st192⟩ := XJ3.virtualBack hx (y := yN2) (z := yN2) hown (mvT hZ (hv hw 23 rfl)) (mvT hZ (hv hw 24 rfl)) (notFace_of_selects (args := #[]) (mvT hZ (hv hw 26 rfl))) (mvT hZ (hv hw 26 rfl)) (mvT hZ (hv hw 25 rfl)) (by decide) (backOf (W := 1) (rmV3 l Z a0 hw [] a t k c1 c2 c3 h0 n0 X00 F1 VT) hZ (hv hw 27 rfl) (hv hw 4 rfl) (by decide) (by decide)) q192a q192c (g := (mkF m 27 #[vr a, vi tn, .val (.long (needd tn rc)), sn, .val (.double (mst (mst (mst FP.dconst0 c1 1 (needd tn rc)) c2 2 (needd tn rc)) c3 3 (needd tn rc))), sn, vi 4] [(.ref a), (.int 4)])) rfl (by rw [hml]; rfl) (Steps.refl _) (argsL := []) (rest := [(.int 4)]) (lenOf pd_0 rfl) rfl (by exact Nat.le_of_eq rfl) (hb hby d_prog_21_m8_27) (fun _ _ => ⟨rfl, eJ3, (by decide : 0 + 0 ≤ _), (by decide : 0 + 0 ≤ _)⟩)
    dsimp only [Pt.U, Pt.locs, Pt.cells, Pt.slots] at X192 l192 y192 z192 st192 hQ192
    rw [l192, y192, z192] at X192
    obtain ⟨rfl, Nq192, hE192⟩ := hQ192
    have N192 := Fr.app NJ3 Nq192
    refine Go.tr st192 ?_
    show Go p.tables e below Kx _ (mkF m 30 _ [(.int 3), (.int 4)])
    refine s_icmpY (pc' := 71) X192.here hx (hb hby d_prog_21_m8_30) (tlt (by decide)).2.2.1 (by decide) (by decide) ?_
    refine s_dload (pc' := 73) X192.here hx (hb hby d_prog_21_m8_71) rfl rfl ?_
    obtain ⟨fs, hr, hrun, hended, hW, hsame⟩ := X192.leave (v := (some (.double (mst (mst (mst FP.dconst0 c1 1 (needd tn rc)) c2 2 (needd tn rc)) c3 3 (needd tn rc))))) (fun h => by rw [Bd.returns] at h; cases h)
    refine Go.fin (retOut X192 hx Bd.returns rfl (Or.inr (Or.inr (Or.inl ⟨rfl, rfl, _, rfl⟩))) (hb hby d_prog_21_m8_73) hr) (hF _ _ hrun hended ⟨_, _, rfl, ?_, ⟨_, rfl⟩, hW, hsame.mono (by decide) (by decide)⟩)
    ·
     show QA3 Z a t k c1 c2 c3 rc tn h0 n0 ((some (.double (mst (mst (mst FP.dconst0 c1 1 (needd tn rc)) c2 2 (needd tn rc)) c3 3 (needd tn rc)))) : Option Value) T192.heap _
     rw [hE192]
     exact ⟨rfl, N192, rfl⟩
   by_cases hc191 : (lcmpW (c3.toInt64) (needd tn rc)) < (0 : Int32)
   ·
    refine s_ifY (pc' := 65) X188.here hx (hb hby d_prog_21_m8_43) ((if0 _ _).trans (tlt hc191).1) (by decide) (by decide) ?_
    exact J3 _ _ _ X188 N187 e188 (mst_lt ((lw_lt _ _).mp hc191))
   ·
    refine s_ifN (pc' := 46) X188.here hx (hb hby d_prog_21_m8_43) rfl ((if0 _ _).trans (flt hc191).1) ?_
    refine s_dload (pc' := 48) X188.here hx (hb hby d_prog_21_m8_46) rfl rfl ?_
    refine s_aloadN (pc' := 49) X188.here hx (hb hby d_prog_21_m8_48) rfl rfl rfl ?_
    obtain ⟨T193, X193, e193, st193⟩ := getF X188 hx hZ hown (host := "") (Or.inl (hv hw 12 rfl)) Via.refl e188 F1 (g := (mkF m 49 #[vr a, vi tn, .val (.long (needd tn rc)), sn, .val (.double (mst (mst FP.dconst0 c1 1 (needd tn rc)) c2 2 (needd tn rc))), sn, vi 3] [(.ref a), (.double (mst (mst FP.dconst0 c1 1 (needd tn rc)) c2 2 (needd tn rc)))])) rfl rfl (hb hby d_prog_21_m8_49)
    refine Go.st st193 ?_
    show Go p.tables e below Kx _ (mkF m 52 _ [(.ref t), (.double (mst (mst FP.dconst0 c1 1 (needd tn rc)) c2 2 (needd tn rc)))])
    refine s_iload (pc' := 54) X193.here hx (hb hby d_prog_21_m8_52) rfl rfl ?_
    obtain ⟨cl194, Ar194, Aq194, As194, An194, Ah194, Ag194⟩ := id VT
    have in195 := inb_of (j := 3) As194 (by decide)
    have at195 : cl194.slots[((3 : Int32)).toNatClampNeg]? = some (.int c3) := Ah194.at in195 rfl
    refine Go.st (X193.iaload hx (j := 3) (v := (.int c3)) (by rw [e193]; exact Ar194.1) (State.isArrayOf_alike hZ.alike Ar194.2.1) Ar194.2.2 in195 at195 (g := (mkF m 54 #[vr a, vi tn, .val (.long (needd tn rc)), sn, .val (.double (mst (mst FP.dconst0 c1 1 (needd tn rc)) c2 2 (needd tn rc))), sn, vi 3] [(.int 3), (.ref t), (.double (mst (mst FP.dconst0 c1 1 (needd tn rc)) c2 2 (needd tn rc)))])) rfl rfl (hb hby d_prog_21_m8_54)) ?_
    show Go p.tables e below Kx _ (mkF m 55 _ [(.int c3), (.double (mst (mst FP.dconst0 c1 1 (needd tn rc)) c2 2 (needd tn rc)))])
    refine s_i2d (pc' := 56) X193.here hx (hb hby d_prog_21_m8_55) rfl rfl ?_
    refine s_iload (pc' := 58) X193.here hx (hb hby d_prog_21_m8_56) rfl rfl ?_
    refine s_i2d (pc' := 59) X193.here hx (hb hby d_prog_21_m8_58) rfl rfl ?_
    refine s_ddiv (pc' := 60) X193.here hx (hb hby d_prog_21_m8_59) rfl (nnq _ (by decide)) rfl ?_
    obtain ⟨_, vm196, ⟨T196, L196, k196, n196⟩, -, X196, ⟨hQ196, hB196⟩, st196⟩ := Jvm.LawKit.callS X193 hx (y := yN4) hown (mvT hZ (hv hw 34 rfl)) (mvT hZ (hv hw 35 rfl)) (mvT hZ (hv hw 36 rfl)) (mvT hZ (hv hw 37 rfl)) (by decide) (Jvm.Free.Fl.Abs.maxD_pays (W := 0) (mst (mst FP.dconst0 c1 1 (needd tn rc)) c2 2 (needd tn rc)) (FP.ddiv (FP.i2d c3) (FP.i2d 3)) (mvT hZ (hv hw 37 rfl)) (by decide) (by decide)) (g := (mkF m 60 #[vr a, vi tn, .val (.long (needd tn rc)), sn, .val (.double (mst (mst FP.dconst0 c1 1 (needd tn rc)) c2 2 (needd tn rc))), sn, vi 3] [(.double (FP.ddiv (FP.i2d c3) (FP.i2d 3))), (.double (mst (mst FP.dconst0 c1 1 (needd tn rc)) c2 2 (needd tn rc)))])) rfl (by rw [hml]; rfl) (argsL := [(.double (mst (mst FP.dconst0 c1 1 (needd tn rc)) c2 2 (needd tn rc))), (.double (FP.ddiv (FP.i2d c3) (FP.i2d 3)))]) (rest := []) (lenOf pd_1 rfl) rfl (by exact Nat.le_of_eq rfl) (hb hby d_prog_21_m8_60) (fun _ _ => ⟨(by decide : 0 ≤ _), (by decide : 0 ≤ _), rfl, (mst_nn (mst_nn d0f.noNaN (by decide)) (by decide)), nnq _ (by decide)⟩)
    cases hB196
    dsimp only [Pt.U, Pt.locs, Pt.cells, Pt.slots] at X196 st196
    have hE196 : (T193.setVm vm196).heap = h0 := e193
    subst hQ196
    refine Go.st st196 ?_
    show Go p.tables e below Kx (T193.setVm vm196) (mkF m 63 #[vr a, vi tn, .val (.long (needd tn rc)), sn, .val (.double (mst (mst FP.dconst0 c1 1 (needd tn rc)) c2 2 (needd tn rc))), sn, vi 3] [(.double (Native.java_lang_Math.nans.pick64 true (mst (mst FP.dconst0 c1 1 (needd tn rc)) c2 2 (needd tn rc)) (FP.ddiv (FP.i2d c3) (FP.i2d 3))))])
    refine s_dstore (pc' := 65) (Ls' := #[vr a, vi tn, .val (.long (needd tn rc)), sn, .val (.double (Native.java_lang_Math.nans.pick64 true (mst (mst FP.dconst0 c1 1 (needd tn rc)) c2 2 (needd tn rc)) (FP.ddiv (FP.i2d c3) (FP.i2d 3)))), sn, vi 3]) X196.here hx (hb hby d_prog_21_m8_63) rfl  rfl ?_
    exact J3 _ _ _ X196 N187 hE196 (mst_ge (fun z => hc191 ((lw_lt _ _).mpr z)))
  by_cases hc186 : (lcmpW (c2.toInt64) (needd tn rc)) < (0 : Int32)
  ·
   refine s_ifY (pc' := 65) X183.here hx (hb hby d_prog_21_m8_43) ((if0 _ _).trans (tlt hc186).1) (by decide) (by decide) ?_
   exact J2 _ _ _ X183 N182 e183 (mst_lt ((lw_lt _ _).mp hc186))
  ·
   refine s_ifN (pc' := 46) X183.here hx (hb hby d_prog_21_m8_43) rfl ((if0 _ _).trans (flt hc186).1) ?_
   refine s_dload (pc' := 48) X183.here hx (hb hby d_prog_21_m8_46) rfl rfl ?_
   refine s_aloadN (pc' := 49) X183.here hx (hb hby d_prog_21_m8_48) rfl rfl rfl ?_
   obtain ⟨T197, X197, e197, st197⟩ := getF X183 hx hZ hown (host := "") (Or.inl (hv hw 12 rfl)) Via.refl e183 F1 (g := (mkF m 49 #[vr a, vi tn, .val (.long (needd tn rc)), sn, .val (.double (mst FP.dconst0 c1 1 (needd tn rc))), sn, vi 2] [(.ref a), (.double (mst FP.dconst0 c1 1 (needd tn rc)))])) rfl rfl (hb hby d_prog_21_m8_49)
   refine Go.st st197 ?_
   show Go p.tables e below Kx _ (mkF m 52 _ [(.ref t), (.double (mst FP.dconst0 c1 1 (needd tn rc)))])
   refine s_iload (pc' := 54) X197.here hx (hb hby d_prog_21_m8_52) rfl rfl ?_
   obtain ⟨cl198, Ar198, Aq198, As198, An198, Ah198, Ag198⟩ := id VT
   have in199 := inb_of (j := 2) As198 (by decide)
   have at199 : cl198.slots[((2 : Int32)).toNatClampNeg]? = some (.int c2) := Ah198.at in199 rfl
   refine Go.st (X197.iaload hx (j := 2) (v := (.int c2)) (by rw [e197]; exact Ar198.1) (State.isArrayOf_alike hZ.alike Ar198.2.1) Ar198.2.2 in199 at199 (g := (mkF m 54 #[vr a, vi tn, .val (.long (needd tn rc)), sn, .val (.double (mst FP.dconst0 c1 1 (needd tn rc))), sn, vi 2] [(.int 2), (.ref t), (.double (mst FP.dconst0 c1 1 (needd tn rc)))])) rfl rfl (hb hby d_prog_21_m8_54)) ?_
   show Go p.tables e below Kx _ (mkF m 55 _ [(.int c2), (.double (mst FP.dconst0 c1 1 (needd tn rc)))])
   refine s_i2d (pc' := 56) X197.here hx (hb hby d_prog_21_m8_55) rfl rfl ?_
   refine s_iload (pc' := 58) X197.here hx (hb hby d_prog_21_m8_56) rfl rfl ?_
   refine s_i2d (pc' := 59) X197.here hx (hb hby d_prog_21_m8_58) rfl rfl ?_
   refine s_ddiv (pc' := 60) X197.here hx (hb hby d_prog_21_m8_59) rfl (nnq _ (by decide)) rfl ?_
   obtain ⟨_, vm200, ⟨T200, L200, k200, n200⟩, -, X200, ⟨hQ200, hB200⟩, st200⟩ := Jvm.LawKit.callS X197 hx (y := yN4) hown (mvT hZ (hv hw 34 rfl)) (mvT hZ (hv hw 35 rfl)) (mvT hZ (hv hw 36 rfl)) (mvT hZ (hv hw 37 rfl)) (by decide) (Jvm.Free.Fl.Abs.maxD_pays (W := 0) (mst FP.dconst0 c1 1 (needd tn rc)) (FP.ddiv (FP.i2d c2) (FP.i2d 2)) (mvT hZ (hv hw 37 rfl)) (by decide) (by decide)) (g := (mkF m 60 #[vr a, vi tn, .val (.long (needd tn rc)), sn, .val (.double (mst FP.dconst0 c1 1 (needd tn rc))), sn, vi 2] [(.double (FP.ddiv (FP.i2d c2) (FP.i2d 2))), (.double (mst FP.dconst0 c1 1 (needd tn rc)))])) rfl (by rw [hml]; rfl) (argsL := [(.double (mst FP.dconst0 c1 1 (needd tn rc))), (.double (FP.ddiv (FP.i2d c2) (FP.i2d 2)))]) (rest := []) (lenOf pd_1 rfl) rfl (by exact Nat.le_of_eq rfl) (hb hby d_prog_21_m8_60) (fun _ _ => ⟨(by decide : 0 ≤ _), (by decide : 0 ≤ _), rfl, (mst_nn d0f.noNaN (by decide)), nnq _ (by decide)⟩)
   cases hB200
   dsimp only [Pt.U, Pt.locs, Pt.cells, Pt.slots] at X200 st200
   have hE200 : (T197.setVm vm200).heap = h0 := e197
   subst hQ200
   refine Go.st st200 ?_
   show Go p.tables e below Kx (T197.setVm vm200) (mkF m 63 #[vr a, vi tn, .val (.long (needd tn rc)), sn, .val (.double (mst FP.dconst0 c1 1 (needd tn rc))), sn, vi 2] [(.double (Native.java_lang_Math.nans.pick64 true (mst FP.dconst0 c1 1 (needd tn rc)) (FP.ddiv (FP.i2d c2) (FP.i2d 2))))])
   refine s_dstore (pc' := 65) (Ls' := #[vr a, vi tn, .val (.long (needd tn rc)), sn, .val (.double (Native.java_lang_Math.nans.pick64 true (mst FP.dconst0 c1 1 (needd tn rc)) (FP.ddiv (FP.i2d c2) (FP.i2d 2)))), sn, vi 2]) X200.here hx (hb hby d_prog_21_m8_63) rfl  rfl ?_
   exact J2 _ _ _ X200 N182 hE200 (mst_ge (fun z => hc186 ((lw_lt _ _).mpr z)))
 by_cases hc181 : (lcmpW (c1.toInt64) (needd tn rc)) < (0 : Int32)
 ·
  refine s_ifY (pc' := 65) X178.here hx (hb hby d_prog_21_m8_43) ((if0 _ _).trans (tlt hc181).1) (by decide) (by decide) ?_
  exact J1 _ _ _ X178 N177 e178 (mst_lt ((lw_lt _ _).mp hc181))
 ·
  refine s_ifN (pc' := 46) X178.here hx (hb hby d_prog_21_m8_43) rfl ((if0 _ _).trans (flt hc181).1) ?_
  refine s_dload (pc' := 48) X178.here hx (hb hby d_prog_21_m8_46) rfl rfl ?_
  refine s_aloadN (pc' := 49) X178.here hx (hb hby d_prog_21_m8_48) rfl rfl rfl ?_
  obtain ⟨T201, X201, e201, st201⟩ := getF X178 hx hZ hown (host := "") (Or.inl (hv hw 12 rfl)) Via.refl e178 F1 (g := (mkF m 49 #[vr a, vi tn, .val (.long (needd tn rc)), sn, .val (.double FP.dconst0), sn, vi 1] [(.ref a), (.double FP.dconst0)])) rfl rfl (hb hby d_prog_21_m8_49)
  refine Go.st st201 ?_
  show Go p.tables e below Kx _ (mkF m 52 _ [(.ref t), (.double FP.dconst0)])
  refine s_iload (pc' := 54) X201.here hx (hb hby d_prog_21_m8_52) rfl rfl ?_
  obtain ⟨cl202, Ar202, Aq202, As202, An202, Ah202, Ag202⟩ := id VT
  have in203 := inb_of (j := 1) As202 (by decide)
  have at203 : cl202.slots[((1 : Int32)).toNatClampNeg]? = some (.int c1) := Ah202.at in203 rfl
  refine Go.st (X201.iaload hx (j := 1) (v := (.int c1)) (by rw [e201]; exact Ar202.1) (State.isArrayOf_alike hZ.alike Ar202.2.1) Ar202.2.2 in203 at203 (g := (mkF m 54 #[vr a, vi tn, .val (.long (needd tn rc)), sn, .val (.double FP.dconst0), sn, vi 1] [(.int 1), (.ref t), (.double FP.dconst0)])) rfl rfl (hb hby d_prog_21_m8_54)) ?_
  show Go p.tables e below Kx _ (mkF m 55 _ [(.int c1), (.double FP.dconst0)])
  refine s_i2d (pc' := 56) X201.here hx (hb hby d_prog_21_m8_55) rfl rfl ?_
  refine s_iload (pc' := 58) X201.here hx (hb hby d_prog_21_m8_56) rfl rfl ?_
  refine s_i2d (pc' := 59) X201.here hx (hb hby d_prog_21_m8_58) rfl rfl ?_
  refine s_ddiv (pc' := 60) X201.here hx (hb hby d_prog_21_m8_59) rfl (nnq _ (by decide)) rfl ?_
  obtain ⟨_, vm204, ⟨T204, L204, k204, n204⟩, -, X204, ⟨hQ204, hB204⟩, st204⟩ := Jvm.LawKit.callS X201 hx (y := yN4) hown (mvT hZ (hv hw 34 rfl)) (mvT hZ (hv hw 35 rfl)) (mvT hZ (hv hw 36 rfl)) (mvT hZ (hv hw 37 rfl)) (by decide) (Jvm.Free.Fl.Abs.maxD_pays (W := 0) FP.dconst0 (FP.ddiv (FP.i2d c1) (FP.i2d 1)) (mvT hZ (hv hw 37 rfl)) (by decide) (by decide)) (g := (mkF m 60 #[vr a, vi tn, .val (.long (needd tn rc)), sn, .val (.double FP.dconst0), sn, vi 1] [(.double (FP.ddiv (FP.i2d c1) (FP.i2d 1))), (.double FP.dconst0)])) rfl (by rw [hml]; rfl) (argsL := [(.double FP.dconst0), (.double (FP.ddiv (FP.i2d c1) (FP.i2d 1)))]) (rest := []) (lenOf pd_1 rfl) rfl (by exact Nat.le_of_eq rfl) (hb hby d_prog_21_m8_60) (fun _ _ => ⟨(by decide : 0 ≤ _), (by decide : 0 ≤ _), rfl, d0f.noNaN, nnq _ (by decide)⟩)
  cases hB204
  dsimp only [Pt.U, Pt.locs, Pt.cells, Pt.slots] at X204 st204
  have hE204 : (T201.setVm vm204).heap = h0 := e201
  subst hQ204
  refine Go.st st204 ?_
  show Go p.tables e below Kx (T201.setVm vm204) (mkF m 63 #[vr a, vi tn, .val (.long (needd tn rc)), sn, .val (.double FP.dconst0), sn, vi 1] [(.double (Native.java_lang_Math.nans.pick64 true FP.dconst0 (FP.ddiv (FP.i2d c1) (FP.i2d 1))))])
  refine s_dstore (pc' := 65) (Ls' := #[vr a, vi tn, .val (.long (needd tn rc)), sn, .val (.double (Native.java_lang_Math.nans.pick64 true FP.dconst0 (FP.ddiv (FP.i2d c1) (FP.i2d 1)))), sn, vi 1]) X204.here hx (hb hby d_prog_21_m8_63) rfl  rfl ?_
  exact J1 _ _ _ X204 N177 hE204 (mst_ge (fun z => hc181 ((lw_lt _ _).mpr z)))
def QN4 (Z : State) (a b : Addr) (kb : ClassId) (x1 x2 x3 x4 c1 c2 c3 c4 rc : Int32) (h0 : Heap) (n0 : Nat) (v : Option Value) (h : Heap) (L : List Loc) : Prop := v = none ∧ Fr n0 L ∧ Keep h0 h [a] ∧ Exa Z h a "com/example/kingfisher/kingfisher/eval/TopicRanking" ∧ Fld Z h a "com/example/kingfisher/kingfisher/eval/TopicRanking" "relevantCount" "I" (.int rc) ∧ ∃ (t : Addr) (k : ClassId), Fld Z h a "com/example/kingfisher/kingfisher/eval/TopicRanking" "relevantWithin" "[I" (.ref t) ∧ Arv Z h t k .int 5 [(.int 0), (.int c1), (.int c2), (.int c3), (.int c4)] (.int 0)
set_option maxRecDepth 65536 in
set_option maxHeartbeats 40000000 in
theorem rmN4 (l : Launch) (Z : State) (a0 : Array Value) (hw : ∀ d ∈ tables_1, d.before a0 Z = true) (ws : List Jvm.Cond) (a b : Addr) (kb : ClassId) (x1 x2 x3 x4 c1 c2 c3 c4 rc : Int32) (h0 : Heap) (n0 : Nat) (X00 : Old Z n0 h0) (ge_a : n0 ≤ a) (hne : b ≠ a) (E : Exa Z h0 a "com/example/kingfisher/kingfisher/eval/TopicRanking") (F1 : Fld Z h0 a "com/example/kingfisher/kingfisher/eval/TopicRanking" "relevantWithin" "[I" .null) (F2 : Fld Z h0 a "com/example/kingfisher/kingfisher/eval/TopicRanking" "relevantCount" "I" (.int 0)) (VB : Arv Z h0 b kb .boolean (4 : Int32) [(.int x1), (.int x2), (.int x3), (.int x4)] (.int 0)) (hc1 : ((0 : Int32) + (if x1 = (0 : Int32) then (0 : Int32) else (1 : Int32))) = c1) (hc2 : (c1 + (if x2 = (0 : Int32) then (0 : Int32) else (1 : Int32))) = c2) (hc3 : (c2 + (if x3 = (0 : Int32) then (0 : Int32) else (1 : Int32))) = c3) (hc4 : (c3 + (if x4 = (0 : Int32) then (0 : Int32) else (1 : Int32))) = c4) :
  MetFree l yN0 (head1 (Jvm.Cond.code yN0 prog_21_method_1_code 4 none :: ws) ({ frames := 1, cells := 1, slots := 5, locals := 20 } : Room)) (fun aa U => aa = #[(.ref a), (.ref b), (.int rc)] ∧ Z.Warmed39 U.vm ∧ U.heap = h0) (fun _ _ _ _ _ => True) (fun _ U o U' => ∃ v L, o = .returned v ∧ QN4 Z a b kb x1 x2 x3 x4 c1 c2 c3 c4 rc h0 n0 v U'.heap L ∧ FrameEnd U o U' L ({ frames := 1, cells := 1, slots := 5, locals := 20 } : Room).cells ({ frames := 1, cells := 1, slots := 5, locals := 20 } : Room).slots) := by
 refine MetFree.of_bodySF (plainFor_of_name pn_0) hisR ?_
 intro p e s m args below meth c s₁ Bd hml0 hP hK
 obtain ⟨rfl, hZ, hh⟩ := hP
 have hx := Bd.exec
 have hby := Bd.bytes
 have hml : c.maxLocals = 4 := hml0
 have hown : s.vm.findClass "com/example/kingfisher/kingfisher/eval/TopicRanking" = some m.cls := findClass_of_methodNamed Bd.named
 have hnm := (name_of_methodNamed Bd.named Bd.method).1
 have X0 : Stand p l e ({ frames := 1, cells := 1, slots := 5, locals := 20 } : Room) s m #[(.ref a), (.ref b), (.int rc)] below meth c s₁ [] 0 0 := Stand.of_body Bd
 have e0 : s₁.heap = h0 := by rw [← hh, Bd.state]; rfl
 have N0 := Fr.nil n0
 have K0 := Keep.refl h0 [a]
 have ef : entryFrame m #[(.ref a), (.ref b), (.int rc)] 4 = mkF m 0 #[vr a, vr b, vi rc, un] [] := (by first | (simp [entryFrame, mkF, argsToLocals, Value.category]; done) | rfl : entryFrame m #[(.ref a), (.ref b), (.int rc)] 4 = mkF m 0 #[vr a, vr b, vi rc, un] [])
 rw [ef]
 refine fin_of fun Kx hF => ?_
 show Go p.tables e below Kx _ (mkF m 0 _ [])
 refine s_aloadN (pc' := 1) X0.here hx (hb hby d_prog_21_m1_0) rfl rfl rfl ?_
 obtain ⟨T205, X205, e205, st205⟩ := initO X0 hx hZ hown (hv hw 8 rfl) (hv hw 9 rfl) (hv hw 10 rfl) e0 (g := (mkF m 1 #[vr a, vr b, vi rc, un] [(.ref a)])) rfl (by rw [hml]; rfl) rfl (hb hby d_prog_21_m1_1) (by decide) (W := 0) (by exact Nat.le_of_eq rfl) (by decide)
 refine Go.st st205 ?_
 show Go p.tables e below Kx _ (mkF m 4 _ [])
 refine s_aloadN (pc' := 5) X205.here hx (hb hby d_prog_21_m1_4) rfl rfl rfl ?_
 refine s_aloadN (pc' := 6) X205.here hx (hb hby d_prog_21_m1_5) rfl rfl rfl ?_
 obtain ⟨cl206, Ar206, Aq206, As206, An206, Ah206, Ag206⟩ := id VB
 refine Go.st (X205.arraylength hx (by rw [e205]; exact Ar206.1) (State.isArrayOf_alike hZ.alike Ar206.2.1) (g := (mkF m 6 #[vr a, vr b, vi rc, un] [(.ref b), (.ref a)])) rfl rfl (hb hby d_prog_21_m1_6)) ?_
 rw [len_of As206 An206]
 show Go p.tables e below Kx _ (mkF m 7 _ [(.int 4), (.ref a)])
 refine s_iconst (pc' := 8) (v := 1) X205.here hx (hb hby d_prog_21_m1_7) rfl rfl ?_
 refine s_iadd (pc' := 9) (z := 5) X205.here hx (hb hby d_prog_21_m1_8) rfl (by decide) ?_
 obtain ⟨T207, h207, k207, X207, e207, E207, A207, st207⟩ := newP X205 hx hZ (hv hw 11 rfl) e205 (g := (mkF m 9 #[vr a, vr b, vi rc, un] [(.int 5), (.ref a)])) rfl (hb hby d_prog_21_m1_9) rfl (by decide) (cap := 5) (by decide) (by decide) (by decide) (by decide)
 obtain ⟨b207, g207⟩ : ∃ z, z = h0.size := ⟨_, rfl⟩
 rw [← g207] at A207 st207
 have sz207 : h0.size ≤ b207 := Nat.le_trans K0.1 (Nat.le_of_eq g207.symm)
 have ge207 : n0 ≤ b207 := Nat.le_trans (X00.1 ▸ X00.2.1) (Nat.le_of_eq g207.symm)
 have K207 : Keep h0 h207 [a] := K0.ext E207
 have O207 : Old Z n0 h207 := X00.ext E207
 have V207 : Arv Z h207 b207 k207 .int 5 [(.int 0), (.int 0), (.int 0), (.int 0), (.int 0)] (.int 0) := (Arv.new A207 (by decide)).pad (pad_rep [] (.int 0) 5)
 refine Go.st st207 ?_
 show Go p.tables e below Kx _ (mkF m 11 _ [(.ref b207), (.ref a)])
 have f208 : Fld Z h207 a "com/example/kingfisher/kingfisher/eval/TopicRanking" "relevantWithin" "[I" .null := (F1.ext E207)
 have f209 : Exa Z h207 a "com/example/kingfisher/kingfisher/eval/TopicRanking" := (E.ext E207)
 obtain ⟨T210, h210, X210, e210, W210, st210⟩ := putF X207 hx hZ hown (host := "") (Or.inl (hv hw 12 rfl)) Via.refl e207 f208 f209 (Or.inr ⟨(hv hw 13 rfl), rfl, hnm⟩) (hv hw 3 rfl) (ty := (.array .int)) (by decide) rfl rfl (g := (mkF m 11 #[vr a, vr b, vi rc, un] [(.ref b207), (.ref a)])) rfl rfl (hb hby d_prog_21_m1_11)
 have Fw210 : Fld Z h210 a "com/example/kingfisher/kingfisher/eval/TopicRanking" "relevantWithin" "[I" (.ref b207) := f208.same W210
 have K210 : Keep h0 h210 [a] := K207.wr W210 (Or.inl (List.mem_of_getElem? (i := 0) rfl))
 have O210 : Old Z n0 h210 := O207.wr W210 ge_a
 have N210 := Fr.snoc X210 N0 ge_a
 refine Go.st st210 ?_
 show Go p.tables e below Kx _ (mkF m 14 _ [])
 refine s_iconst (pc' := 15) (v := 1) X210.here hx (hb hby d_prog_21_m1_14) rfl rfl ?_
 refine s_istoreN (pc' := 16) (Ls' := #[vr a, vr b, vi rc, vi 1]) X210.here hx (hb hby d_prog_21_m1_15) rfl  rfl ?_
 refine s_iloadN (pc' := 17) X210.here hx (hb hby d_prog_21_m1_16) rfl rfl ?_
 refine s_aloadN (pc' := 18) X210.here hx (hb hby d_prog_21_m1_17) rfl rfl rfl ?_
 have f211 : Arv Z h210 b kb .boolean 4 [(.int x1), (.int x2), (.int x3), (.int x4)] (.int 0) := ((VB.ext E207).other W210 hne)
 obtain ⟨cl212, Ar212, Aq212, As212, An212, Ah212, Ag212⟩ := id f211
 refine Go.st (X210.arraylength hx (by rw [e210]; exact Ar212.1) (State.isArrayOf_alike hZ.alike Ar212.2.1) (g := (mkF m 18 #[vr a, vr b, vi rc, vi 1] [(.ref b), (.int 1)])) rfl rfl (hb hby d_prog_21_m1_18)) ?_
 rw [len_of As212 An212]
 show Go p.tables e below Kx _ (mkF m 19 _ [(.int 4), (.int 1)])
 refine s_icmpN (pc' := 22) X210.here hx (hb hby d_prog_21_m1_19) rfl (flt (by decide)).2.2.1 ?_
 refine s_aloadN (pc' := 23) X210.here hx (hb hby d_prog_21_m1_22) rfl rfl rfl ?_
 obtain ⟨T213, X213, e213, st213⟩ := getF X210 hx hZ hown (host := "") (Or.inl (hv hw 12 rfl)) Via.refl e210 Fw210 (g := (mkF m 23 #[vr a, vr b, vi rc, vi 1] [(.ref a)])) rfl rfl (hb hby d_prog_21_m1_23)
 refine Go.st st213 ?_
 show Go p.tables e below Kx _ (mkF m 26 _ [(.ref b207)])
 refine s_iloadN (pc' := 27) X213.here hx (hb hby d_prog_21_m1_26) rfl rfl ?_
 refine s_aloadN (pc' := 28) X213.here hx (hb hby d_prog_21_m1_27) rfl rfl rfl ?_
 obtain ⟨T214, X214, e214, st214⟩ := getF X213 hx hZ hown (host := "") (Or.inl (hv hw 12 rfl)) Via.refl e213 Fw210 (g := (mkF m 28 #[vr a, vr b, vi rc, vi 1] [(.ref a), (.int 1), (.ref b207)])) rfl rfl (hb hby d_prog_21_m1_28)
 refine Go.st st214 ?_
 show Go p.tables e below Kx _ (mkF m 31 _ [(.ref b207), (.int 1), (.ref b207)])
 refine s_iloadN (pc' := 32) X214.here hx (hb hby d_prog_21_m1_31) rfl rfl ?_
 refine s_iconst (pc' := 33) (v := 1) X214.here hx (hb hby d_prog_21_m1_32) rfl rfl ?_
 refine s_isub (pc' := 34) (z := 0) X214.here hx (hb hby d_prog_21_m1_33) rfl (by decide) ?_
 have f215 : Arv Z h210 b207 k207 .int 5 [(.int 0), (.int 0), (.int 0), (.int 0), (.int 0)] (.int 0) := (V207.other W210 (Ne.symm (Nat.ne_of_lt (Nat.lt_of_lt_of_le E.lt (Nat.le_of_eq g207.symm)))))
 obtain ⟨cl216, Ar216, Aq216, As216, An216, Ah216, Ag216⟩ := id f215
 have in217 := inb_of (j := 0) As216 (by decide)
 have at217 : cl216.slots[((0 : Int32)).toNatClampNeg]? = some (.int 0) := Ah216.at in217 rfl
 refine Go.st (X214.iaload hx (j := 0) (v := (.int 0)) (by rw [e214]; exact Ar216.1) (State.isArrayOf_alike hZ.alike Ar216.2.1) Ar216.2.2 in217 at217 (g := (mkF m 34 #[vr a, vr b, vi rc, vi 1] [(.int 0), (.ref b207), (.int 1), (.ref b207)])) rfl rfl (hb hby d_prog_21_m1_34)) ?_
 show Go p.tables e below Kx _ (mkF m 35 _ [(.int 0), (.int 1), (.ref b207)])
 refine s_aloadN (pc' := 36) X214.here hx (hb hby d_prog_21_m1_35) rfl rfl rfl ?_
 refine s_iloadN (pc' := 37) X214.here hx (hb hby d_prog_21_m1_36) rfl rfl ?_
 refine s_iconst (pc' := 38) (v := 1) X214.here hx (hb hby d_prog_21_m1_37) rfl rfl ?_
 refine s_isub (pc' := 39) (z := 0) X214.here hx (hb hby d_prog_21_m1_38) rfl (by decide) ?_
 obtain ⟨cl218, Ar218, Aq218, As218, An218, Ah218, Ag218⟩ := id f211
 have in219 := inb_of (j := 0) As218 (by decide)
 have at219 : cl218.slots[((0 : Int32)).toNatClampNeg]? = some (.int x1) := Ah218.at in219 rfl
 refine Go.st (X214.baloadBooleans hx (j := 0) (v := (.int x1)) (by rw [e214]; exact Ar218.1) (State.isArrayOf_alike hZ.alike Ar218.2.1) Ar218.2.2 in219 at219 (g := (mkF m 39 #[vr a, vr b, vi rc, vi 1] [(.int 0), (.ref b), (.int 0), (.int 1), (.ref b207)])) rfl rfl (hb hby d_prog_21_m1_39)) ?_
 show Go p.tables e below Kx _ (mkF m 40 _ [(.int x1), (.int 0), (.int 1), (.ref b207)])
 suffices J221 : Go p.tables e below Kx T214 (mkF m 48 #[vr a, vr b, vi rc, vi 1] [(.int (if x1 = (0 : Int32) then (0 : Int32) else (1 : Int32))), (.int 0), (.int 1), (.ref b207)]) by
  by_cases hc220 : x1 = (0 : Int32)
  ·
   simp only [if_pos hc220] at J221
   refine s_ifY (pc' := 47) X214.here hx (hb hby d_prog_21_m1_40) ((if0 _ _).trans (teq hc220).1) (by decide) (by decide) ?_
   refine s_iconst (pc' := 48) (v := 0) X214.here hx (hb hby d_prog_21_m1_47) rfl rfl ?_
   exact J221
  ·
   simp only [if_neg hc220] at J221
   refine s_ifN (pc' := 43) X214.here hx (hb hby d_prog_21_m1_40) rfl ((if0 _ _).trans (feq hc220).1) ?_
   refine s_iconst (pc' := 44) (v := 1) X214.here hx (hb hby d_prog_21_m1_43) rfl rfl ?_
   refine s_goto (pc' := 48) X214.here hx (hb hby d_prog_21_m1_44) (by decide) (by decide) ?_
   exact J221
 refine s_iadd (pc' := 49) X214.here hx (hb hby d_prog_21_m1_48) rfl rfl ?_
 rw [hc1]
 show Go p.tables e below Kx _ (mkF m 49 _ [(.int c1), (.int 1), (.ref b207)])
 obtain ⟨cl222, Ar222, Aq222, As222, An222, Ah222, Ag222⟩ := id f215
 have in223 := inb_of (j := 1) As222 (by decide)
 obtain ⟨T223, h223, X223, e223, W223, st223⟩ := stI X214 hx hZ e214 Ar222 (j := 1) in223 (g := (mkF m 49 #[vr a, vr b, vi rc, vi 1] [(.int c1), (.int 1), (.ref b207)])) rfl rfl (hb hby d_prog_21_m1_49)
 have V223 : Arv Z h223 b207 k207 .int 5 [(.int 0), (.int c1), (.int 0), (.int 0), (.int 0)] (.int 0) := Arv.set Ar222 Aq222 As222 An222 Ah222 Ag222 rfl W223 1 rfl (Nat.le_of_ble_eq_true rfl)
 have K223 : Keep h0 h223 [a] := K210.wr W223 (Or.inr sz207)
 have O223 : Old Z n0 h223 := O210.wr W223 ge207
 have N223 := Fr.snoc X223 N210 ge207
 refine Go.st st223 ?_
 show Go p.tables e below Kx _ (mkF m 50 _ [])
 refine s_iinc (pc' := 53) (Ls' := #[vr a, vr b, vi rc, vi 2]) (z := 2) X223.here hx (hb hby d_prog_21_m1_50) rfl rfl (by decide) rfl ?_
 refine s_goto (pc' := 16) X223.here hx (hb hby d_prog_21_m1_53) (by decide) (by decide) ?_
 refine s_iloadN (pc' := 17) X223.here hx (hb hby d_prog_21_m1_16) rfl rfl ?_
 refine s_aloadN (pc' := 18) X223.here hx (hb hby d_prog_21_m1_17) rfl rfl rfl ?_
 have f224 : Arv Z h223 b kb .boolean 4 [(.int x1), (.int x2), (.int x3), (.int x4)] (.int 0) := (f211.other W223 (Nat.ne_of_lt (Nat.lt_of_lt_of_le VB.lt (Nat.le_of_eq g207.symm))))
 obtain ⟨cl225, Ar225, Aq225, As225, An225, Ah225, Ag225⟩ := id f224
 refine Go.st (X223.arraylength hx (by rw [e223]; exact Ar225.1) (State.isArrayOf_alike hZ.alike Ar225.2.1) (g := (mkF m 18 #[vr a, vr b, vi rc, vi 2] [(.ref b), (.int 2)])) rfl rfl (hb hby d_prog_21_m1_18)) ?_
 rw [len_of As225 An225]
 show Go p.tables e below Kx _ (mkF m 19 _ [(.int 4), (.int 2)])
 refine s_icmpN (pc' := 22) X223.here hx (hb hby d_prog_21_m1_19) rfl (flt (by decide)).2.2.1 ?_
 refine s_aloadN (pc' := 23) X223.here hx (hb hby d_prog_21_m1_22) rfl rfl rfl ?_
 have f226 : Fld Z h223 a "com/example/kingfisher/kingfisher/eval/TopicRanking" "relevantWithin" "[I" (.ref b207) := (Fw210.other W223 (Or.inl (Nat.ne_of_lt (Nat.lt_of_lt_of_le E.lt (Nat.le_of_eq g207.symm)))))
 obtain ⟨T227, X227, e227, st227⟩ := getF X223 hx hZ hown (host := "") (Or.inl (hv hw 12 rfl)) Via.refl e223 f226 (g := (mkF m 23 #[vr a, vr b, vi rc, vi 2] [(.ref a)])) rfl rfl (hb hby d_prog_21_m1_23)
 refine Go.st st227 ?_
 show Go p.tables e below Kx _ (mkF m 26 _ [(.ref b207)])
 refine s_iloadN (pc' := 27) X227.here hx (hb hby d_prog_21_m1_26) rfl rfl ?_
 refine s_aloadN (pc' := 28) X227.here hx (hb hby d_prog_21_m1_27) rfl rfl rfl ?_
 obtain ⟨T228, X228, e228, st228⟩ := getF X227 hx hZ hown (host := "") (Or.inl (hv hw 12 rfl)) Via.refl e227 f226 (g := (mkF m 28 #[vr a, vr b, vi rc, vi 2] [(.ref a), (.int 2), (.ref b207)])) rfl rfl (hb hby d_prog_21_m1_28)
 refine Go.st st228 ?_
 show Go p.tables e below Kx _ (mkF m 31 _ [(.ref b207), (.int 2), (.ref b207)])
 refine s_iloadN (pc' := 32) X228.here hx (hb hby d_prog_21_m1_31) rfl rfl ?_
 refine s_iconst (pc' := 33) (v := 1) X228.here hx (hb hby d_prog_21_m1_32) rfl rfl ?_
 refine s_isub (pc' := 34) (z := 1) X228.here hx (hb hby d_prog_21_m1_33) rfl (by decide) ?_
 obtain ⟨cl229, Ar229, Aq229, As229, An229, Ah229, Ag229⟩ := id V223
 have in230 := inb_of (j := 1) As229 (by decide)
 have at230 : cl229.slots[((1 : Int32)).toNatClampNeg]? = some (.int c1) := Ah229.at in230 rfl
 refine Go.st (X228.iaload hx (j := 1) (v := (.int c1)) (by rw [e228]; exact Ar229.1) (State.isArrayOf_alike hZ.alike Ar229.2.1) Ar229.2.2 in230 at230 (g := (mkF m 34 #[vr a, vr b, vi rc, vi 2] [(.int 1), (.ref b207), (.int 2), (.ref b207)])) rfl rfl (hb hby d_prog_21_m1_34)) ?_
 show Go p.tables e below Kx _ (mkF m 35 _ [(.int c1), (.int 2), (.ref b207)])
 refine s_aloadN (pc' := 36) X228.here hx (hb hby d_prog_21_m1_35) rfl rfl rfl ?_
 refine s_iloadN (pc' := 37) X228.here hx (hb hby d_prog_21_m1_36) rfl rfl ?_
 refine s_iconst (pc' := 38) (v := 1) X228.here hx (hb hby d_prog_21_m1_37) rfl rfl ?_
 refine s_isub (pc' := 39) (z := 1) X228.here hx (hb hby d_prog_21_m1_38) rfl (by decide) ?_
 obtain ⟨cl231, Ar231, Aq231, As231, An231, Ah231, Ag231⟩ := id f224
 have in232 := inb_of (j := 1) As231 (by decide)
 have at232 : cl231.slots[((1 : Int32)).toNatClampNeg]? = some (.int x2) := Ah231.at in232 rfl
 refine Go.st (X228.baloadBooleans hx (j := 1) (v := (.int x2)) (by rw [e228]; exact Ar231.1) (State.isArrayOf_alike hZ.alike Ar231.2.1) Ar231.2.2 in232 at232 (g := (mkF m 39 #[vr a, vr b, vi rc, vi 2] [(.int 1), (.ref b), (.int c1), (.int 2), (.ref b207)])) rfl rfl (hb hby d_prog_21_m1_39)) ?_
 show Go p.tables e below Kx _ (mkF m 40 _ [(.int x2), (.int c1), (.int 2), (.ref b207)])
 suffices J234 : Go p.tables e below Kx T228 (mkF m 48 #[vr a, vr b, vi rc, vi 2] [(.int (if x2 = (0 : Int32) then (0 : Int32) else (1 : Int32))), (.int c1), (.int 2), (.ref b207)]) by
  by_cases hc233 : x2 = (0 : Int32)
  ·
   simp only [if_pos hc233] at J234
   refine s_ifY (pc' := 47) X228.here hx (hb hby d_prog_21_m1_40) ((if0 _ _).trans (teq hc233).1) (by decide) (by decide) ?_
   refine s_iconst (pc' := 48) (v := 0) X228.here hx (hb hby d_prog_21_m1_47) rfl rfl ?_
   exact J234
  ·
   simp only [if_neg hc233] at J234
   refine s_ifN (pc' := 43) X228.here hx (hb hby d_prog_21_m1_40) rfl ((if0 _ _).trans (feq hc233).1) ?_
   refine s_iconst (pc' := 44) (v := 1) X228.here hx (hb hby d_prog_21_m1_43) rfl rfl ?_
   refine s_goto (pc' := 48) X228.here hx (hb hby d_prog_21_m1_44) (by decide) (by decide) ?_
   exact J234
 refine s_iadd (pc' := 49) X228.here hx (hb hby d_prog_21_m1_48) rfl rfl ?_
 rw [hc2]
 show Go p.tables e below Kx _ (mkF m 49 _ [(.int c2), (.int 2), (.ref b207)])
 obtain ⟨cl235, Ar235, Aq235, As235, An235, Ah235, Ag235⟩ := id V223
 have in236 := inb_of (j := 2) As235 (by decide)
 obtain ⟨T236, h236, X236, e236, W236, st236⟩ := stI X228 hx hZ e228 Ar235 (j := 2) in236 (g := (mkF m 49 #[vr a, vr b, vi rc, vi 2] [(.int c2), (.int 2), (.ref b207)])) rfl rfl (hb hby d_prog_21_m1_49)
 have V236 : Arv Z h236 b207 k207 .int 5 [(.int 0), (.int c1), (.int c2), (.int 0), (.int 0)] (.int 0) := Arv.set Ar235 Aq235 As235 An235 Ah235 Ag235 rfl W236 2 rfl (Nat.le_of_ble_eq_true rfl)
 have K236 : Keep h0 h236 [a] := K223.wr W236 (Or.inr sz207)
 have O236 : Old Z n0 h236 := O223.wr W236 ge207
 have N236 := Fr.snoc X236 N223 ge207
 refine Go.st st236 ?_
 show Go p.tables e below Kx _ (mkF m 50 _ [])
 refine s_iinc (pc' := 53) (Ls' := #[vr a, vr b, vi rc, vi 3]) (z := 3) X236.here hx (hb hby d_prog_21_m1_50) rfl rfl (by decide) rfl ?_
 refine s_goto (pc' := 16) X236.here hx (hb hby d_prog_21_m1_53) (by decide) (by decide) ?_
 refine s_iloadN (pc' := 17) X236.here hx (hb hby d_prog_21_m1_16) rfl rfl ?_
 refine s_aloadN (pc' := 18) X236.here hx (hb hby d_prog_21_m1_17) rfl rfl rfl ?_
 have f237 : Arv Z h236 b kb .boolean 4 [(.int x1), (.int x2), (.int x3), (.int x4)] (.int 0) := (f224.other W236 (Nat.ne_of_lt (Nat.lt_of_lt_of_le VB.lt (Nat.le_of_eq g207.symm))))
 obtain ⟨cl238, Ar238, Aq238, As238, An238, Ah238, Ag238⟩ := id f237
 refine Go.st (X236.arraylength hx (by rw [e236]; exact Ar238.1) (State.isArrayOf_alike hZ.alike Ar238.2.1) (g := (mkF m 18 #[vr a, vr b, vi rc, vi 3] [(.ref b), (.int 3)])) rfl rfl (hb hby d_prog_21_m1_18)) ?_
 rw [len_of As238 An238]
 show Go p.tables e below Kx _ (mkF m 19 _ [(.int 4), (.int 3)])
 refine s_icmpN (pc' := 22) X236.here hx (hb hby d_prog_21_m1_19) rfl (flt (by decide)).2.2.1 ?_
 refine s_aloadN (pc' := 23) X236.here hx (hb hby d_prog_21_m1_22) rfl rfl rfl ?_
 have f239 : Fld Z h236 a "com/example/kingfisher/kingfisher/eval/TopicRanking" "relevantWithin" "[I" (.ref b207) := (f226.other W236 (Or.inl (Nat.ne_of_lt (Nat.lt_of_lt_of_le E.lt (Nat.le_of_eq g207.symm)))))
 obtain ⟨T240, X240, e240, st240⟩ := getF X236 hx hZ hown (host := "") (Or.inl (hv hw 12 rfl)) Via.refl e236 f239 (g := (mkF m 23 #[vr a, vr b, vi rc, vi 3] [(.ref a)])) rfl rfl (hb hby d_prog_21_m1_23)
 refine Go.st st240 ?_
 show Go p.tables e below Kx _ (mkF m 26 _ [(.ref b207)])
 refine s_iloadN (pc' := 27) X240.here hx (hb hby d_prog_21_m1_26) rfl rfl ?_
 refine s_aloadN (pc' := 28) X240.here hx (hb hby d_prog_21_m1_27) rfl rfl rfl ?_
 obtain ⟨T241, X241, e241, st241⟩ := getF X240 hx hZ hown (host := "") (Or.inl (hv hw 12 rfl)) Via.refl e240 f239 (g := (mkF m 28 #[vr a, vr b, vi rc, vi 3] [(.ref a), (.int 3), (.ref b207)])) rfl rfl (hb hby d_prog_21_m1_28)
 refine Go.st st241 ?_
 show Go p.tables e below Kx _ (mkF m 31 _ [(.ref b207), (.int 3), (.ref b207)])
 refine s_iloadN (pc' := 32) X241.here hx (hb hby d_prog_21_m1_31) rfl rfl ?_
 refine s_iconst (pc' := 33) (v := 1) X241.here hx (hb hby d_prog_21_m1_32) rfl rfl ?_
 refine s_isub (pc' := 34) (z := 2) X241.here hx (hb hby d_prog_21_m1_33) rfl (by decide) ?_
 obtain ⟨cl242, Ar242, Aq242, As242, An242, Ah242, Ag242⟩ := id V236
 have in243 := inb_of (j := 2) As242 (by decide)
 have at243 : cl242.slots[((2 : Int32)).toNatClampNeg]? = some (.int c2) := Ah242.at in243 rfl
 refine Go.st (X241.iaload hx (j := 2) (v := (.int c2)) (by rw [e241]; exact Ar242.1) (State.isArrayOf_alike hZ.alike Ar242.2.1) Ar242.2.2 in243 at243 (g := (mkF m 34 #[vr a, vr b, vi rc, vi 3] [(.int 2), (.ref b207), (.int 3), (.ref b207)])) rfl rfl (hb hby d_prog_21_m1_34)) ?_
 show Go p.tables e below Kx _ (mkF m 35 _ [(.int c2), (.int 3), (.ref b207)])
 refine s_aloadN (pc' := 36) X241.here hx (hb hby d_prog_21_m1_35) rfl rfl rfl ?_
 refine s_iloadN (pc' := 37) X241.here hx (hb hby d_prog_21_m1_36) rfl rfl ?_
 refine s_iconst (pc' := 38) (v := 1) X241.here hx (hb hby d_prog_21_m1_37) rfl rfl ?_
 refine s_isub (pc' := 39) (z := 2) X241.here hx (hb hby d_prog_21_m1_38) rfl (by decide) ?_
 obtain ⟨cl244, Ar244, Aq244, As244, An244, Ah244, Ag244⟩ := id f237
 have in245 := inb_of (j := 2) As244 (by decide)
 have at245 : cl244.slots[((2 : Int32)).toNatClampNeg]? = some (.int x3) := Ah244.at in245 rfl
 refine Go.st (X241.baloadBooleans hx (j := 2) (v := (.int x3)) (by rw [e241]; exact Ar244.1) (State.isArrayOf_alike hZ.alike Ar244.2.1) Ar244.2.2 in245 at245 (g := (mkF m 39 #[vr a, vr b, vi rc, vi 3] [(.int 2), (.ref b), (.int c2), (.int 3), (.ref b207)])) rfl rfl (hb hby d_prog_21_m1_39)) ?_
 show Go p.tables e below Kx _ (mkF m 40 _ [(.int x3), (.int c2), (.int 3), (.ref b207)])
 suffices J247 : Go p.tables e below Kx T241 (mkF m 48 #[vr a, vr b, vi rc, vi 3] [(.int (if x3 = (0 : Int32) then (0 : Int32) else (1 : Int32))), (.int c2), (.int 3), (.ref b207)]) by
  by_cases hc246 : x3 = (0 : Int32)
  ·
   simp only [if_pos hc246] at J247
   refine s_ifY (pc' := 47) X241.here hx (hb hby d_prog_21_m1_40) ((if0 _ _).trans (teq hc246).1) (by decide) (by decide) ?_
   refine s_iconst (pc' := 48) (v := 0) X241.here hx (hb hby d_prog_21_m1_47) rfl rfl ?_
   exact J247
  ·
   simp only [if_neg hc246] at J247
   refine s_ifN (pc' := 43) X241.here hx (hb hby d_prog_21_m1_40) rfl ((if0 _ _).trans (feq hc246).1) ?_
   refine s_iconst (pc' := 44) (v := 1) X241.here hx (hb hby d_prog_21_m1_43) rfl rfl ?_
   refine s_goto (pc' := 48) X241.here hx (hb hby d_prog_21_m1_44) (by decide) (by decide) ?_
   exact J247
 refine s_iadd (pc' := 49) X241.here hx (hb hby d_prog_21_m1_48) rfl rfl ?_
 rw [hc3]
 show Go p.tables e below Kx _ (mkF m 49 _ [(.int c3), (.int 3), (.ref b207)])
 obtain ⟨cl248, Ar248, Aq248, As248, An248, Ah248, Ag248⟩ := id V236
 have in249 := inb_of (j := 3) As248 (by decide)
 obtain ⟨T249, h249, X249, e249, W249, st249⟩ := stI X241 hx hZ e241 Ar248 (j := 3) in249 (g := (mkF m 49 #[vr a, vr b, vi rc, vi 3] [(.int c3), (.int 3), (.ref b207)])) rfl rfl (hb hby d_prog_21_m1_49)
 have V249 : Arv Z h249 b207 k207 .int 5 [(.int 0), (.int c1), (.int c2), (.int c3), (.int 0)] (.int 0) := Arv.set Ar248 Aq248 As248 An248 Ah248 Ag248 rfl W249 3 rfl (Nat.le_of_ble_eq_true rfl)
 have K249 : Keep h0 h249 [a] := K236.wr W249 (Or.inr sz207)
 have O249 : Old Z n0 h249 := O236.wr W249 ge207
 have N249 := Fr.snoc X249 N236 ge207
 refine Go.st st249 ?_
 show Go p.tables e below Kx _ (mkF m 50 _ [])
 refine s_iinc (pc' := 53) (Ls' := #[vr a, vr b, vi rc, vi 4]) (z := 4) X249.here hx (hb hby d_prog_21_m1_50) rfl rfl (by decide) rfl ?_
 refine s_goto (pc' := 16) X249.here hx (hb hby d_prog_21_m1_53) (by decide) (by decide) ?_
 refine s_iloadN (pc' := 17) X249.here hx (hb hby d_prog_21_m1_16) rfl rfl ?_
 refine s_aloadN (pc' := 18) X249.here hx (hb hby d_prog_21_m1_17) rfl rfl rfl ?_
 have f250 : Arv Z h249 b kb .boolean 4 [(.int x1), (.int x2), (.int x3), (.int x4)] (.int 0) := (f237.other W249 (Nat.ne_of_lt (Nat.lt_of_lt_of_le VB.lt (Nat.le_of_eq g207.symm))))
 obtain ⟨cl251, Ar251, Aq251, As251, An251, Ah251, Ag251⟩ := id f250
 refine Go.st (X249.arraylength hx (by rw [e249]; exact Ar251.1) (State.isArrayOf_alike hZ.alike Ar251.2.1) (g := (mkF m 18 #[vr a, vr b, vi rc, vi 4] [(.ref b), (.int 4)])) rfl rfl (hb hby d_prog_21_m1_18)) ?_
 rw [len_of As251 An251]
 show Go p.tables e below Kx _ (mkF m 19 _ [(.int 4), (.int 4)])
 refine s_icmpN (pc' := 22) X249.here hx (hb hby d_prog_21_m1_19) rfl (flt (by decide)).2.2.1 ?_
 refine s_aloadN (pc' := 23) X249.here hx (hb hby d_prog_21_m1_22) rfl rfl rfl ?_
 have f252 : Fld Z h249 a "com/example/kingfisher/kingfisher/eval/TopicRanking" "relevantWithin" "[I" (.ref b207) := (f239.other W249 (Or.inl (Nat.ne_of_lt (Nat.lt_of_lt_of_le E.lt (Nat.le_of_eq g207.symm)))))
 obtain ⟨T253, X253, e253, st253⟩ := getF X249 hx hZ hown (host := "") (Or.inl (hv hw 12 rfl)) Via.refl e249 f252 (g := (mkF m 23 #[vr a, vr b, vi rc, vi 4] [(.ref a)])) rfl rfl (hb hby d_prog_21_m1_23)
 refine Go.st st253 ?_
 show Go p.tables e below Kx _ (mkF m 26 _ [(.ref b207)])
 refine s_iloadN (pc' := 27) X253.here hx (hb hby d_prog_21_m1_26) rfl rfl ?_
 refine s_aloadN (pc' := 28) X253.here hx (hb hby d_prog_21_m1_27) rfl rfl rfl ?_
 obtain ⟨T254, X254, e254, st254⟩ := getF X253 hx hZ hown (host := "") (Or.inl (hv hw 12 rfl)) Via.refl e253 f252 (g := (mkF m 28 #[vr a, vr b, vi rc, vi 4] [(.ref a), (.int 4), (.ref b207)])) rfl rfl (hb hby d_prog_21_m1_28)
 refine Go.st st254 ?_
 show Go p.tables e below Kx _ (mkF m 31 _ [(.ref b207), (.int 4), (.ref b207)])
 refine s_iloadN (pc' := 32) X254.here hx (hb hby d_prog_21_m1_31) rfl rfl ?_
 refine s_iconst (pc' := 33) (v := 1) X254.here hx (hb hby d_prog_21_m1_32) rfl rfl ?_
 refine s_isub (pc' := 34) (z := 3) X254.here hx (hb hby d_prog_21_m1_33) rfl (by decide) ?_
 obtain ⟨cl255, Ar255, Aq255, As255, An255, Ah255, Ag255⟩ := id V249
 have in256 := inb_of (j := 3) As255 (by decide)
 have at256 : cl255.slots[((3 : Int32)).toNatClampNeg]? = some (.int c3) := Ah255.at in256 rfl
 refine Go.st (X254.iaload hx (j := 3) (v := (.int c3)) (by rw [e254]; exact Ar255.1) (State.isArrayOf_alike hZ.alike Ar255.2.1) Ar255.2.2 in256 at256 (g := (mkF m 34 #[vr a, vr b, vi rc, vi 4] [(.int 3), (.ref b207), (.int 4), (.ref b207)])) rfl rfl (hb hby d_prog_21_m1_34)) ?_
 show Go p.tables e below Kx _ (mkF m 35 _ [(.int c3), (.int 4), (.ref b207)])
 refine s_aloadN (pc' := 36) X254.here hx (hb hby d_prog_21_m1_35) rfl rfl rfl ?_
 refine s_iloadN (pc' := 37) X254.here hx (hb hby d_prog_21_m1_36) rfl rfl ?_
 refine s_iconst (pc' := 38) (v := 1) X254.here hx (hb hby d_prog_21_m1_37) rfl rfl ?_
 refine s_isub (pc' := 39) (z := 3) X254.here hx (hb hby d_prog_21_m1_38) rfl (by decide) ?_
 obtain ⟨cl257, Ar257, Aq257, As257, An257, Ah257, Ag257⟩ := id f250
 have in258 := inb_of (j := 3) As257 (by decide)
 have at258 : cl257.slots[((3 : Int32)).toNatClampNeg]? = some (.int x4) := Ah257.at in258 rfl
 refine Go.st (X254.baloadBooleans hx (j := 3) (v := (.int x4)) (by rw [e254]; exact Ar257.1) (State.isArrayOf_alike hZ.alike Ar257.2.1) Ar257.2.2 in258 at258 (g := (mkF m 39 #[vr a, vr b, vi rc, vi 4] [(.int 3), (.ref b), (.int c3), (.int 4), (.ref b207)])) rfl rfl (hb hby d_prog_21_m1_39)) ?_
 show Go p.tables e below Kx _ (mkF m 40 _ [(.int x4), (.int c3), (.int 4), (.ref b207)])
 suffices J260 : Go p.tables e below Kx T254 (mkF m 48 #[vr a, vr b, vi rc, vi 4] [(.int (if x4 = (0 : Int32) then (0 : Int32) else (1 : Int32))), (.int c3), (.int 4), (.ref b207)]) by
  by_cases hc259 : x4 = (0 : Int32)
  ·
   simp only [if_pos hc259] at J260
   refine s_ifY (pc' := 47) X254.here hx (hb hby d_prog_21_m1_40) ((if0 _ _).trans (teq hc259).1) (by decide) (by decide) ?_
   refine s_iconst (pc' := 48) (v := 0) X254.here hx (hb hby d_prog_21_m1_47) rfl rfl ?_
   exact J260
  ·
   simp only [if_neg hc259] at J260
   refine s_ifN (pc' := 43) X254.here hx (hb hby d_prog_21_m1_40) rfl ((if0 _ _).trans (feq hc259).1) ?_
   refine s_iconst (pc' := 44) (v := 1) X254.here hx (hb hby d_prog_21_m1_43) rfl rfl ?_
   refine s_goto (pc' := 48) X254.here hx (hb hby d_prog_21_m1_44) (by decide) (by decide) ?_
   exact J260
 refine s_iadd (pc' := 49) X254.here hx (hb hby d_prog_21_m1_48) rfl rfl ?_
 rw [hc4]
 show Go p.tables e below Kx _ (mkF m 49 _ [(.int c4), (.int 4), (.ref b207)])
 obtain ⟨cl261, Ar261, Aq261, As261, An261, Ah261, Ag261⟩ := id V249
 have in262 := inb_of (j := 4) As261 (by decide)
 obtain ⟨T262, h262, X262, e262, W262, st262⟩ := stI X254 hx hZ e254 Ar261 (j := 4) in262 (g := (mkF m 49 #[vr a, vr b, vi rc, vi 4] [(.int c4), (.int 4), (.ref b207)])) rfl rfl (hb hby d_prog_21_m1_49)
 have V262 : Arv Z h262 b207 k207 .int 5 [(.int 0), (.int c1), (.int c2), (.int c3), (.int c4)] (.int 0) := Arv.set Ar261 Aq261 As261 An261 Ah261 Ag261 rfl W262 4 rfl (Nat.le_of_ble_eq_true rfl)
 have K262 : Keep h0 h262 [a] := K249.wr W262 (Or.inr sz207)
 have O262 : Old Z n0 h262 := O249.wr W262 ge207
 have N262 := Fr.snoc X262 N249 ge207
 refine Go.st st262 ?_
 show Go p.tables e below Kx _ (mkF m 50 _ [])
 refine s_iinc (pc' := 53) (Ls' := #[vr a, vr b, vi rc, vi 5]) (z := 5) X262.here hx (hb hby d_prog_21_m1_50) rfl rfl (by decide) rfl ?_
 refine s_goto (pc' := 16) X262.here hx (hb hby d_prog_21_m1_53) (by decide) (by decide) ?_
 refine s_iloadN (pc' := 17) X262.here hx (hb hby d_prog_21_m1_16) rfl rfl ?_
 refine s_aloadN (pc' := 18) X262.here hx (hb hby d_prog_21_m1_17) rfl rfl rfl ?_
 have f263 : Arv Z h262 b kb .boolean 4 [(.int x1), (.int x2), (.int x3), (.int x4)] (.int 0) := (f250.other W262 (Nat.ne_of_lt (Nat.lt_of_lt_of_le VB.lt (Nat.le_of_eq g207.symm))))
 obtain ⟨cl264, Ar264, Aq264, As264, An264, Ah264, Ag264⟩ := id f263
 refine Go.st (X262.arraylength hx (by rw [e262]; exact Ar264.1) (State.isArrayOf_alike hZ.alike Ar264.2.1) (g := (mkF m 18 #[vr a, vr b, vi rc, vi 5] [(.ref b), (.int 5)])) rfl rfl (hb hby d_prog_21_m1_18)) ?_
 rw [len_of As264 An264]
 show Go p.tables e below Kx _ (mkF m 19 _ [(.int 4), (.int 5)])
 refine s_icmpY (pc' := 56) X262.here hx (hb hby d_prog_21_m1_19) (tlt (by decide)).2.2.1 (by decide) (by decide) ?_
 refine s_aloadN (pc' := 57) X262.here hx (hb hby d_prog_21_m1_56) rfl rfl rfl ?_
 refine s_iloadN (pc' := 58) X262.here hx (hb hby d_prog_21_m1_57) rfl rfl ?_
 have f265 : Fld Z h262 a "com/example/kingfisher/kingfisher/eval/TopicRanking" "relevantCount" "I" (.int 0) := ((((((F2.ext E207).other W210 (Or.inr (slot_ne (Or.inr (hv hw 15 rfl)) (Or.inr (hv hw 13 rfl)) (by decide) (t := .int) (t' := (.array .int)) (by decide) (by decide)))).other W223 (Or.inl (Nat.ne_of_lt (Nat.lt_of_lt_of_le E.lt (Nat.le_of_eq g207.symm))))).other W236 (Or.inl (Nat.ne_of_lt (Nat.lt_of_lt_of_le E.lt (Nat.le_of_eq g207.symm))))).other W249 (Or.inl (Nat.ne_of_lt (Nat.lt_of_lt_of_le E.lt (Nat.le_of_eq g207.symm))))).other W262 (Or.inl (Nat.ne_of_lt (Nat.lt_of_lt_of_le E.lt (Nat.le_of_eq g207.symm)))))
 have f266 : Exa Z h262 a "com/example/kingfisher/kingfisher/eval/TopicRanking" := (((((f209.wr W210).wr W223).wr W236).wr W249).wr W262)
 obtain ⟨T267, h267, X267, e267, W267, st267⟩ := putF X262 hx hZ hown (host := "") (Or.inl (hv hw 14 rfl)) Via.refl e262 f265 f266 (Or.inr ⟨(hv hw 15 rfl), rfl, hnm⟩) (hv hw 3 rfl) (ty := .int) (by decide) rfl rfl (g := (mkF m 58 #[vr a, vr b, vi rc, vi 5] [(.int rc), (.ref a)])) rfl rfl (hb hby d_prog_21_m1_58)
 have Fw267 : Fld Z h267 a "com/example/kingfisher/kingfisher/eval/TopicRanking" "relevantCount" "I" (.int rc) := f265.same W267
 have K267 : Keep h0 h267 [a] := K262.wr W267 (Or.inl (List.mem_of_getElem? (i := 0) rfl))
 have O267 : Old Z n0 h267 := O262.wr W267 ge_a
 have N267 := Fr.snoc X267 N262 ge_a
 refine Go.st st267 ?_
 show Go p.tables e below Kx _ (mkF m 61 _ [])
 have f268 : Exa Z h267 a "com/example/kingfisher/kingfisher/eval/TopicRanking" := (f266.wr W267)
 have f269 : Fld Z h267 a "com/example/kingfisher/kingfisher/eval/TopicRanking" "relevantWithin" "[I" (.ref b207) := ((f252.other W262 (Or.inl (Nat.ne_of_lt (Nat.lt_of_lt_of_le E.lt (Nat.le_of_eq g207.symm))))).other W267 (Or.inr (slot_ne (Or.inr (hv hw 13 rfl)) (Or.inr (hv hw 15 rfl)) (by decide) (t := (.array .int)) (t' := .int) (by decide) (by decide))))
 have f270 : Arv Z h267 b207 k207 .int 5 [(.int 0), (.int c1), (.int c2), (.int c3), (.int c4)] (.int 0) := (V262.other W267 (Ne.symm (Nat.ne_of_lt (Nat.lt_of_lt_of_le E.lt (Nat.le_of_eq g207.symm)))))
 obtain ⟨fs, hr, hrun, hended, hW, hsame⟩ := X267.leave (v := none) (fun _ => rfl)
 refine Go.fin (X267.returnOut hx Bd.returns (hb hby d_prog_21_m1_61) hr) (hF _ _ hrun hended ⟨_, _, rfl, ?_, ⟨_, rfl⟩, hW, hsame.mono (by decide) (by decide)⟩)
 ·
  show QN4 Z a b kb x1 x2 x3 x4 c1 c2 c3 c4 rc h0 n0 (none : Option Value) T267.heap _
  rw [e267]
  exact ⟨rfl, N267, K267, f268, Fw267, b207, _, f269, f270⟩
def QV4 (Z : State) (a t : Addr) (k : ClassId) (c1 c2 c3 c4 : Int32) (h0 : Heap) (n0 : Nat) (v : Option Value) (h : Heap) (L : List Loc) : Prop := v = some (.int 4) ∧ Fr n0 L ∧ h = h0
set_option maxRecDepth 65536 in
set_option maxHeartbeats 40000000 in
theorem rmV4 (l : Launch) (Z : State) (a0 : Array Value) (hw : ∀ d ∈ tables_1, d.before a0 Z = true) (ws : List Jvm.Cond) (a t : Addr) (k : ClassId) (c1 c2 c3 c4 : Int32) (h0 : Heap) (n0 : Nat) (X00 : Old Z n0 h0) (F1 : Fld Z h0 a "com/example/kingfisher/kingfisher/eval/TopicRanking" "relevantWithin" "[I" (.ref t)) (VT : Arv Z h0 t k .int 5 [(.int 0), (.int c1), (.int c2), (.int c3), (.int c4)] (.int 0)) :
  MetFree l yN2 (head1 (Jvm.Cond.code yN2 prog_21_method_2_code 1 (some .int) :: ws) ({ frames := 0, cells := 0, slots := 0, locals := 0 } : Room)) (fun aa U => aa = #[(.ref a)] ∧ Z.Warmed39 U.vm ∧ U.heap = h0) (fun _ _ _ _ _ => True) (fun _ U o U' => ∃ v L, o = .returned v ∧ QV4 Z a t k c1 c2 c3 c4 h0 n0 v U'.heap L ∧ FrameEnd U o U' L ({ frames := 0, cells := 0, slots := 0, locals := 0 } : Room).cells ({ frames := 0, cells := 0, slots := 0, locals := 0 } : Room).slots) := by
 refine MetFree.of_bodySF (plainFor_of_name pn_0) hisR ?_
 intro p e s m args below meth c s₁ Bd hml0 hP hK
 obtain ⟨rfl, hZ, hh⟩ := hP
 have hx := Bd.exec
 have hby := Bd.bytes
 have hml : c.maxLocals = 1 := hml0
 have hown : s.vm.findClass "com/example/kingfisher/kingfisher/eval/TopicRanking" = some m.cls := findClass_of_methodNamed Bd.named
 have hnm := (name_of_methodNamed Bd.named Bd.method).1
 have X0 : Stand p l e ({ frames := 0, cells := 0, slots := 0, locals := 0 } : Room) s m #[(.ref a)] below meth c s₁ [] 0 0 := Stand.of_body Bd
 have e0 : s₁.heap = h0 := by rw [← hh, Bd.state]; rfl
 have N0 := Fr.nil n0
 have K0 := Keep.refl h0 []
 have ef : entryFrame m #[(.ref a)] 1 = mkF m 0 #[vr a] [] := (by first | (simp [entryFrame, mkF, argsToLocals, Value.category]; done) | rfl : entryFrame m #[(.ref a)] 1 = mkF m 0 #[vr a] [])
 rw [ef]
 refine fin_of fun Kx hF => ?_
 show Go p.tables e below Kx _ (mkF m 0 _ [])
 refine s_aloadN (pc' := 1) X0.here hx (hb hby d_prog_21_m2_0) rfl rfl rfl ?_
 obtain ⟨T271, X271, e271, st271⟩ := getF X0 hx hZ hown (host := "") (Or.inl (hv hw 12 rfl)) Via.refl e0 F1 (g := (mkF m 1 #[vr a] [(.ref a)])) rfl rfl (hb hby d_prog_21_m2_1)
 refine Go.st st271 ?_
 show Go p.tables e below Kx _ (mkF m 4 _ [(.ref t)])
 obtain ⟨cl272, Ar272, Aq272, As272, An272, Ah272, Ag272⟩ := id VT
 refine Go.st (X271.arraylength hx (by rw [e271]; exact Ar272.1) (State.isArrayOf_alike hZ.alike Ar272.2.1) (g := (mkF m 4 #[vr a] [(.ref t)])) rfl rfl (hb hby d_prog_21_m2_4)) ?_
 rw [len_of As272 An272]
 show Go p.tables e below Kx _ (mkF m 5 _ [(.int 5)])
 refine s_iconst (pc' := 6) (v := 1) X271.here hx (hb hby d_prog_21_m2_5) rfl rfl ?_
 refine s_isub (pc' := 7) (z := 4) X271.here hx (hb hby d_prog_21_m2_6) rfl (by decide) ?_
 obtain ⟨fs, hr, hrun, hended, hW, hsame⟩ := X271.leave (v := (some (.int 4))) (fun h => by rw [Bd.returns] at h; cases h)
 refine Go.fin (retI X271 hx Bd.returns (hb hby d_prog_21_m2_7) hr) (hF _ _ hrun hended ⟨_, _, rfl, ?_, ⟨_, rfl⟩, hW, hsame.mono (by decide) (by decide)⟩)
 ·
  show QV4 Z a t k c1 c2 c3 c4 h0 n0 ((some (.int 4)) : Option Value) T271.heap _
  rw [e271]
  exact ⟨rfl, N0, rfl⟩
def QA4 (Z : State) (a t : Addr) (k : ClassId) (c1 c2 c3 c4 : Int32) (rc tn : Int32) (h0 : Heap) (n0 : Nat) (v : Option Value) (h : Heap) (L : List Loc) : Prop := v = some (.double (mst (mst (mst (mst FP.dconst0 c1 1 (needd tn rc)) c2 2 (needd tn rc)) c3 3 (needd tn rc)) c4 4 (needd tn rc))) ∧ Fr n0 L ∧ h = h0
set_option maxRecDepth 65536 in
set_option maxHeartbeats 40000000 in
theorem rmA4 (l : Launch) (Z : State) (a0 : Array Value) (hw : ∀ d ∈ tables_1, d.before a0 Z = true) (ws : List Jvm.Cond) (a t : Addr) (k : ClassId) (c1 c2 c3 c4 : Int32) (rc tn : Int32) (h0 : Heap) (n0 : Nat) (X00 : Old Z n0 h0) (hrc : rc ≠ 0) (E : Exa Z h0 a "com/example/kingfisher/kingfisher/eval/TopicRanking") (F1 : Fld Z h0 a "com/example/kingfisher/kingfisher/eval/TopicRanking" "relevantWithin" "[I" (.ref t)) (F2 : Fld Z h0 a "com/example/kingfisher/kingfisher/eval/TopicRanking" "relevantCount" "I" (.int rc)) (VT : Arv Z h0 t k .int 5 [(.int 0), (.int c1), (.int c2), (.int c3), (.int c4)] (.int 0)) :
  MetFree l yN1 (head1 (Jvm.Cond.code yN1 prog_21_method_8_code 7 (some .double) :: ws) ({ frames := 1, cells := 0, slots := 0, locals := 40 } : Room)) (fun aa U => aa = #[(.ref a), (.int tn)] ∧ Z.Warmed39 U.vm ∧ U.heap = h0) (fun _ _ _ _ _ => True) (fun _ U o U' => ∃ v L, o = .returned v ∧ QA4 Z a t k c1 c2 c3 c4 rc tn h0 n0 v U'.heap L ∧ FrameEnd U o U' L ({ frames := 1, cells := 0, slots := 0, locals := 40 } : Room).cells ({ frames := 1, cells := 0, slots := 0, locals := 40 } : Room).slots) := by
 refine MetFree.of_bodySF (plainFor_of_name pn_0) hisR ?_
 intro p e s m args below meth c s₁ Bd hml0 hP hK
 obtain ⟨rfl, hZ, hh⟩ := hP
 have hx := Bd.exec
 have hby := Bd.bytes
 have hml : c.maxLocals = 7 := hml0
 have hown : s.vm.findClass "com/example/kingfisher/kingfisher/eval/TopicRanking" = some m.cls := findClass_of_methodNamed Bd.named
 have hnm := (name_of_methodNamed Bd.named Bd.method).1
 have X0 : Stand p l e ({ frames := 1, cells := 0, slots := 0, locals := 40 } : Room) s m #[(.ref a), (.int tn)] below meth c s₁ [] 0 0 := Stand.of_body Bd
 have e0 : s₁.heap = h0 := by rw [← hh, Bd.state]; rfl
 have N0 := Fr.nil n0
 have K0 := Keep.refl h0 []
 have ef : entryFrame m #[(.ref a), (.int tn)] 7 = mkF m 0 #[vr a, vi tn, un, un, un, un, un] [] := (by first | (simp [entryFrame, mkF, argsToLocals, Value.category]; done) | rfl : entryFrame m #[(.ref a), (.int tn)] 7 = mkF m 0 #[vr a, vi tn, un, un, un, un, un] [])
 rw [ef]
 refine fin_of fun Kx hF => ?_
 show Go p.tables e below Kx _ (mkF m 0 _ [])
 refine s_iloadN (pc' := 1) X0.here hx (hb hby d_prog_21_m8_0) rfl rfl ?_
 refine s_i2d (pc' := 2) X0.here hx (hb hby d_prog_21_m8_1) rfl rfl ?_
 refine Go.st (X0.ldc2DoubleC hx hown (mvT hZ (hv hw 21 rfl)) (g := (mkF m 2 #[vr a, vi tn, un, un, un, un, un] [(.double (FP.i2d tn))])) rfl (hb hby d_prog_21_m8_2)) ?_
 show Go p.tables e below Kx _ (mkF m 5 _ [(.double (4621819117588971520 : UInt64)), (.double (FP.i2d tn))])
 refine s_ddiv (pc' := 6) X0.here hx (hb hby d_prog_21_m8_5) rfl (nn1 tn) rfl ?_
 refine s_aloadN (pc' := 7) X0.here hx (hb hby d_prog_21_m8_6) rfl rfl rfl ?_
 obtain ⟨T273, X273, e273, st273⟩ := getF X0 hx hZ hown (host := "") (Or.inl (hv hw 14 rfl)) Via.refl e0 F2 (g := (mkF m 7 #[vr a, vi tn, un, un, un, un, un] [(.ref a), (.double (FP.ddiv (FP.i2d tn) (4621819117588971520 : UInt64)))])) rfl rfl (hb hby d_prog_21_m8_7)
 refine Go.st st273 ?_
 show Go p.tables e below Kx _ (mkF m 10 _ [(.int rc), (.double (FP.ddiv (FP.i2d tn) (4621819117588971520 : UInt64)))])
 refine s_i2d (pc' := 11) X273.here hx (hb hby d_prog_21_m8_10) rfl rfl ?_
 refine s_dmul (pc' := 12) X273.here hx (hb hby d_prog_21_m8_11) rfl (nn2 tn hrc) rfl ?_
 refine Go.st (X273.ldc2DoubleC hx hown (mvT hZ (hv hw 22 rfl)) (g := (mkF m 12 #[vr a, vi tn, un, un, un, un, un] [(.double (FP.dmul (FP.ddiv (FP.i2d tn) (4621819117588971520 : UInt64)) (FP.i2d rc)))])) rfl (hb hby d_prog_21_m8_12)) ?_
 show Go p.tables e below Kx _ (mkF m 15 _ [(.double (4606281698874543309 : UInt64)), (.double (FP.dmul (FP.ddiv (FP.i2d tn) (4621819117588971520 : UInt64)) (FP.i2d rc)))])
 refine s_dadd (pc' := 16) X273.here hx (hb hby d_prog_21_m8_15) rfl (nn3 tn hrc) rfl ?_
 refine s_d2l (pc' := 17) (z := needd tn rc) X273.here hx (hb hby d_prog_21_m8_16) rfl rfl ?_
 refine s_lstoreN (pc' := 18) (Ls' := #[vr a, vi tn, .val (.long (needd tn rc)), sn, un, un, un]) X273.here hx (hb hby d_prog_21_m8_17) rfl  rfl ?_
 refine s_dconst0 (pc' := 19) X273.here hx (hb hby d_prog_21_m8_18) rfl rfl ?_
 refine s_dstore (pc' := 21) (Ls' := #[vr a, vi tn, .val (.long (needd tn rc)), sn, .val (.double FP.dconst0), sn, un]) X273.here hx (hb hby d_prog_21_m8_19) rfl  rfl ?_
 refine s_iconst (pc' := 22) (v := 1) X273.here hx (hb hby d_prog_21_m8_21) rfl rfl ?_
 refine s_istore (pc' := 24) (Ls' := #[vr a, vi tn, .val (.long (needd tn rc)), sn, .val (.double FP.dconst0), sn, vi 1]) X273.here hx (hb hby d_prog_21_m8_22) rfl  rfl ?_
 refine s_iload (pc' := 26) X273.here hx (hb hby d_prog_21_m8_24) rfl rfl ?_
 refine s_aloadN (pc' := 27) X273.here hx (hb hby d_prog_21_m8_26) rfl rfl rfl ?_
 obtain ⟨cq274, kq274, q274a, q274b, q274c⟩ := isOf hZ e273 E
 obtain ⟨_, _, ⟨T274, L274, k274, n274⟩, -, X274, ⟨Lc274, hQ274, l274, y274, z274⟩, st274⟩ := X273.virtualBack hx (y := yN2) (z := yN2) hown (mvT hZ (hv hw 23 rfl)) (mvT hZ (hv hw 24 rfl)) (notFace_of_selects (args := #[]) (mvT hZ (hv hw 26 rfl))) (mvT hZ (hv hw 26 rfl)) (mvT hZ (hv hw 25 rfl)) (by decide) (backOf (W := 1) (rmV4 l Z a0 hw [] a t k c1 c2 c3 c4 h0 n0 X00 F1 VT) hZ (hv hw 27 rfl) (hv hw 4 rfl) (by decide) (by decide)) q274a q274c (g := (mkF m 27 #[vr a, vi tn, .val (.long (needd tn rc)), sn, .val (.double FP.dconst0), sn, vi 1] [(.ref a), (.int 1)])) rfl (by rw [hml]; rfl) (Steps.refl _) (argsL := []) (rest := [(.int 1)]) (lenOf pd_0 rfl) rfl (by exact Nat.le_of_eq rfl) (hb hby d_prog_21_m8_27) (fun _ _ => ⟨rfl, e273, (by decide : 0 + 0 ≤ _), (by decide : 0 + 0 ≤ _)⟩)
 dsimp only [Pt.U, Pt.locs, Pt.cells, Pt.slots] at X274 l274 y274 z274 st274 hQ274
 rw [l274, y274, z274] at X274
 obtain ⟨rfl, Nq274, hE274⟩ := hQ274
 have N274 := Fr.app N0 Nq274
 refine Go.tr st274 ?_
 show Go p.tables e below Kx _ (mkF m 30 _ [(.int 4), (.int 1)])
 refine s_icmpN (pc' := 33) X274.here hx (hb hby d_prog_21_m8_30) rfl (flt (by decide)).2.2.1 ?_
 refine s_aloadN (pc' := 34) X274.here hx (hb hby d_prog_21_m8_33) rfl rfl rfl ?_
 obtain ⟨T275, X275, e275, st275⟩ := getF X274 hx hZ hown (host := "") (Or.inl (hv hw 12 rfl)) Via.refl hE274 F1 (g := (mkF m 34 #[vr a, vi tn, .val (.long (needd tn rc)), sn, .val (.double FP.dconst0), sn, vi 1] [(.ref a)])) rfl rfl (hb hby d_prog_21_m8_34)
 refine Go.st st275 ?_
 show Go p.tables e below Kx _ (mkF m 37 _ [(.ref t)])
 refine s_iload (pc' := 39) X275.here hx (hb hby d_prog_21_m8_37) rfl rfl ?_
 obtain ⟨cl276, Ar276, Aq276, As276, An276, Ah276, Ag276⟩ := id VT
 have in277 := inb_of (j := 1) As276 (by decide)
 have at277 : cl276.slots[((1 : Int32)).toNatClampNeg]? = some (.int c1) := Ah276.at in277 rfl
 refine Go.st (X275.iaload hx (j := 1) (v := (.int c1)) (by rw [e275]; exact Ar276.1) (State.isArrayOf_alike hZ.alike Ar276.2.1) Ar276.2.2 in277 at277 (g := (mkF m 39 #[vr a, vi tn, .val (.long (needd tn rc)), sn, .val (.double FP.dconst0), sn, vi 1] [(.int 1), (.ref t)])) rfl rfl (hb hby d_prog_21_m8_39)) ?_
 show Go p.tables e below Kx _ (mkF m 40 _ [(.int c1)])
 refine s_i2l (pc' := 41) X275.here hx (hb hby d_prog_21_m8_40) rfl rfl ?_
 refine s_lloadN (pc' := 42) X275.here hx (hb hby d_prog_21_m8_41) rfl rfl ?_
 refine s_lcmp (pc' := 43) X275.here hx (hb hby d_prog_21_m8_42) rfl rfl ?_
 have J1 : ∀ (s1 : UInt64) (TJ1 : State) (LJ1 : List Loc), Stand p l e ({ frames := 1, cells := 0, slots := 0, locals := 40 } : Room) s m #[(.ref a), (.int tn)] below meth c TJ1 LJ1 0 0 → Fr n0 LJ1 → TJ1.heap = h0 → s1 = (mst FP.dconst0 c1 1 (needd tn rc)) → Go p.tables e below Kx TJ1 (mkF m 65 #[vr a, vi tn, .val (.long (needd tn rc)), sn, .val (.double s1), sn, vi 1] []) := by
  intro s1 TJ1 LJ1 XJ1 NJ1 eJ1 hs1
  subst hs1
  show Go p.tables e below Kx _ (mkF m 65 _ [])
  refine s_iinc (pc' := 68) (Ls' := #[vr a, vi tn, .val (.long (needd tn rc)), sn, .val (.double (mst FP.dconst0 c1 1 (needd tn rc))), sn, vi 2]) (z := 2) XJ1.here hx (hb hby d_prog_21_m8_65) rfl rfl (by decide) rfl ?_
  refine s_goto (pc' := 24) XJ1.here hx (hb hby d_prog_21_m8_68) (by decide) (by decide) ?_
  refine s_iload (pc' := 26) XJ1.here hx (hb hby d_prog_21_m8_24) rfl rfl ?_
  refine s_aloadN (pc' := 27) XJ1.here hx (hb hby d_prog_21_m8_26) rfl rfl rfl ?_
  obtain ⟨cq279, kq279, q279a, q279b, q279c⟩ := isOf hZ eJ1 E
  obtain ⟨_, _, ⟨T279, L279, k279, n279⟩, -, X279, ⟨Lc279, hQ279, l279, y279, z279⟩, st279⟩ := XJ1.virtualBack hx (y := yN2) (z := yN2) hown (mvT hZ (hv hw 23 rfl)) (mvT hZ (hv hw 24 rfl)) (notFace_of_selects (args := #[]) (mvT hZ (hv hw 26 rfl))) (mvT hZ (hv hw 26 rfl)) (mvT hZ (hv hw 25 rfl)) (by decide) (backOf (W := 1) (rmV4 l Z a0 hw [] a t k c1 c2 c3 c4 h0 n0 X00 F1 VT) hZ (hv hw 27 rfl) (hv hw 4 rfl) (by decide) (by decide)) q279a q279c (g := (mkF m 27 #[vr a, vi tn, .val (.long (needd tn rc)), sn, .val (.double (mst FP.dconst0 c1 1 (needd tn rc))), sn, vi 2] [(.ref a), (.int 2)])) rfl (by rw [hml]; rfl) (Steps.refl _) (argsL := []) (rest := [(.int 2)]) (lenOf pd_0 rfl) rfl (by exact Nat.le_of_eq rfl) (hb hby d_prog_21_m8_27) (fun _ _ => ⟨rfl, eJ1, (by decide : 0 + 0 ≤ _), (by decide : 0 + 0 ≤ _)⟩)
  dsimp only [Pt.U, Pt.locs, Pt.cells, Pt.slots] at X279 l279 y279 z279 st279 hQ279
  rw [l279, y279, z279] at X279
  obtain ⟨rfl, Nq279, hE279⟩ := hQ279
  have N279 := Fr.app NJ1 Nq279
  refine Go.tr st279 ?_
  show Go p.tables e below Kx _ (mkF m 30 _ [(.int 4), (.int 2)])
  refine s_icmpN (pc' := 33) X279.here hx (hb hby d_prog_21_m8_30) rfl (flt (by decide)).2.2.1 ?_
  refine s_aloadN (pc' := 34) X279.here hx (hb hby d_prog_21_m8_33) rfl rfl rfl ?_
  obtain ⟨T280, X280, e280, st280⟩ := getF X279 hx hZ hown (host := "") (Or.inl (hv hw 12 rfl)) Via.refl hE279 F1 (g := (mkF m 34 #[vr a, vi tn, .val (.long (needd tn rc)), sn, .val (.double (mst FP.dconst0 c1 1 (needd tn rc))), sn, vi 2] [(.ref a)])) rfl rfl (hb hby d_prog_21_m8_34)
  refine Go.st st280 ?_
  show Go p.tables e below Kx _ (mkF m 37 _ [(.ref t)])
  refine s_iload (pc' := 39) X280.here hx (hb hby d_prog_21_m8_37) rfl rfl ?_
  obtain ⟨cl281, Ar281, Aq281, As281, An281, Ah281, Ag281⟩ := id VT
  have in282 := inb_of (j := 2) As281 (by decide)
  have at282 : cl281.slots[((2 : Int32)).toNatClampNeg]? = some (.int c2) := Ah281.at in282 rfl
  refine Go.st (X280.iaload hx (j := 2) (v := (.int c2)) (by rw [e280]; exact Ar281.1) (State.isArrayOf_alike hZ.alike Ar281.2.1) Ar281.2.2 in282 at282 (g := (mkF m 39 #[vr a, vi tn, .val (.long (needd tn rc)), sn, .val (.double (mst FP.dconst0 c1 1 (needd tn rc))), sn, vi 2] [(.int 2), (.ref t)])) rfl rfl (hb hby d_prog_21_m8_39)) ?_
  show Go p.tables e below Kx _ (mkF m 40 _ [(.int c2)])
  refine s_i2l (pc' := 41) X280.here hx (hb hby d_prog_21_m8_40) rfl rfl ?_
  refine s_lloadN (pc' := 42) X280.here hx (hb hby d_prog_21_m8_41) rfl rfl ?_
  refine s_lcmp (pc' := 43) X280.here hx (hb hby d_prog_21_m8_42) rfl rfl ?_
  have J2 : ∀ (s2 : UInt64) (TJ2 : State) (LJ2 : List Loc), Stand p l e ({ frames := 1, cells := 0, slots := 0, locals := 40 } : Room) s m #[(.ref a), (.int tn)] below meth c TJ2 LJ2 0 0 → Fr n0 LJ2 → TJ2.heap = h0 → s2 = (mst (mst FP.dconst0 c1 1 (needd tn rc)) c2 2 (needd tn rc)) → Go p.tables e below Kx TJ2 (mkF m 65 #[vr a, vi tn, .val (.long (needd tn rc)), sn, .val (.double s2), sn, vi 2] []) := by
   intro s2 TJ2 LJ2 XJ2 NJ2 eJ2 hs2
   subst hs2
   show Go p.tables e below Kx _ (mkF m 65 _ [])
   refine s_iinc (pc' := 68) (Ls' := #[vr a, vi tn, .val (.long (needd tn rc)), sn, .val (.double (mst (mst FP.dconst0 c1 1 (needd tn rc)) c2 2 (needd tn rc))), sn, vi 3]) (z := 3) XJ2.here hx (hb hby d_prog_21_m8_65) rfl rfl (by decide) rfl ?_
   refine s_goto (pc' := 24) XJ2.here hx (hb hby d_prog_21_m8_68) (by decide) (by decide) ?_
   refine s_iload (pc' := 26) XJ2.here hx (hb hby d_prog_21_m8_24) rfl rfl ?_
   refine s_aloadN (pc' := 27) XJ2.here hx (hb hby d_prog_21_m8_26) rfl rfl rfl ?_
   obtain ⟨cq284, kq284, q284a, q284b, q284c⟩ := isOf hZ eJ2 E
   obtain ⟨_, _, ⟨T284, L284, k284, n284⟩, -, X284, ⟨Lc284, hQ284, l284, y284, z284⟩, st284⟩ := XJ2.virtualBack hx (y := yN2) (z := yN2) hown (mvT hZ (hv hw 23 rfl)) (mvT hZ (hv hw 24 rfl)) (notFace_of_selects (args := #[]) (mvT hZ (hv hw 26 rfl))) (mvT hZ (hv hw 26 rfl)) (mvT hZ (hv hw 25 rfl)) (by decide) (backOf (W := 1) (rmV4 l Z a0 hw [] a t k c1 c2 c3 c4 h0 n0 X00 F1 VT) hZ (hv hw 27 rfl) (hv hw 4 rfl) (by decide) (by decide)) q284a q284c (g := (mkF m 27 #[vr a, vi tn, .val (.long (needd tn rc)), sn, .val (.double (mst (mst FP.dconst0 c1 1 (needd tn rc)) c2 2 (needd tn rc))), sn, vi 3] [(.ref a), (.int 3)])) rfl (by rw [hml]; rfl) (Steps.refl _) (argsL := []) (rest := [(.int 3)]) (lenOf pd_0 rfl) rfl (by exact Nat.le_of_eq rfl) (hb hby d_prog_21_m8_27) (fun _ _ => ⟨rfl, eJ2, (by decide : 0 + 0 ≤ _), (by decide : 0 + 0 ≤ _)⟩)
   dsimp only [Pt.U, Pt.locs, Pt.cells, Pt.slots] at X284 l284 y284 z284 st284 hQ284
   rw [l284, y284, z284] at X284
   obtain ⟨rfl, Nq284, hE284⟩ := hQ284
   have N284 := Fr.app NJ2 Nq284
   refine Go.tr st284 ?_
   show Go p.tables e below Kx _ (mkF m 30 _ [(.int 4), (.int 3)])
   refine s_icmpN (pc' := 33) X284.here hx (hb hby d_prog_21_m8_30) rfl (flt (by decide)).2.2.1 ?_
   refine s_aloadN (pc' := 34) X284.here hx (hb hby d_prog_21_m8_33) rfl rfl rfl ?_
   obtain ⟨T285, X285, e285, st285⟩ := getF X284 hx hZ hown (host := "") (Or.inl (hv hw 12 rfl)) Via.refl hE284 F1 (g := (mkF m 34 #[vr a, vi tn, .val (.long (needd tn rc)), sn, .val (.double (mst (mst FP.dconst0 c1 1 (needd tn rc)) c2 2 (needd tn rc))), sn, vi 3] [(.ref a)])) rfl rfl (hb hby d_prog_21_m8_34)
   refine Go.st st285 ?_
   show Go p.tables e below Kx _ (mkF m 37 _ [(.ref t)])
   refine s_iload (pc' := 39) X285.here hx (hb hby d_prog_21_m8_37) rfl rfl ?_
   obtain ⟨cl286, Ar286, Aq286, As286, An286, Ah286, Ag286⟩ := id VT
   have in287 := inb_of (j := 3) As286 (by decide)
   have at287 : cl286.slots[((3 : Int32)).toNatClampNeg]? = some (.int c3) := Ah286.at in287 rfl
   refine Go.st (X285.iaload hx (j := 3) (v := (.int c3)) (by rw [e285]; exact Ar286.1) (State.isArrayOf_alike hZ.alike Ar286.2.1) Ar286.2.2 in287 at287 (g := (mkF m 39 #[vr a, vi tn, .val (.long (needd tn rc)), sn, .val (.double (mst (mst FP.dconst0 c1 1 (needd tn rc)) c2 2 (needd tn rc))), sn, vi 3] [(.int 3), (.ref t)])) rfl rfl (hb hby d_prog_21_m8_39)) ?_
   show Go p.tables e below Kx _ (mkF m 40 _ [(.int c3)])
   refine s_i2l (pc' := 41) X285.here hx (hb hby d_prog_21_m8_40) rfl rfl ?_
   refine s_lloadN (pc' := 42) X285.here hx (hb hby d_prog_21_m8_41) rfl rfl ?_
   refine s_lcmp (pc' := 43) X285.here hx (hb hby d_prog_21_m8_42) rfl rfl ?_
   have J3 : ∀ (s3 : UInt64) (TJ3 : State) (LJ3 : List Loc), Stand p l e ({ frames := 1, cells := 0, slots := 0, locals := 40 } : Room) s m #[(.ref a), (.int tn)] below meth c TJ3 LJ3 0 0 → Fr n0 LJ3 → TJ3.heap = h0 → s3 = (mst (mst (mst FP.dconst0 c1 1 (needd tn rc)) c2 2 (needd tn rc)) c3 3 (needd tn rc)) → Go p.tables e below Kx TJ3 (mkF m 65 #[vr a, vi tn, .val (.long (needd tn rc)), sn, .val (.double s3), sn, vi 3] []) := by
    intro s3 TJ3 LJ3 XJ3 NJ3 eJ3 hs3
    subst hs3
    show Go p.tables e below Kx _ (mkF m 65 _ [])
    refine s_iinc (pc' := 68) (Ls' := #[vr a, vi tn, .val (.long (needd tn rc)), sn, .val (.double (mst (mst (mst FP.dconst0 c1 1 (needd tn rc)) c2 2 (needd tn rc)) c3 3 (needd tn rc))), sn, vi 4]) (z := 4) XJ3.here hx (hb hby d_prog_21_m8_65) rfl rfl (by decide) rfl ?_
    refine s_goto (pc' := 24) XJ3.here hx (hb hby d_prog_21_m8_68) (by decide) (by decide) ?_
    refine s_iload (pc' := 26) XJ3.here hx (hb hby d_prog_21_m8_24) rfl rfl ?_
    refine s_aloadN (pc' := 27) XJ3.here hx (hb hby d_prog_21_m8_26) rfl rfl rfl ?_
    obtain ⟨cq289, kq289, q289a, q289b, q289c⟩ := isOf hZ eJ3 E
    obtain ⟨_, _, ⟨T289, L289, k289, n289⟩, -, X289, ⟨Lc289, hQ289, l289, y289, z289⟩, st289⟩ := XJ3.virtualBack hx (y := yN2) (z := yN2) hown (mvT hZ (hv hw 23 rfl)) (mvT hZ (hv hw 24 rfl)) (notFace_of_selects (args := #[]) (mvT hZ (hv hw 26 rfl))) (mvT hZ (hv hw 26 rfl)) (mvT hZ (hv hw 25 rfl)) (by decide) (backOf (W := 1) (rmV4 l Z a0 hw [] a t k c1 c2 c3 c4 h0 n0 X00 F1 VT) hZ (hv hw 27 rfl) (hv hw 4 rfl) (by decide) (by decide)) q289a q289c (g := (mkF m 27 #[vr a, vi tn, .val (.long (needd tn rc)), sn, .val (.double (mst (mst (mst FP.dconst0 c1 1 (needd tn rc)) c2 2 (needd tn rc)) c3 3 (needd tn rc))), sn, vi 4] [(.ref a), (.int 4)])) rfl (by rw [hml]; rfl) (Steps.refl _) (argsL := []) (rest := [(.int 4)]) (lenOf pd_0 rfl) rfl (by exact Nat.le_of_eq rfl) (hb hby d_prog_21_m8_27) (fun _ _ => ⟨rfl, eJ3, (by decide : 0 + 0 ≤ _), (by decide : 0 + 0 ≤ _)⟩)
    dsimp only [Pt.U, Pt.locs, Pt.cells, Pt.slots] at X289 l289 y289 z289 st289 hQ289
    rw [l289, y289, z289] at X289
    obtain ⟨rfl, Nq289, hE289⟩ := hQ289
    have N289 := Fr.app NJ3 Nq289
    refine Go.tr st289 ?_
    show Go p.tables e below Kx _ (mkF m 30 _ [(.int 4), (.int 4)])
    refine s_icmpN (pc' := 33) X289.here hx (hb hby d_prog_21_m8_30) rfl (flt (by decide)).2.2.1 ?_
    refine s_aloadN (pc' := 34) X289.here hx (hb hby d_prog_21_m8_33) rfl rfl rfl ?_
    obtain ⟨T290, X290, e290, st290⟩ := getF X289 hx hZ hown (host := "") (Or.inl (hv hw 12 rfl)) Via.refl hE289 F1 (g := (mkF m 34 #[vr a, vi tn, .val (.long (needd tn rc)), sn, .val (.double (mst (mst (mst FP.dconst0 c1 1 (needd tn rc)) c2 2 (needd tn rc)) c3 3 (needd tn rc))), sn, vi 4] [(.ref a)])) rfl rfl (hb hby d_prog_21_m8_34)
    refine Go.st st290 ?_
    show Go p.tables e below Kx _ (mkF m 37 _ [(.ref t)])
    refine s_iload (pc' := 39) X290.here hx (hb hby d_prog_21_m8_37) rfl rfl ?_
    obtain ⟨cl291, Ar291, Aq291, As291, An291, Ah291, Ag291⟩ := id VT
    have in292 := inb_of (j := 4) As291 (by decide)
    have at292 : cl291.slots[((4 : Int32)).toNatClampNeg]? = some (.int c4) := Ah291.at in292 rfl
    refine Go.st (X290.iaload hx (j := 4) (v := (.int c4)) (by rw [e290]; exact Ar291.1) (State.isArrayOf_alike hZ.alike Ar291.2.1) Ar291.2.2 in292 at292 (g := (mkF m 39 #[vr a, vi tn, .val (.long (needd tn rc)), sn, .val (.double (mst (mst (mst FP.dconst0 c1 1 (needd tn rc)) c2 2 (needd tn rc)) c3 3 (needd tn rc))), sn, vi 4] [(.int 4), (.ref t)])) rfl rfl (hb hby d_prog_21_m8_39)) ?_
    show Go p.tables e below Kx _ (mkF m 40 _ [(.int c4)])
    refine s_i2l (pc' := 41) X290.here hx (hb hby d_prog_21_m8_40) rfl rfl ?_
    refine s_lloadN (pc' := 42) X290.here hx (hb hby d_prog_21_m8_41) rfl rfl ?_
    refine s_lcmp (pc' := 43) X290.here hx (hb hby d_prog_21_m8_42) rfl rfl ?_
    have J4 : ∀ (s4 : UInt64) (TJ4 : State) (LJ4 : List Loc), Stand p l e ({ frames := 1, cells := 0, slots := 0, locals := 40 } : Room) s m #[(.ref a), (.int tn)] below meth c TJ4 LJ4 0 0 → Fr n0 LJ4 → TJ4.heap = h0 → s4 = (mst (mst (mst (mst FP.dconst0 c1 1 (needd tn rc)) c2 2 (needd tn rc)) c3 3 (needd tn rc)) c4 4 (needd tn rc)) → Go p.tables e below Kx TJ4 (mkF m 65 #[vr a, vi tn, .val (.long (needd tn rc)), sn, .val (.double s4), sn, vi 4] []) := by
     intro s4 TJ4 LJ4 XJ4 NJ4 eJ4 hs4
     subst hs4
     show Go p.tables e below Kx _ (mkF m 65 _ [])
     refine s_iinc (pc' := 68) (Ls' := #[vr a, vi tn, .val (.long (needd tn rc)), sn, .val (.double (mst (mst (mst (mst FP.dconst0 c1 1 (needd tn rc)) c2 2 (needd tn rc)) c3 3 (needd tn rc)) c4 4 (needd tn rc))), sn, vi 5]) (z := 5) XJ4.here hx (hb hby d_prog_21_m8_65) rfl rfl (by decide) rfl ?_
     refine s_goto (pc' := 24) XJ4.here hx (hb hby d_prog_21_m8_68) (by decide) (by decide) ?_
     refine s_iload (pc' := 26) XJ4.here hx (hb hby d_prog_21_m8_24) rfl rfl ?_
     refine s_aloadN (pc' := 27) XJ4.here hx (hb hby d_prog_21_m8_26) rfl rfl rfl ?_
     obtain ⟨cq294, kq294, q294a, q294b, q294c⟩ := isOf hZ eJ4 E
     obtain ⟨_, _, ⟨T294, L294, k294, n294⟩, -, X294, ⟨Lc294, hQ294, l294, y294, z294⟩, st294⟩ := XJ4.virtualBack hx (y := yN2) (z := yN2) hown (mvT hZ (hv hw 23 rfl)) (mvT hZ (hv hw 24 rfl)) (notFace_of_selects (args := #[]) (mvT hZ (hv hw 26 rfl))) (mvT hZ (hv hw 26 rfl)) (mvT hZ (hv hw 25 rfl)) (by decide) (backOf (W := 1) (rmV4 l Z a0 hw [] a t k c1 c2 c3 c4 h0 n0 X00 F1 VT) hZ (hv hw 27 rfl) (hv hw 4 rfl) (by decide) (by decide)) q294a q294c (g := (mkF m 27 #[vr a, vi tn, .val (.long (needd tn rc)), sn, .val (.double (mst (mst (mst (mst FP.dconst0 c1 1 (needd tn rc)) c2 2 (needd tn rc)) c3 3 (needd tn rc)) c4 4 (needd tn rc))), sn, vi 5] [(.ref a), (.int 5)])) rfl (by rw [hml]; rfl) (Steps.refl _) (argsL := []) (rest := [(.int 5)]) (lenOf pd_0 rfl) rfl (by exact Nat.le_of_eq rfl) (hb hby d_prog_21_m8_27) (fun _ _ => ⟨rfl, eJ4, (by decide : 0 + 0 ≤ _), (by decide : 0 + 0 ≤ _)⟩)
     dsimp only [Pt.U, Pt.locs, Pt.cells, Pt.slots] at X294 l294 y294 z294 st294 hQ294
     rw [l294, y294, z294] at X294
     obtain ⟨rfl, Nq294, hE294⟩ := hQ294
     have N294 := Fr.app NJ4 Nq294
     refine Go.tr st294 ?_
     show Go p.tables e below Kx _ (mkF m 30 _ [(.int 4), (.int 5)])
     refine s_icmpY (pc' := 71) X294.here hx (hb hby d_prog_21_m8_30) (tlt (by decide)).2.2.1 (by decide) (by decide) ?_
     refine s_dload (pc' := 73) X294.here hx (hb hby d_prog_21_m8_71) rfl rfl ?_
     obtain ⟨fs, hr, hrun, hended, hW, hsame⟩ := X294.leave (v := (some (.double (mst (mst (mst (mst FP.dconst0 c1 1 (needd tn rc)) c2 2 (needd tn rc)) c3 3 (needd tn rc)) c4 4 (needd tn rc))))) (fun h => by rw [Bd.returns] at h; cases h)
     refine Go.fin (retOut X294 hx Bd.returns rfl (Or.inr (Or.inr (Or.inl ⟨rfl, rfl, _, rfl⟩))) (hb hby d_prog_21_m8_73) hr) (hF _ _ hrun hended ⟨_, _, rfl, ?_, ⟨_, rfl⟩, hW, hsame.mono (by decide) (by decide)⟩)
     ·
      show QA4 Z a t k c1 c2 c3 c4 rc tn h0 n0 ((some (.double (mst (mst (mst (mst FP.dconst0 c1 1 (needd tn rc)) c2 2 (needd tn rc)) c3 3 (needd tn rc)) c4 4 (needd tn rc)))) : Option Value) T294.heap _
      rw [hE294]
      exact ⟨rfl, N294, rfl⟩
    by_cases hc293 : (lcmpW (c4.toInt64) (needd tn rc)) < (0 : Int32)
    ·
     refine s_ifY (pc' := 65) X290.here hx (hb hby d_prog_21_m8_43) ((if0 _ _).trans (tlt hc293).1) (by decide) (by decide) ?_
     exact J4 _ _ _ X290 N289 e290 (mst_lt ((lw_lt _ _).mp hc293))
    ·
     refine s_ifN (pc' := 46) X290.here hx (hb hby d_prog_21_m8_43) rfl ((if0 _ _).trans (flt hc293).1) ?_
     refine s_dload (pc' := 48) X290.here hx (hb hby d_prog_21_m8_46) rfl rfl ?_
     refine s_aloadN (pc' := 49) X290.here hx (hb hby d_prog_21_m8_48) rfl rfl rfl ?_
     obtain ⟨T295, X295, e295, st295⟩ := getF X290 hx hZ hown (host := "") (Or.inl (hv hw 12 rfl)) Via.refl e290 F1 (g := (mkF m 49 #[vr a, vi tn, .val (.long (needd tn rc)), sn, .val (.double (mst (mst (mst FP.dconst0 c1 1 (needd tn rc)) c2 2 (needd tn rc)) c3 3 (needd tn rc))), sn, vi 4] [(.ref a), (.double (mst (mst (mst FP.dconst0 c1 1 (needd tn rc)) c2 2 (needd tn rc)) c3 3 (needd tn rc)))])) rfl rfl (hb hby d_prog_21_m8_49)
     refine Go.st st295 ?_
     show Go p.tables e below Kx _ (mkF m 52 _ [(.ref t), (.double (mst (mst (mst FP.dconst0 c1 1 (needd tn rc)) c2 2 (needd tn rc)) c3 3 (needd tn rc)))])
     refine s_iload (pc' := 54) X295.here hx (hb hby d_prog_21_m8_52) rfl rfl ?_
     obtain ⟨cl296, Ar296, Aq296, As296, An296, Ah296, Ag296⟩ := id VT
     have in297 := inb_of (j := 4) As296 (by decide)
     have at297 : cl296.slots[((4 : Int32)).toNatClampNeg]? = some (.int c4) := Ah296.at in297 rfl
     refine Go.st (X295.iaload hx (j := 4) (v := (.int c4)) (by rw [e295]; exact Ar296.1) (State.isArrayOf_alike hZ.alike Ar296.2.1) Ar296.2.2 in297 at297 (g := (mkF m 54 #[vr a, vi tn, .val (.long (needd tn rc)), sn, .val (.double (mst (mst (mst FP.dconst0 c1 1 (needd tn rc)) c2 2 (needd tn rc)) c3 3 (needd tn rc))), sn, vi 4] [(.int 4), (.ref t), (.double (mst (mst (mst FP.dconst0 c1 1 (needd tn rc)) c2 2 (needd tn rc)) c3 3 (needd tn rc)))])) rfl rfl (hb hby d_prog_21_m8_54)) ?_
     show Go p.tables e below Kx _ (mkF m 55 _ [(.int c4), (.double (mst (mst (mst FP.dconst0 c1 1 (needd tn rc)) c2 2 (needd tn rc)) c3 3 (needd tn rc)))])
     refine s_i2d (pc' := 56) X295.here hx (hb hby d_prog_21_m8_55) rfl rfl ?_
     refine s_iload (pc' := 58) X295.here hx (hb hby d_prog_21_m8_56) rfl rfl ?_
     refine s_i2d (pc' := 59) X295.here hx (hb hby d_prog_21_m8_58) rfl rfl ?_
     refine s_ddiv (pc' := 60) X295.here hx (hb hby d_prog_21_m8_59) rfl (nnq _ (by decide)) rfl ?_
     obtain ⟨_, vm298, ⟨T298, L298, k298, n298⟩, -, X298, ⟨hQ298, hB298⟩, st298⟩ := Jvm.LawKit.callS X295 hx (y := yN4) hown (mvT hZ (hv hw 34 rfl)) (mvT hZ (hv hw 35 rfl)) (mvT hZ (hv hw 36 rfl)) (mvT hZ (hv hw 37 rfl)) (by decide) (Jvm.Free.Fl.Abs.maxD_pays (W := 0) (mst (mst (mst FP.dconst0 c1 1 (needd tn rc)) c2 2 (needd tn rc)) c3 3 (needd tn rc)) (FP.ddiv (FP.i2d c4) (FP.i2d 4)) (mvT hZ (hv hw 37 rfl)) (by decide) (by decide)) (g := (mkF m 60 #[vr a, vi tn, .val (.long (needd tn rc)), sn, .val (.double (mst (mst (mst FP.dconst0 c1 1 (needd tn rc)) c2 2 (needd tn rc)) c3 3 (needd tn rc))), sn, vi 4] [(.double (FP.ddiv (FP.i2d c4) (FP.i2d 4))), (.double (mst (mst (mst FP.dconst0 c1 1 (needd tn rc)) c2 2 (needd tn rc)) c3 3 (needd tn rc)))])) rfl (by rw [hml]; rfl) (argsL := [(.double (mst (mst (mst FP.dconst0 c1 1 (needd tn rc)) c2 2 (needd tn rc)) c3 3 (needd tn rc))), (.double (FP.ddiv (FP.i2d c4) (FP.i2d 4)))]) (rest := []) (lenOf pd_1 rfl) rfl (by exact Nat.le_of_eq rfl) (hb hby d_prog_21_m8_60) (fun _ _ => ⟨(by decide : 0 ≤ _), (by decide : 0 ≤ _), rfl, (mst_nn (mst_nn (mst_nn d0f.noNaN (by decide)) (by decide)) (by decide)), nnq _ (by decide)⟩)
     cases hB298
     dsimp only [Pt.U, Pt.locs, Pt.cells, Pt.slots] at X298 st298
     have hE298 : (T295.setVm vm298).heap = h0 := e295
     subst hQ298
     refine Go.st st298 ?_
     show Go p.tables e below Kx (T295.setVm vm298) (mkF m 63 #[vr a, vi tn, .val (.long (needd tn rc)), sn, .val (.double (mst (mst (mst FP.dconst0 c1 1 (needd tn rc)) c2 2 (needd tn rc)) c3 3 (needd tn rc))), sn, vi 4] [(.double (Native.java_lang_Math.nans.pick64 true (mst (mst (mst FP.dconst0 c1 1 (needd tn rc)) c2 2 (needd tn rc)) c3 3 (needd tn rc)) (FP.ddiv (FP.i2d c4) (FP.i2d 4))))])
     refine s_dstore (pc' := 65) (Ls' := #[vr a, vi tn, .val (.long (needd tn rc)), sn, .val (.double (Native.java_lang_Math.nans.pick64 true (mst (mst (mst FP.dconst0 c1 1 (needd tn rc)) c2 2 (needd tn rc)) c3 3 (needd tn rc)) (FP.ddiv (FP.i2d c4) (FP.i2d 4)))), sn, vi 4]) X298.here hx (hb hby d_prog_21_m8_63) rfl  rfl ?_
     exact J4 _ _ _ X298 N289 hE298 (mst_ge (fun z => hc293 ((lw_lt _ _).mpr z)))
   by_cases hc288 : (lcmpW (c3.toInt64) (needd tn rc)) < (0 : Int32)
   ·
    refine s_ifY (pc' := 65) X285.here hx (hb hby d_prog_21_m8_43) ((if0 _ _).trans (tlt hc288).1) (by decide) (by decide) ?_
    exact J3 _ _ _ X285 N284 e285 (mst_lt ((lw_lt _ _).mp hc288))
   ·
    refine s_ifN (pc' := 46) X285.here hx (hb hby d_prog_21_m8_43) rfl ((if0 _ _).trans (flt hc288).1) ?_
    refine s_dload (pc' := 48) X285.here hx (hb hby d_prog_21_m8_46) rfl rfl ?_
    refine s_aloadN (pc' := 49) X285.here hx (hb hby d_prog_21_m8_48) rfl rfl rfl ?_
    obtain ⟨T299, X299, e299, st299⟩ := getF X285 hx hZ hown (host := "") (Or.inl (hv hw 12 rfl)) Via.refl e285 F1 (g := (mkF m 49 #[vr a, vi tn, .val (.long (needd tn rc)), sn, .val (.double (mst (mst FP.dconst0 c1 1 (needd tn rc)) c2 2 (needd tn rc))), sn, vi 3] [(.ref a), (.double (mst (mst FP.dconst0 c1 1 (needd tn rc)) c2 2 (needd tn rc)))])) rfl rfl (hb hby d_prog_21_m8_49)
    refine Go.st st299 ?_
    show Go p.tables e below Kx _ (mkF m 52 _ [(.ref t), (.double (mst (mst FP.dconst0 c1 1 (needd tn rc)) c2 2 (needd tn rc)))])
    refine s_iload (pc' := 54) X299.here hx (hb hby d_prog_21_m8_52) rfl rfl ?_
    obtain ⟨cl300, Ar300, Aq300, As300, An300, Ah300, Ag300⟩ := id VT
    have in301 := inb_of (j := 3) As300 (by decide)
    have at301 : cl300.slots[((3 : Int32)).toNatClampNeg]? = some (.int c3) := Ah300.at in301 rfl
    refine Go.st (X299.iaload hx (j := 3) (v := (.int c3)) (by rw [e299]; exact Ar300.1) (State.isArrayOf_alike hZ.alike Ar300.2.1) Ar300.2.2 in301 at301 (g := (mkF m 54 #[vr a, vi tn, .val (.long (needd tn rc)), sn, .val (.double (mst (mst FP.dconst0 c1 1 (needd tn rc)) c2 2 (needd tn rc))), sn, vi 3] [(.int 3), (.ref t), (.double (mst (mst FP.dconst0 c1 1 (needd tn rc)) c2 2 (needd tn rc)))])) rfl rfl (hb hby d_prog_21_m8_54)) ?_
    show Go p.tables e below Kx _ (mkF m 55 _ [(.int c3), (.double (mst (mst FP.dconst0 c1 1 (needd tn rc)) c2 2 (needd tn rc)))])
    refine s_i2d (pc' := 56) X299.here hx (hb hby d_prog_21_m8_55) rfl rfl ?_
    refine s_iload (pc' := 58) X299.here hx (hb hby d_prog_21_m8_56) rfl rfl ?_
    refine s_i2d (pc' := 59) X299.here hx (hb hby d_prog_21_m8_58) rfl rfl ?_
    refine s_ddiv (pc' := 60) X299.here hx (hb hby d_prog_21_m8_59) rfl (nnq _ (by decide)) rfl ?_
    obtain ⟨_, vm302, ⟨T302, L302, k302, n302⟩, -, X302, ⟨hQ302, hB302⟩, st302⟩ := Jvm.LawKit.callS X299 hx (y := yN4) hown (mvT hZ (hv hw 34 rfl)) (mvT hZ (hv hw 35 rfl)) (mvT hZ (hv hw 36 rfl)) (mvT hZ (hv hw 37 rfl)) (by decide) (Jvm.Free.Fl.Abs.maxD_pays (W := 0) (mst (mst FP.dconst0 c1 1 (needd tn rc)) c2 2 (needd tn rc)) (FP.ddiv (FP.i2d c3) (FP.i2d 3)) (mvT hZ (hv hw 37 rfl)) (by decide) (by decide)) (g := (mkF m 60 #[vr a, vi tn, .val (.long (needd tn rc)), sn, .val (.double (mst (mst FP.dconst0 c1 1 (needd tn rc)) c2 2 (needd tn rc))), sn, vi 3] [(.double (FP.ddiv (FP.i2d c3) (FP.i2d 3))), (.double (mst (mst FP.dconst0 c1 1 (needd tn rc)) c2 2 (needd tn rc)))])) rfl (by rw [hml]; rfl) (argsL := [(.double (mst (mst FP.dconst0 c1 1 (needd tn rc)) c2 2 (needd tn rc))), (.double (FP.ddiv (FP.i2d c3) (FP.i2d 3)))]) (rest := []) (lenOf pd_1 rfl) rfl (by exact Nat.le_of_eq rfl) (hb hby d_prog_21_m8_60) (fun _ _ => ⟨(by decide : 0 ≤ _), (by decide : 0 ≤ _), rfl, (mst_nn (mst_nn d0f.noNaN (by decide)) (by decide)), nnq _ (by decide)⟩)
    cases hB302
    dsimp only [Pt.U, Pt.locs, Pt.cells, Pt.slots] at X302 st302
    have hE302 : (T299.setVm vm302).heap = h0 := e299
    subst hQ302
    refine Go.st st302 ?_
    show Go p.tables e below Kx (T299.setVm vm302) (mkF m 63 #[vr a, vi tn, .val (.long (needd tn rc)), sn, .val (.double (mst (mst FP.dconst0 c1 1 (needd tn rc)) c2 2 (needd tn rc))), sn, vi 3] [(.double (Native.java_lang_Math.nans.pick64 true (mst (mst FP.dconst0 c1 1 (needd tn rc)) c2 2 (needd tn rc)) (FP.ddiv (FP.i2d c3) (FP.i2d 3))))])
    refine s_dstore (pc' := 65) (Ls' := #[vr a, vi tn, .val (.long (needd tn rc)), sn, .val (.double (Native.java_lang_Math.nans.pick64 true (mst (mst FP.dconst0 c1 1 (needd tn rc)) c2 2 (needd tn rc)) (FP.ddiv (FP.i2d c3) (FP.i2d 3)))), sn, vi 3]) X302.here hx (hb hby d_prog_21_m8_63) rfl  rfl ?_
    exact J3 _ _ _ X302 N284 hE302 (mst_ge (fun z => hc288 ((lw_lt _ _).mpr z)))
  by_cases hc283 : (lcmpW (c2.toInt64) (needd tn rc)) < (0 : Int32)
  ·
   refine s_ifY (pc' := 65) X280.here hx (hb hby d_prog_21_m8_43) ((if0 _ _).trans (tlt hc283).1) (by decide) (by decide) ?_
   exact J2 _ _ _ X280 N279 e280 (mst_lt ((lw_lt _ _).mp hc283))
  ·
   refine s_ifN (pc' := 46) X280.here hx (hb hby d_prog_21_m8_43) rfl ((if0 _ _).trans (flt hc283).1) ?_
   refine s_dload (pc' := 48) X280.here hx (hb hby d_prog_21_m8_46) rfl rfl ?_
   refine s_aloadN (pc' := 49) X280.here hx (hb hby d_prog_21_m8_48) rfl rfl rfl ?_
   obtain ⟨T303, X303, e303, st303⟩ := getF X280 hx hZ hown (host := "") (Or.inl (hv hw 12 rfl)) Via.refl e280 F1 (g := (mkF m 49 #[vr a, vi tn, .val (.long (needd tn rc)), sn, .val (.double (mst FP.dconst0 c1 1 (needd tn rc))), sn, vi 2] [(.ref a), (.double (mst FP.dconst0 c1 1 (needd tn rc)))])) rfl rfl (hb hby d_prog_21_m8_49)
   refine Go.st st303 ?_
   show Go p.tables e below Kx _ (mkF m 52 _ [(.ref t), (.double (mst FP.dconst0 c1 1 (needd tn rc)))])
   refine s_iload (pc' := 54) X303.here hx (hb hby d_prog_21_m8_52) rfl rfl ?_
   obtain ⟨cl304, Ar304, Aq304, As304, An304, Ah304, Ag304⟩ := id VT
   have in305 := inb_of (j := 2) As304 (by decide)
   have at305 : cl304.slots[((2 : Int32)).toNatClampNeg]? = some (.int c2) := Ah304.at in305 rfl
   refine Go.st (X303.iaload hx (j := 2) (v := (.int c2)) (by rw [e303]; exact Ar304.1) (State.isArrayOf_alike hZ.alike Ar304.2.1) Ar304.2.2 in305 at305 (g := (mkF m 54 #[vr a, vi tn, .val (.long (needd tn rc)), sn, .val (.double (mst FP.dconst0 c1 1 (needd tn rc))), sn, vi 2] [(.int 2), (.ref t), (.double (mst FP.dconst0 c1 1 (needd tn rc)))])) rfl rfl (hb hby d_prog_21_m8_54)) ?_
   show Go p.tables e below Kx _ (mkF m 55 _ [(.int c2), (.double (mst FP.dconst0 c1 1 (needd tn rc)))])
   refine s_i2d (pc' := 56) X303.here hx (hb hby d_prog_21_m8_55) rfl rfl ?_
   refine s_iload (pc' := 58) X303.here hx (hb hby d_prog_21_m8_56) rfl rfl ?_
   refine s_i2d (pc' := 59) X303.here hx (hb hby d_prog_21_m8_58) rfl rfl ?_
   refine s_ddiv (pc' := 60) X303.here hx (hb hby d_prog_21_m8_59) rfl (nnq _ (by decide)) rfl ?_
   obtain ⟨_, vm306, ⟨T306, L306, k306, n306⟩, -, X306, ⟨hQ306, hB306⟩, st306⟩ := Jvm.LawKit.callS X303 hx (y := yN4) hown (mvT hZ (hv hw 34 rfl)) (mvT hZ (hv hw 35 rfl)) (mvT hZ (hv hw 36 rfl)) (mvT hZ (hv hw 37 rfl)) (by decide) (Jvm.Free.Fl.Abs.maxD_pays (W := 0) (mst FP.dconst0 c1 1 (needd tn rc)) (FP.ddiv (FP.i2d c2) (FP.i2d 2)) (mvT hZ (hv hw 37 rfl)) (by decide) (by decide)) (g := (mkF m 60 #[vr a, vi tn, .val (.long (needd tn rc)), sn, .val (.double (mst FP.dconst0 c1 1 (needd tn rc))), sn, vi 2] [(.double (FP.ddiv (FP.i2d c2) (FP.i2d 2))), (.double (mst FP.dconst0 c1 1 (needd tn rc)))])) rfl (by rw [hml]; rfl) (argsL := [(.double (mst FP.dconst0 c1 1 (needd tn rc))), (.double (FP.ddiv (FP.i2d c2) (FP.i2d 2)))]) (rest := []) (lenOf pd_1 rfl) rfl (by exact Nat.le_of_eq rfl) (hb hby d_prog_21_m8_60) (fun _ _ => ⟨(by decide : 0 ≤ _), (by decide : 0 ≤ _), rfl, (mst_nn d0f.noNaN (by decide)), nnq _ (by decide)⟩)
   cases hB306
   dsimp only [Pt.U, Pt.locs, Pt.cells, Pt.slots] at X306 st306
   have hE306 : (T303.setVm vm306).heap = h0 := e303
   subst hQ306
   refine Go.st st306 ?_
   show Go p.tables e below Kx (T303.setVm vm306) (mkF m 63 #[vr a, vi tn, .val (.long (needd tn rc)), sn, .val (.double (mst FP.dconst0 c1 1 (needd tn rc))), sn, vi 2] [(.double (Native.java_lang_Math.nans.pick64 true (mst FP.dconst0 c1 1 (needd tn rc)) (FP.ddiv (FP.i2d c2) (FP.i2d 2))))])
   refine s_dstore (pc' := 65) (Ls' := #[vr a, vi tn, .val (.long (needd tn rc)), sn, .val (.double (Native.java_lang_Math.nans.pick64 true (mst FP.dconst0 c1 1 (needd tn rc)) (FP.ddiv (FP.i2d c2) (FP.i2d 2)))), sn, vi 2]) X306.here hx (hb hby d_prog_21_m8_63) rfl  rfl ?_
   exact J2 _ _ _ X306 N279 hE306 (mst_ge (fun z => hc283 ((lw_lt _ _).mpr z)))
 by_cases hc278 : (lcmpW (c1.toInt64) (needd tn rc)) < (0 : Int32)
 ·
  refine s_ifY (pc' := 65) X275.here hx (hb hby d_prog_21_m8_43) ((if0 _ _).trans (tlt hc278).1) (by decide) (by decide) ?_
  exact J1 _ _ _ X275 N274 e275 (mst_lt ((lw_lt _ _).mp hc278))
 ·
  refine s_ifN (pc' := 46) X275.here hx (hb hby d_prog_21_m8_43) rfl ((if0 _ _).trans (flt hc278).1) ?_
  refine s_dload (pc' := 48) X275.here hx (hb hby d_prog_21_m8_46) rfl rfl ?_
  refine s_aloadN (pc' := 49) X275.here hx (hb hby d_prog_21_m8_48) rfl rfl rfl ?_
  obtain ⟨T307, X307, e307, st307⟩ := getF X275 hx hZ hown (host := "") (Or.inl (hv hw 12 rfl)) Via.refl e275 F1 (g := (mkF m 49 #[vr a, vi tn, .val (.long (needd tn rc)), sn, .val (.double FP.dconst0), sn, vi 1] [(.ref a), (.double FP.dconst0)])) rfl rfl (hb hby d_prog_21_m8_49)
  refine Go.st st307 ?_
  show Go p.tables e below Kx _ (mkF m 52 _ [(.ref t), (.double FP.dconst0)])
  refine s_iload (pc' := 54) X307.here hx (hb hby d_prog_21_m8_52) rfl rfl ?_
  obtain ⟨cl308, Ar308, Aq308, As308, An308, Ah308, Ag308⟩ := id VT
  have in309 := inb_of (j := 1) As308 (by decide)
  have at309 : cl308.slots[((1 : Int32)).toNatClampNeg]? = some (.int c1) := Ah308.at in309 rfl
  refine Go.st (X307.iaload hx (j := 1) (v := (.int c1)) (by rw [e307]; exact Ar308.1) (State.isArrayOf_alike hZ.alike Ar308.2.1) Ar308.2.2 in309 at309 (g := (mkF m 54 #[vr a, vi tn, .val (.long (needd tn rc)), sn, .val (.double FP.dconst0), sn, vi 1] [(.int 1), (.ref t), (.double FP.dconst0)])) rfl rfl (hb hby d_prog_21_m8_54)) ?_
  show Go p.tables e below Kx _ (mkF m 55 _ [(.int c1), (.double FP.dconst0)])
  refine s_i2d (pc' := 56) X307.here hx (hb hby d_prog_21_m8_55) rfl rfl ?_
  refine s_iload (pc' := 58) X307.here hx (hb hby d_prog_21_m8_56) rfl rfl ?_
  refine s_i2d (pc' := 59) X307.here hx (hb hby d_prog_21_m8_58) rfl rfl ?_
  refine s_ddiv (pc' := 60) X307.here hx (hb hby d_prog_21_m8_59) rfl (nnq _ (by decide)) rfl ?_
  obtain ⟨_, vm310, ⟨T310, L310, k310, n310⟩, -, X310, ⟨hQ310, hB310⟩, st310⟩ := Jvm.LawKit.callS X307 hx (y := yN4) hown (mvT hZ (hv hw 34 rfl)) (mvT hZ (hv hw 35 rfl)) (mvT hZ (hv hw 36 rfl)) (mvT hZ (hv hw 37 rfl)) (by decide) (Jvm.Free.Fl.Abs.maxD_pays (W := 0) FP.dconst0 (FP.ddiv (FP.i2d c1) (FP.i2d 1)) (mvT hZ (hv hw 37 rfl)) (by decide) (by decide)) (g := (mkF m 60 #[vr a, vi tn, .val (.long (needd tn rc)), sn, .val (.double FP.dconst0), sn, vi 1] [(.double (FP.ddiv (FP.i2d c1) (FP.i2d 1))), (.double FP.dconst0)])) rfl (by rw [hml]; rfl) (argsL := [(.double FP.dconst0), (.double (FP.ddiv (FP.i2d c1) (FP.i2d 1)))]) (rest := []) (lenOf pd_1 rfl) rfl (by exact Nat.le_of_eq rfl) (hb hby d_prog_21_m8_60) (fun _ _ => ⟨(by decide : 0 ≤ _), (by decide : 0 ≤ _), rfl, d0f.noNaN, nnq _ (by decide)⟩)
  cases hB310
  dsimp only [Pt.U, Pt.locs, Pt.cells, Pt.slots] at X310 st310
  have hE310 : (T307.setVm vm310).heap = h0 := e307
  subst hQ310
  refine Go.st st310 ?_
  show Go p.tables e below Kx (T307.setVm vm310) (mkF m 63 #[vr a, vi tn, .val (.long (needd tn rc)), sn, .val (.double FP.dconst0), sn, vi 1] [(.double (Native.java_lang_Math.nans.pick64 true FP.dconst0 (FP.ddiv (FP.i2d c1) (FP.i2d 1))))])
  refine s_dstore (pc' := 65) (Ls' := #[vr a, vi tn, .val (.long (needd tn rc)), sn, .val (.double (Native.java_lang_Math.nans.pick64 true FP.dconst0 (FP.ddiv (FP.i2d c1) (FP.i2d 1)))), sn, vi 1]) X310.here hx (hb hby d_prog_21_m8_63) rfl  rfl ?_
  exact J1 _ _ _ X310 N274 hE310 (mst_ge (fun z => hc278 ((lw_lt _ _).mpr z)))
theorem pn_1 : plainName "com/example/kingfisher/kingfisher/eval/TopicRankingInterpolatedPrecisionPinLaw" = true := by first | (simp [plainName, overriddenIn]; done) | decide +kernel
theorem d_m3_0 : decode method_3_code 0 = .ok (.iload_n 2, 1) := by decide +kernel
theorem d_m3_1 : decode method_3_code 1 = .ok (.i2l, 1) := by decide +kernel
theorem d_m3_2 : decode method_3_code 2 = .ok (.lload 4, 2) := by decide +kernel
theorem d_m3_4 : decode method_3_code 4 = .ok (.lcmp, 1) := by decide +kernel
theorem d_m3_5 : decode method_3_code 5 = .ok (.ifCond .lt 20, 3) := by decide +kernel
theorem d_m3_25 : decode method_3_code 25 = .ok (.dload_n 0, 1) := by decide +kernel
theorem d_m3_26 : decode method_3_code 26 = .ok (.dreturn, 1) := by decide +kernel
theorem d_m3_8 : decode method_3_code 8 = .ok (.iload_n 2, 1) := by decide +kernel
theorem d_m3_9 : decode method_3_code 9 = .ok (.i2d, 1) := by decide +kernel
theorem d_m3_10 : decode method_3_code 10 = .ok (.iload_n 3, 1) := by decide +kernel
theorem d_m3_11 : decode method_3_code 11 = .ok (.i2d, 1) := by decide +kernel
theorem d_m3_12 : decode method_3_code 12 = .ok (.ddiv, 1) := by decide +kernel
theorem d_m3_13 : decode method_3_code 13 = .ok (.dstore 6, 2) := by decide +kernel
theorem d_m3_15 : decode method_3_code 15 = .ok (.dload 6, 2) := by decide +kernel
theorem d_m3_17 : decode method_3_code 17 = .ok (.dload_n 0, 1) := by decide +kernel
theorem d_m3_18 : decode method_3_code 18 = .ok (.dcmp .l, 1) := by decide +kernel
theorem d_m3_19 : decode method_3_code 19 = .ok (.ifCond .le 6, 3) := by decide +kernel
theorem d_m3_22 : decode method_3_code 22 = .ok (.dload 6, 2) := by decide +kernel
theorem d_m3_24 : decode method_3_code 24 = .ok (.dreturn, 1) := by decide +kernel
def QB (Z : State) (bb : UInt64) (q r : Int32) (nd : Int64) (h0 : Heap) (n0 : Nat) (v : Option Value) (h : Heap) (L : List Loc) : Prop := v = some (.double (bst bb q r nd)) ∧ Fr n0 L ∧ h = h0
set_option maxRecDepth 65536 in
set_option maxHeartbeats 40000000 in
theorem rmB (l : Launch) (Z : State) (a0 : Array Value) (hw : ∀ d ∈ tables_1, d.before a0 Z = true) (ws : List Jvm.Cond) (bb : UInt64) (q r : Int32) (nd : Int64) (h0 : Heap) (n0 : Nat) (X00 : Old Z n0 h0) (hr0 : r ≠ 0) :
  MetFree l yN3 (head1 (Jvm.Cond.code yN3 method_3_code 8 (some .double) :: ws) ({ frames := 0, cells := 0, slots := 0, locals := 0 } : Room)) (fun aa U => aa = #[(.double bb), (.int q), (.int r), (.long nd)] ∧ Z.Warmed39 U.vm ∧ U.heap = h0) (fun _ _ _ _ _ => True) (fun _ U o U' => ∃ v L, o = .returned v ∧ QB Z bb q r nd h0 n0 v U'.heap L ∧ FrameEnd U o U' L ({ frames := 0, cells := 0, slots := 0, locals := 0 } : Room).cells ({ frames := 0, cells := 0, slots := 0, locals := 0 } : Room).slots) := by
 refine MetFree.of_bodySF (plainFor_of_name pn_1) hisR ?_
 intro p e s m args below meth c s₁ Bd hml0 hP hK
 obtain ⟨rfl, hZ, hh⟩ := hP
 have hx := Bd.exec
 have hby := Bd.bytes
 have hml : c.maxLocals = 8 := hml0
 have hown : s.vm.findClass "com/example/kingfisher/kingfisher/eval/TopicRankingInterpolatedPrecisionPinLaw" = some m.cls := findClass_of_methodNamed Bd.named
 have hnm := (name_of_methodNamed Bd.named Bd.method).1
 have X0 : Stand p l e ({ frames := 0, cells := 0, slots := 0, locals := 0 } : Room) s m #[(.double bb), (.int q), (.int r), (.long nd)] below meth c s₁ [] 0 0 := Stand.of_body Bd
 have e0 : s₁.heap = h0 := by rw [← hh, Bd.state]; rfl
 have N0 := Fr.nil n0
 have K0 := Keep.refl h0 []
 have ef : entryFrame m #[(.double bb), (.int q), (.int r), (.long nd)] 8 = mkF m 0 #[.val (.double bb), sn, vi q, vi r, .val (.long nd), sn, un, un] [] := (by first | (simp [entryFrame, mkF, argsToLocals, Value.category]; done) | rfl : entryFrame m #[(.double bb), (.int q), (.int r), (.long nd)] 8 = mkF m 0 #[.val (.double bb), sn, vi q, vi r, .val (.long nd), sn, un, un] [])
 rw [ef]
 refine fin_of fun Kx hF => ?_
 show Go p.tables e below Kx _ (mkF m 0 _ [])
 refine s_iloadN (pc' := 1) X0.here hx (hb hby d_m3_0) rfl rfl ?_
 refine s_i2l (pc' := 2) X0.here hx (hb hby d_m3_1) rfl rfl ?_
 refine s_lload (pc' := 4) X0.here hx (hb hby d_m3_2) rfl rfl ?_
 refine s_lcmp (pc' := 5) X0.here hx (hb hby d_m3_4) rfl rfl ?_
 by_cases hc311 : (lcmpW (q.toInt64) nd) < (0 : Int32)
 ·
  refine s_ifY (pc' := 25) X0.here hx (hb hby d_m3_5) ((if0 _ _).trans (tlt hc311).1) (by decide) (by decide) ?_
  refine s_dloadN (pc' := 26) X0.here hx (hb hby d_m3_25) rfl rfl ?_
  obtain ⟨fs, hr, hrun, hended, hW, hsame⟩ := X0.leave (v := (some (.double bb))) (fun h => by rw [Bd.returns] at h; cases h)
  refine Go.fin (retOut X0 hx Bd.returns rfl (Or.inr (Or.inr (Or.inl ⟨rfl, rfl, _, rfl⟩))) (hb hby d_m3_26) hr) (hF _ _ hrun hended ⟨_, _, rfl, ?_, ⟨_, rfl⟩, hW, hsame.mono (by decide) (by decide)⟩)
  ·
   show QB Z bb q r nd h0 n0 ((some (.double bb)) : Option Value) s₁.heap _
   rw [e0]
   exact ⟨by rw [bst, if_pos ((lw_lt _ _).mp hc311)], N0, rfl⟩
 ·
  refine s_ifN (pc' := 8) X0.here hx (hb hby d_m3_5) rfl ((if0 _ _).trans (flt hc311).1) ?_
  refine s_iloadN (pc' := 9) X0.here hx (hb hby d_m3_8) rfl rfl ?_
  refine s_i2d (pc' := 10) X0.here hx (hb hby d_m3_9) rfl rfl ?_
  refine s_iloadN (pc' := 11) X0.here hx (hb hby d_m3_10) rfl rfl ?_
  refine s_i2d (pc' := 12) X0.here hx (hb hby d_m3_11) rfl rfl ?_
  refine s_ddiv (pc' := 13) X0.here hx (hb hby d_m3_12) rfl (nnq _ hr0) rfl ?_
  refine s_dstore (pc' := 15) (Ls' := #[.val (.double bb), sn, vi q, vi r, .val (.long nd), sn, .val (.double (FP.ddiv (FP.i2d q) (FP.i2d r))), sn]) X0.here hx (hb hby d_m3_13) rfl  rfl ?_
  refine s_dload (pc' := 17) X0.here hx (hb hby d_m3_15) rfl rfl ?_
  refine s_dloadN (pc' := 18) X0.here hx (hb hby d_m3_17) rfl rfl ?_
  refine s_dcmpl (pc' := 19) X0.here hx (hb hby d_m3_18) rfl rfl ?_
  by_cases hc312 : 0 < (cmpValue (FP.dcmp (FP.ddiv (FP.i2d q) (FP.i2d r)) bb) .l)
  ·
   refine s_ifN (pc' := 22) X0.here hx (hb hby d_m3_19) rfl ((if0 _ _).trans (tlt hc312).2.2.2) ?_
   refine s_dload (pc' := 24) X0.here hx (hb hby d_m3_22) rfl rfl ?_
   obtain ⟨fs, hr, hrun, hended, hW, hsame⟩ := X0.leave (v := (some (.double (FP.ddiv (FP.i2d q) (FP.i2d r))))) (fun h => by rw [Bd.returns] at h; cases h)
   refine Go.fin (retOut X0 hx Bd.returns rfl (Or.inr (Or.inr (Or.inl ⟨rfl, rfl, _, rfl⟩))) (hb hby d_m3_24) hr) (hF _ _ hrun hended ⟨_, _, rfl, ?_, ⟨_, rfl⟩, hW, hsame.mono (by decide) (by decide)⟩)
   ·
    show QB Z bb q r nd h0 n0 ((some (.double (FP.ddiv (FP.i2d q) (FP.i2d r)))) : Option Value) s₁.heap _
    rw [e0]
    exact ⟨by rw [bst, if_neg (fun z => hc311 ((lw_lt _ _).mpr z)), if_pos hc312], N0, rfl⟩
  ·
   refine s_ifY (pc' := 25) X0.here hx (hb hby d_m3_19) ((if0 _ _).trans (flt hc312).2.2.2) (by decide) (by decide) ?_
   refine s_dloadN (pc' := 26) X0.here hx (hb hby d_m3_25) rfl rfl ?_
   obtain ⟨fs, hr, hrun, hended, hW, hsame⟩ := X0.leave (v := (some (.double bb))) (fun h => by rw [Bd.returns] at h; cases h)
   refine Go.fin (retOut X0 hx Bd.returns rfl (Or.inr (Or.inr (Or.inl ⟨rfl, rfl, _, rfl⟩))) (hb hby d_m3_26) hr) (hF _ _ hrun hended ⟨_, _, rfl, ?_, ⟨_, rfl⟩, hW, hsame.mono (by decide) (by decide)⟩)
   ·
    show QB Z bb q r nd h0 n0 ((some (.double bb)) : Option Value) s₁.heap _
    rw [e0]
    exact ⟨by rw [bst, if_neg (fun z => hc311 ((lw_lt _ _).mpr z)), if_neg hc312], N0, rfl⟩
set_option maxRecDepth 65536 in
set_option maxHeartbeats 40000000 in
theorem fin_0 (nd : Int64) : cmpValue (FP.dcmp FP.dconst0 FP.dconst0) .l = 0 := by
  rcases thr nd with ⟨h0, h1, h2, h3, h4⟩ | ⟨h0, h1, h2, h3, h4⟩ | ⟨h0, h1, h2, h3, h4⟩ | ⟨h0, h1, h2, h3, h4⟩ | ⟨h0, h1, h2, h3, h4⟩ | ⟨h0, h1, h2, h3, h4⟩ <;> (try simp only [mst, bst, h0, h1, h2, h3, h4, if_true, if_false]) <;> decide +kernel
set_option maxRecDepth 65536 in
set_option maxHeartbeats 40000000 in
theorem fin_10 (nd : Int64) : cmpValue (FP.dcmp (mst FP.dconst0 0 1 nd) FP.dconst0) .l = 0 := by
  rcases thr nd with ⟨h0, h1, h2, h3, h4⟩ | ⟨h0, h1, h2, h3, h4⟩ | ⟨h0, h1, h2, h3, h4⟩ | ⟨h0, h1, h2, h3, h4⟩ | ⟨h0, h1, h2, h3, h4⟩ | ⟨h0, h1, h2, h3, h4⟩ <;> (try simp only [mst, bst, h0, h1, h2, h3, h4, if_true, if_false]) <;> decide +kernel
set_option maxRecDepth 65536 in
set_option maxHeartbeats 40000000 in
theorem fin_11 (nd : Int64) : cmpValue (FP.dcmp (mst FP.dconst0 1 1 nd) (bst FP.dconst0 1 1 nd)) .l = 0 := by
  rcases thr nd with ⟨h0, h1, h2, h3, h4⟩ | ⟨h0, h1, h2, h3, h4⟩ | ⟨h0, h1, h2, h3, h4⟩ | ⟨h0, h1, h2, h3, h4⟩ | ⟨h0, h1, h2, h3, h4⟩ | ⟨h0, h1, h2, h3, h4⟩ <;> (try simp only [mst, bst, h0, h1, h2, h3, h4, if_true, if_false]) <;> decide +kernel
set_option maxRecDepth 65536 in
set_option maxHeartbeats 40000000 in
theorem fin_200 (nd : Int64) : cmpValue (FP.dcmp (mst (mst FP.dconst0 0 1 nd) 0 2 nd) FP.dconst0) .l = 0 := by
  rcases thr nd with ⟨h0, h1, h2, h3, h4⟩ | ⟨h0, h1, h2, h3, h4⟩ | ⟨h0, h1, h2, h3, h4⟩ | ⟨h0, h1, h2, h3, h4⟩ | ⟨h0, h1, h2, h3, h4⟩ | ⟨h0, h1, h2, h3, h4⟩ <;> (try simp only [mst, bst, h0, h1, h2, h3, h4, if_true, if_false]) <;> decide +kernel
set_option maxRecDepth 65536 in
set_option maxHeartbeats 40000000 in
theorem fin_201 (nd : Int64) : cmpValue (FP.dcmp (mst (mst FP.dconst0 0 1 nd) 1 2 nd) (bst FP.dconst0 1 2 nd)) .l = 0 := by
  rcases thr nd with ⟨h0, h1, h2, h3, h4⟩ | ⟨h0, h1, h2, h3, h4⟩ | ⟨h0, h1, h2, h3, h4⟩ | ⟨h0, h1, h2, h3, h4⟩ | ⟨h0, h1, h2, h3, h4⟩ | ⟨h0, h1, h2, h3, h4⟩ <;> (try simp only [mst, bst, h0, h1, h2, h3, h4, if_true, if_false]) <;> decide +kernel
set_option maxRecDepth 65536 in
set_option maxHeartbeats 40000000 in
theorem fin_210 (nd : Int64) : cmpValue (FP.dcmp (mst (mst FP.dconst0 1 1 nd) 1 2 nd) (bst FP.dconst0 1 1 nd)) .l = 0 := by
  rcases thr nd with ⟨h0, h1, h2, h3, h4⟩ | ⟨h0, h1, h2, h3, h4⟩ | ⟨h0, h1, h2, h3, h4⟩ | ⟨h0, h1, h2, h3, h4⟩ | ⟨h0, h1, h2, h3, h4⟩ | ⟨h0, h1, h2, h3, h4⟩ <;> (try simp only [mst, bst, h0, h1, h2, h3, h4, if_true, if_false]) <;> decide +kernel
set_option maxRecDepth 65536 in
set_option maxHeartbeats 40000000 in
theorem fin_211 (nd : Int64) : cmpValue (FP.dcmp (mst (mst FP.dconst0 1 1 nd) 2 2 nd) (bst (bst FP.dconst0 1 1 nd) 2 2 nd)) .l = 0 := by
  rcases thr nd with ⟨h0, h1, h2, h3, h4⟩ | ⟨h0, h1, h2, h3, h4⟩ | ⟨h0, h1, h2, h3, h4⟩ | ⟨h0, h1, h2, h3, h4⟩ | ⟨h0, h1, h2, h3, h4⟩ | ⟨h0, h1, h2, h3, h4⟩ <;> (try simp only [mst, bst, h0, h1, h2, h3, h4, if_true, if_false]) <;> decide +kernel
set_option maxRecDepth 65536 in
set_option maxHeartbeats 40000000 in
theorem fin_3000 (nd : Int64) : cmpValue (FP.dcmp (mst (mst (mst FP.dconst0 0 1 nd) 0 2 nd) 0 3 nd) FP.dconst0) .l = 0 := by
  rcases thr nd with ⟨h0, h1, h2, h3, h4⟩ | ⟨h0, h1, h2, h3, h4⟩ | ⟨h0, h1, h2, h3, h4⟩ | ⟨h0, h1, h2, h3, h4⟩ | ⟨h0, h1, h2, h3, h4⟩ | ⟨h0, h1, h2, h3, h4⟩ <;> (try simp only [mst, bst, h0, h1, h2, h3, h4, if_true, if_false]) <;> decide +kernel
set_option maxRecDepth 65536 in
set_option maxHeartbeats 40000000 in
theorem fin_3001 (nd : Int64) : cmpValue (FP.dcmp (mst (mst (mst FP.dconst0 0 1 nd) 0 2 nd) 1 3 nd) (bst FP.dconst0 1 3 nd)) .l = 0 := by
  rcases thr nd with ⟨h0, h1, h2, h3, h4⟩ | ⟨h0, h1, h2, h3, h4⟩ | ⟨h0, h1, h2, h3, h4⟩ | ⟨h0, h1, h2, h3, h4⟩ | ⟨h0, h1, h2, h3, h4⟩ | ⟨h0, h1, h2, h3, h4⟩ <;> (try simp only [mst, bst, h0, h1, h2, h3, h4, if_true, if_false]) <;> decide +kernel
set_option maxRecDepth 65536 in
set_option maxHeartbeats 40000000 in
theorem fin_3010 (nd : Int64) : cmpValue (FP.dcmp (mst (mst (mst FP.dconst0 0 1 nd) 1 2 nd) 1 3 nd) (bst FP.dconst0 1 2 nd)) .l = 0 := by
  rcases thr nd with ⟨h0, h1, h2, h3, h4⟩ | ⟨h0, h1, h2, h3, h4⟩ | ⟨h0, h1, h2, h3, h4⟩ | ⟨h0, h1, h2, h3, h4⟩ | ⟨h0, h1, h2, h3, h4⟩ | ⟨h0, h1, h2, h3, h4⟩ <;> (try simp only [mst, bst, h0, h1, h2, h3, h4, if_true, if_false]) <;> decide +kernel
set_option maxRecDepth 65536 in
set_option maxHeartbeats 40000000 in
theorem fin_3011 (nd : Int64) : cmpValue (FP.dcmp (mst (mst (mst FP.dconst0 0 1 nd) 1 2 nd) 2 3 nd) (bst (bst FP.dconst0 1 2 nd) 2 3 nd)) .l = 0 := by
  rcases thr nd with ⟨h0, h1, h2, h3, h4⟩ | ⟨h0, h1, h2, h3, h4⟩ | ⟨h0, h1, h2, h3, h4⟩ | ⟨h0, h1, h2, h3, h4⟩ | ⟨h0, h1, h2, h3, h4⟩ | ⟨h0, h1, h2, h3, h4⟩ <;> (try simp only [mst, bst, h0, h1, h2, h3, h4, if_true, if_false]) <;> decide +kernel
set_option maxRecDepth 65536 in
set_option maxHeartbeats 40000000 in
theorem fin_3100 (nd : Int64) : cmpValue (FP.dcmp (mst (mst (mst FP.dconst0 1 1 nd) 1 2 nd) 1 3 nd) (bst FP.dconst0 1 1 nd)) .l = 0 := by
  rcases thr nd with ⟨h0, h1, h2, h3, h4⟩ | ⟨h0, h1, h2, h3, h4⟩ | ⟨h0, h1, h2, h3, h4⟩ | ⟨h0, h1, h2, h3, h4⟩ | ⟨h0, h1, h2, h3, h4⟩ | ⟨h0, h1, h2, h3, h4⟩ <;> (try simp only [mst, bst, h0, h1, h2, h3, h4, if_true, if_false]) <;> decide +kernel
set_option maxRecDepth 65536 in
set_option maxHeartbeats 40000000 in
theorem fin_3101 (nd : Int64) : cmpValue (FP.dcmp (mst (mst (mst FP.dconst0 1 1 nd) 1 2 nd) 2 3 nd) (bst (bst FP.dconst0 1 1 nd) 2 3 nd)) .l = 0 := by
  rcases thr nd with ⟨h0, h1, h2, h3, h4⟩ | ⟨h0, h1, h2, h3, h4⟩ | ⟨h0, h1, h2, h3, h4⟩ | ⟨h0, h1, h2, h3, h4⟩ | ⟨h0, h1, h2, h3, h4⟩ | ⟨h0, h1, h2, h3, h4⟩ <;> (try simp only [mst, bst, h0, h1, h2, h3, h4, if_true, if_false]) <;> decide +kernel
set_option maxRecDepth 65536 in
set_option maxHeartbeats 40000000 in
theorem fin_3110 (nd : Int64) : cmpValue (FP.dcmp (mst (mst (mst FP.dconst0 1 1 nd) 2 2 nd) 2 3 nd) (bst (bst FP.dconst0 1 1 nd) 2 2 nd)) .l = 0 := by
  rcases thr nd with ⟨h0, h1, h2, h3, h4⟩ | ⟨h0, h1, h2, h3, h4⟩ | ⟨h0, h1, h2, h3, h4⟩ | ⟨h0, h1, h2, h3, h4⟩ | ⟨h0, h1, h2, h3, h4⟩ | ⟨h0, h1, h2, h3, h4⟩ <;> (try simp only [mst, bst, h0, h1, h2, h3, h4, if_true, if_false]) <;> decide +kernel
set_option maxRecDepth 65536 in
set_option maxHeartbeats 40000000 in
theorem fin_3111 (nd : Int64) : cmpValue (FP.dcmp (mst (mst (mst FP.dconst0 1 1 nd) 2 2 nd) 3 3 nd) (bst (bst (bst FP.dconst0 1 1 nd) 2 2 nd) 3 3 nd)) .l = 0 := by
  rcases thr nd with ⟨h0, h1, h2, h3, h4⟩ | ⟨h0, h1, h2, h3, h4⟩ | ⟨h0, h1, h2, h3, h4⟩ | ⟨h0, h1, h2, h3, h4⟩ | ⟨h0, h1, h2, h3, h4⟩ | ⟨h0, h1, h2, h3, h4⟩ <;> (try simp only [mst, bst, h0, h1, h2, h3, h4, if_true, if_false]) <;> decide +kernel
set_option maxRecDepth 65536 in
set_option maxHeartbeats 40000000 in
theorem fin_40000 (nd : Int64) : cmpValue (FP.dcmp (mst (mst (mst (mst FP.dconst0 0 1 nd) 0 2 nd) 0 3 nd) 0 4 nd) FP.dconst0) .l = 0 := by
  rcases thr nd with ⟨h0, h1, h2, h3, h4⟩ | ⟨h0, h1, h2, h3, h4⟩ | ⟨h0, h1, h2, h3, h4⟩ | ⟨h0, h1, h2, h3, h4⟩ | ⟨h0, h1, h2, h3, h4⟩ | ⟨h0, h1, h2, h3, h4⟩ <;> (try simp only [mst, bst, h0, h1, h2, h3, h4, if_true, if_false]) <;> decide +kernel
set_option maxRecDepth 65536 in
set_option maxHeartbeats 40000000 in
theorem fin_40001 (nd : Int64) : cmpValue (FP.dcmp (mst (mst (mst (mst FP.dconst0 0 1 nd) 0 2 nd) 0 3 nd) 1 4 nd) (bst FP.dconst0 1 4 nd)) .l = 0 := by
  rcases thr nd with ⟨h0, h1, h2, h3, h4⟩ | ⟨h0, h1, h2, h3, h4⟩ | ⟨h0, h1, h2, h3, h4⟩ | ⟨h0, h1, h2, h3, h4⟩ | ⟨h0, h1, h2, h3, h4⟩ | ⟨h0, h1, h2, h3, h4⟩ <;> (try simp only [mst, bst, h0, h1, h2, h3, h4, if_true, if_false]) <;> decide +kernel
set_option maxRecDepth 65536 in
set_option maxHeartbeats 40000000 in
theorem fin_40010 (nd : Int64) : cmpValue (FP.dcmp (mst (mst (mst (mst FP.dconst0 0 1 nd) 0 2 nd) 1 3 nd) 1 4 nd) (bst FP.dconst0 1 3 nd)) .l = 0 := by
  rcases thr nd with ⟨h0, h1, h2, h3, h4⟩ | ⟨h0, h1, h2, h3, h4⟩ | ⟨h0, h1, h2, h3, h4⟩ | ⟨h0, h1, h2, h3, h4⟩ | ⟨h0, h1, h2, h3, h4⟩ | ⟨h0, h1, h2, h3, h4⟩ <;> (try simp only [mst, bst, h0, h1, h2, h3, h4, if_true, if_false]) <;> decide +kernel
set_option maxRecDepth 65536 in
set_option maxHeartbeats 40000000 in
theorem fin_40011 (nd : Int64) : cmpValue (FP.dcmp (mst (mst (mst (mst FP.dconst0 0 1 nd) 0 2 nd) 1 3 nd) 2 4 nd) (bst (bst FP.dconst0 1 3 nd) 2 4 nd)) .l = 0 := by
  rcases thr nd with ⟨h0, h1, h2, h3, h4⟩ | ⟨h0, h1, h2, h3, h4⟩ | ⟨h0, h1, h2, h3, h4⟩ | ⟨h0, h1, h2, h3, h4⟩ | ⟨h0, h1, h2, h3, h4⟩ | ⟨h0, h1, h2, h3, h4⟩ <;> (try simp only [mst, bst, h0, h1, h2, h3, h4, if_true, if_false]) <;> decide +kernel
set_option maxRecDepth 65536 in
set_option maxHeartbeats 40000000 in
theorem fin_40100 (nd : Int64) : cmpValue (FP.dcmp (mst (mst (mst (mst FP.dconst0 0 1 nd) 1 2 nd) 1 3 nd) 1 4 nd) (bst FP.dconst0 1 2 nd)) .l = 0 := by
  rcases thr nd with ⟨h0, h1, h2, h3, h4⟩ | ⟨h0, h1, h2, h3, h4⟩ | ⟨h0, h1, h2, h3, h4⟩ | ⟨h0, h1, h2, h3, h4⟩ | ⟨h0, h1, h2, h3, h4⟩ | ⟨h0, h1, h2, h3, h4⟩ <;> (try simp only [mst, bst, h0, h1, h2, h3, h4, if_true, if_false]) <;> decide +kernel
set_option maxRecDepth 65536 in
set_option maxHeartbeats 40000000 in
theorem fin_40101 (nd : Int64) : cmpValue (FP.dcmp (mst (mst (mst (mst FP.dconst0 0 1 nd) 1 2 nd) 1 3 nd) 2 4 nd) (bst (bst FP.dconst0 1 2 nd) 2 4 nd)) .l = 0 := by
  rcases thr nd with ⟨h0, h1, h2, h3, h4⟩ | ⟨h0, h1, h2, h3, h4⟩ | ⟨h0, h1, h2, h3, h4⟩ | ⟨h0, h1, h2, h3, h4⟩ | ⟨h0, h1, h2, h3, h4⟩ | ⟨h0, h1, h2, h3, h4⟩ <;> (try simp only [mst, bst, h0, h1, h2, h3, h4, if_true, if_false]) <;> decide +kernel
set_option maxRecDepth 65536 in
set_option maxHeartbeats 40000000 in
theorem fin_40110 (nd : Int64) : cmpValue (FP.dcmp (mst (mst (mst (mst FP.dconst0 0 1 nd) 1 2 nd) 2 3 nd) 2 4 nd) (bst (bst FP.dconst0 1 2 nd) 2 3 nd)) .l = 0 := by
  rcases thr nd with ⟨h0, h1, h2, h3, h4⟩ | ⟨h0, h1, h2, h3, h4⟩ | ⟨h0, h1, h2, h3, h4⟩ | ⟨h0, h1, h2, h3, h4⟩ | ⟨h0, h1, h2, h3, h4⟩ | ⟨h0, h1, h2, h3, h4⟩ <;> (try simp only [mst, bst, h0, h1, h2, h3, h4, if_true, if_false]) <;> decide +kernel
set_option maxRecDepth 65536 in
set_option maxHeartbeats 40000000 in
theorem fin_40111 (nd : Int64) : cmpValue (FP.dcmp (mst (mst (mst (mst FP.dconst0 0 1 nd) 1 2 nd) 2 3 nd) 3 4 nd) (bst (bst (bst FP.dconst0 1 2 nd) 2 3 nd) 3 4 nd)) .l = 0 := by
  rcases thr nd with ⟨h0, h1, h2, h3, h4⟩ | ⟨h0, h1, h2, h3, h4⟩ | ⟨h0, h1, h2, h3, h4⟩ | ⟨h0, h1, h2, h3, h4⟩ | ⟨h0, h1, h2, h3, h4⟩ | ⟨h0, h1, h2, h3, h4⟩ <;> (try simp only [mst, bst, h0, h1, h2, h3, h4, if_true, if_false]) <;> decide +kernel
set_option maxRecDepth 65536 in
set_option maxHeartbeats 40000000 in
theorem fin_41000 (nd : Int64) : cmpValue (FP.dcmp (mst (mst (mst (mst FP.dconst0 1 1 nd) 1 2 nd) 1 3 nd) 1 4 nd) (bst FP.dconst0 1 1 nd)) .l = 0 := by
  rcases thr nd with ⟨h0, h1, h2, h3, h4⟩ | ⟨h0, h1, h2, h3, h4⟩ | ⟨h0, h1, h2, h3, h4⟩ | ⟨h0, h1, h2, h3, h4⟩ | ⟨h0, h1, h2, h3, h4⟩ | ⟨h0, h1, h2, h3, h4⟩ <;> (try simp only [mst, bst, h0, h1, h2, h3, h4, if_true, if_false]) <;> decide +kernel
set_option maxRecDepth 65536 in
set_option maxHeartbeats 40000000 in
theorem fin_41001 (nd : Int64) : cmpValue (FP.dcmp (mst (mst (mst (mst FP.dconst0 1 1 nd) 1 2 nd) 1 3 nd) 2 4 nd) (bst (bst FP.dconst0 1 1 nd) 2 4 nd)) .l = 0 := by
  rcases thr nd with ⟨h0, h1, h2, h3, h4⟩ | ⟨h0, h1, h2, h3, h4⟩ | ⟨h0, h1, h2, h3, h4⟩ | ⟨h0, h1, h2, h3, h4⟩ | ⟨h0, h1, h2, h3, h4⟩ | ⟨h0, h1, h2, h3, h4⟩ <;> (try simp only [mst, bst, h0, h1, h2, h3, h4, if_true, if_false]) <;> decide +kernel
set_option maxRecDepth 65536 in
set_option maxHeartbeats 40000000 in
theorem fin_41010 (nd : Int64) : cmpValue (FP.dcmp (mst (mst (mst (mst FP.dconst0 1 1 nd) 1 2 nd) 2 3 nd) 2 4 nd) (bst (bst FP.dconst0 1 1 nd) 2 3 nd)) .l = 0 := by
  rcases thr nd with ⟨h0, h1, h2, h3, h4⟩ | ⟨h0, h1, h2, h3, h4⟩ | ⟨h0, h1, h2, h3, h4⟩ | ⟨h0, h1, h2, h3, h4⟩ | ⟨h0, h1, h2, h3, h4⟩ | ⟨h0, h1, h2, h3, h4⟩ <;> (try simp only [mst, bst, h0, h1, h2, h3, h4, if_true, if_false]) <;> decide +kernel
set_option maxRecDepth 65536 in
set_option maxHeartbeats 40000000 in
theorem fin_41011 (nd : Int64) : cmpValue (FP.dcmp (mst (mst (mst (mst FP.dconst0 1 1 nd) 1 2 nd) 2 3 nd) 3 4 nd) (bst (bst (bst FP.dconst0 1 1 nd) 2 3 nd) 3 4 nd)) .l = 0 := by
  rcases thr nd with ⟨h0, h1, h2, h3, h4⟩ | ⟨h0, h1, h2, h3, h4⟩ | ⟨h0, h1, h2, h3, h4⟩ | ⟨h0, h1, h2, h3, h4⟩ | ⟨h0, h1, h2, h3, h4⟩ | ⟨h0, h1, h2, h3, h4⟩ <;> (try simp only [mst, bst, h0, h1, h2, h3, h4, if_true, if_false]) <;> decide +kernel
set_option maxRecDepth 65536 in
set_option maxHeartbeats 40000000 in
theorem fin_41100 (nd : Int64) : cmpValue (FP.dcmp (mst (mst (mst (mst FP.dconst0 1 1 nd) 2 2 nd) 2 3 nd) 2 4 nd) (bst (bst FP.dconst0 1 1 nd) 2 2 nd)) .l = 0 := by
  rcases thr nd with ⟨h0, h1, h2, h3, h4⟩ | ⟨h0, h1, h2, h3, h4⟩ | ⟨h0, h1, h2, h3, h4⟩ | ⟨h0, h1, h2, h3, h4⟩ | ⟨h0, h1, h2, h3, h4⟩ | ⟨h0, h1, h2, h3, h4⟩ <;> (try simp only [mst, bst, h0, h1, h2, h3, h4, if_true, if_false]) <;> decide +kernel
set_option maxRecDepth 65536 in
set_option maxHeartbeats 40000000 in
theorem fin_41101 (nd : Int64) : cmpValue (FP.dcmp (mst (mst (mst (mst FP.dconst0 1 1 nd) 2 2 nd) 2 3 nd) 3 4 nd) (bst (bst (bst FP.dconst0 1 1 nd) 2 2 nd) 3 4 nd)) .l = 0 := by
  rcases thr nd with ⟨h0, h1, h2, h3, h4⟩ | ⟨h0, h1, h2, h3, h4⟩ | ⟨h0, h1, h2, h3, h4⟩ | ⟨h0, h1, h2, h3, h4⟩ | ⟨h0, h1, h2, h3, h4⟩ | ⟨h0, h1, h2, h3, h4⟩ <;> (try simp only [mst, bst, h0, h1, h2, h3, h4, if_true, if_false]) <;> decide +kernel
set_option maxRecDepth 65536 in
set_option maxHeartbeats 40000000 in
theorem fin_41110 (nd : Int64) : cmpValue (FP.dcmp (mst (mst (mst (mst FP.dconst0 1 1 nd) 2 2 nd) 3 3 nd) 3 4 nd) (bst (bst (bst FP.dconst0 1 1 nd) 2 2 nd) 3 3 nd)) .l = 0 := by
  rcases thr nd with ⟨h0, h1, h2, h3, h4⟩ | ⟨h0, h1, h2, h3, h4⟩ | ⟨h0, h1, h2, h3, h4⟩ | ⟨h0, h1, h2, h3, h4⟩ | ⟨h0, h1, h2, h3, h4⟩ | ⟨h0, h1, h2, h3, h4⟩ <;> (try simp only [mst, bst, h0, h1, h2, h3, h4, if_true, if_false]) <;> decide +kernel
set_option maxRecDepth 65536 in
set_option maxHeartbeats 40000000 in
theorem fin_41111 (nd : Int64) : cmpValue (FP.dcmp (mst (mst (mst (mst FP.dconst0 1 1 nd) 2 2 nd) 3 3 nd) 4 4 nd) (bst (bst (bst (bst FP.dconst0 1 1 nd) 2 2 nd) 3 3 nd) 4 4 nd)) .l = 0 := by
  rcases thr nd with ⟨h0, h1, h2, h3, h4⟩ | ⟨h0, h1, h2, h3, h4⟩ | ⟨h0, h1, h2, h3, h4⟩ | ⟨h0, h1, h2, h3, h4⟩ | ⟨h0, h1, h2, h3, h4⟩ | ⟨h0, h1, h2, h3, h4⟩ <;> (try simp only [mst, bst, h0, h1, h2, h3, h4, if_true, if_false]) <;> decide +kernel
theorem pd_2 : parseMethodDescriptor "([ZI)V" = some ⟨[(.array .boolean), .int], none⟩ := by decide +kernel
theorem pd_3 : parseMethodDescriptor "(I)D" = some ⟨[.int], some .double⟩ := by decide +kernel
theorem pd_4 : parseMethodDescriptor "(DIIJ)D" = some ⟨[.double, .int, .int, .long], some .double⟩ := by decide +kernel
def QL (Z : State) (p0 p1 p2 p3 : Int32) (h0 : Heap) (n0 : Nat) (v : Option Value) (h : Heap) (L : List Loc) : Prop := v = some (.int 1) ∧ Fr n0 L
set_option maxRecDepth 65536 in
set_option maxHeartbeats 40000000 in
theorem rmL (l : Launch) (Z : State) (a0 : Array Value) (hw : ∀ d ∈ tables_1, d.before a0 Z = true) (ws : List Jvm.Cond) (p0 p1 p2 p3 : Int32) (h0 : Heap) (n0 : Nat) (X00 : Old Z n0 h0)  :
  MetFree l x (head1 (Jvm.Cond.code x code maxLocals ret :: ws) room_1) (fun aa U => aa = #[(.int p0), (.int p1), (.int p2), (.int p3)] ∧ Z.Warmed39 U.vm ∧ U.heap = h0) (fun _ _ _ _ _ => True) (fun _ U o U' => ∃ v L, o = .returned v ∧ QL Z p0 p1 p2 p3 h0 n0 v U'.heap L ∧ FrameEnd U o U' L room_1.cells room_1.slots) := by
 refine MetFree.of_bodySF (plainFor_of_name pn_1) hisR ?_
 intro p e s m args below meth c s₁ Bd hml0 hP hK
 obtain ⟨rfl, hZ, hh⟩ := hP
 have hx := Bd.exec
 have hby := Bd.bytes
 have hml : c.maxLocals = 19 := hml0
 have hown : s.vm.findClass "com/example/kingfisher/kingfisher/eval/TopicRankingInterpolatedPrecisionPinLaw" = some m.cls := findClass_of_methodNamed Bd.named
 have hnm := (name_of_methodNamed Bd.named Bd.method).1
 have X0 : Stand p l e room_1 s m #[(.int p0), (.int p1), (.int p2), (.int p3)] below meth c s₁ [] 0 0 := Stand.of_body Bd
 have e0 : s₁.heap = h0 := by rw [← hh, Bd.state]; rfl
 have N0 := Fr.nil n0
 have K0 := Keep.refl h0 []
 have ef : entryFrame m #[(.int p0), (.int p1), (.int p2), (.int p3)] maxLocals = mkF m 0 #[vi p0, vi p1, vi p2, vi p3, un, un, un, un, un, un, un, un, un, un, un, un, un, un, un] [] := (by first | (simp [entryFrame, mkF, argsToLocals, Value.category, maxLocals]; done) | rfl : entryFrame m #[(.int p0), (.int p1), (.int p2), (.int p3)] maxLocals = mkF m 0 #[vi p0, vi p1, vi p2, vi p3, un, un, un, un, un, un, un, un, un, un, un, un, un, un, un] [])
 rw [ef]
 refine fin_of fun Kx hF => ?_
 show Go p.tables e below Kx _ (mkF m 0 _ [])
 refine s_iloadN (pc' := 1) X0.here hx (hb hby at_0) rfl rfl ?_
 refine Go.st (X0.ldcInt hx hown (mvT hZ (hv hw 0 rfl)) (g := (mkF m 1 #[vi p0, vi p1, vi p2, vi p3, un, un, un, un, un, un, un, un, un, un, un, un, un, un, un] [(.int p1)])) rfl (hb hby at_1)) ?_
 show Go p.tables e below Kx _ (mkF m 3 _ [(.int 2147483647), (.int p1)])
 refine s_iand (pc' := 4) X0.here hx (hb hby at_3) rfl rfl ?_
 refine s_iconst (pc' := 5) (v := 5) X0.here hx (hb hby at_4) rfl rfl ?_
 refine s_irem (pc' := 6) X0.here hx (hb hby at_5) rfl (by decide) rfl ?_
 have hn : ((p1 &&& 2147483647) % 5) = 0 ∨ ((p1 &&& 2147483647) % 5) = 1 ∨ ((p1 &&& 2147483647) % 5) = 2 ∨ ((p1 &&& 2147483647) % 5) = 3 ∨ ((p1 &&& 2147483647) % 5) = 4 := mod5 p1
 revert hn
 generalize ((p1 &&& 2147483647) % 5) = n
 intro hn
 show Go p.tables e below Kx _ (mkF m 6 _ [(.int n)])
 refine s_istore (pc' := 8) (Ls' := #[vi p0, vi p1, vi p2, vi p3, vi n, un, un, un, un, un, un, un, un, un, un, un, un, un, un]) X0.here hx (hb hby at_6) rfl  rfl ?_
 refine s_iloadN (pc' := 9) X0.here hx (hb hby at_8) rfl rfl ?_
 refine Go.st (X0.ldcInt hx hown (mvT hZ (hv hw 0 rfl)) (g := (mkF m 9 #[vi p0, vi p1, vi p2, vi p3, vi n, un, un, un, un, un, un, un, un, un, un, un, un, un, un] [(.int p3)])) rfl (hb hby at_9)) ?_
 show Go p.tables e below Kx _ (mkF m 11 _ [(.int 2147483647), (.int p3)])
 refine s_iand (pc' := 12) X0.here hx (hb hby at_11) rfl rfl ?_
 refine s_istore (pc' := 14) (Ls' := #[vi p0, vi p1, vi p2, vi p3, vi n, .val (.int (p3 &&& 2147483647)), un, un, un, un, un, un, un, un, un, un, un, un, un]) X0.here hx (hb hby at_12) rfl  rfl ?_
 refine s_iload (pc' := 16) X0.here hx (hb hby at_14) rfl rfl ?_
 suffices J314 : Go p.tables e below Kx s₁ (mkF m 22 #[vi p0, vi p1, vi p2, vi p3, vi n, .val (.int (if (p3 &&& (2147483647 : Int32)) = (0 : Int32) then (1 : Int32) else (p3 &&& (2147483647 : Int32)))), un, un, un, un, un, un, un, un, un, un, un, un, un] []) by
  by_cases hc313 : (p3 &&& 2147483647) = (0 : Int32)
  ·
   simp only [if_pos hc313] at J314
   refine s_ifN (pc' := 19) X0.here hx (hb hby at_16) rfl ((if0 _ _).trans (teq hc313).2) ?_
   refine s_iconst (pc' := 20) (v := 1) X0.here hx (hb hby at_19) rfl rfl ?_
   refine s_istore (pc' := 22) (Ls' := #[vi p0, vi p1, vi p2, vi p3, vi n, vi 1, un, un, un, un, un, un, un, un, un, un, un, un, un]) X0.here hx (hb hby at_20) rfl  rfl ?_
   exact J314
  ·
   simp only [if_neg hc313] at J314
   refine s_ifY (pc' := 22) X0.here hx (hb hby at_16) ((if0 _ _).trans (feq hc313).2) (by decide) (by decide) ?_
   exact J314
 have hrc : (if (p3 &&& (2147483647 : Int32)) = (0 : Int32) then (1 : Int32) else (p3 &&& (2147483647 : Int32))) ≠ 0 := rc_nz p3
 revert hrc
 generalize (if (p3 &&& (2147483647 : Int32)) = (0 : Int32) then (1 : Int32) else (p3 &&& (2147483647 : Int32))) = rc
 intro hrc
 show Go p.tables e below Kx _ (mkF m 22 _ [])
 refine s_iloadN (pc' := 23) X0.here hx (hb hby at_22) rfl rfl ?_
 refine s_iconst (pc' := 24) (v := 1) X0.here hx (hb hby at_23) rfl rfl ?_
 refine s_iand (pc' := 25) X0.here hx (hb hby at_24) rfl rfl ?_
 suffices J316 : Go p.tables e below Kx s₁ (mkF m 33 #[vi p0, vi p1, vi p2, vi p3, vi n, vi rc, un, un, un, un, un, un, un, un, un, un, un, un, un] [(.int (if (p0 &&& (1 : Int32)) = (0 : Int32) then (0 : Int32) else (1 : Int32)))]) by
  by_cases hc315 : (p0 &&& 1) = (0 : Int32)
  ·
   simp only [if_pos hc315] at J316
   refine s_ifY (pc' := 32) X0.here hx (hb hby at_25) ((if0 _ _).trans (teq hc315).1) (by decide) (by decide) ?_
   refine s_iconst (pc' := 33) (v := 0) X0.here hx (hb hby at_32) rfl rfl ?_
   exact J316
  ·
   simp only [if_neg hc315] at J316
   refine s_ifN (pc' := 28) X0.here hx (hb hby at_25) rfl ((if0 _ _).trans (feq hc315).1) ?_
   refine s_iconst (pc' := 29) (v := 1) X0.here hx (hb hby at_28) rfl rfl ?_
   refine s_goto (pc' := 33) X0.here hx (hb hby at_29) (by decide) (by decide) ?_
   exact J316
 have hx1 : (if (p0 &&& (1 : Int32)) = (0 : Int32) then (0 : Int32) else (1 : Int32)) = 0 ∨ (if (p0 &&& (1 : Int32)) = (0 : Int32) then (0 : Int32) else (1 : Int32)) = 1 := bit01 _
 revert hx1
 generalize (if (p0 &&& (1 : Int32)) = (0 : Int32) then (0 : Int32) else (1 : Int32)) = x1
 intro hx1
 show Go p.tables e below Kx _ (mkF m 33 _ [(.int x1)])
 refine s_istore (pc' := 35) (Ls' := #[vi p0, vi p1, vi p2, vi p3, vi n, vi rc, vi x1, un, un, un, un, un, un, un, un, un, un, un, un]) X0.here hx (hb hby at_33) rfl  rfl ?_
 refine s_iloadN (pc' := 36) X0.here hx (hb hby at_35) rfl rfl ?_
 refine s_iconst (pc' := 37) (v := 2) X0.here hx (hb hby at_36) rfl rfl ?_
 refine s_iand (pc' := 38) X0.here hx (hb hby at_37) rfl rfl ?_
 suffices J318 : Go p.tables e below Kx s₁ (mkF m 46 #[vi p0, vi p1, vi p2, vi p3, vi n, vi rc, vi x1, un, un, un, un, un, un, un, un, un, un, un, un] [(.int (if (p0 &&& (2 : Int32)) = (0 : Int32) then (0 : Int32) else (1 : Int32)))]) by
  by_cases hc317 : (p0 &&& 2) = (0 : Int32)
  ·
   simp only [if_pos hc317] at J318
   refine s_ifY (pc' := 45) X0.here hx (hb hby at_38) ((if0 _ _).trans (teq hc317).1) (by decide) (by decide) ?_
   refine s_iconst (pc' := 46) (v := 0) X0.here hx (hb hby at_45) rfl rfl ?_
   exact J318
  ·
   simp only [if_neg hc317] at J318
   refine s_ifN (pc' := 41) X0.here hx (hb hby at_38) rfl ((if0 _ _).trans (feq hc317).1) ?_
   refine s_iconst (pc' := 42) (v := 1) X0.here hx (hb hby at_41) rfl rfl ?_
   refine s_goto (pc' := 46) X0.here hx (hb hby at_42) (by decide) (by decide) ?_
   exact J318
 have hx2 : (if (p0 &&& (2 : Int32)) = (0 : Int32) then (0 : Int32) else (1 : Int32)) = 0 ∨ (if (p0 &&& (2 : Int32)) = (0 : Int32) then (0 : Int32) else (1 : Int32)) = 1 := bit01 _
 revert hx2
 generalize (if (p0 &&& (2 : Int32)) = (0 : Int32) then (0 : Int32) else (1 : Int32)) = x2
 intro hx2
 show Go p.tables e below Kx _ (mkF m 46 _ [(.int x2)])
 refine s_istore (pc' := 48) (Ls' := #[vi p0, vi p1, vi p2, vi p3, vi n, vi rc, vi x1, vi x2, un, un, un, un, un, un, un, un, un, un, un]) X0.here hx (hb hby at_46) rfl  rfl ?_
 refine s_iloadN (pc' := 49) X0.here hx (hb hby at_48) rfl rfl ?_
 refine s_iconst (pc' := 50) (v := 4) X0.here hx (hb hby at_49) rfl rfl ?_
 refine s_iand (pc' := 51) X0.here hx (hb hby at_50) rfl rfl ?_
 suffices J320 : Go p.tables e below Kx s₁ (mkF m 59 #[vi p0, vi p1, vi p2, vi p3, vi n, vi rc, vi x1, vi x2, un, un, un, un, un, un, un, un, un, un, un] [(.int (if (p0 &&& (4 : Int32)) = (0 : Int32) then (0 : Int32) else (1 : Int32)))]) by
  by_cases hc319 : (p0 &&& 4) = (0 : Int32)
  ·
   simp only [if_pos hc319] at J320
   refine s_ifY (pc' := 58) X0.here hx (hb hby at_51) ((if0 _ _).trans (teq hc319).1) (by decide) (by decide) ?_
   refine s_iconst (pc' := 59) (v := 0) X0.here hx (hb hby at_58) rfl rfl ?_
   exact J320
  ·
   simp only [if_neg hc319] at J320
   refine s_ifN (pc' := 54) X0.here hx (hb hby at_51) rfl ((if0 _ _).trans (feq hc319).1) ?_
   refine s_iconst (pc' := 55) (v := 1) X0.here hx (hb hby at_54) rfl rfl ?_
   refine s_goto (pc' := 59) X0.here hx (hb hby at_55) (by decide) (by decide) ?_
   exact J320
 have hx3 : (if (p0 &&& (4 : Int32)) = (0 : Int32) then (0 : Int32) else (1 : Int32)) = 0 ∨ (if (p0 &&& (4 : Int32)) = (0 : Int32) then (0 : Int32) else (1 : Int32)) = 1 := bit01 _
 revert hx3
 generalize (if (p0 &&& (4 : Int32)) = (0 : Int32) then (0 : Int32) else (1 : Int32)) = x3
 intro hx3
 show Go p.tables e below Kx _ (mkF m 59 _ [(.int x3)])
 refine s_istore (pc' := 61) (Ls' := #[vi p0, vi p1, vi p2, vi p3, vi n, vi rc, vi x1, vi x2, vi x3, un, un, un, un, un, un, un, un, un, un]) X0.here hx (hb hby at_59) rfl  rfl ?_
 refine s_iloadN (pc' := 62) X0.here hx (hb hby at_61) rfl rfl ?_
 refine s_bipush (pc' := 64) (v := 8) X0.here hx (hb hby at_62) rfl rfl ?_
 refine s_iand (pc' := 65) X0.here hx (hb hby at_64) rfl rfl ?_
 suffices J322 : Go p.tables e below Kx s₁ (mkF m 73 #[vi p0, vi p1, vi p2, vi p3, vi n, vi rc, vi x1, vi x2, vi x3, un, un, un, un, un, un, un, un, un, un] [(.int (if (p0 &&& (8 : Int32)) = (0 : Int32) then (0 : Int32) else (1 : Int32)))]) by
  by_cases hc321 : (p0 &&& 8) = (0 : Int32)
  ·
   simp only [if_pos hc321] at J322
   refine s_ifY (pc' := 72) X0.here hx (hb hby at_65) ((if0 _ _).trans (teq hc321).1) (by decide) (by decide) ?_
   refine s_iconst (pc' := 73) (v := 0) X0.here hx (hb hby at_72) rfl rfl ?_
   exact J322
  ·
   simp only [if_neg hc321] at J322
   refine s_ifN (pc' := 68) X0.here hx (hb hby at_65) rfl ((if0 _ _).trans (feq hc321).1) ?_
   refine s_iconst (pc' := 69) (v := 1) X0.here hx (hb hby at_68) rfl rfl ?_
   refine s_goto (pc' := 73) X0.here hx (hb hby at_69) (by decide) (by decide) ?_
   exact J322
 have hx4 : (if (p0 &&& (8 : Int32)) = (0 : Int32) then (0 : Int32) else (1 : Int32)) = 0 ∨ (if (p0 &&& (8 : Int32)) = (0 : Int32) then (0 : Int32) else (1 : Int32)) = 1 := bit01 _
 revert hx4
 generalize (if (p0 &&& (8 : Int32)) = (0 : Int32) then (0 : Int32) else (1 : Int32)) = x4
 intro hx4
 show Go p.tables e below Kx _ (mkF m 73 _ [(.int x4)])
 refine s_istore (pc' := 75) (Ls' := #[vi p0, vi p1, vi p2, vi p3, vi n, vi rc, vi x1, vi x2, vi x3, vi x4, un, un, un, un, un, un, un, un, un]) X0.here hx (hb hby at_73) rfl  rfl ?_
 rcases hn with rfl | rfl | rfl | rfl | rfl
 ·
  show Go p.tables e below Kx _ (mkF m 75 _ [])
  refine s_iload (pc' := 77) X0.here hx (hb hby at_75) rfl rfl ?_
  obtain ⟨T323, h323, k323, X323, e323, E323, A323, st323⟩ := newP X0 hx hZ (hv hw 1 rfl) e0 (g := (mkF m 77 #[vi p0, vi p1, vi p2, vi p3, vi 0, vi rc, vi x1, vi x2, vi x3, vi x4, un, un, un, un, un, un, un, un, un] [(.int 0)])) rfl (hb hby at_77) rfl (by decide) (cap := 0) (by decide) (by decide) (by decide) (by decide)
  obtain ⟨b323, g323⟩ : ∃ z, z = h0.size := ⟨_, rfl⟩
  rw [← g323] at A323 st323
  have sz323 : h0.size ≤ b323 := Nat.le_trans K0.1 (Nat.le_of_eq g323.symm)
  have ge323 : n0 ≤ b323 := Nat.le_trans (X00.1 ▸ X00.2.1) (Nat.le_of_eq g323.symm)
  have K323 : Keep h0 h323 [] := K0.ext E323
  have O323 : Old Z n0 h323 := X00.ext E323
  have V323 : Arv Z h323 b323 k323 .boolean 0 [] (.int 0) := (Arv.new A323 (by decide)).pad (pad_rep [] (.int 0) 0)
  refine Go.st st323 ?_
  show Go p.tables e below Kx _ (mkF m 79 _ [(.ref b323)])
  refine s_astore (pc' := 81) (Ls' := #[vi p0, vi p1, vi p2, vi p3, vi 0, vi rc, vi x1, vi x2, vi x3, vi x4, vr b323, un, un, un, un, un, un, un, un]) X323.here hx (hb hby at_79) rfl rfl rfl ?_
  refine s_iload (pc' := 83) X323.here hx (hb hby at_81) rfl rfl ?_
  refine s_iconst (pc' := 84) (v := 1) X323.here hx (hb hby at_83) rfl rfl ?_
  refine s_icmpY (pc' := 93) X323.here hx (hb hby at_84) (tlt (by decide)).1 (by decide) (by decide) ?_
  refine s_iload (pc' := 95) X323.here hx (hb hby at_93) rfl rfl ?_
  refine s_iconst (pc' := 96) (v := 2) X323.here hx (hb hby at_95) rfl rfl ?_
  refine s_icmpY (pc' := 105) X323.here hx (hb hby at_96) (tlt (by decide)).1 (by decide) (by decide) ?_
  refine s_iload (pc' := 107) X323.here hx (hb hby at_105) rfl rfl ?_
  refine s_iconst (pc' := 108) (v := 3) X323.here hx (hb hby at_107) rfl rfl ?_
  refine s_icmpY (pc' := 117) X323.here hx (hb hby at_108) (tlt (by decide)).1 (by decide) (by decide) ?_
  refine s_iload (pc' := 119) X323.here hx (hb hby at_117) rfl rfl ?_
  refine s_iconst (pc' := 120) (v := 4) X323.here hx (hb hby at_119) rfl rfl ?_
  refine s_icmpY (pc' := 129) X323.here hx (hb hby at_120) (tlt (by decide)).1 (by decide) (by decide) ?_
  obtain ⟨T324, h324, X324, e324, E324, A324, D324, -, st324⟩ := newO X323 hx hZ hown (hv hw 2 rfl) (hv hw 3 rfl) (hv hw 4 rfl) e323 (g := (mkF m 129 #[vi p0, vi p1, vi p2, vi p3, vi 0, vi rc, vi x1, vi x2, vi x3, vi x4, vr b323, un, un, un, un, un, un, un, un] [])) rfl (hb hby at_129) (by decide) (by decide)
  obtain ⟨b324, g324⟩ : ∃ z, z = h323.size := ⟨_, rfl⟩
  rw [← g324] at A324 D324 st324
  have sz324 : h0.size ≤ b324 := Nat.le_trans K323.1 (Nat.le_of_eq g324.symm)
  have ge324 : n0 ≤ b324 := Nat.le_trans (O323.1 ▸ O323.2.1) (Nat.le_of_eq g324.symm)
  have K324 : Keep h0 h324 [] := K323.ext E324
  have O324 : Old Z n0 h324 := O323.ext E324
  have F324_relevantWithin : Fld Z h324 b324 "com/example/kingfisher/kingfisher/eval/TopicRanking" "relevantWithin" "[I" .null := D324 (Or.inr (hv hw 13 rfl)) (ty := (.array .int)) (by decide)
  have F324_relevantCount : Fld Z h324 b324 "com/example/kingfisher/kingfisher/eval/TopicRanking" "relevantCount" "I" (.int 0) := D324 (Or.inr (hv hw 15 rfl)) (ty := .int) (by decide)
  refine Go.st st324 ?_
  show Go p.tables e below Kx _ (mkF m 132 _ [(.ref b324)])
  refine s_dup (pc' := 133) X324.here hx (hb hby at_132) rfl rfl ?_
  refine s_aload (pc' := 135) X324.here hx (hb hby at_133) rfl rfl rfl ?_
  refine s_iload (pc' := 137) X324.here hx (hb hby at_135) rfl rfl ?_
  have f325 : Arv Z h324 b323 k323 .boolean 0 [] (.int 0) := (V323.ext E324)
  obtain ⟨_, _, ⟨T326, L326, k326, n326⟩, -, X326, ⟨Lc326, hQ326, l326, y326, z326⟩, st326⟩ := X324.specialBack hx (y := yN0) rfl hown (mvT hZ (hv hw 5 rfl)) (mvT hZ (hv hw 6 rfl)) (mvT hZ (hv hw 7 rfl)) (by decide) (backOf (W := 1) (rmN0 l Z a0 hw [] b324 b323 k323 rc h324 n0 O324 ge324 (Nat.ne_of_lt (Nat.lt_of_lt_of_le A323.lt (Nat.le_of_eq g324.symm))) A324 F324_relevantWithin F324_relevantCount f325) hZ (hv hw 7 rfl) (hv hw 4 rfl) (by decide) (by decide)) (g := (mkF m 137 #[vi p0, vi p1, vi p2, vi p3, vi 0, vi rc, vi x1, vi x2, vi x3, vi x4, vr b323, un, un, un, un, un, un, un, un] [(.int rc), (.ref b323), (.ref b324), (.ref b324)])) rfl (by rw [hml]; rfl) (Steps.refl _) (a := b324) (argsL := [(.ref b323), (.int rc)]) (rest := [(.ref b324)]) (lenOf pd_2 rfl) rfl (by exact Nat.le_of_eq rfl) (hb hby at_137) (fun _ _ => ⟨rfl, e324, (by decide : 2 + 1 ≤ _), (by decide : 2 + 1 ≤ _)⟩)
  dsimp only [Pt.U, Pt.locs, Pt.cells, Pt.slots] at X326 l326 y326 z326 st326 hQ326
  rw [l326, y326, z326] at X326
  obtain ⟨rfl, Nq326, Kq326, q1_326, q2_326, t326, kt326, q3_326, q4_326⟩ := hQ326
  have N326 := Fr.app N0 Nq326
  have K326 : Keep h0 T326.heap [] := K324.trans Kq326 (allS (P := fun zz => zz ∈ [] ∨ h0.size ≤ zz) (Or.inr sz324) all0)
  have O326 : Old Z n0 T326.heap := O324.keep Kq326 (allS ge324 all0)
  refine Go.tr st326 ?_
  show Go p.tables e below Kx _ (mkF m 140 _ [(.ref b324)])
  refine s_astore (pc' := 142) (Ls' := #[vi p0, vi p1, vi p2, vi p3, vi 0, vi rc, vi x1, vi x2, vi x3, vi x4, vr b323, vr b324, un, un, un, un, un, un, un]) X326.here hx (hb hby at_140) rfl rfl rfl ?_
  refine s_aload (pc' := 144) X326.here hx (hb hby at_142) rfl rfl rfl ?_
  refine s_iloadN (pc' := 145) X326.here hx (hb hby at_144) rfl rfl ?_
  obtain ⟨cq327, kq327, q327a, q327b, q327c⟩ := isOf hZ rfl q1_326
  obtain ⟨_, _, ⟨T327, L327, k327, n327⟩, -, X327, ⟨Lc327, hQ327, l327, y327, z327⟩, st327⟩ := X326.virtualBack hx (y := yN1) (z := yN1) hown (mvT hZ (hv hw 16 rfl)) (mvT hZ (hv hw 17 rfl)) (notFace_of_selects (args := #[]) (mvT hZ (hv hw 19 rfl))) (mvT hZ (hv hw 19 rfl)) (mvT hZ (hv hw 18 rfl)) (by decide) (backOf (W := 0) (rmA0 l Z a0 hw [] b324 t326 kt326  rc p2 T326.heap n0 O326 hrc q1_326 q3_326 q2_326 q4_326) hZ (hv hw 20 rfl) (hv hw 4 rfl) (by decide) (by decide)) q327a q327c (g := (mkF m 145 #[vi p0, vi p1, vi p2, vi p3, vi 0, vi rc, vi x1, vi x2, vi x3, vi x4, vr b323, vr b324, un, un, un, un, un, un, un] [(.int p2), (.ref b324)])) rfl (by rw [hml]; rfl) (Steps.refl _) (argsL := [(.int p2)]) (rest := []) (lenOf pd_3 rfl) rfl (by exact Nat.le_of_eq rfl) (hb hby at_145) (fun _ _ => ⟨rfl, rfl, (by decide : 3 + 0 ≤ _), (by decide : 3 + 0 ≤ _)⟩)
  dsimp only [Pt.U, Pt.locs, Pt.cells, Pt.slots] at X327 l327 y327 z327 st327 hQ327
  rw [l327, y327, z327] at X327
  obtain ⟨rfl, Nq327, hE327⟩ := hQ327
  have N327 := Fr.app N326 Nq327
  refine Go.tr st327 ?_
  show Go p.tables e below Kx _ (mkF m 148 _ [(.double FP.dconst0)])
  refine s_dstore (pc' := 150) (Ls' := #[vi p0, vi p1, vi p2, vi p3, vi 0, vi rc, vi x1, vi x2, vi x3, vi x4, vr b323, vr b324, .val (.double FP.dconst0), sn, un, un, un, un, un]) X327.here hx (hb hby at_148) rfl  rfl ?_
  refine s_iloadN (pc' := 151) X327.here hx (hb hby at_150) rfl rfl ?_
  refine s_i2d (pc' := 152) X327.here hx (hb hby at_151) rfl rfl ?_
  refine Go.st (X327.ldc2DoubleC hx hown (mvT hZ (hv hw 28 rfl)) (g := (mkF m 152 #[vi p0, vi p1, vi p2, vi p3, vi 0, vi rc, vi x1, vi x2, vi x3, vi x4, vr b323, vr b324, .val (.double FP.dconst0), sn, un, un, un, un, un] [(.double (FP.i2d p2))])) rfl (hb hby at_152)) ?_
  show Go p.tables e below Kx _ (mkF m 155 _ [(.double (4621819117588971520 : UInt64)), (.double (FP.i2d p2))])
  refine s_ddiv (pc' := 156) X327.here hx (hb hby at_155) rfl (nn1 p2) rfl ?_
  refine s_iload (pc' := 158) X327.here hx (hb hby at_156) rfl rfl ?_
  refine s_i2d (pc' := 159) X327.here hx (hb hby at_158) rfl rfl ?_
  refine s_dmul (pc' := 160) X327.here hx (hb hby at_159) rfl (nn2 p2 hrc) rfl ?_
  refine Go.st (X327.ldc2DoubleC hx hown (mvT hZ (hv hw 29 rfl)) (g := (mkF m 160 #[vi p0, vi p1, vi p2, vi p3, vi 0, vi rc, vi x1, vi x2, vi x3, vi x4, vr b323, vr b324, .val (.double FP.dconst0), sn, un, un, un, un, un] [(.double (FP.dmul (FP.ddiv (FP.i2d p2) (4621819117588971520 : UInt64)) (FP.i2d rc)))])) rfl (hb hby at_160)) ?_
  show Go p.tables e below Kx _ (mkF m 163 _ [(.double (4606281698874543309 : UInt64)), (.double (FP.dmul (FP.ddiv (FP.i2d p2) (4621819117588971520 : UInt64)) (FP.i2d rc)))])
  refine s_dadd (pc' := 164) X327.here hx (hb hby at_163) rfl (nn3 p2 hrc) rfl ?_
  refine s_d2l (pc' := 165) (z := needd p2 rc) X327.here hx (hb hby at_164) rfl rfl ?_
  show Go p.tables e below Kx _ (mkF m 165 _ [(.long (needd p2 rc))])
  generalize (needd p2 rc) = nd
  show Go p.tables e below Kx _ (mkF m 165 _ [(.long nd)])
  refine s_lstore (pc' := 167) (Ls' := #[vi p0, vi p1, vi p2, vi p3, vi 0, vi rc, vi x1, vi x2, vi x3, vi x4, vr b323, vr b324, .val (.double FP.dconst0), sn, .val (.long nd), sn, un, un, un]) X327.here hx (hb hby at_165) rfl  rfl ?_
  refine s_dconst0 (pc' := 168) X327.here hx (hb hby at_167) rfl rfl ?_
  refine s_dstore (pc' := 170) (Ls' := #[vi p0, vi p1, vi p2, vi p3, vi 0, vi rc, vi x1, vi x2, vi x3, vi x4, vr b323, vr b324, .val (.double FP.dconst0), sn, .val (.long nd), sn, .val (.double FP.dconst0), sn, un]) X327.here hx (hb hby at_168) rfl  rfl ?_
  refine s_iconst (pc' := 171) (v := 0) X327.here hx (hb hby at_170) rfl rfl ?_
  refine s_istore (pc' := 173) (Ls' := #[vi p0, vi p1, vi p2, vi p3, vi 0, vi rc, vi x1, vi x2, vi x3, vi x4, vr b323, vr b324, .val (.double FP.dconst0), sn, .val (.long nd), sn, .val (.double FP.dconst0), sn, vi 0]) X327.here hx (hb hby at_171) rfl  rfl ?_
  refine s_iload (pc' := 175) X327.here hx (hb hby at_173) rfl rfl ?_
  refine s_iconst (pc' := 176) (v := 1) X327.here hx (hb hby at_175) rfl rfl ?_
  refine s_icmpY (pc' := 202) X327.here hx (hb hby at_176) (tlt (by decide)).1 (by decide) (by decide) ?_
  refine s_iload (pc' := 204) X327.here hx (hb hby at_202) rfl rfl ?_
  refine s_iconst (pc' := 205) (v := 2) X327.here hx (hb hby at_204) rfl rfl ?_
  refine s_icmpY (pc' := 231) X327.here hx (hb hby at_205) (tlt (by decide)).1 (by decide) (by decide) ?_
  refine s_iload (pc' := 233) X327.here hx (hb hby at_231) rfl rfl ?_
  refine s_iconst (pc' := 234) (v := 3) X327.here hx (hb hby at_233) rfl rfl ?_
  refine s_icmpY (pc' := 260) X327.here hx (hb hby at_234) (tlt (by decide)).1 (by decide) (by decide) ?_
  refine s_iload (pc' := 262) X327.here hx (hb hby at_260) rfl rfl ?_
  refine s_iconst (pc' := 263) (v := 4) X327.here hx (hb hby at_262) rfl rfl ?_
  refine s_icmpY (pc' := 289) X327.here hx (hb hby at_263) (tlt (by decide)).1 (by decide) (by decide) ?_
  refine s_dload (pc' := 291) X327.here hx (hb hby at_289) rfl rfl ?_
  refine s_dload (pc' := 293) X327.here hx (hb hby at_291) rfl rfl ?_
  refine s_dcmpl (pc' := 294) (z := 0) X327.here hx (hb hby at_293) rfl (fin_0 nd) ?_
  refine s_ifN (pc' := 297) X327.here hx (hb hby at_294) rfl ((if0 _ _).trans (teq (by decide)).2) ?_
  refine s_iconst (pc' := 298) (v := 1) X327.here hx (hb hby at_297) rfl rfl ?_
  refine s_goto (pc' := 302) X327.here hx (hb hby at_298) (by decide) (by decide) ?_
  obtain ⟨fs, hr, hrun, hended, hW, hsame⟩ := X327.leave (v := (some (.int 1))) (fun h => by rw [Bd.returns] at h; cases h)
  refine Go.fin (retN X327 hx (t := .boolean) Bd.returns (by simp) (hb hby at_302) hr) (hF _ _ hrun hended ⟨_, _, rfl, ?_, ⟨_, rfl⟩, hW, hsame.mono (by decide) (by decide)⟩)
  ·
   show QL Z p0 p1 p2 p3 h0 n0 ((some (.int 1)) : Option Value) T327.heap _
   rw [hE327]
   exact ⟨rfl, N327⟩
 ·
  rcases hx1 with rfl | rfl
  ·
   show Go p.tables e below Kx _ (mkF m 75 _ [])
   refine s_iload (pc' := 77) X0.here hx (hb hby at_75) rfl rfl ?_
   obtain ⟨T328, h328, k328, X328, e328, E328, A328, st328⟩ := newP X0 hx hZ (hv hw 1 rfl) e0 (g := (mkF m 77 #[vi p0, vi p1, vi p2, vi p3, vi 1, vi rc, vi 0, vi x2, vi x3, vi x4, un, un, un, un, un, un, un, un, un] [(.int 1)])) rfl (hb hby at_77) rfl (by decide) (cap := 1) (by decide) (by decide) (by decide) (by decide)
   obtain ⟨b328, g328⟩ : ∃ z, z = h0.size := ⟨_, rfl⟩
   rw [← g328] at A328 st328
   have sz328 : h0.size ≤ b328 := Nat.le_trans K0.1 (Nat.le_of_eq g328.symm)
   have ge328 : n0 ≤ b328 := Nat.le_trans (X00.1 ▸ X00.2.1) (Nat.le_of_eq g328.symm)
   have K328 : Keep h0 h328 [] := K0.ext E328
   have O328 : Old Z n0 h328 := X00.ext E328
   have V328 : Arv Z h328 b328 k328 .boolean 1 [(.int 0)] (.int 0) := (Arv.new A328 (by decide)).pad (pad_rep [] (.int 0) 1)
   refine Go.st st328 ?_
   show Go p.tables e below Kx _ (mkF m 79 _ [(.ref b328)])
   refine s_astore (pc' := 81) (Ls' := #[vi p0, vi p1, vi p2, vi p3, vi 1, vi rc, vi 0, vi x2, vi x3, vi x4, vr b328, un, un, un, un, un, un, un, un]) X328.here hx (hb hby at_79) rfl rfl rfl ?_
   refine s_iload (pc' := 83) X328.here hx (hb hby at_81) rfl rfl ?_
   refine s_iconst (pc' := 84) (v := 1) X328.here hx (hb hby at_83) rfl rfl ?_
   refine s_icmpN (pc' := 87) X328.here hx (hb hby at_84) rfl (flt (by decide)).1 ?_
   refine s_aload (pc' := 89) X328.here hx (hb hby at_87) rfl rfl rfl ?_
   refine s_iconst (pc' := 90) (v := 0) X328.here hx (hb hby at_89) rfl rfl ?_
   refine s_iload (pc' := 92) X328.here hx (hb hby at_90) rfl rfl ?_
   obtain ⟨cl329, Ar329, Aq329, As329, An329, Ah329, Ag329⟩ := id V328
   have in330 := inb_of (j := 0) As329 (by decide)
   obtain ⟨T330, h330, X330, e330, W330, st330⟩ := stZ X328 hx hZ e328 Ar329 (j := 0) in330 (g := (mkF m 92 #[vi p0, vi p1, vi p2, vi p3, vi 1, vi rc, vi 0, vi x2, vi x3, vi x4, vr b328, un, un, un, un, un, un, un, un] [(.int 0), (.int 0), (.ref b328)])) rfl rfl (hb hby at_92)
   have V330 : Arv Z h330 b328 k328 .boolean 1 [(.int 0)] (.int 0) := by
    have q := Arv.set Ar329 Aq329 As329 An329 Ah329 Ag329 (fits_nar_bool _) W330 0 rfl (Nat.le_of_ble_eq_true rfl)
    rw [show nar .boolean 0 = 0 from by decide] at q; exact q
   have K330 : Keep h0 h330 [] := K328.wr W330 (Or.inr sz328)
   have O330 : Old Z n0 h330 := O328.wr W330 ge328
   have N330 := Fr.snoc X330 N0 ge328
   refine Go.st st330 ?_
   show Go p.tables e below Kx _ (mkF m 93 _ [])
   refine s_iload (pc' := 95) X330.here hx (hb hby at_93) rfl rfl ?_
   refine s_iconst (pc' := 96) (v := 2) X330.here hx (hb hby at_95) rfl rfl ?_
   refine s_icmpY (pc' := 105) X330.here hx (hb hby at_96) (tlt (by decide)).1 (by decide) (by decide) ?_
   refine s_iload (pc' := 107) X330.here hx (hb hby at_105) rfl rfl ?_
   refine s_iconst (pc' := 108) (v := 3) X330.here hx (hb hby at_107) rfl rfl ?_
   refine s_icmpY (pc' := 117) X330.here hx (hb hby at_108) (tlt (by decide)).1 (by decide) (by decide) ?_
   refine s_iload (pc' := 119) X330.here hx (hb hby at_117) rfl rfl ?_
   refine s_iconst (pc' := 120) (v := 4) X330.here hx (hb hby at_119) rfl rfl ?_
   refine s_icmpY (pc' := 129) X330.here hx (hb hby at_120) (tlt (by decide)).1 (by decide) (by decide) ?_
   obtain ⟨T331, h331, X331, e331, E331, A331, D331, -, st331⟩ := newO X330 hx hZ hown (hv hw 2 rfl) (hv hw 3 rfl) (hv hw 4 rfl) e330 (g := (mkF m 129 #[vi p0, vi p1, vi p2, vi p3, vi 1, vi rc, vi 0, vi x2, vi x3, vi x4, vr b328, un, un, un, un, un, un, un, un] [])) rfl (hb hby at_129) (by decide) (by decide)
   obtain ⟨b331, g331⟩ : ∃ z, z = h330.size := ⟨_, rfl⟩
   rw [← g331] at A331 D331 st331
   have sz331 : h0.size ≤ b331 := Nat.le_trans K330.1 (Nat.le_of_eq g331.symm)
   have ge331 : n0 ≤ b331 := Nat.le_trans (O330.1 ▸ O330.2.1) (Nat.le_of_eq g331.symm)
   have K331 : Keep h0 h331 [] := K330.ext E331
   have O331 : Old Z n0 h331 := O330.ext E331
   have F331_relevantWithin : Fld Z h331 b331 "com/example/kingfisher/kingfisher/eval/TopicRanking" "relevantWithin" "[I" .null := D331 (Or.inr (hv hw 13 rfl)) (ty := (.array .int)) (by decide)
   have F331_relevantCount : Fld Z h331 b331 "com/example/kingfisher/kingfisher/eval/TopicRanking" "relevantCount" "I" (.int 0) := D331 (Or.inr (hv hw 15 rfl)) (ty := .int) (by decide)
   refine Go.st st331 ?_
   show Go p.tables e below Kx _ (mkF m 132 _ [(.ref b331)])
   refine s_dup (pc' := 133) X331.here hx (hb hby at_132) rfl rfl ?_
   refine s_aload (pc' := 135) X331.here hx (hb hby at_133) rfl rfl rfl ?_
   refine s_iload (pc' := 137) X331.here hx (hb hby at_135) rfl rfl ?_
   have f332 : Arv Z h331 b328 k328 .boolean 1 [(.int 0)] (.int 0) := (V330.ext E331)
   obtain ⟨_, _, ⟨T333, L333, k333, n333⟩, -, X333, ⟨Lc333, hQ333, l333, y333, z333⟩, st333⟩ := X331.specialBack hx (y := yN0) rfl hown (mvT hZ (hv hw 5 rfl)) (mvT hZ (hv hw 6 rfl)) (mvT hZ (hv hw 7 rfl)) (by decide) (backOf (W := 1) (rmN1 l Z a0 hw [] b331 b328 k328 0 0 rc h331 n0 O331 ge331 (Nat.ne_of_lt (Nat.lt_of_lt_of_le (Nat.lt_of_lt_of_le A328.lt (Nat.le_of_eq W330.size.symm)) (Nat.le_of_eq g331.symm))) A331 F331_relevantWithin F331_relevantCount f332 (by decide)) hZ (hv hw 7 rfl) (hv hw 4 rfl) (by decide) (by decide)) (g := (mkF m 137 #[vi p0, vi p1, vi p2, vi p3, vi 1, vi rc, vi 0, vi x2, vi x3, vi x4, vr b328, un, un, un, un, un, un, un, un] [(.int rc), (.ref b328), (.ref b331), (.ref b331)])) rfl (by rw [hml]; rfl) (Steps.refl _) (a := b331) (argsL := [(.ref b328), (.int rc)]) (rest := [(.ref b331)]) (lenOf pd_2 rfl) rfl (by exact Nat.le_of_eq rfl) (hb hby at_137) (fun _ _ => ⟨rfl, e331, (by decide : 2 + 1 ≤ _), (by decide : 3 + 2 ≤ _)⟩)
   dsimp only [Pt.U, Pt.locs, Pt.cells, Pt.slots] at X333 l333 y333 z333 st333 hQ333
   rw [l333, y333, z333] at X333
   obtain ⟨rfl, Nq333, Kq333, q1_333, q2_333, t333, kt333, q3_333, q4_333⟩ := hQ333
   have N333 := Fr.app N330 Nq333
   have K333 : Keep h0 T333.heap [] := K331.trans Kq333 (allS (P := fun zz => zz ∈ [] ∨ h0.size ≤ zz) (Or.inr sz331) all0)
   have O333 : Old Z n0 T333.heap := O331.keep Kq333 (allS ge331 all0)
   refine Go.tr st333 ?_
   show Go p.tables e below Kx _ (mkF m 140 _ [(.ref b331)])
   refine s_astore (pc' := 142) (Ls' := #[vi p0, vi p1, vi p2, vi p3, vi 1, vi rc, vi 0, vi x2, vi x3, vi x4, vr b328, vr b331, un, un, un, un, un, un, un]) X333.here hx (hb hby at_140) rfl rfl rfl ?_
   refine s_aload (pc' := 144) X333.here hx (hb hby at_142) rfl rfl rfl ?_
   refine s_iloadN (pc' := 145) X333.here hx (hb hby at_144) rfl rfl ?_
   obtain ⟨cq334, kq334, q334a, q334b, q334c⟩ := isOf hZ rfl q1_333
   obtain ⟨_, _, ⟨T334, L334, k334, n334⟩, -, X334, ⟨Lc334, hQ334, l334, y334, z334⟩, st334⟩ := X333.virtualBack hx (y := yN1) (z := yN1) hown (mvT hZ (hv hw 16 rfl)) (mvT hZ (hv hw 17 rfl)) (notFace_of_selects (args := #[]) (mvT hZ (hv hw 19 rfl))) (mvT hZ (hv hw 19 rfl)) (mvT hZ (hv hw 18 rfl)) (by decide) (backOf (W := 0) (rmA1 l Z a0 hw [] b331 t333 kt333 0 rc p2 T333.heap n0 O333 hrc q1_333 q3_333 q2_333 q4_333) hZ (hv hw 20 rfl) (hv hw 4 rfl) (by decide) (by decide)) q334a q334c (g := (mkF m 145 #[vi p0, vi p1, vi p2, vi p3, vi 1, vi rc, vi 0, vi x2, vi x3, vi x4, vr b328, vr b331, un, un, un, un, un, un, un] [(.int p2), (.ref b331)])) rfl (by rw [hml]; rfl) (Steps.refl _) (argsL := [(.int p2)]) (rest := []) (lenOf pd_3 rfl) rfl (by exact Nat.le_of_eq rfl) (hb hby at_145) (fun _ _ => ⟨rfl, rfl, (by decide : 3 + 0 ≤ _), (by decide : 5 + 0 ≤ _)⟩)
   dsimp only [Pt.U, Pt.locs, Pt.cells, Pt.slots] at X334 l334 y334 z334 st334 hQ334
   rw [l334, y334, z334] at X334
   obtain ⟨rfl, Nq334, hE334⟩ := hQ334
   have N334 := Fr.app N333 Nq334
   refine Go.tr st334 ?_
   show Go p.tables e below Kx _ (mkF m 148 _ [(.double (mst FP.dconst0 0 1 (needd p2 rc)))])
   refine s_dstore (pc' := 150) (Ls' := #[vi p0, vi p1, vi p2, vi p3, vi 1, vi rc, vi 0, vi x2, vi x3, vi x4, vr b328, vr b331, .val (.double (mst FP.dconst0 0 1 (needd p2 rc))), sn, un, un, un, un, un]) X334.here hx (hb hby at_148) rfl  rfl ?_
   refine s_iloadN (pc' := 151) X334.here hx (hb hby at_150) rfl rfl ?_
   refine s_i2d (pc' := 152) X334.here hx (hb hby at_151) rfl rfl ?_
   refine Go.st (X334.ldc2DoubleC hx hown (mvT hZ (hv hw 28 rfl)) (g := (mkF m 152 #[vi p0, vi p1, vi p2, vi p3, vi 1, vi rc, vi 0, vi x2, vi x3, vi x4, vr b328, vr b331, .val (.double (mst FP.dconst0 0 1 (needd p2 rc))), sn, un, un, un, un, un] [(.double (FP.i2d p2))])) rfl (hb hby at_152)) ?_
   show Go p.tables e below Kx _ (mkF m 155 _ [(.double (4621819117588971520 : UInt64)), (.double (FP.i2d p2))])
   refine s_ddiv (pc' := 156) X334.here hx (hb hby at_155) rfl (nn1 p2) rfl ?_
   refine s_iload (pc' := 158) X334.here hx (hb hby at_156) rfl rfl ?_
   refine s_i2d (pc' := 159) X334.here hx (hb hby at_158) rfl rfl ?_
   refine s_dmul (pc' := 160) X334.here hx (hb hby at_159) rfl (nn2 p2 hrc) rfl ?_
   refine Go.st (X334.ldc2DoubleC hx hown (mvT hZ (hv hw 29 rfl)) (g := (mkF m 160 #[vi p0, vi p1, vi p2, vi p3, vi 1, vi rc, vi 0, vi x2, vi x3, vi x4, vr b328, vr b331, .val (.double (mst FP.dconst0 0 1 (needd p2 rc))), sn, un, un, un, un, un] [(.double (FP.dmul (FP.ddiv (FP.i2d p2) (4621819117588971520 : UInt64)) (FP.i2d rc)))])) rfl (hb hby at_160)) ?_
   show Go p.tables e below Kx _ (mkF m 163 _ [(.double (4606281698874543309 : UInt64)), (.double (FP.dmul (FP.ddiv (FP.i2d p2) (4621819117588971520 : UInt64)) (FP.i2d rc)))])
   refine s_dadd (pc' := 164) X334.here hx (hb hby at_163) rfl (nn3 p2 hrc) rfl ?_
   refine s_d2l (pc' := 165) (z := needd p2 rc) X334.here hx (hb hby at_164) rfl rfl ?_
   show Go p.tables e below Kx _ (mkF m 165 _ [(.long (needd p2 rc))])
   generalize (needd p2 rc) = nd
   generalize hmm : (mst FP.dconst0 0 1 nd) = mm
   show Go p.tables e below Kx _ (mkF m 165 _ [(.long nd)])
   refine s_lstore (pc' := 167) (Ls' := #[vi p0, vi p1, vi p2, vi p3, vi 1, vi rc, vi 0, vi x2, vi x3, vi x4, vr b328, vr b331, .val (.double mm), sn, .val (.long nd), sn, un, un, un]) X334.here hx (hb hby at_165) rfl  rfl ?_
   refine s_dconst0 (pc' := 168) X334.here hx (hb hby at_167) rfl rfl ?_
   refine s_dstore (pc' := 170) (Ls' := #[vi p0, vi p1, vi p2, vi p3, vi 1, vi rc, vi 0, vi x2, vi x3, vi x4, vr b328, vr b331, .val (.double mm), sn, .val (.long nd), sn, .val (.double FP.dconst0), sn, un]) X334.here hx (hb hby at_168) rfl  rfl ?_
   refine s_iconst (pc' := 171) (v := 0) X334.here hx (hb hby at_170) rfl rfl ?_
   refine s_istore (pc' := 173) (Ls' := #[vi p0, vi p1, vi p2, vi p3, vi 1, vi rc, vi 0, vi x2, vi x3, vi x4, vr b328, vr b331, .val (.double mm), sn, .val (.long nd), sn, .val (.double FP.dconst0), sn, vi 0]) X334.here hx (hb hby at_171) rfl  rfl ?_
   refine s_iload (pc' := 175) X334.here hx (hb hby at_173) rfl rfl ?_
   refine s_iconst (pc' := 176) (v := 1) X334.here hx (hb hby at_175) rfl rfl ?_
   refine s_icmpN (pc' := 179) X334.here hx (hb hby at_176) rfl (flt (by decide)).1 ?_
   refine s_iload (pc' := 181) X334.here hx (hb hby at_179) rfl rfl ?_
   refine s_ifY (pc' := 202) X334.here hx (hb hby at_181) ((if0 _ _).trans (teq (by decide)).1) (by decide) (by decide) ?_
   refine s_iload (pc' := 204) X334.here hx (hb hby at_202) rfl rfl ?_
   refine s_iconst (pc' := 205) (v := 2) X334.here hx (hb hby at_204) rfl rfl ?_
   refine s_icmpY (pc' := 231) X334.here hx (hb hby at_205) (tlt (by decide)).1 (by decide) (by decide) ?_
   refine s_iload (pc' := 233) X334.here hx (hb hby at_231) rfl rfl ?_
   refine s_iconst (pc' := 234) (v := 3) X334.here hx (hb hby at_233) rfl rfl ?_
   refine s_icmpY (pc' := 260) X334.here hx (hb hby at_234) (tlt (by decide)).1 (by decide) (by decide) ?_
   refine s_iload (pc' := 262) X334.here hx (hb hby at_260) rfl rfl ?_
   refine s_iconst (pc' := 263) (v := 4) X334.here hx (hb hby at_262) rfl rfl ?_
   refine s_icmpY (pc' := 289) X334.here hx (hb hby at_263) (tlt (by decide)).1 (by decide) (by decide) ?_
   refine s_dload (pc' := 291) X334.here hx (hb hby at_289) rfl rfl ?_
   refine s_dload (pc' := 293) X334.here hx (hb hby at_291) rfl rfl ?_
   refine s_dcmpl (pc' := 294) (z := 0) X334.here hx (hb hby at_293) rfl (by rw [← hmm]; exact fin_10 nd) ?_
   refine s_ifN (pc' := 297) X334.here hx (hb hby at_294) rfl ((if0 _ _).trans (teq (by decide)).2) ?_
   refine s_iconst (pc' := 298) (v := 1) X334.here hx (hb hby at_297) rfl rfl ?_
   refine s_goto (pc' := 302) X334.here hx (hb hby at_298) (by decide) (by decide) ?_
   obtain ⟨fs, hr, hrun, hended, hW, hsame⟩ := X334.leave (v := (some (.int 1))) (fun h => by rw [Bd.returns] at h; cases h)
   refine Go.fin (retN X334 hx (t := .boolean) Bd.returns (by simp) (hb hby at_302) hr) (hF _ _ hrun hended ⟨_, _, rfl, ?_, ⟨_, rfl⟩, hW, hsame.mono (by decide) (by decide)⟩)
   ·
    show QL Z p0 p1 p2 p3 h0 n0 ((some (.int 1)) : Option Value) T334.heap _
    rw [hE334]
    exact ⟨rfl, N334⟩
  ·
   show Go p.tables e below Kx _ (mkF m 75 _ [])
   refine s_iload (pc' := 77) X0.here hx (hb hby at_75) rfl rfl ?_
   obtain ⟨T335, h335, k335, X335, e335, E335, A335, st335⟩ := newP X0 hx hZ (hv hw 1 rfl) e0 (g := (mkF m 77 #[vi p0, vi p1, vi p2, vi p3, vi 1, vi rc, vi 1, vi x2, vi x3, vi x4, un, un, un, un, un, un, un, un, un] [(.int 1)])) rfl (hb hby at_77) rfl (by decide) (cap := 1) (by decide) (by decide) (by decide) (by decide)
   obtain ⟨b335, g335⟩ : ∃ z, z = h0.size := ⟨_, rfl⟩
   rw [← g335] at A335 st335
   have sz335 : h0.size ≤ b335 := Nat.le_trans K0.1 (Nat.le_of_eq g335.symm)
   have ge335 : n0 ≤ b335 := Nat.le_trans (X00.1 ▸ X00.2.1) (Nat.le_of_eq g335.symm)
   have K335 : Keep h0 h335 [] := K0.ext E335
   have O335 : Old Z n0 h335 := X00.ext E335
   have V335 : Arv Z h335 b335 k335 .boolean 1 [(.int 0)] (.int 0) := (Arv.new A335 (by decide)).pad (pad_rep [] (.int 0) 1)
   refine Go.st st335 ?_
   show Go p.tables e below Kx _ (mkF m 79 _ [(.ref b335)])
   refine s_astore (pc' := 81) (Ls' := #[vi p0, vi p1, vi p2, vi p3, vi 1, vi rc, vi 1, vi x2, vi x3, vi x4, vr b335, un, un, un, un, un, un, un, un]) X335.here hx (hb hby at_79) rfl rfl rfl ?_
   refine s_iload (pc' := 83) X335.here hx (hb hby at_81) rfl rfl ?_
   refine s_iconst (pc' := 84) (v := 1) X335.here hx (hb hby at_83) rfl rfl ?_
   refine s_icmpN (pc' := 87) X335.here hx (hb hby at_84) rfl (flt (by decide)).1 ?_
   refine s_aload (pc' := 89) X335.here hx (hb hby at_87) rfl rfl rfl ?_
   refine s_iconst (pc' := 90) (v := 0) X335.here hx (hb hby at_89) rfl rfl ?_
   refine s_iload (pc' := 92) X335.here hx (hb hby at_90) rfl rfl ?_
   obtain ⟨cl336, Ar336, Aq336, As336, An336, Ah336, Ag336⟩ := id V335
   have in337 := inb_of (j := 0) As336 (by decide)
   obtain ⟨T337, h337, X337, e337, W337, st337⟩ := stZ X335 hx hZ e335 Ar336 (j := 0) in337 (g := (mkF m 92 #[vi p0, vi p1, vi p2, vi p3, vi 1, vi rc, vi 1, vi x2, vi x3, vi x4, vr b335, un, un, un, un, un, un, un, un] [(.int 1), (.int 0), (.ref b335)])) rfl rfl (hb hby at_92)
   have V337 : Arv Z h337 b335 k335 .boolean 1 [(.int 1)] (.int 0) := by
    have q := Arv.set Ar336 Aq336 As336 An336 Ah336 Ag336 (fits_nar_bool _) W337 0 rfl (Nat.le_of_ble_eq_true rfl)
    rw [show nar .boolean 1 = 1 from by decide] at q; exact q
   have K337 : Keep h0 h337 [] := K335.wr W337 (Or.inr sz335)
   have O337 : Old Z n0 h337 := O335.wr W337 ge335
   have N337 := Fr.snoc X337 N0 ge335
   refine Go.st st337 ?_
   show Go p.tables e below Kx _ (mkF m 93 _ [])
   refine s_iload (pc' := 95) X337.here hx (hb hby at_93) rfl rfl ?_
   refine s_iconst (pc' := 96) (v := 2) X337.here hx (hb hby at_95) rfl rfl ?_
   refine s_icmpY (pc' := 105) X337.here hx (hb hby at_96) (tlt (by decide)).1 (by decide) (by decide) ?_
   refine s_iload (pc' := 107) X337.here hx (hb hby at_105) rfl rfl ?_
   refine s_iconst (pc' := 108) (v := 3) X337.here hx (hb hby at_107) rfl rfl ?_
   refine s_icmpY (pc' := 117) X337.here hx (hb hby at_108) (tlt (by decide)).1 (by decide) (by decide) ?_
   refine s_iload (pc' := 119) X337.here hx (hb hby at_117) rfl rfl ?_
   refine s_iconst (pc' := 120) (v := 4) X337.here hx (hb hby at_119) rfl rfl ?_
   refine s_icmpY (pc' := 129) X337.here hx (hb hby at_120) (tlt (by decide)).1 (by decide) (by decide) ?_
   obtain ⟨T338, h338, X338, e338, E338, A338, D338, -, st338⟩ := newO X337 hx hZ hown (hv hw 2 rfl) (hv hw 3 rfl) (hv hw 4 rfl) e337 (g := (mkF m 129 #[vi p0, vi p1, vi p2, vi p3, vi 1, vi rc, vi 1, vi x2, vi x3, vi x4, vr b335, un, un, un, un, un, un, un, un] [])) rfl (hb hby at_129) (by decide) (by decide)
   obtain ⟨b338, g338⟩ : ∃ z, z = h337.size := ⟨_, rfl⟩
   rw [← g338] at A338 D338 st338
   have sz338 : h0.size ≤ b338 := Nat.le_trans K337.1 (Nat.le_of_eq g338.symm)
   have ge338 : n0 ≤ b338 := Nat.le_trans (O337.1 ▸ O337.2.1) (Nat.le_of_eq g338.symm)
   have K338 : Keep h0 h338 [] := K337.ext E338
   have O338 : Old Z n0 h338 := O337.ext E338
   have F338_relevantWithin : Fld Z h338 b338 "com/example/kingfisher/kingfisher/eval/TopicRanking" "relevantWithin" "[I" .null := D338 (Or.inr (hv hw 13 rfl)) (ty := (.array .int)) (by decide)
   have F338_relevantCount : Fld Z h338 b338 "com/example/kingfisher/kingfisher/eval/TopicRanking" "relevantCount" "I" (.int 0) := D338 (Or.inr (hv hw 15 rfl)) (ty := .int) (by decide)
   refine Go.st st338 ?_
   show Go p.tables e below Kx _ (mkF m 132 _ [(.ref b338)])
   refine s_dup (pc' := 133) X338.here hx (hb hby at_132) rfl rfl ?_
   refine s_aload (pc' := 135) X338.here hx (hb hby at_133) rfl rfl rfl ?_
   refine s_iload (pc' := 137) X338.here hx (hb hby at_135) rfl rfl ?_
   have f339 : Arv Z h338 b335 k335 .boolean 1 [(.int 1)] (.int 0) := (V337.ext E338)
   obtain ⟨_, _, ⟨T340, L340, k340, n340⟩, -, X340, ⟨Lc340, hQ340, l340, y340, z340⟩, st340⟩ := X338.specialBack hx (y := yN0) rfl hown (mvT hZ (hv hw 5 rfl)) (mvT hZ (hv hw 6 rfl)) (mvT hZ (hv hw 7 rfl)) (by decide) (backOf (W := 1) (rmN1 l Z a0 hw [] b338 b335 k335 1 1 rc h338 n0 O338 ge338 (Nat.ne_of_lt (Nat.lt_of_lt_of_le (Nat.lt_of_lt_of_le A335.lt (Nat.le_of_eq W337.size.symm)) (Nat.le_of_eq g338.symm))) A338 F338_relevantWithin F338_relevantCount f339 (by decide)) hZ (hv hw 7 rfl) (hv hw 4 rfl) (by decide) (by decide)) (g := (mkF m 137 #[vi p0, vi p1, vi p2, vi p3, vi 1, vi rc, vi 1, vi x2, vi x3, vi x4, vr b335, un, un, un, un, un, un, un, un] [(.int rc), (.ref b335), (.ref b338), (.ref b338)])) rfl (by rw [hml]; rfl) (Steps.refl _) (a := b338) (argsL := [(.ref b335), (.int rc)]) (rest := [(.ref b338)]) (lenOf pd_2 rfl) rfl (by exact Nat.le_of_eq rfl) (hb hby at_137) (fun _ _ => ⟨rfl, e338, (by decide : 2 + 1 ≤ _), (by decide : 3 + 2 ≤ _)⟩)
   dsimp only [Pt.U, Pt.locs, Pt.cells, Pt.slots] at X340 l340 y340 z340 st340 hQ340
   rw [l340, y340, z340] at X340
   obtain ⟨rfl, Nq340, Kq340, q1_340, q2_340, t340, kt340, q3_340, q4_340⟩ := hQ340
   have N340 := Fr.app N337 Nq340
   have K340 : Keep h0 T340.heap [] := K338.trans Kq340 (allS (P := fun zz => zz ∈ [] ∨ h0.size ≤ zz) (Or.inr sz338) all0)
   have O340 : Old Z n0 T340.heap := O338.keep Kq340 (allS ge338 all0)
   refine Go.tr st340 ?_
   show Go p.tables e below Kx _ (mkF m 140 _ [(.ref b338)])
   refine s_astore (pc' := 142) (Ls' := #[vi p0, vi p1, vi p2, vi p3, vi 1, vi rc, vi 1, vi x2, vi x3, vi x4, vr b335, vr b338, un, un, un, un, un, un, un]) X340.here hx (hb hby at_140) rfl rfl rfl ?_
   refine s_aload (pc' := 144) X340.here hx (hb hby at_142) rfl rfl rfl ?_
   refine s_iloadN (pc' := 145) X340.here hx (hb hby at_144) rfl rfl ?_
   obtain ⟨cq341, kq341, q341a, q341b, q341c⟩ := isOf hZ rfl q1_340
   obtain ⟨_, _, ⟨T341, L341, k341, n341⟩, -, X341, ⟨Lc341, hQ341, l341, y341, z341⟩, st341⟩ := X340.virtualBack hx (y := yN1) (z := yN1) hown (mvT hZ (hv hw 16 rfl)) (mvT hZ (hv hw 17 rfl)) (notFace_of_selects (args := #[]) (mvT hZ (hv hw 19 rfl))) (mvT hZ (hv hw 19 rfl)) (mvT hZ (hv hw 18 rfl)) (by decide) (backOf (W := 0) (rmA1 l Z a0 hw [] b338 t340 kt340 1 rc p2 T340.heap n0 O340 hrc q1_340 q3_340 q2_340 q4_340) hZ (hv hw 20 rfl) (hv hw 4 rfl) (by decide) (by decide)) q341a q341c (g := (mkF m 145 #[vi p0, vi p1, vi p2, vi p3, vi 1, vi rc, vi 1, vi x2, vi x3, vi x4, vr b335, vr b338, un, un, un, un, un, un, un] [(.int p2), (.ref b338)])) rfl (by rw [hml]; rfl) (Steps.refl _) (argsL := [(.int p2)]) (rest := []) (lenOf pd_3 rfl) rfl (by exact Nat.le_of_eq rfl) (hb hby at_145) (fun _ _ => ⟨rfl, rfl, (by decide : 3 + 0 ≤ _), (by decide : 5 + 0 ≤ _)⟩)
   dsimp only [Pt.U, Pt.locs, Pt.cells, Pt.slots] at X341 l341 y341 z341 st341 hQ341
   rw [l341, y341, z341] at X341
   obtain ⟨rfl, Nq341, hE341⟩ := hQ341
   have N341 := Fr.app N340 Nq341
   refine Go.tr st341 ?_
   show Go p.tables e below Kx _ (mkF m 148 _ [(.double (mst FP.dconst0 1 1 (needd p2 rc)))])
   refine s_dstore (pc' := 150) (Ls' := #[vi p0, vi p1, vi p2, vi p3, vi 1, vi rc, vi 1, vi x2, vi x3, vi x4, vr b335, vr b338, .val (.double (mst FP.dconst0 1 1 (needd p2 rc))), sn, un, un, un, un, un]) X341.here hx (hb hby at_148) rfl  rfl ?_
   refine s_iloadN (pc' := 151) X341.here hx (hb hby at_150) rfl rfl ?_
   refine s_i2d (pc' := 152) X341.here hx (hb hby at_151) rfl rfl ?_
   refine Go.st (X341.ldc2DoubleC hx hown (mvT hZ (hv hw 28 rfl)) (g := (mkF m 152 #[vi p0, vi p1, vi p2, vi p3, vi 1, vi rc, vi 1, vi x2, vi x3, vi x4, vr b335, vr b338, .val (.double (mst FP.dconst0 1 1 (needd p2 rc))), sn, un, un, un, un, un] [(.double (FP.i2d p2))])) rfl (hb hby at_152)) ?_
   show Go p.tables e below Kx _ (mkF m 155 _ [(.double (4621819117588971520 : UInt64)), (.double (FP.i2d p2))])
   refine s_ddiv (pc' := 156) X341.here hx (hb hby at_155) rfl (nn1 p2) rfl ?_
   refine s_iload (pc' := 158) X341.here hx (hb hby at_156) rfl rfl ?_
   refine s_i2d (pc' := 159) X341.here hx (hb hby at_158) rfl rfl ?_
   refine s_dmul (pc' := 160) X341.here hx (hb hby at_159) rfl (nn2 p2 hrc) rfl ?_
   refine Go.st (X341.ldc2DoubleC hx hown (mvT hZ (hv hw 29 rfl)) (g := (mkF m 160 #[vi p0, vi p1, vi p2, vi p3, vi 1, vi rc, vi 1, vi x2, vi x3, vi x4, vr b335, vr b338, .val (.double (mst FP.dconst0 1 1 (needd p2 rc))), sn, un, un, un, un, un] [(.double (FP.dmul (FP.ddiv (FP.i2d p2) (4621819117588971520 : UInt64)) (FP.i2d rc)))])) rfl (hb hby at_160)) ?_
   show Go p.tables e below Kx _ (mkF m 163 _ [(.double (4606281698874543309 : UInt64)), (.double (FP.dmul (FP.ddiv (FP.i2d p2) (4621819117588971520 : UInt64)) (FP.i2d rc)))])
   refine s_dadd (pc' := 164) X341.here hx (hb hby at_163) rfl (nn3 p2 hrc) rfl ?_
   refine s_d2l (pc' := 165) (z := needd p2 rc) X341.here hx (hb hby at_164) rfl rfl ?_
   show Go p.tables e below Kx _ (mkF m 165 _ [(.long (needd p2 rc))])
   generalize (needd p2 rc) = nd
   generalize hmm : (mst FP.dconst0 1 1 nd) = mm
   show Go p.tables e below Kx _ (mkF m 165 _ [(.long nd)])
   refine s_lstore (pc' := 167) (Ls' := #[vi p0, vi p1, vi p2, vi p3, vi 1, vi rc, vi 1, vi x2, vi x3, vi x4, vr b335, vr b338, .val (.double mm), sn, .val (.long nd), sn, un, un, un]) X341.here hx (hb hby at_165) rfl  rfl ?_
   refine s_dconst0 (pc' := 168) X341.here hx (hb hby at_167) rfl rfl ?_
   refine s_dstore (pc' := 170) (Ls' := #[vi p0, vi p1, vi p2, vi p3, vi 1, vi rc, vi 1, vi x2, vi x3, vi x4, vr b335, vr b338, .val (.double mm), sn, .val (.long nd), sn, .val (.double FP.dconst0), sn, un]) X341.here hx (hb hby at_168) rfl  rfl ?_
   refine s_iconst (pc' := 171) (v := 0) X341.here hx (hb hby at_170) rfl rfl ?_
   refine s_istore (pc' := 173) (Ls' := #[vi p0, vi p1, vi p2, vi p3, vi 1, vi rc, vi 1, vi x2, vi x3, vi x4, vr b335, vr b338, .val (.double mm), sn, .val (.long nd), sn, .val (.double FP.dconst0), sn, vi 0]) X341.here hx (hb hby at_171) rfl  rfl ?_
   refine s_iload (pc' := 175) X341.here hx (hb hby at_173) rfl rfl ?_
   refine s_iconst (pc' := 176) (v := 1) X341.here hx (hb hby at_175) rfl rfl ?_
   refine s_icmpN (pc' := 179) X341.here hx (hb hby at_176) rfl (flt (by decide)).1 ?_
   refine s_iload (pc' := 181) X341.here hx (hb hby at_179) rfl rfl ?_
   refine s_ifN (pc' := 184) X341.here hx (hb hby at_181) rfl ((if0 _ _).trans (feq (by decide)).1) ?_
   refine s_iload (pc' := 186) X341.here hx (hb hby at_184) rfl rfl ?_
   refine s_iconst (pc' := 187) (v := 1) X341.here hx (hb hby at_186) rfl rfl ?_
   refine s_iadd (pc' := 188) (z := 1) X341.here hx (hb hby at_187) rfl (by decide) ?_
   refine s_istore (pc' := 190) (Ls' := #[vi p0, vi p1, vi p2, vi p3, vi 1, vi rc, vi 1, vi x2, vi x3, vi x4, vr b335, vr b338, .val (.double mm), sn, .val (.long nd), sn, .val (.double FP.dconst0), sn, vi 1]) X341.here hx (hb hby at_188) rfl  rfl ?_
   refine s_dload (pc' := 192) X341.here hx (hb hby at_190) rfl rfl ?_
   refine s_iload (pc' := 194) X341.here hx (hb hby at_192) rfl rfl ?_
   refine s_iconst (pc' := 195) (v := 1) X341.here hx (hb hby at_194) rfl rfl ?_
   refine s_lload (pc' := 197) X341.here hx (hb hby at_195) rfl rfl ?_
   obtain ⟨_, _, ⟨T342, L342, k342, n342⟩, -, X342, ⟨Lc342, hQ342, l342, y342, z342⟩, st342⟩ := Jvm.LawKit.callS X341 hx (y := yN3) hown (mvT hZ (hv hw 30 rfl)) (mvT hZ (hv hw 31 rfl)) (mvT hZ (hv hw 32 rfl)) (mvT hZ (hv hw 33 rfl)) (by decide) (backOf (W := 0) (rmB l Z a0 hw [] FP.dconst0 1 1 nd T340.heap n0 O340 (by decide)) hZ (hv hw 33 rfl) (hv hw 32 rfl) (by decide) (by decide)) (g := (mkF m 197 #[vi p0, vi p1, vi p2, vi p3, vi 1, vi rc, vi 1, vi x2, vi x3, vi x4, vr b335, vr b338, .val (.double mm), sn, .val (.long nd), sn, .val (.double FP.dconst0), sn, vi 1] [(.long nd), (.int 1), (.int 1), (.double FP.dconst0)])) rfl (by rw [hml]; rfl) (argsL := [(.double FP.dconst0), (.int 1), (.int 1), (.long nd)]) (rest := []) (lenOf pd_4 rfl) rfl (by exact Nat.le_of_eq rfl) (hb hby at_197) (fun _ _ => ⟨rfl, hE341, (by decide : 3 + 0 ≤ _), (by decide : 5 + 0 ≤ _)⟩)
   dsimp only [Pt.U, Pt.locs, Pt.cells, Pt.slots] at X342 l342 y342 z342 st342 hQ342
   rw [l342, y342, z342] at X342
   obtain ⟨rfl, Nq342, hE342⟩ := hQ342
   have N342 := Fr.app N341 Nq342
   refine Go.st st342 ?_
   show Go p.tables e below Kx _ (mkF m 200 _ [(.double (bst FP.dconst0 1 1 nd))])
   refine s_dstore (pc' := 202) (Ls' := #[vi p0, vi p1, vi p2, vi p3, vi 1, vi rc, vi 1, vi x2, vi x3, vi x4, vr b335, vr b338, .val (.double mm), sn, .val (.long nd), sn, .val (.double (bst FP.dconst0 1 1 nd)), sn, vi 1]) X342.here hx (hb hby at_200) rfl  rfl ?_
   refine s_iload (pc' := 204) X342.here hx (hb hby at_202) rfl rfl ?_
   refine s_iconst (pc' := 205) (v := 2) X342.here hx (hb hby at_204) rfl rfl ?_
   refine s_icmpY (pc' := 231) X342.here hx (hb hby at_205) (tlt (by decide)).1 (by decide) (by decide) ?_
   refine s_iload (pc' := 233) X342.here hx (hb hby at_231) rfl rfl ?_
   refine s_iconst (pc' := 234) (v := 3) X342.here hx (hb hby at_233) rfl rfl ?_
   refine s_icmpY (pc' := 260) X342.here hx (hb hby at_234) (tlt (by decide)).1 (by decide) (by decide) ?_
   refine s_iload (pc' := 262) X342.here hx (hb hby at_260) rfl rfl ?_
   refine s_iconst (pc' := 263) (v := 4) X342.here hx (hb hby at_262) rfl rfl ?_
   refine s_icmpY (pc' := 289) X342.here hx (hb hby at_263) (tlt (by decide)).1 (by decide) (by decide) ?_
   refine s_dload (pc' := 291) X342.here hx (hb hby at_289) rfl rfl ?_
   refine s_dload (pc' := 293) X342.here hx (hb hby at_291) rfl rfl ?_
   refine s_dcmpl (pc' := 294) (z := 0) X342.here hx (hb hby at_293) rfl (by rw [← hmm]; exact fin_11 nd) ?_
   refine s_ifN (pc' := 297) X342.here hx (hb hby at_294) rfl ((if0 _ _).trans (teq (by decide)).2) ?_
   refine s_iconst (pc' := 298) (v := 1) X342.here hx (hb hby at_297) rfl rfl ?_
   refine s_goto (pc' := 302) X342.here hx (hb hby at_298) (by decide) (by decide) ?_
   obtain ⟨fs, hr, hrun, hended, hW, hsame⟩ := X342.leave (v := (some (.int 1))) (fun h => by rw [Bd.returns] at h; cases h)
   refine Go.fin (retN X342 hx (t := .boolean) Bd.returns (by simp) (hb hby at_302) hr) (hF _ _ hrun hended ⟨_, _, rfl, ?_, ⟨_, rfl⟩, hW, hsame.mono (by decide) (by decide)⟩)
   ·
    show QL Z p0 p1 p2 p3 h0 n0 ((some (.int 1)) : Option Value) T342.heap _
    rw [hE342]
    exact ⟨rfl, N342⟩
 ·
  rcases hx1 with rfl | rfl
  ·
   rcases hx2 with rfl | rfl
   ·
    show Go p.tables e below Kx _ (mkF m 75 _ [])
    refine s_iload (pc' := 77) X0.here hx (hb hby at_75) rfl rfl ?_
    obtain ⟨T343, h343, k343, X343, e343, E343, A343, st343⟩ := newP X0 hx hZ (hv hw 1 rfl) e0 (g := (mkF m 77 #[vi p0, vi p1, vi p2, vi p3, vi 2, vi rc, vi 0, vi 0, vi x3, vi x4, un, un, un, un, un, un, un, un, un] [(.int 2)])) rfl (hb hby at_77) rfl (by decide) (cap := 2) (by decide) (by decide) (by decide) (by decide)
    obtain ⟨b343, g343⟩ : ∃ z, z = h0.size := ⟨_, rfl⟩
    rw [← g343] at A343 st343
    have sz343 : h0.size ≤ b343 := Nat.le_trans K0.1 (Nat.le_of_eq g343.symm)
    have ge343 : n0 ≤ b343 := Nat.le_trans (X00.1 ▸ X00.2.1) (Nat.le_of_eq g343.symm)
    have K343 : Keep h0 h343 [] := K0.ext E343
    have O343 : Old Z n0 h343 := X00.ext E343
    have V343 : Arv Z h343 b343 k343 .boolean 2 [(.int 0), (.int 0)] (.int 0) := (Arv.new A343 (by decide)).pad (pad_rep [] (.int 0) 2)
    refine Go.st st343 ?_
    show Go p.tables e below Kx _ (mkF m 79 _ [(.ref b343)])
    refine s_astore (pc' := 81) (Ls' := #[vi p0, vi p1, vi p2, vi p3, vi 2, vi rc, vi 0, vi 0, vi x3, vi x4, vr b343, un, un, un, un, un, un, un, un]) X343.here hx (hb hby at_79) rfl rfl rfl ?_
    refine s_iload (pc' := 83) X343.here hx (hb hby at_81) rfl rfl ?_
    refine s_iconst (pc' := 84) (v := 1) X343.here hx (hb hby at_83) rfl rfl ?_
    refine s_icmpN (pc' := 87) X343.here hx (hb hby at_84) rfl (flt (by decide)).1 ?_
    refine s_aload (pc' := 89) X343.here hx (hb hby at_87) rfl rfl rfl ?_
    refine s_iconst (pc' := 90) (v := 0) X343.here hx (hb hby at_89) rfl rfl ?_
    refine s_iload (pc' := 92) X343.here hx (hb hby at_90) rfl rfl ?_
    obtain ⟨cl344, Ar344, Aq344, As344, An344, Ah344, Ag344⟩ := id V343
    have in345 := inb_of (j := 0) As344 (by decide)
    obtain ⟨T345, h345, X345, e345, W345, st345⟩ := stZ X343 hx hZ e343 Ar344 (j := 0) in345 (g := (mkF m 92 #[vi p0, vi p1, vi p2, vi p3, vi 2, vi rc, vi 0, vi 0, vi x3, vi x4, vr b343, un, un, un, un, un, un, un, un] [(.int 0), (.int 0), (.ref b343)])) rfl rfl (hb hby at_92)
    have V345 : Arv Z h345 b343 k343 .boolean 2 [(.int 0), (.int 0)] (.int 0) := by
     have q := Arv.set Ar344 Aq344 As344 An344 Ah344 Ag344 (fits_nar_bool _) W345 0 rfl (Nat.le_of_ble_eq_true rfl)
     rw [show nar .boolean 0 = 0 from by decide] at q; exact q
    have K345 : Keep h0 h345 [] := K343.wr W345 (Or.inr sz343)
    have O345 : Old Z n0 h345 := O343.wr W345 ge343
    have N345 := Fr.snoc X345 N0 ge343
    refine Go.st st345 ?_
    show Go p.tables e below Kx _ (mkF m 93 _ [])
    refine s_iload (pc' := 95) X345.here hx (hb hby at_93) rfl rfl ?_
    refine s_iconst (pc' := 96) (v := 2) X345.here hx (hb hby at_95) rfl rfl ?_
    refine s_icmpN (pc' := 99) X345.here hx (hb hby at_96) rfl (flt (by decide)).1 ?_
    refine s_aload (pc' := 101) X345.here hx (hb hby at_99) rfl rfl rfl ?_
    refine s_iconst (pc' := 102) (v := 1) X345.here hx (hb hby at_101) rfl rfl ?_
    refine s_iload (pc' := 104) X345.here hx (hb hby at_102) rfl rfl ?_
    obtain ⟨cl346, Ar346, Aq346, As346, An346, Ah346, Ag346⟩ := id V345
    have in347 := inb_of (j := 1) As346 (by decide)
    obtain ⟨T347, h347, X347, e347, W347, st347⟩ := stZ X345 hx hZ e345 Ar346 (j := 1) in347 (g := (mkF m 104 #[vi p0, vi p1, vi p2, vi p3, vi 2, vi rc, vi 0, vi 0, vi x3, vi x4, vr b343, un, un, un, un, un, un, un, un] [(.int 0), (.int 1), (.ref b343)])) rfl rfl (hb hby at_104)
    have V347 : Arv Z h347 b343 k343 .boolean 2 [(.int 0), (.int 0)] (.int 0) := by
     have q := Arv.set Ar346 Aq346 As346 An346 Ah346 Ag346 (fits_nar_bool _) W347 1 rfl (Nat.le_of_ble_eq_true rfl)
     rw [show nar .boolean 0 = 0 from by decide] at q; exact q
    have K347 : Keep h0 h347 [] := K345.wr W347 (Or.inr sz343)
    have O347 : Old Z n0 h347 := O345.wr W347 ge343
    have N347 := Fr.snoc X347 N345 ge343
    refine Go.st st347 ?_
    show Go p.tables e below Kx _ (mkF m 105 _ [])
    refine s_iload (pc' := 107) X347.here hx (hb hby at_105) rfl rfl ?_
    refine s_iconst (pc' := 108) (v := 3) X347.here hx (hb hby at_107) rfl rfl ?_
    refine s_icmpY (pc' := 117) X347.here hx (hb hby at_108) (tlt (by decide)).1 (by decide) (by decide) ?_
    refine s_iload (pc' := 119) X347.here hx (hb hby at_117) rfl rfl ?_
    refine s_iconst (pc' := 120) (v := 4) X347.here hx (hb hby at_119) rfl rfl ?_
    refine s_icmpY (pc' := 129) X347.here hx (hb hby at_120) (tlt (by decide)).1 (by decide) (by decide) ?_
    obtain ⟨T348, h348, X348, e348, E348, A348, D348, -, st348⟩ := newO X347 hx hZ hown (hv hw 2 rfl) (hv hw 3 rfl) (hv hw 4 rfl) e347 (g := (mkF m 129 #[vi p0, vi p1, vi p2, vi p3, vi 2, vi rc, vi 0, vi 0, vi x3, vi x4, vr b343, un, un, un, un, un, un, un, un] [])) rfl (hb hby at_129) (by decide) (by decide)
    obtain ⟨b348, g348⟩ : ∃ z, z = h347.size := ⟨_, rfl⟩
    rw [← g348] at A348 D348 st348
    have sz348 : h0.size ≤ b348 := Nat.le_trans K347.1 (Nat.le_of_eq g348.symm)
    have ge348 : n0 ≤ b348 := Nat.le_trans (O347.1 ▸ O347.2.1) (Nat.le_of_eq g348.symm)
    have K348 : Keep h0 h348 [] := K347.ext E348
    have O348 : Old Z n0 h348 := O347.ext E348
    have F348_relevantWithin : Fld Z h348 b348 "com/example/kingfisher/kingfisher/eval/TopicRanking" "relevantWithin" "[I" .null := D348 (Or.inr (hv hw 13 rfl)) (ty := (.array .int)) (by decide)
    have F348_relevantCount : Fld Z h348 b348 "com/example/kingfisher/kingfisher/eval/TopicRanking" "relevantCount" "I" (.int 0) := D348 (Or.inr (hv hw 15 rfl)) (ty := .int) (by decide)
    refine Go.st st348 ?_
    show Go p.tables e below Kx _ (mkF m 132 _ [(.ref b348)])
    refine s_dup (pc' := 133) X348.here hx (hb hby at_132) rfl rfl ?_
    refine s_aload (pc' := 135) X348.here hx (hb hby at_133) rfl rfl rfl ?_
    refine s_iload (pc' := 137) X348.here hx (hb hby at_135) rfl rfl ?_
    have f349 : Arv Z h348 b343 k343 .boolean 2 [(.int 0), (.int 0)] (.int 0) := (V347.ext E348)
    obtain ⟨_, _, ⟨T350, L350, k350, n350⟩, -, X350, ⟨Lc350, hQ350, l350, y350, z350⟩, st350⟩ := X348.specialBack hx (y := yN0) rfl hown (mvT hZ (hv hw 5 rfl)) (mvT hZ (hv hw 6 rfl)) (mvT hZ (hv hw 7 rfl)) (by decide) (backOf (W := 1) (rmN2 l Z a0 hw [] b348 b343 k343 0 0 0 0 rc h348 n0 O348 ge348 (Nat.ne_of_lt (Nat.lt_of_lt_of_le (Nat.lt_of_lt_of_le A343.lt (Nat.le_trans (Nat.le_of_eq W345.size.symm) (Nat.le_of_eq W347.size.symm))) (Nat.le_of_eq g348.symm))) A348 F348_relevantWithin F348_relevantCount f349 (by decide) (by decide)) hZ (hv hw 7 rfl) (hv hw 4 rfl) (by decide) (by decide)) (g := (mkF m 137 #[vi p0, vi p1, vi p2, vi p3, vi 2, vi rc, vi 0, vi 0, vi x3, vi x4, vr b343, un, un, un, un, un, un, un, un] [(.int rc), (.ref b343), (.ref b348), (.ref b348)])) rfl (by rw [hml]; rfl) (Steps.refl _) (a := b348) (argsL := [(.ref b343), (.int rc)]) (rest := [(.ref b348)]) (lenOf pd_2 rfl) rfl (by exact Nat.le_of_eq rfl) (hb hby at_137) (fun _ _ => ⟨rfl, e348, (by decide : 2 + 1 ≤ _), (by decide : 4 + 3 ≤ _)⟩)
    dsimp only [Pt.U, Pt.locs, Pt.cells, Pt.slots] at X350 l350 y350 z350 st350 hQ350
    rw [l350, y350, z350] at X350
    obtain ⟨rfl, Nq350, Kq350, q1_350, q2_350, t350, kt350, q3_350, q4_350⟩ := hQ350
    have N350 := Fr.app N347 Nq350
    have K350 : Keep h0 T350.heap [] := K348.trans Kq350 (allS (P := fun zz => zz ∈ [] ∨ h0.size ≤ zz) (Or.inr sz348) all0)
    have O350 : Old Z n0 T350.heap := O348.keep Kq350 (allS ge348 all0)
    refine Go.tr st350 ?_
    show Go p.tables e below Kx _ (mkF m 140 _ [(.ref b348)])
    refine s_astore (pc' := 142) (Ls' := #[vi p0, vi p1, vi p2, vi p3, vi 2, vi rc, vi 0, vi 0, vi x3, vi x4, vr b343, vr b348, un, un, un, un, un, un, un]) X350.here hx (hb hby at_140) rfl rfl rfl ?_
    refine s_aload (pc' := 144) X350.here hx (hb hby at_142) rfl rfl rfl ?_
    refine s_iloadN (pc' := 145) X350.here hx (hb hby at_144) rfl rfl ?_
    obtain ⟨cq351, kq351, q351a, q351b, q351c⟩ := isOf hZ rfl q1_350
    obtain ⟨_, _, ⟨T351, L351, k351, n351⟩, -, X351, ⟨Lc351, hQ351, l351, y351, z351⟩, st351⟩ := X350.virtualBack hx (y := yN1) (z := yN1) hown (mvT hZ (hv hw 16 rfl)) (mvT hZ (hv hw 17 rfl)) (notFace_of_selects (args := #[]) (mvT hZ (hv hw 19 rfl))) (mvT hZ (hv hw 19 rfl)) (mvT hZ (hv hw 18 rfl)) (by decide) (backOf (W := 0) (rmA2 l Z a0 hw [] b348 t350 kt350 0 0 rc p2 T350.heap n0 O350 hrc q1_350 q3_350 q2_350 q4_350) hZ (hv hw 20 rfl) (hv hw 4 rfl) (by decide) (by decide)) q351a q351c (g := (mkF m 145 #[vi p0, vi p1, vi p2, vi p3, vi 2, vi rc, vi 0, vi 0, vi x3, vi x4, vr b343, vr b348, un, un, un, un, un, un, un] [(.int p2), (.ref b348)])) rfl (by rw [hml]; rfl) (Steps.refl _) (argsL := [(.int p2)]) (rest := []) (lenOf pd_3 rfl) rfl (by exact Nat.le_of_eq rfl) (hb hby at_145) (fun _ _ => ⟨rfl, rfl, (by decide : 3 + 0 ≤ _), (by decide : 7 + 0 ≤ _)⟩)
    dsimp only [Pt.U, Pt.locs, Pt.cells, Pt.slots] at X351 l351 y351 z351 st351 hQ351
    rw [l351, y351, z351] at X351
    obtain ⟨rfl, Nq351, hE351⟩ := hQ351
    have N351 := Fr.app N350 Nq351
    refine Go.tr st351 ?_
    show Go p.tables e below Kx _ (mkF m 148 _ [(.double (mst (mst FP.dconst0 0 1 (needd p2 rc)) 0 2 (needd p2 rc)))])
    refine s_dstore (pc' := 150) (Ls' := #[vi p0, vi p1, vi p2, vi p3, vi 2, vi rc, vi 0, vi 0, vi x3, vi x4, vr b343, vr b348, .val (.double (mst (mst FP.dconst0 0 1 (needd p2 rc)) 0 2 (needd p2 rc))), sn, un, un, un, un, un]) X351.here hx (hb hby at_148) rfl  rfl ?_
    refine s_iloadN (pc' := 151) X351.here hx (hb hby at_150) rfl rfl ?_
    refine s_i2d (pc' := 152) X351.here hx (hb hby at_151) rfl rfl ?_
    refine Go.st (X351.ldc2DoubleC hx hown (mvT hZ (hv hw 28 rfl)) (g := (mkF m 152 #[vi p0, vi p1, vi p2, vi p3, vi 2, vi rc, vi 0, vi 0, vi x3, vi x4, vr b343, vr b348, .val (.double (mst (mst FP.dconst0 0 1 (needd p2 rc)) 0 2 (needd p2 rc))), sn, un, un, un, un, un] [(.double (FP.i2d p2))])) rfl (hb hby at_152)) ?_
    show Go p.tables e below Kx _ (mkF m 155 _ [(.double (4621819117588971520 : UInt64)), (.double (FP.i2d p2))])
    refine s_ddiv (pc' := 156) X351.here hx (hb hby at_155) rfl (nn1 p2) rfl ?_
    refine s_iload (pc' := 158) X351.here hx (hb hby at_156) rfl rfl ?_
    refine s_i2d (pc' := 159) X351.here hx (hb hby at_158) rfl rfl ?_
    refine s_dmul (pc' := 160) X351.here hx (hb hby at_159) rfl (nn2 p2 hrc) rfl ?_
    refine Go.st (X351.ldc2DoubleC hx hown (mvT hZ (hv hw 29 rfl)) (g := (mkF m 160 #[vi p0, vi p1, vi p2, vi p3, vi 2, vi rc, vi 0, vi 0, vi x3, vi x4, vr b343, vr b348, .val (.double (mst (mst FP.dconst0 0 1 (needd p2 rc)) 0 2 (needd p2 rc))), sn, un, un, un, un, un] [(.double (FP.dmul (FP.ddiv (FP.i2d p2) (4621819117588971520 : UInt64)) (FP.i2d rc)))])) rfl (hb hby at_160)) ?_
    show Go p.tables e below Kx _ (mkF m 163 _ [(.double (4606281698874543309 : UInt64)), (.double (FP.dmul (FP.ddiv (FP.i2d p2) (4621819117588971520 : UInt64)) (FP.i2d rc)))])
    refine s_dadd (pc' := 164) X351.here hx (hb hby at_163) rfl (nn3 p2 hrc) rfl ?_
    refine s_d2l (pc' := 165) (z := needd p2 rc) X351.here hx (hb hby at_164) rfl rfl ?_
    show Go p.tables e below Kx _ (mkF m 165 _ [(.long (needd p2 rc))])
    generalize (needd p2 rc) = nd
    generalize hmm : (mst (mst FP.dconst0 0 1 nd) 0 2 nd) = mm
    show Go p.tables e below Kx _ (mkF m 165 _ [(.long nd)])
    refine s_lstore (pc' := 167) (Ls' := #[vi p0, vi p1, vi p2, vi p3, vi 2, vi rc, vi 0, vi 0, vi x3, vi x4, vr b343, vr b348, .val (.double mm), sn, .val (.long nd), sn, un, un, un]) X351.here hx (hb hby at_165) rfl  rfl ?_
    refine s_dconst0 (pc' := 168) X351.here hx (hb hby at_167) rfl rfl ?_
    refine s_dstore (pc' := 170) (Ls' := #[vi p0, vi p1, vi p2, vi p3, vi 2, vi rc, vi 0, vi 0, vi x3, vi x4, vr b343, vr b348, .val (.double mm), sn, .val (.long nd), sn, .val (.double FP.dconst0), sn, un]) X351.here hx (hb hby at_168) rfl  rfl ?_
    refine s_iconst (pc' := 171) (v := 0) X351.here hx (hb hby at_170) rfl rfl ?_
    refine s_istore (pc' := 173) (Ls' := #[vi p0, vi p1, vi p2, vi p3, vi 2, vi rc, vi 0, vi 0, vi x3, vi x4, vr b343, vr b348, .val (.double mm), sn, .val (.long nd), sn, .val (.double FP.dconst0), sn, vi 0]) X351.here hx (hb hby at_171) rfl  rfl ?_
    refine s_iload (pc' := 175) X351.here hx (hb hby at_173) rfl rfl ?_
    refine s_iconst (pc' := 176) (v := 1) X351.here hx (hb hby at_175) rfl rfl ?_
    refine s_icmpN (pc' := 179) X351.here hx (hb hby at_176) rfl (flt (by decide)).1 ?_
    refine s_iload (pc' := 181) X351.here hx (hb hby at_179) rfl rfl ?_
    refine s_ifY (pc' := 202) X351.here hx (hb hby at_181) ((if0 _ _).trans (teq (by decide)).1) (by decide) (by decide) ?_
    refine s_iload (pc' := 204) X351.here hx (hb hby at_202) rfl rfl ?_
    refine s_iconst (pc' := 205) (v := 2) X351.here hx (hb hby at_204) rfl rfl ?_
    refine s_icmpN (pc' := 208) X351.here hx (hb hby at_205) rfl (flt (by decide)).1 ?_
    refine s_iload (pc' := 210) X351.here hx (hb hby at_208) rfl rfl ?_
    refine s_ifY (pc' := 231) X351.here hx (hb hby at_210) ((if0 _ _).trans (teq (by decide)).1) (by decide) (by decide) ?_
    refine s_iload (pc' := 233) X351.here hx (hb hby at_231) rfl rfl ?_
    refine s_iconst (pc' := 234) (v := 3) X351.here hx (hb hby at_233) rfl rfl ?_
    refine s_icmpY (pc' := 260) X351.here hx (hb hby at_234) (tlt (by decide)).1 (by decide) (by decide) ?_
    refine s_iload (pc' := 262) X351.here hx (hb hby at_260) rfl rfl ?_
    refine s_iconst (pc' := 263) (v := 4) X351.here hx (hb hby at_262) rfl rfl ?_
    refine s_icmpY (pc' := 289) X351.here hx (hb hby at_263) (tlt (by decide)).1 (by decide) (by decide) ?_
    refine s_dload (pc' := 291) X351.here hx (hb hby at_289) rfl rfl ?_
    refine s_dload (pc' := 293) X351.here hx (hb hby at_291) rfl rfl ?_
    refine s_dcmpl (pc' := 294) (z := 0) X351.here hx (hb hby at_293) rfl (by rw [← hmm]; exact fin_200 nd) ?_
    refine s_ifN (pc' := 297) X351.here hx (hb hby at_294) rfl ((if0 _ _).trans (teq (by decide)).2) ?_
    refine s_iconst (pc' := 298) (v := 1) X351.here hx (hb hby at_297) rfl rfl ?_
    refine s_goto (pc' := 302) X351.here hx (hb hby at_298) (by decide) (by decide) ?_
    obtain ⟨fs, hr, hrun, hended, hW, hsame⟩ := X351.leave (v := (some (.int 1))) (fun h => by rw [Bd.returns] at h; cases h)
    refine Go.fin (retN X351 hx (t := .boolean) Bd.returns (by simp) (hb hby at_302) hr) (hF _ _ hrun hended ⟨_, _, rfl, ?_, ⟨_, rfl⟩, hW, hsame.mono (by decide) (by decide)⟩)
    ·
     show QL Z p0 p1 p2 p3 h0 n0 ((some (.int 1)) : Option Value) T351.heap _
     rw [hE351]
     exact ⟨rfl, N351⟩
   ·
    show Go p.tables e below Kx _ (mkF m 75 _ [])
    refine s_iload (pc' := 77) X0.here hx (hb hby at_75) rfl rfl ?_
    obtain ⟨T352, h352, k352, X352, e352, E352, A352, st352⟩ := newP X0 hx hZ (hv hw 1 rfl) e0 (g := (mkF m 77 #[vi p0, vi p1, vi p2, vi p3, vi 2, vi rc, vi 0, vi 1, vi x3, vi x4, un, un, un, un, un, un, un, un, un] [(.int 2)])) rfl (hb hby at_77) rfl (by decide) (cap := 2) (by decide) (by decide) (by decide) (by decide)
    obtain ⟨b352, g352⟩ : ∃ z, z = h0.size := ⟨_, rfl⟩
    rw [← g352] at A352 st352
    have sz352 : h0.size ≤ b352 := Nat.le_trans K0.1 (Nat.le_of_eq g352.symm)
    have ge352 : n0 ≤ b352 := Nat.le_trans (X00.1 ▸ X00.2.1) (Nat.le_of_eq g352.symm)
    have K352 : Keep h0 h352 [] := K0.ext E352
    have O352 : Old Z n0 h352 := X00.ext E352
    have V352 : Arv Z h352 b352 k352 .boolean 2 [(.int 0), (.int 0)] (.int 0) := (Arv.new A352 (by decide)).pad (pad_rep [] (.int 0) 2)
    refine Go.st st352 ?_
    show Go p.tables e below Kx _ (mkF m 79 _ [(.ref b352)])
    refine s_astore (pc' := 81) (Ls' := #[vi p0, vi p1, vi p2, vi p3, vi 2, vi rc, vi 0, vi 1, vi x3, vi x4, vr b352, un, un, un, un, un, un, un, un]) X352.here hx (hb hby at_79) rfl rfl rfl ?_
    refine s_iload (pc' := 83) X352.here hx (hb hby at_81) rfl rfl ?_
    refine s_iconst (pc' := 84) (v := 1) X352.here hx (hb hby at_83) rfl rfl ?_
    refine s_icmpN (pc' := 87) X352.here hx (hb hby at_84) rfl (flt (by decide)).1 ?_
    refine s_aload (pc' := 89) X352.here hx (hb hby at_87) rfl rfl rfl ?_
    refine s_iconst (pc' := 90) (v := 0) X352.here hx (hb hby at_89) rfl rfl ?_
    refine s_iload (pc' := 92) X352.here hx (hb hby at_90) rfl rfl ?_
    obtain ⟨cl353, Ar353, Aq353, As353, An353, Ah353, Ag353⟩ := id V352
    have in354 := inb_of (j := 0) As353 (by decide)
    obtain ⟨T354, h354, X354, e354, W354, st354⟩ := stZ X352 hx hZ e352 Ar353 (j := 0) in354 (g := (mkF m 92 #[vi p0, vi p1, vi p2, vi p3, vi 2, vi rc, vi 0, vi 1, vi x3, vi x4, vr b352, un, un, un, un, un, un, un, un] [(.int 0), (.int 0), (.ref b352)])) rfl rfl (hb hby at_92)
    have V354 : Arv Z h354 b352 k352 .boolean 2 [(.int 0), (.int 0)] (.int 0) := by
     have q := Arv.set Ar353 Aq353 As353 An353 Ah353 Ag353 (fits_nar_bool _) W354 0 rfl (Nat.le_of_ble_eq_true rfl)
     rw [show nar .boolean 0 = 0 from by decide] at q; exact q
    have K354 : Keep h0 h354 [] := K352.wr W354 (Or.inr sz352)
    have O354 : Old Z n0 h354 := O352.wr W354 ge352
    have N354 := Fr.snoc X354 N0 ge352
    refine Go.st st354 ?_
    show Go p.tables e below Kx _ (mkF m 93 _ [])
    refine s_iload (pc' := 95) X354.here hx (hb hby at_93) rfl rfl ?_
    refine s_iconst (pc' := 96) (v := 2) X354.here hx (hb hby at_95) rfl rfl ?_
    refine s_icmpN (pc' := 99) X354.here hx (hb hby at_96) rfl (flt (by decide)).1 ?_
    refine s_aload (pc' := 101) X354.here hx (hb hby at_99) rfl rfl rfl ?_
    refine s_iconst (pc' := 102) (v := 1) X354.here hx (hb hby at_101) rfl rfl ?_
    refine s_iload (pc' := 104) X354.here hx (hb hby at_102) rfl rfl ?_
    obtain ⟨cl355, Ar355, Aq355, As355, An355, Ah355, Ag355⟩ := id V354
    have in356 := inb_of (j := 1) As355 (by decide)
    obtain ⟨T356, h356, X356, e356, W356, st356⟩ := stZ X354 hx hZ e354 Ar355 (j := 1) in356 (g := (mkF m 104 #[vi p0, vi p1, vi p2, vi p3, vi 2, vi rc, vi 0, vi 1, vi x3, vi x4, vr b352, un, un, un, un, un, un, un, un] [(.int 1), (.int 1), (.ref b352)])) rfl rfl (hb hby at_104)
    have V356 : Arv Z h356 b352 k352 .boolean 2 [(.int 0), (.int 1)] (.int 0) := by
     have q := Arv.set Ar355 Aq355 As355 An355 Ah355 Ag355 (fits_nar_bool _) W356 1 rfl (Nat.le_of_ble_eq_true rfl)
     rw [show nar .boolean 1 = 1 from by decide] at q; exact q
    have K356 : Keep h0 h356 [] := K354.wr W356 (Or.inr sz352)
    have O356 : Old Z n0 h356 := O354.wr W356 ge352
    have N356 := Fr.snoc X356 N354 ge352
    refine Go.st st356 ?_
    show Go p.tables e below Kx _ (mkF m 105 _ [])
    refine s_iload (pc' := 107) X356.here hx (hb hby at_105) rfl rfl ?_
    refine s_iconst (pc' := 108) (v := 3) X356.here hx (hb hby at_107) rfl rfl ?_
    refine s_icmpY (pc' := 117) X356.here hx (hb hby at_108) (tlt (by decide)).1 (by decide) (by decide) ?_
    refine s_iload (pc' := 119) X356.here hx (hb hby at_117) rfl rfl ?_
    refine s_iconst (pc' := 120) (v := 4) X356.here hx (hb hby at_119) rfl rfl ?_
    refine s_icmpY (pc' := 129) X356.here hx (hb hby at_120) (tlt (by decide)).1 (by decide) (by decide) ?_
    obtain ⟨T357, h357, X357, e357, E357, A357, D357, -, st357⟩ := newO X356 hx hZ hown (hv hw 2 rfl) (hv hw 3 rfl) (hv hw 4 rfl) e356 (g := (mkF m 129 #[vi p0, vi p1, vi p2, vi p3, vi 2, vi rc, vi 0, vi 1, vi x3, vi x4, vr b352, un, un, un, un, un, un, un, un] [])) rfl (hb hby at_129) (by decide) (by decide)
    obtain ⟨b357, g357⟩ : ∃ z, z = h356.size := ⟨_, rfl⟩
    rw [← g357] at A357 D357 st357
    have sz357 : h0.size ≤ b357 := Nat.le_trans K356.1 (Nat.le_of_eq g357.symm)
    have ge357 : n0 ≤ b357 := Nat.le_trans (O356.1 ▸ O356.2.1) (Nat.le_of_eq g357.symm)
    have K357 : Keep h0 h357 [] := K356.ext E357
    have O357 : Old Z n0 h357 := O356.ext E357
    have F357_relevantWithin : Fld Z h357 b357 "com/example/kingfisher/kingfisher/eval/TopicRanking" "relevantWithin" "[I" .null := D357 (Or.inr (hv hw 13 rfl)) (ty := (.array .int)) (by decide)
    have F357_relevantCount : Fld Z h357 b357 "com/example/kingfisher/kingfisher/eval/TopicRanking" "relevantCount" "I" (.int 0) := D357 (Or.inr (hv hw 15 rfl)) (ty := .int) (by decide)
    refine Go.st st357 ?_
    show Go p.tables e below Kx _ (mkF m 132 _ [(.ref b357)])
    refine s_dup (pc' := 133) X357.here hx (hb hby at_132) rfl rfl ?_
    refine s_aload (pc' := 135) X357.here hx (hb hby at_133) rfl rfl rfl ?_
    refine s_iload (pc' := 137) X357.here hx (hb hby at_135) rfl rfl ?_
    have f358 : Arv Z h357 b352 k352 .boolean 2 [(.int 0), (.int 1)] (.int 0) := (V356.ext E357)
    obtain ⟨_, _, ⟨T359, L359, k359, n359⟩, -, X359, ⟨Lc359, hQ359, l359, y359, z359⟩, st359⟩ := X357.specialBack hx (y := yN0) rfl hown (mvT hZ (hv hw 5 rfl)) (mvT hZ (hv hw 6 rfl)) (mvT hZ (hv hw 7 rfl)) (by decide) (backOf (W := 1) (rmN2 l Z a0 hw [] b357 b352 k352 0 1 0 1 rc h357 n0 O357 ge357 (Nat.ne_of_lt (Nat.lt_of_lt_of_le (Nat.lt_of_lt_of_le A352.lt (Nat.le_trans (Nat.le_of_eq W354.size.symm) (Nat.le_of_eq W356.size.symm))) (Nat.le_of_eq g357.symm))) A357 F357_relevantWithin F357_relevantCount f358 (by decide) (by decide)) hZ (hv hw 7 rfl) (hv hw 4 rfl) (by decide) (by decide)) (g := (mkF m 137 #[vi p0, vi p1, vi p2, vi p3, vi 2, vi rc, vi 0, vi 1, vi x3, vi x4, vr b352, un, un, un, un, un, un, un, un] [(.int rc), (.ref b352), (.ref b357), (.ref b357)])) rfl (by rw [hml]; rfl) (Steps.refl _) (a := b357) (argsL := [(.ref b352), (.int rc)]) (rest := [(.ref b357)]) (lenOf pd_2 rfl) rfl (by exact Nat.le_of_eq rfl) (hb hby at_137) (fun _ _ => ⟨rfl, e357, (by decide : 2 + 1 ≤ _), (by decide : 4 + 3 ≤ _)⟩)
    dsimp only [Pt.U, Pt.locs, Pt.cells, Pt.slots] at X359 l359 y359 z359 st359 hQ359
    rw [l359, y359, z359] at X359
    obtain ⟨rfl, Nq359, Kq359, q1_359, q2_359, t359, kt359, q3_359, q4_359⟩ := hQ359
    have N359 := Fr.app N356 Nq359
    have K359 : Keep h0 T359.heap [] := K357.trans Kq359 (allS (P := fun zz => zz ∈ [] ∨ h0.size ≤ zz) (Or.inr sz357) all0)
    have O359 : Old Z n0 T359.heap := O357.keep Kq359 (allS ge357 all0)
    refine Go.tr st359 ?_
    show Go p.tables e below Kx _ (mkF m 140 _ [(.ref b357)])
    refine s_astore (pc' := 142) (Ls' := #[vi p0, vi p1, vi p2, vi p3, vi 2, vi rc, vi 0, vi 1, vi x3, vi x4, vr b352, vr b357, un, un, un, un, un, un, un]) X359.here hx (hb hby at_140) rfl rfl rfl ?_
    refine s_aload (pc' := 144) X359.here hx (hb hby at_142) rfl rfl rfl ?_
    refine s_iloadN (pc' := 145) X359.here hx (hb hby at_144) rfl rfl ?_
    obtain ⟨cq360, kq360, q360a, q360b, q360c⟩ := isOf hZ rfl q1_359
    obtain ⟨_, _, ⟨T360, L360, k360, n360⟩, -, X360, ⟨Lc360, hQ360, l360, y360, z360⟩, st360⟩ := X359.virtualBack hx (y := yN1) (z := yN1) hown (mvT hZ (hv hw 16 rfl)) (mvT hZ (hv hw 17 rfl)) (notFace_of_selects (args := #[]) (mvT hZ (hv hw 19 rfl))) (mvT hZ (hv hw 19 rfl)) (mvT hZ (hv hw 18 rfl)) (by decide) (backOf (W := 0) (rmA2 l Z a0 hw [] b357 t359 kt359 0 1 rc p2 T359.heap n0 O359 hrc q1_359 q3_359 q2_359 q4_359) hZ (hv hw 20 rfl) (hv hw 4 rfl) (by decide) (by decide)) q360a q360c (g := (mkF m 145 #[vi p0, vi p1, vi p2, vi p3, vi 2, vi rc, vi 0, vi 1, vi x3, vi x4, vr b352, vr b357, un, un, un, un, un, un, un] [(.int p2), (.ref b357)])) rfl (by rw [hml]; rfl) (Steps.refl _) (argsL := [(.int p2)]) (rest := []) (lenOf pd_3 rfl) rfl (by exact Nat.le_of_eq rfl) (hb hby at_145) (fun _ _ => ⟨rfl, rfl, (by decide : 3 + 0 ≤ _), (by decide : 7 + 0 ≤ _)⟩)
    dsimp only [Pt.U, Pt.locs, Pt.cells, Pt.slots] at X360 l360 y360 z360 st360 hQ360
    rw [l360, y360, z360] at X360
    obtain ⟨rfl, Nq360, hE360⟩ := hQ360
    have N360 := Fr.app N359 Nq360
    refine Go.tr st360 ?_
    show Go p.tables e below Kx _ (mkF m 148 _ [(.double (mst (mst FP.dconst0 0 1 (needd p2 rc)) 1 2 (needd p2 rc)))])
    refine s_dstore (pc' := 150) (Ls' := #[vi p0, vi p1, vi p2, vi p3, vi 2, vi rc, vi 0, vi 1, vi x3, vi x4, vr b352, vr b357, .val (.double (mst (mst FP.dconst0 0 1 (needd p2 rc)) 1 2 (needd p2 rc))), sn, un, un, un, un, un]) X360.here hx (hb hby at_148) rfl  rfl ?_
    refine s_iloadN (pc' := 151) X360.here hx (hb hby at_150) rfl rfl ?_
    refine s_i2d (pc' := 152) X360.here hx (hb hby at_151) rfl rfl ?_
    refine Go.st (X360.ldc2DoubleC hx hown (mvT hZ (hv hw 28 rfl)) (g := (mkF m 152 #[vi p0, vi p1, vi p2, vi p3, vi 2, vi rc, vi 0, vi 1, vi x3, vi x4, vr b352, vr b357, .val (.double (mst (mst FP.dconst0 0 1 (needd p2 rc)) 1 2 (needd p2 rc))), sn, un, un, un, un, un] [(.double (FP.i2d p2))])) rfl (hb hby at_152)) ?_
    show Go p.tables e below Kx _ (mkF m 155 _ [(.double (4621819117588971520 : UInt64)), (.double (FP.i2d p2))])
    refine s_ddiv (pc' := 156) X360.here hx (hb hby at_155) rfl (nn1 p2) rfl ?_
    refine s_iload (pc' := 158) X360.here hx (hb hby at_156) rfl rfl ?_
    refine s_i2d (pc' := 159) X360.here hx (hb hby at_158) rfl rfl ?_
    refine s_dmul (pc' := 160) X360.here hx (hb hby at_159) rfl (nn2 p2 hrc) rfl ?_
    refine Go.st (X360.ldc2DoubleC hx hown (mvT hZ (hv hw 29 rfl)) (g := (mkF m 160 #[vi p0, vi p1, vi p2, vi p3, vi 2, vi rc, vi 0, vi 1, vi x3, vi x4, vr b352, vr b357, .val (.double (mst (mst FP.dconst0 0 1 (needd p2 rc)) 1 2 (needd p2 rc))), sn, un, un, un, un, un] [(.double (FP.dmul (FP.ddiv (FP.i2d p2) (4621819117588971520 : UInt64)) (FP.i2d rc)))])) rfl (hb hby at_160)) ?_
    show Go p.tables e below Kx _ (mkF m 163 _ [(.double (4606281698874543309 : UInt64)), (.double (FP.dmul (FP.ddiv (FP.i2d p2) (4621819117588971520 : UInt64)) (FP.i2d rc)))])
    refine s_dadd (pc' := 164) X360.here hx (hb hby at_163) rfl (nn3 p2 hrc) rfl ?_
    refine s_d2l (pc' := 165) (z := needd p2 rc) X360.here hx (hb hby at_164) rfl rfl ?_
    show Go p.tables e below Kx _ (mkF m 165 _ [(.long (needd p2 rc))])
    generalize (needd p2 rc) = nd
    generalize hmm : (mst (mst FP.dconst0 0 1 nd) 1 2 nd) = mm
    show Go p.tables e below Kx _ (mkF m 165 _ [(.long nd)])
    refine s_lstore (pc' := 167) (Ls' := #[vi p0, vi p1, vi p2, vi p3, vi 2, vi rc, vi 0, vi 1, vi x3, vi x4, vr b352, vr b357, .val (.double mm), sn, .val (.long nd), sn, un, un, un]) X360.here hx (hb hby at_165) rfl  rfl ?_
    refine s_dconst0 (pc' := 168) X360.here hx (hb hby at_167) rfl rfl ?_
    refine s_dstore (pc' := 170) (Ls' := #[vi p0, vi p1, vi p2, vi p3, vi 2, vi rc, vi 0, vi 1, vi x3, vi x4, vr b352, vr b357, .val (.double mm), sn, .val (.long nd), sn, .val (.double FP.dconst0), sn, un]) X360.here hx (hb hby at_168) rfl  rfl ?_
    refine s_iconst (pc' := 171) (v := 0) X360.here hx (hb hby at_170) rfl rfl ?_
    refine s_istore (pc' := 173) (Ls' := #[vi p0, vi p1, vi p2, vi p3, vi 2, vi rc, vi 0, vi 1, vi x3, vi x4, vr b352, vr b357, .val (.double mm), sn, .val (.long nd), sn, .val (.double FP.dconst0), sn, vi 0]) X360.here hx (hb hby at_171) rfl  rfl ?_
    refine s_iload (pc' := 175) X360.here hx (hb hby at_173) rfl rfl ?_
    refine s_iconst (pc' := 176) (v := 1) X360.here hx (hb hby at_175) rfl rfl ?_
    refine s_icmpN (pc' := 179) X360.here hx (hb hby at_176) rfl (flt (by decide)).1 ?_
    refine s_iload (pc' := 181) X360.here hx (hb hby at_179) rfl rfl ?_
    refine s_ifY (pc' := 202) X360.here hx (hb hby at_181) ((if0 _ _).trans (teq (by decide)).1) (by decide) (by decide) ?_
    refine s_iload (pc' := 204) X360.here hx (hb hby at_202) rfl rfl ?_
    refine s_iconst (pc' := 205) (v := 2) X360.here hx (hb hby at_204) rfl rfl ?_
    refine s_icmpN (pc' := 208) X360.here hx (hb hby at_205) rfl (flt (by decide)).1 ?_
    refine s_iload (pc' := 210) X360.here hx (hb hby at_208) rfl rfl ?_
    refine s_ifN (pc' := 213) X360.here hx (hb hby at_210) rfl ((if0 _ _).trans (feq (by decide)).1) ?_
    refine s_iload (pc' := 215) X360.here hx (hb hby at_213) rfl rfl ?_
    refine s_iconst (pc' := 216) (v := 1) X360.here hx (hb hby at_215) rfl rfl ?_
    refine s_iadd (pc' := 217) (z := 1) X360.here hx (hb hby at_216) rfl (by decide) ?_
    refine s_istore (pc' := 219) (Ls' := #[vi p0, vi p1, vi p2, vi p3, vi 2, vi rc, vi 0, vi 1, vi x3, vi x4, vr b352, vr b357, .val (.double mm), sn, .val (.long nd), sn, .val (.double FP.dconst0), sn, vi 1]) X360.here hx (hb hby at_217) rfl  rfl ?_
    refine s_dload (pc' := 221) X360.here hx (hb hby at_219) rfl rfl ?_
    refine s_iload (pc' := 223) X360.here hx (hb hby at_221) rfl rfl ?_
    refine s_iconst (pc' := 224) (v := 2) X360.here hx (hb hby at_223) rfl rfl ?_
    refine s_lload (pc' := 226) X360.here hx (hb hby at_224) rfl rfl ?_
    obtain ⟨_, _, ⟨T361, L361, k361, n361⟩, -, X361, ⟨Lc361, hQ361, l361, y361, z361⟩, st361⟩ := Jvm.LawKit.callS X360 hx (y := yN3) hown (mvT hZ (hv hw 30 rfl)) (mvT hZ (hv hw 31 rfl)) (mvT hZ (hv hw 32 rfl)) (mvT hZ (hv hw 33 rfl)) (by decide) (backOf (W := 0) (rmB l Z a0 hw [] FP.dconst0 1 2 nd T359.heap n0 O359 (by decide)) hZ (hv hw 33 rfl) (hv hw 32 rfl) (by decide) (by decide)) (g := (mkF m 226 #[vi p0, vi p1, vi p2, vi p3, vi 2, vi rc, vi 0, vi 1, vi x3, vi x4, vr b352, vr b357, .val (.double mm), sn, .val (.long nd), sn, .val (.double FP.dconst0), sn, vi 1] [(.long nd), (.int 2), (.int 1), (.double FP.dconst0)])) rfl (by rw [hml]; rfl) (argsL := [(.double FP.dconst0), (.int 1), (.int 2), (.long nd)]) (rest := []) (lenOf pd_4 rfl) rfl (by exact Nat.le_of_eq rfl) (hb hby at_226) (fun _ _ => ⟨rfl, hE360, (by decide : 3 + 0 ≤ _), (by decide : 7 + 0 ≤ _)⟩)
    dsimp only [Pt.U, Pt.locs, Pt.cells, Pt.slots] at X361 l361 y361 z361 st361 hQ361
    rw [l361, y361, z361] at X361
    obtain ⟨rfl, Nq361, hE361⟩ := hQ361
    have N361 := Fr.app N360 Nq361
    refine Go.st st361 ?_
    show Go p.tables e below Kx _ (mkF m 229 _ [(.double (bst FP.dconst0 1 2 nd))])
    refine s_dstore (pc' := 231) (Ls' := #[vi p0, vi p1, vi p2, vi p3, vi 2, vi rc, vi 0, vi 1, vi x3, vi x4, vr b352, vr b357, .val (.double mm), sn, .val (.long nd), sn, .val (.double (bst FP.dconst0 1 2 nd)), sn, vi 1]) X361.here hx (hb hby at_229) rfl  rfl ?_
    refine s_iload (pc' := 233) X361.here hx (hb hby at_231) rfl rfl ?_
    refine s_iconst (pc' := 234) (v := 3) X361.here hx (hb hby at_233) rfl rfl ?_
    refine s_icmpY (pc' := 260) X361.here hx (hb hby at_234) (tlt (by decide)).1 (by decide) (by decide) ?_
    refine s_iload (pc' := 262) X361.here hx (hb hby at_260) rfl rfl ?_
    refine s_iconst (pc' := 263) (v := 4) X361.here hx (hb hby at_262) rfl rfl ?_
    refine s_icmpY (pc' := 289) X361.here hx (hb hby at_263) (tlt (by decide)).1 (by decide) (by decide) ?_
    refine s_dload (pc' := 291) X361.here hx (hb hby at_289) rfl rfl ?_
    refine s_dload (pc' := 293) X361.here hx (hb hby at_291) rfl rfl ?_
    refine s_dcmpl (pc' := 294) (z := 0) X361.here hx (hb hby at_293) rfl (by rw [← hmm]; exact fin_201 nd) ?_
    refine s_ifN (pc' := 297) X361.here hx (hb hby at_294) rfl ((if0 _ _).trans (teq (by decide)).2) ?_
    refine s_iconst (pc' := 298) (v := 1) X361.here hx (hb hby at_297) rfl rfl ?_
    refine s_goto (pc' := 302) X361.here hx (hb hby at_298) (by decide) (by decide) ?_
    obtain ⟨fs, hr, hrun, hended, hW, hsame⟩ := X361.leave (v := (some (.int 1))) (fun h => by rw [Bd.returns] at h; cases h)
    refine Go.fin (retN X361 hx (t := .boolean) Bd.returns (by simp) (hb hby at_302) hr) (hF _ _ hrun hended ⟨_, _, rfl, ?_, ⟨_, rfl⟩, hW, hsame.mono (by decide) (by decide)⟩)
    ·
     show QL Z p0 p1 p2 p3 h0 n0 ((some (.int 1)) : Option Value) T361.heap _
     rw [hE361]
     exact ⟨rfl, N361⟩
  ·
   rcases hx2 with rfl | rfl
   ·
    show Go p.tables e below Kx _ (mkF m 75 _ [])
    refine s_iload (pc' := 77) X0.here hx (hb hby at_75) rfl rfl ?_
    obtain ⟨T362, h362, k362, X362, e362, E362, A362, st362⟩ := newP X0 hx hZ (hv hw 1 rfl) e0 (g := (mkF m 77 #[vi p0, vi p1, vi p2, vi p3, vi 2, vi rc, vi 1, vi 0, vi x3, vi x4, un, un, un, un, un, un, un, un, un] [(.int 2)])) rfl (hb hby at_77) rfl (by decide) (cap := 2) (by decide) (by decide) (by decide) (by decide)
    obtain ⟨b362, g362⟩ : ∃ z, z = h0.size := ⟨_, rfl⟩
    rw [← g362] at A362 st362
    have sz362 : h0.size ≤ b362 := Nat.le_trans K0.1 (Nat.le_of_eq g362.symm)
    have ge362 : n0 ≤ b362 := Nat.le_trans (X00.1 ▸ X00.2.1) (Nat.le_of_eq g362.symm)
    have K362 : Keep h0 h362 [] := K0.ext E362
    have O362 : Old Z n0 h362 := X00.ext E362
    have V362 : Arv Z h362 b362 k362 .boolean 2 [(.int 0), (.int 0)] (.int 0) := (Arv.new A362 (by decide)).pad (pad_rep [] (.int 0) 2)
    refine Go.st st362 ?_
    show Go p.tables e below Kx _ (mkF m 79 _ [(.ref b362)])
    refine s_astore (pc' := 81) (Ls' := #[vi p0, vi p1, vi p2, vi p3, vi 2, vi rc, vi 1, vi 0, vi x3, vi x4, vr b362, un, un, un, un, un, un, un, un]) X362.here hx (hb hby at_79) rfl rfl rfl ?_
    refine s_iload (pc' := 83) X362.here hx (hb hby at_81) rfl rfl ?_
    refine s_iconst (pc' := 84) (v := 1) X362.here hx (hb hby at_83) rfl rfl ?_
    refine s_icmpN (pc' := 87) X362.here hx (hb hby at_84) rfl (flt (by decide)).1 ?_
    refine s_aload (pc' := 89) X362.here hx (hb hby at_87) rfl rfl rfl ?_
    refine s_iconst (pc' := 90) (v := 0) X362.here hx (hb hby at_89) rfl rfl ?_
    refine s_iload (pc' := 92) X362.here hx (hb hby at_90) rfl rfl ?_
    obtain ⟨cl363, Ar363, Aq363, As363, An363, Ah363, Ag363⟩ := id V362
    have in364 := inb_of (j := 0) As363 (by decide)
    obtain ⟨T364, h364, X364, e364, W364, st364⟩ := stZ X362 hx hZ e362 Ar363 (j := 0) in364 (g := (mkF m 92 #[vi p0, vi p1, vi p2, vi p3, vi 2, vi rc, vi 1, vi 0, vi x3, vi x4, vr b362, un, un, un, un, un, un, un, un] [(.int 1), (.int 0), (.ref b362)])) rfl rfl (hb hby at_92)
    have V364 : Arv Z h364 b362 k362 .boolean 2 [(.int 1), (.int 0)] (.int 0) := by
     have q := Arv.set Ar363 Aq363 As363 An363 Ah363 Ag363 (fits_nar_bool _) W364 0 rfl (Nat.le_of_ble_eq_true rfl)
     rw [show nar .boolean 1 = 1 from by decide] at q; exact q
    have K364 : Keep h0 h364 [] := K362.wr W364 (Or.inr sz362)
    have O364 : Old Z n0 h364 := O362.wr W364 ge362
    have N364 := Fr.snoc X364 N0 ge362
    refine Go.st st364 ?_
    show Go p.tables e below Kx _ (mkF m 93 _ [])
    refine s_iload (pc' := 95) X364.here hx (hb hby at_93) rfl rfl ?_
    refine s_iconst (pc' := 96) (v := 2) X364.here hx (hb hby at_95) rfl rfl ?_
    refine s_icmpN (pc' := 99) X364.here hx (hb hby at_96) rfl (flt (by decide)).1 ?_
    refine s_aload (pc' := 101) X364.here hx (hb hby at_99) rfl rfl rfl ?_
    refine s_iconst (pc' := 102) (v := 1) X364.here hx (hb hby at_101) rfl rfl ?_
    refine s_iload (pc' := 104) X364.here hx (hb hby at_102) rfl rfl ?_
    obtain ⟨cl365, Ar365, Aq365, As365, An365, Ah365, Ag365⟩ := id V364
    have in366 := inb_of (j := 1) As365 (by decide)
    obtain ⟨T366, h366, X366, e366, W366, st366⟩ := stZ X364 hx hZ e364 Ar365 (j := 1) in366 (g := (mkF m 104 #[vi p0, vi p1, vi p2, vi p3, vi 2, vi rc, vi 1, vi 0, vi x3, vi x4, vr b362, un, un, un, un, un, un, un, un] [(.int 0), (.int 1), (.ref b362)])) rfl rfl (hb hby at_104)
    have V366 : Arv Z h366 b362 k362 .boolean 2 [(.int 1), (.int 0)] (.int 0) := by
     have q := Arv.set Ar365 Aq365 As365 An365 Ah365 Ag365 (fits_nar_bool _) W366 1 rfl (Nat.le_of_ble_eq_true rfl)
     rw [show nar .boolean 0 = 0 from by decide] at q; exact q
    have K366 : Keep h0 h366 [] := K364.wr W366 (Or.inr sz362)
    have O366 : Old Z n0 h366 := O364.wr W366 ge362
    have N366 := Fr.snoc X366 N364 ge362
    refine Go.st st366 ?_
    show Go p.tables e below Kx _ (mkF m 105 _ [])
    refine s_iload (pc' := 107) X366.here hx (hb hby at_105) rfl rfl ?_
    refine s_iconst (pc' := 108) (v := 3) X366.here hx (hb hby at_107) rfl rfl ?_
    refine s_icmpY (pc' := 117) X366.here hx (hb hby at_108) (tlt (by decide)).1 (by decide) (by decide) ?_
    refine s_iload (pc' := 119) X366.here hx (hb hby at_117) rfl rfl ?_
    refine s_iconst (pc' := 120) (v := 4) X366.here hx (hb hby at_119) rfl rfl ?_
    refine s_icmpY (pc' := 129) X366.here hx (hb hby at_120) (tlt (by decide)).1 (by decide) (by decide) ?_
    obtain ⟨T367, h367, X367, e367, E367, A367, D367, -, st367⟩ := newO X366 hx hZ hown (hv hw 2 rfl) (hv hw 3 rfl) (hv hw 4 rfl) e366 (g := (mkF m 129 #[vi p0, vi p1, vi p2, vi p3, vi 2, vi rc, vi 1, vi 0, vi x3, vi x4, vr b362, un, un, un, un, un, un, un, un] [])) rfl (hb hby at_129) (by decide) (by decide)
    obtain ⟨b367, g367⟩ : ∃ z, z = h366.size := ⟨_, rfl⟩
    rw [← g367] at A367 D367 st367
    have sz367 : h0.size ≤ b367 := Nat.le_trans K366.1 (Nat.le_of_eq g367.symm)
    have ge367 : n0 ≤ b367 := Nat.le_trans (O366.1 ▸ O366.2.1) (Nat.le_of_eq g367.symm)
    have K367 : Keep h0 h367 [] := K366.ext E367
    have O367 : Old Z n0 h367 := O366.ext E367
    have F367_relevantWithin : Fld Z h367 b367 "com/example/kingfisher/kingfisher/eval/TopicRanking" "relevantWithin" "[I" .null := D367 (Or.inr (hv hw 13 rfl)) (ty := (.array .int)) (by decide)
    have F367_relevantCount : Fld Z h367 b367 "com/example/kingfisher/kingfisher/eval/TopicRanking" "relevantCount" "I" (.int 0) := D367 (Or.inr (hv hw 15 rfl)) (ty := .int) (by decide)
    refine Go.st st367 ?_
    show Go p.tables e below Kx _ (mkF m 132 _ [(.ref b367)])
    refine s_dup (pc' := 133) X367.here hx (hb hby at_132) rfl rfl ?_
    refine s_aload (pc' := 135) X367.here hx (hb hby at_133) rfl rfl rfl ?_
    refine s_iload (pc' := 137) X367.here hx (hb hby at_135) rfl rfl ?_
    have f368 : Arv Z h367 b362 k362 .boolean 2 [(.int 1), (.int 0)] (.int 0) := (V366.ext E367)
    obtain ⟨_, _, ⟨T369, L369, k369, n369⟩, -, X369, ⟨Lc369, hQ369, l369, y369, z369⟩, st369⟩ := X367.specialBack hx (y := yN0) rfl hown (mvT hZ (hv hw 5 rfl)) (mvT hZ (hv hw 6 rfl)) (mvT hZ (hv hw 7 rfl)) (by decide) (backOf (W := 1) (rmN2 l Z a0 hw [] b367 b362 k362 1 0 1 1 rc h367 n0 O367 ge367 (Nat.ne_of_lt (Nat.lt_of_lt_of_le (Nat.lt_of_lt_of_le A362.lt (Nat.le_trans (Nat.le_of_eq W364.size.symm) (Nat.le_of_eq W366.size.symm))) (Nat.le_of_eq g367.symm))) A367 F367_relevantWithin F367_relevantCount f368 (by decide) (by decide)) hZ (hv hw 7 rfl) (hv hw 4 rfl) (by decide) (by decide)) (g := (mkF m 137 #[vi p0, vi p1, vi p2, vi p3, vi 2, vi rc, vi 1, vi 0, vi x3, vi x4, vr b362, un, un, un, un, un, un, un, un] [(.int rc), (.ref b362), (.ref b367), (.ref b367)])) rfl (by rw [hml]; rfl) (Steps.refl _) (a := b367) (argsL := [(.ref b362), (.int rc)]) (rest := [(.ref b367)]) (lenOf pd_2 rfl) rfl (by exact Nat.le_of_eq rfl) (hb hby at_137) (fun _ _ => ⟨rfl, e367, (by decide : 2 + 1 ≤ _), (by decide : 4 + 3 ≤ _)⟩)
    dsimp only [Pt.U, Pt.locs, Pt.cells, Pt.slots] at X369 l369 y369 z369 st369 hQ369
    rw [l369, y369, z369] at X369
    obtain ⟨rfl, Nq369, Kq369, q1_369, q2_369, t369, kt369, q3_369, q4_369⟩ := hQ369
    have N369 := Fr.app N366 Nq369
    have K369 : Keep h0 T369.heap [] := K367.trans Kq369 (allS (P := fun zz => zz ∈ [] ∨ h0.size ≤ zz) (Or.inr sz367) all0)
    have O369 : Old Z n0 T369.heap := O367.keep Kq369 (allS ge367 all0)
    refine Go.tr st369 ?_
    show Go p.tables e below Kx _ (mkF m 140 _ [(.ref b367)])
    refine s_astore (pc' := 142) (Ls' := #[vi p0, vi p1, vi p2, vi p3, vi 2, vi rc, vi 1, vi 0, vi x3, vi x4, vr b362, vr b367, un, un, un, un, un, un, un]) X369.here hx (hb hby at_140) rfl rfl rfl ?_
    refine s_aload (pc' := 144) X369.here hx (hb hby at_142) rfl rfl rfl ?_
    refine s_iloadN (pc' := 145) X369.here hx (hb hby at_144) rfl rfl ?_
    obtain ⟨cq370, kq370, q370a, q370b, q370c⟩ := isOf hZ rfl q1_369
    obtain ⟨_, _, ⟨T370, L370, k370, n370⟩, -, X370, ⟨Lc370, hQ370, l370, y370, z370⟩, st370⟩ := X369.virtualBack hx (y := yN1) (z := yN1) hown (mvT hZ (hv hw 16 rfl)) (mvT hZ (hv hw 17 rfl)) (notFace_of_selects (args := #[]) (mvT hZ (hv hw 19 rfl))) (mvT hZ (hv hw 19 rfl)) (mvT hZ (hv hw 18 rfl)) (by decide) (backOf (W := 0) (rmA2 l Z a0 hw [] b367 t369 kt369 1 1 rc p2 T369.heap n0 O369 hrc q1_369 q3_369 q2_369 q4_369) hZ (hv hw 20 rfl) (hv hw 4 rfl) (by decide) (by decide)) q370a q370c (g := (mkF m 145 #[vi p0, vi p1, vi p2, vi p3, vi 2, vi rc, vi 1, vi 0, vi x3, vi x4, vr b362, vr b367, un, un, un, un, un, un, un] [(.int p2), (.ref b367)])) rfl (by rw [hml]; rfl) (Steps.refl _) (argsL := [(.int p2)]) (rest := []) (lenOf pd_3 rfl) rfl (by exact Nat.le_of_eq rfl) (hb hby at_145) (fun _ _ => ⟨rfl, rfl, (by decide : 3 + 0 ≤ _), (by decide : 7 + 0 ≤ _)⟩)
    dsimp only [Pt.U, Pt.locs, Pt.cells, Pt.slots] at X370 l370 y370 z370 st370 hQ370
    rw [l370, y370, z370] at X370
    obtain ⟨rfl, Nq370, hE370⟩ := hQ370
    have N370 := Fr.app N369 Nq370
    refine Go.tr st370 ?_
    show Go p.tables e below Kx _ (mkF m 148 _ [(.double (mst (mst FP.dconst0 1 1 (needd p2 rc)) 1 2 (needd p2 rc)))])
    refine s_dstore (pc' := 150) (Ls' := #[vi p0, vi p1, vi p2, vi p3, vi 2, vi rc, vi 1, vi 0, vi x3, vi x4, vr b362, vr b367, .val (.double (mst (mst FP.dconst0 1 1 (needd p2 rc)) 1 2 (needd p2 rc))), sn, un, un, un, un, un]) X370.here hx (hb hby at_148) rfl  rfl ?_
    refine s_iloadN (pc' := 151) X370.here hx (hb hby at_150) rfl rfl ?_
    refine s_i2d (pc' := 152) X370.here hx (hb hby at_151) rfl rfl ?_
    refine Go.st (X370.ldc2DoubleC hx hown (mvT hZ (hv hw 28 rfl)) (g := (mkF m 152 #[vi p0, vi p1, vi p2, vi p3, vi 2, vi rc, vi 1, vi 0, vi x3, vi x4, vr b362, vr b367, .val (.double (mst (mst FP.dconst0 1 1 (needd p2 rc)) 1 2 (needd p2 rc))), sn, un, un, un, un, un] [(.double (FP.i2d p2))])) rfl (hb hby at_152)) ?_
    show Go p.tables e below Kx _ (mkF m 155 _ [(.double (4621819117588971520 : UInt64)), (.double (FP.i2d p2))])
    refine s_ddiv (pc' := 156) X370.here hx (hb hby at_155) rfl (nn1 p2) rfl ?_
    refine s_iload (pc' := 158) X370.here hx (hb hby at_156) rfl rfl ?_
    refine s_i2d (pc' := 159) X370.here hx (hb hby at_158) rfl rfl ?_
    refine s_dmul (pc' := 160) X370.here hx (hb hby at_159) rfl (nn2 p2 hrc) rfl ?_
    refine Go.st (X370.ldc2DoubleC hx hown (mvT hZ (hv hw 29 rfl)) (g := (mkF m 160 #[vi p0, vi p1, vi p2, vi p3, vi 2, vi rc, vi 1, vi 0, vi x3, vi x4, vr b362, vr b367, .val (.double (mst (mst FP.dconst0 1 1 (needd p2 rc)) 1 2 (needd p2 rc))), sn, un, un, un, un, un] [(.double (FP.dmul (FP.ddiv (FP.i2d p2) (4621819117588971520 : UInt64)) (FP.i2d rc)))])) rfl (hb hby at_160)) ?_
    show Go p.tables e below Kx _ (mkF m 163 _ [(.double (4606281698874543309 : UInt64)), (.double (FP.dmul (FP.ddiv (FP.i2d p2) (4621819117588971520 : UInt64)) (FP.i2d rc)))])
    refine s_dadd (pc' := 164) X370.here hx (hb hby at_163) rfl (nn3 p2 hrc) rfl ?_
    refine s_d2l (pc' := 165) (z := needd p2 rc) X370.here hx (hb hby at_164) rfl rfl ?_
    show Go p.tables e below Kx _ (mkF m 165 _ [(.long (needd p2 rc))])
    generalize (needd p2 rc) = nd
    generalize hmm : (mst (mst FP.dconst0 1 1 nd) 1 2 nd) = mm
    show Go p.tables e below Kx _ (mkF m 165 _ [(.long nd)])
    refine s_lstore (pc' := 167) (Ls' := #[vi p0, vi p1, vi p2, vi p3, vi 2, vi rc, vi 1, vi 0, vi x3, vi x4, vr b362, vr b367, .val (.double mm), sn, .val (.long nd), sn, un, un, un]) X370.here hx (hb hby at_165) rfl  rfl ?_
    refine s_dconst0 (pc' := 168) X370.here hx (hb hby at_167) rfl rfl ?_
    refine s_dstore (pc' := 170) (Ls' := #[vi p0, vi p1, vi p2, vi p3, vi 2, vi rc, vi 1, vi 0, vi x3, vi x4, vr b362, vr b367, .val (.double mm), sn, .val (.long nd), sn, .val (.double FP.dconst0), sn, un]) X370.here hx (hb hby at_168) rfl  rfl ?_
    refine s_iconst (pc' := 171) (v := 0) X370.here hx (hb hby at_170) rfl rfl ?_
    refine s_istore (pc' := 173) (Ls' := #[vi p0, vi p1, vi p2, vi p3, vi 2, vi rc, vi 1, vi 0, vi x3, vi x4, vr b362, vr b367, .val (.double mm), sn, .val (.long nd), sn, .val (.double FP.dconst0), sn, vi 0]) X370.here hx (hb hby at_171) rfl  rfl ?_
    refine s_iload (pc' := 175) X370.here hx (hb hby at_173) rfl rfl ?_
    refine s_iconst (pc' := 176) (v := 1) X370.here hx (hb hby at_175) rfl rfl ?_
    refine s_icmpN (pc' := 179) X370.here hx (hb hby at_176) rfl (flt (by decide)).1 ?_
    refine s_iload (pc' := 181) X370.here hx (hb hby at_179) rfl rfl ?_
    refine s_ifN (pc' := 184) X370.here hx (hb hby at_181) rfl ((if0 _ _).trans (feq (by decide)).1) ?_
    refine s_iload (pc' := 186) X370.here hx (hb hby at_184) rfl rfl ?_
    refine s_iconst (pc' := 187) (v := 1) X370.here hx (hb hby at_186) rfl rfl ?_
    refine s_iadd (pc' := 188) (z := 1) X370.here hx (hb hby at_187) rfl (by decide) ?_
    refine s_istore (pc' := 190) (Ls' := #[vi p0, vi p1, vi p2, vi p3, vi 2, vi rc, vi 1, vi 0, vi x3, vi x4, vr b362, vr b367, .val (.double mm), sn, .val (.long nd), sn, .val (.double FP.dconst0), sn, vi 1]) X370.here hx (hb hby at_188) rfl  rfl ?_
    refine s_dload (pc' := 192) X370.here hx (hb hby at_190) rfl rfl ?_
    refine s_iload (pc' := 194) X370.here hx (hb hby at_192) rfl rfl ?_
    refine s_iconst (pc' := 195) (v := 1) X370.here hx (hb hby at_194) rfl rfl ?_
    refine s_lload (pc' := 197) X370.here hx (hb hby at_195) rfl rfl ?_
    obtain ⟨_, _, ⟨T371, L371, k371, n371⟩, -, X371, ⟨Lc371, hQ371, l371, y371, z371⟩, st371⟩ := Jvm.LawKit.callS X370 hx (y := yN3) hown (mvT hZ (hv hw 30 rfl)) (mvT hZ (hv hw 31 rfl)) (mvT hZ (hv hw 32 rfl)) (mvT hZ (hv hw 33 rfl)) (by decide) (backOf (W := 0) (rmB l Z a0 hw [] FP.dconst0 1 1 nd T369.heap n0 O369 (by decide)) hZ (hv hw 33 rfl) (hv hw 32 rfl) (by decide) (by decide)) (g := (mkF m 197 #[vi p0, vi p1, vi p2, vi p3, vi 2, vi rc, vi 1, vi 0, vi x3, vi x4, vr b362, vr b367, .val (.double mm), sn, .val (.long nd), sn, .val (.double FP.dconst0), sn, vi 1] [(.long nd), (.int 1), (.int 1), (.double FP.dconst0)])) rfl (by rw [hml]; rfl) (argsL := [(.double FP.dconst0), (.int 1), (.int 1), (.long nd)]) (rest := []) (lenOf pd_4 rfl) rfl (by exact Nat.le_of_eq rfl) (hb hby at_197) (fun _ _ => ⟨rfl, hE370, (by decide : 3 + 0 ≤ _), (by decide : 7 + 0 ≤ _)⟩)
    dsimp only [Pt.U, Pt.locs, Pt.cells, Pt.slots] at X371 l371 y371 z371 st371 hQ371
    rw [l371, y371, z371] at X371
    obtain ⟨rfl, Nq371, hE371⟩ := hQ371
    have N371 := Fr.app N370 Nq371
    refine Go.st st371 ?_
    show Go p.tables e below Kx _ (mkF m 200 _ [(.double (bst FP.dconst0 1 1 nd))])
    refine s_dstore (pc' := 202) (Ls' := #[vi p0, vi p1, vi p2, vi p3, vi 2, vi rc, vi 1, vi 0, vi x3, vi x4, vr b362, vr b367, .val (.double mm), sn, .val (.long nd), sn, .val (.double (bst FP.dconst0 1 1 nd)), sn, vi 1]) X371.here hx (hb hby at_200) rfl  rfl ?_
    refine s_iload (pc' := 204) X371.here hx (hb hby at_202) rfl rfl ?_
    refine s_iconst (pc' := 205) (v := 2) X371.here hx (hb hby at_204) rfl rfl ?_
    refine s_icmpN (pc' := 208) X371.here hx (hb hby at_205) rfl (flt (by decide)).1 ?_
    refine s_iload (pc' := 210) X371.here hx (hb hby at_208) rfl rfl ?_
    refine s_ifY (pc' := 231) X371.here hx (hb hby at_210) ((if0 _ _).trans (teq (by decide)).1) (by decide) (by decide) ?_
    refine s_iload (pc' := 233) X371.here hx (hb hby at_231) rfl rfl ?_
    refine s_iconst (pc' := 234) (v := 3) X371.here hx (hb hby at_233) rfl rfl ?_
    refine s_icmpY (pc' := 260) X371.here hx (hb hby at_234) (tlt (by decide)).1 (by decide) (by decide) ?_
    refine s_iload (pc' := 262) X371.here hx (hb hby at_260) rfl rfl ?_
    refine s_iconst (pc' := 263) (v := 4) X371.here hx (hb hby at_262) rfl rfl ?_
    refine s_icmpY (pc' := 289) X371.here hx (hb hby at_263) (tlt (by decide)).1 (by decide) (by decide) ?_
    refine s_dload (pc' := 291) X371.here hx (hb hby at_289) rfl rfl ?_
    refine s_dload (pc' := 293) X371.here hx (hb hby at_291) rfl rfl ?_
    refine s_dcmpl (pc' := 294) (z := 0) X371.here hx (hb hby at_293) rfl (by rw [← hmm]; exact fin_210 nd) ?_
    refine s_ifN (pc' := 297) X371.here hx (hb hby at_294) rfl ((if0 _ _).trans (teq (by decide)).2) ?_
    refine s_iconst (pc' := 298) (v := 1) X371.here hx (hb hby at_297) rfl rfl ?_
    refine s_goto (pc' := 302) X371.here hx (hb hby at_298) (by decide) (by decide) ?_
    obtain ⟨fs, hr, hrun, hended, hW, hsame⟩ := X371.leave (v := (some (.int 1))) (fun h => by rw [Bd.returns] at h; cases h)
    refine Go.fin (retN X371 hx (t := .boolean) Bd.returns (by simp) (hb hby at_302) hr) (hF _ _ hrun hended ⟨_, _, rfl, ?_, ⟨_, rfl⟩, hW, hsame.mono (by decide) (by decide)⟩)
    ·
     show QL Z p0 p1 p2 p3 h0 n0 ((some (.int 1)) : Option Value) T371.heap _
     rw [hE371]
     exact ⟨rfl, N371⟩
   ·
    show Go p.tables e below Kx _ (mkF m 75 _ [])
    refine s_iload (pc' := 77) X0.here hx (hb hby at_75) rfl rfl ?_
    obtain ⟨T372, h372, k372, X372, e372, E372, A372, st372⟩ := newP X0 hx hZ (hv hw 1 rfl) e0 (g := (mkF m 77 #[vi p0, vi p1, vi p2, vi p3, vi 2, vi rc, vi 1, vi 1, vi x3, vi x4, un, un, un, un, un, un, un, un, un] [(.int 2)])) rfl (hb hby at_77) rfl (by decide) (cap := 2) (by decide) (by decide) (by decide) (by decide)
    obtain ⟨b372, g372⟩ : ∃ z, z = h0.size := ⟨_, rfl⟩
    rw [← g372] at A372 st372
    have sz372 : h0.size ≤ b372 := Nat.le_trans K0.1 (Nat.le_of_eq g372.symm)
    have ge372 : n0 ≤ b372 := Nat.le_trans (X00.1 ▸ X00.2.1) (Nat.le_of_eq g372.symm)
    have K372 : Keep h0 h372 [] := K0.ext E372
    have O372 : Old Z n0 h372 := X00.ext E372
    have V372 : Arv Z h372 b372 k372 .boolean 2 [(.int 0), (.int 0)] (.int 0) := (Arv.new A372 (by decide)).pad (pad_rep [] (.int 0) 2)
    refine Go.st st372 ?_
    show Go p.tables e below Kx _ (mkF m 79 _ [(.ref b372)])
    refine s_astore (pc' := 81) (Ls' := #[vi p0, vi p1, vi p2, vi p3, vi 2, vi rc, vi 1, vi 1, vi x3, vi x4, vr b372, un, un, un, un, un, un, un, un]) X372.here hx (hb hby at_79) rfl rfl rfl ?_
    refine s_iload (pc' := 83) X372.here hx (hb hby at_81) rfl rfl ?_
    refine s_iconst (pc' := 84) (v := 1) X372.here hx (hb hby at_83) rfl rfl ?_
    refine s_icmpN (pc' := 87) X372.here hx (hb hby at_84) rfl (flt (by decide)).1 ?_
    refine s_aload (pc' := 89) X372.here hx (hb hby at_87) rfl rfl rfl ?_
    refine s_iconst (pc' := 90) (v := 0) X372.here hx (hb hby at_89) rfl rfl ?_
    refine s_iload (pc' := 92) X372.here hx (hb hby at_90) rfl rfl ?_
    obtain ⟨cl373, Ar373, Aq373, As373, An373, Ah373, Ag373⟩ := id V372
    have in374 := inb_of (j := 0) As373 (by decide)
    obtain ⟨T374, h374, X374, e374, W374, st374⟩ := stZ X372 hx hZ e372 Ar373 (j := 0) in374 (g := (mkF m 92 #[vi p0, vi p1, vi p2, vi p3, vi 2, vi rc, vi 1, vi 1, vi x3, vi x4, vr b372, un, un, un, un, un, un, un, un] [(.int 1), (.int 0), (.ref b372)])) rfl rfl (hb hby at_92)
    have V374 : Arv Z h374 b372 k372 .boolean 2 [(.int 1), (.int 0)] (.int 0) := by
     have q := Arv.set Ar373 Aq373 As373 An373 Ah373 Ag373 (fits_nar_bool _) W374 0 rfl (Nat.le_of_ble_eq_true rfl)
     rw [show nar .boolean 1 = 1 from by decide] at q; exact q
    have K374 : Keep h0 h374 [] := K372.wr W374 (Or.inr sz372)
    have O374 : Old Z n0 h374 := O372.wr W374 ge372
    have N374 := Fr.snoc X374 N0 ge372
    refine Go.st st374 ?_
    show Go p.tables e below Kx _ (mkF m 93 _ [])
    refine s_iload (pc' := 95) X374.here hx (hb hby at_93) rfl rfl ?_
    refine s_iconst (pc' := 96) (v := 2) X374.here hx (hb hby at_95) rfl rfl ?_
    refine s_icmpN (pc' := 99) X374.here hx (hb hby at_96) rfl (flt (by decide)).1 ?_
    refine s_aload (pc' := 101) X374.here hx (hb hby at_99) rfl rfl rfl ?_
    refine s_iconst (pc' := 102) (v := 1) X374.here hx (hb hby at_101) rfl rfl ?_
    refine s_iload (pc' := 104) X374.here hx (hb hby at_102) rfl rfl ?_
    obtain ⟨cl375, Ar375, Aq375, As375, An375, Ah375, Ag375⟩ := id V374
    have in376 := inb_of (j := 1) As375 (by decide)
    obtain ⟨T376, h376, X376, e376, W376, st376⟩ := stZ X374 hx hZ e374 Ar375 (j := 1) in376 (g := (mkF m 104 #[vi p0, vi p1, vi p2, vi p3, vi 2, vi rc, vi 1, vi 1, vi x3, vi x4, vr b372, un, un, un, un, un, un, un, un] [(.int 1), (.int 1), (.ref b372)])) rfl rfl (hb hby at_104)
    have V376 : Arv Z h376 b372 k372 .boolean 2 [(.int 1), (.int 1)] (.int 0) := by
     have q := Arv.set Ar375 Aq375 As375 An375 Ah375 Ag375 (fits_nar_bool _) W376 1 rfl (Nat.le_of_ble_eq_true rfl)
     rw [show nar .boolean 1 = 1 from by decide] at q; exact q
    have K376 : Keep h0 h376 [] := K374.wr W376 (Or.inr sz372)
    have O376 : Old Z n0 h376 := O374.wr W376 ge372
    have N376 := Fr.snoc X376 N374 ge372
    refine Go.st st376 ?_
    show Go p.tables e below Kx _ (mkF m 105 _ [])
    refine s_iload (pc' := 107) X376.here hx (hb hby at_105) rfl rfl ?_
    refine s_iconst (pc' := 108) (v := 3) X376.here hx (hb hby at_107) rfl rfl ?_
    refine s_icmpY (pc' := 117) X376.here hx (hb hby at_108) (tlt (by decide)).1 (by decide) (by decide) ?_
    refine s_iload (pc' := 119) X376.here hx (hb hby at_117) rfl rfl ?_
    refine s_iconst (pc' := 120) (v := 4) X376.here hx (hb hby at_119) rfl rfl ?_
    refine s_icmpY (pc' := 129) X376.here hx (hb hby at_120) (tlt (by decide)).1 (by decide) (by decide) ?_
    obtain ⟨T377, h377, X377, e377, E377, A377, D377, -, st377⟩ := newO X376 hx hZ hown (hv hw 2 rfl) (hv hw 3 rfl) (hv hw 4 rfl) e376 (g := (mkF m 129 #[vi p0, vi p1, vi p2, vi p3, vi 2, vi rc, vi 1, vi 1, vi x3, vi x4, vr b372, un, un, un, un, un, un, un, un] [])) rfl (hb hby at_129) (by decide) (by decide)
    obtain ⟨b377, g377⟩ : ∃ z, z = h376.size := ⟨_, rfl⟩
    rw [← g377] at A377 D377 st377
    have sz377 : h0.size ≤ b377 := Nat.le_trans K376.1 (Nat.le_of_eq g377.symm)
    have ge377 : n0 ≤ b377 := Nat.le_trans (O376.1 ▸ O376.2.1) (Nat.le_of_eq g377.symm)
    have K377 : Keep h0 h377 [] := K376.ext E377
    have O377 : Old Z n0 h377 := O376.ext E377
    have F377_relevantWithin : Fld Z h377 b377 "com/example/kingfisher/kingfisher/eval/TopicRanking" "relevantWithin" "[I" .null := D377 (Or.inr (hv hw 13 rfl)) (ty := (.array .int)) (by decide)
    have F377_relevantCount : Fld Z h377 b377 "com/example/kingfisher/kingfisher/eval/TopicRanking" "relevantCount" "I" (.int 0) := D377 (Or.inr (hv hw 15 rfl)) (ty := .int) (by decide)
    refine Go.st st377 ?_
    show Go p.tables e below Kx _ (mkF m 132 _ [(.ref b377)])
    refine s_dup (pc' := 133) X377.here hx (hb hby at_132) rfl rfl ?_
    refine s_aload (pc' := 135) X377.here hx (hb hby at_133) rfl rfl rfl ?_
    refine s_iload (pc' := 137) X377.here hx (hb hby at_135) rfl rfl ?_
    have f378 : Arv Z h377 b372 k372 .boolean 2 [(.int 1), (.int 1)] (.int 0) := (V376.ext E377)
    obtain ⟨_, _, ⟨T379, L379, k379, n379⟩, -, X379, ⟨Lc379, hQ379, l379, y379, z379⟩, st379⟩ := X377.specialBack hx (y := yN0) rfl hown (mvT hZ (hv hw 5 rfl)) (mvT hZ (hv hw 6 rfl)) (mvT hZ (hv hw 7 rfl)) (by decide) (backOf (W := 1) (rmN2 l Z a0 hw [] b377 b372 k372 1 1 1 2 rc h377 n0 O377 ge377 (Nat.ne_of_lt (Nat.lt_of_lt_of_le (Nat.lt_of_lt_of_le A372.lt (Nat.le_trans (Nat.le_of_eq W374.size.symm) (Nat.le_of_eq W376.size.symm))) (Nat.le_of_eq g377.symm))) A377 F377_relevantWithin F377_relevantCount f378 (by decide) (by decide)) hZ (hv hw 7 rfl) (hv hw 4 rfl) (by decide) (by decide)) (g := (mkF m 137 #[vi p0, vi p1, vi p2, vi p3, vi 2, vi rc, vi 1, vi 1, vi x3, vi x4, vr b372, un, un, un, un, un, un, un, un] [(.int rc), (.ref b372), (.ref b377), (.ref b377)])) rfl (by rw [hml]; rfl) (Steps.refl _) (a := b377) (argsL := [(.ref b372), (.int rc)]) (rest := [(.ref b377)]) (lenOf pd_2 rfl) rfl (by exact Nat.le_of_eq rfl) (hb hby at_137) (fun _ _ => ⟨rfl, e377, (by decide : 2 + 1 ≤ _), (by decide : 4 + 3 ≤ _)⟩)
    dsimp only [Pt.U, Pt.locs, Pt.cells, Pt.slots] at X379 l379 y379 z379 st379 hQ379
    rw [l379, y379, z379] at X379
    obtain ⟨rfl, Nq379, Kq379, q1_379, q2_379, t379, kt379, q3_379, q4_379⟩ := hQ379
    have N379 := Fr.app N376 Nq379
    have K379 : Keep h0 T379.heap [] := K377.trans Kq379 (allS (P := fun zz => zz ∈ [] ∨ h0.size ≤ zz) (Or.inr sz377) all0)
    have O379 : Old Z n0 T379.heap := O377.keep Kq379 (allS ge377 all0)
    refine Go.tr st379 ?_
    show Go p.tables e below Kx _ (mkF m 140 _ [(.ref b377)])
    refine s_astore (pc' := 142) (Ls' := #[vi p0, vi p1, vi p2, vi p3, vi 2, vi rc, vi 1, vi 1, vi x3, vi x4, vr b372, vr b377, un, un, un, un, un, un, un]) X379.here hx (hb hby at_140) rfl rfl rfl ?_
    refine s_aload (pc' := 144) X379.here hx (hb hby at_142) rfl rfl rfl ?_
    refine s_iloadN (pc' := 145) X379.here hx (hb hby at_144) rfl rfl ?_
    obtain ⟨cq380, kq380, q380a, q380b, q380c⟩ := isOf hZ rfl q1_379
    obtain ⟨_, _, ⟨T380, L380, k380, n380⟩, -, X380, ⟨Lc380, hQ380, l380, y380, z380⟩, st380⟩ := X379.virtualBack hx (y := yN1) (z := yN1) hown (mvT hZ (hv hw 16 rfl)) (mvT hZ (hv hw 17 rfl)) (notFace_of_selects (args := #[]) (mvT hZ (hv hw 19 rfl))) (mvT hZ (hv hw 19 rfl)) (mvT hZ (hv hw 18 rfl)) (by decide) (backOf (W := 0) (rmA2 l Z a0 hw [] b377 t379 kt379 1 2 rc p2 T379.heap n0 O379 hrc q1_379 q3_379 q2_379 q4_379) hZ (hv hw 20 rfl) (hv hw 4 rfl) (by decide) (by decide)) q380a q380c (g := (mkF m 145 #[vi p0, vi p1, vi p2, vi p3, vi 2, vi rc, vi 1, vi 1, vi x3, vi x4, vr b372, vr b377, un, un, un, un, un, un, un] [(.int p2), (.ref b377)])) rfl (by rw [hml]; rfl) (Steps.refl _) (argsL := [(.int p2)]) (rest := []) (lenOf pd_3 rfl) rfl (by exact Nat.le_of_eq rfl) (hb hby at_145) (fun _ _ => ⟨rfl, rfl, (by decide : 3 + 0 ≤ _), (by decide : 7 + 0 ≤ _)⟩)
    dsimp only [Pt.U, Pt.locs, Pt.cells, Pt.slots] at X380 l380 y380 z380 st380 hQ380
    rw [l380, y380, z380] at X380
    obtain ⟨rfl, Nq380, hE380⟩ := hQ380
    have N380 := Fr.app N379 Nq380
    refine Go.tr st380 ?_
    show Go p.tables e below Kx _ (mkF m 148 _ [(.double (mst (mst FP.dconst0 1 1 (needd p2 rc)) 2 2 (needd p2 rc)))])
    refine s_dstore (pc' := 150) (Ls' := #[vi p0, vi p1, vi p2, vi p3, vi 2, vi rc, vi 1, vi 1, vi x3, vi x4, vr b372, vr b377, .val (.double (mst (mst FP.dconst0 1 1 (needd p2 rc)) 2 2 (needd p2 rc))), sn, un, un, un, un, un]) X380.here hx (hb hby at_148) rfl  rfl ?_
    refine s_iloadN (pc' := 151) X380.here hx (hb hby at_150) rfl rfl ?_
    refine s_i2d (pc' := 152) X380.here hx (hb hby at_151) rfl rfl ?_
    refine Go.st (X380.ldc2DoubleC hx hown (mvT hZ (hv hw 28 rfl)) (g := (mkF m 152 #[vi p0, vi p1, vi p2, vi p3, vi 2, vi rc, vi 1, vi 1, vi x3, vi x4, vr b372, vr b377, .val (.double (mst (mst FP.dconst0 1 1 (needd p2 rc)) 2 2 (needd p2 rc))), sn, un, un, un, un, un] [(.double (FP.i2d p2))])) rfl (hb hby at_152)) ?_
    show Go p.tables e below Kx _ (mkF m 155 _ [(.double (4621819117588971520 : UInt64)), (.double (FP.i2d p2))])
    refine s_ddiv (pc' := 156) X380.here hx (hb hby at_155) rfl (nn1 p2) rfl ?_
    refine s_iload (pc' := 158) X380.here hx (hb hby at_156) rfl rfl ?_
    refine s_i2d (pc' := 159) X380.here hx (hb hby at_158) rfl rfl ?_
    refine s_dmul (pc' := 160) X380.here hx (hb hby at_159) rfl (nn2 p2 hrc) rfl ?_
    refine Go.st (X380.ldc2DoubleC hx hown (mvT hZ (hv hw 29 rfl)) (g := (mkF m 160 #[vi p0, vi p1, vi p2, vi p3, vi 2, vi rc, vi 1, vi 1, vi x3, vi x4, vr b372, vr b377, .val (.double (mst (mst FP.dconst0 1 1 (needd p2 rc)) 2 2 (needd p2 rc))), sn, un, un, un, un, un] [(.double (FP.dmul (FP.ddiv (FP.i2d p2) (4621819117588971520 : UInt64)) (FP.i2d rc)))])) rfl (hb hby at_160)) ?_
    show Go p.tables e below Kx _ (mkF m 163 _ [(.double (4606281698874543309 : UInt64)), (.double (FP.dmul (FP.ddiv (FP.i2d p2) (4621819117588971520 : UInt64)) (FP.i2d rc)))])
    refine s_dadd (pc' := 164) X380.here hx (hb hby at_163) rfl (nn3 p2 hrc) rfl ?_
    refine s_d2l (pc' := 165) (z := needd p2 rc) X380.here hx (hb hby at_164) rfl rfl ?_
    show Go p.tables e below Kx _ (mkF m 165 _ [(.long (needd p2 rc))])
    generalize (needd p2 rc) = nd
    generalize hmm : (mst (mst FP.dconst0 1 1 nd) 2 2 nd) = mm
    show Go p.tables e below Kx _ (mkF m 165 _ [(.long nd)])
    refine s_lstore (pc' := 167) (Ls' := #[vi p0, vi p1, vi p2, vi p3, vi 2, vi rc, vi 1, vi 1, vi x3, vi x4, vr b372, vr b377, .val (.double mm), sn, .val (.long nd), sn, un, un, un]) X380.here hx (hb hby at_165) rfl  rfl ?_
    refine s_dconst0 (pc' := 168) X380.here hx (hb hby at_167) rfl rfl ?_
    refine s_dstore (pc' := 170) (Ls' := #[vi p0, vi p1, vi p2, vi p3, vi 2, vi rc, vi 1, vi 1, vi x3, vi x4, vr b372, vr b377, .val (.double mm), sn, .val (.long nd), sn, .val (.double FP.dconst0), sn, un]) X380.here hx (hb hby at_168) rfl  rfl ?_
    refine s_iconst (pc' := 171) (v := 0) X380.here hx (hb hby at_170) rfl rfl ?_
    refine s_istore (pc' := 173) (Ls' := #[vi p0, vi p1, vi p2, vi p3, vi 2, vi rc, vi 1, vi 1, vi x3, vi x4, vr b372, vr b377, .val (.double mm), sn, .val (.long nd), sn, .val (.double FP.dconst0), sn, vi 0]) X380.here hx (hb hby at_171) rfl  rfl ?_
    refine s_iload (pc' := 175) X380.here hx (hb hby at_173) rfl rfl ?_
    refine s_iconst (pc' := 176) (v := 1) X380.here hx (hb hby at_175) rfl rfl ?_
    refine s_icmpN (pc' := 179) X380.here hx (hb hby at_176) rfl (flt (by decide)).1 ?_
    refine s_iload (pc' := 181) X380.here hx (hb hby at_179) rfl rfl ?_
    refine s_ifN (pc' := 184) X380.here hx (hb hby at_181) rfl ((if0 _ _).trans (feq (by decide)).1) ?_
    refine s_iload (pc' := 186) X380.here hx (hb hby at_184) rfl rfl ?_
    refine s_iconst (pc' := 187) (v := 1) X380.here hx (hb hby at_186) rfl rfl ?_
    refine s_iadd (pc' := 188) (z := 1) X380.here hx (hb hby at_187) rfl (by decide) ?_
    refine s_istore (pc' := 190) (Ls' := #[vi p0, vi p1, vi p2, vi p3, vi 2, vi rc, vi 1, vi 1, vi x3, vi x4, vr b372, vr b377, .val (.double mm), sn, .val (.long nd), sn, .val (.double FP.dconst0), sn, vi 1]) X380.here hx (hb hby at_188) rfl  rfl ?_
    refine s_dload (pc' := 192) X380.here hx (hb hby at_190) rfl rfl ?_
    refine s_iload (pc' := 194) X380.here hx (hb hby at_192) rfl rfl ?_
    refine s_iconst (pc' := 195) (v := 1) X380.here hx (hb hby at_194) rfl rfl ?_
    refine s_lload (pc' := 197) X380.here hx (hb hby at_195) rfl rfl ?_
    obtain ⟨_, _, ⟨T381, L381, k381, n381⟩, -, X381, ⟨Lc381, hQ381, l381, y381, z381⟩, st381⟩ := Jvm.LawKit.callS X380 hx (y := yN3) hown (mvT hZ (hv hw 30 rfl)) (mvT hZ (hv hw 31 rfl)) (mvT hZ (hv hw 32 rfl)) (mvT hZ (hv hw 33 rfl)) (by decide) (backOf (W := 0) (rmB l Z a0 hw [] FP.dconst0 1 1 nd T379.heap n0 O379 (by decide)) hZ (hv hw 33 rfl) (hv hw 32 rfl) (by decide) (by decide)) (g := (mkF m 197 #[vi p0, vi p1, vi p2, vi p3, vi 2, vi rc, vi 1, vi 1, vi x3, vi x4, vr b372, vr b377, .val (.double mm), sn, .val (.long nd), sn, .val (.double FP.dconst0), sn, vi 1] [(.long nd), (.int 1), (.int 1), (.double FP.dconst0)])) rfl (by rw [hml]; rfl) (argsL := [(.double FP.dconst0), (.int 1), (.int 1), (.long nd)]) (rest := []) (lenOf pd_4 rfl) rfl (by exact Nat.le_of_eq rfl) (hb hby at_197) (fun _ _ => ⟨rfl, hE380, (by decide : 3 + 0 ≤ _), (by decide : 7 + 0 ≤ _)⟩)
    dsimp only [Pt.U, Pt.locs, Pt.cells, Pt.slots] at X381 l381 y381 z381 st381 hQ381
    rw [l381, y381, z381] at X381
    obtain ⟨rfl, Nq381, hE381⟩ := hQ381
    have N381 := Fr.app N380 Nq381
    refine Go.st st381 ?_
    show Go p.tables e below Kx _ (mkF m 200 _ [(.double (bst FP.dconst0 1 1 nd))])
    refine s_dstore (pc' := 202) (Ls' := #[vi p0, vi p1, vi p2, vi p3, vi 2, vi rc, vi 1, vi 1, vi x3, vi x4, vr b372, vr b377, .val (.double mm), sn, .val (.long nd), sn, .val (.double (bst FP.dconst0 1 1 nd)), sn, vi 1]) X381.here hx (hb hby at_200) rfl  rfl ?_
    refine s_iload (pc' := 204) X381.here hx (hb hby at_202) rfl rfl ?_
    refine s_iconst (pc' := 205) (v := 2) X381.here hx (hb hby at_204) rfl rfl ?_
    refine s_icmpN (pc' := 208) X381.here hx (hb hby at_205) rfl (flt (by decide)).1 ?_
    refine s_iload (pc' := 210) X381.here hx (hb hby at_208) rfl rfl ?_
    refine s_ifN (pc' := 213) X381.here hx (hb hby at_210) rfl ((if0 _ _).trans (feq (by decide)).1) ?_
    refine s_iload (pc' := 215) X381.here hx (hb hby at_213) rfl rfl ?_
    refine s_iconst (pc' := 216) (v := 1) X381.here hx (hb hby at_215) rfl rfl ?_
    refine s_iadd (pc' := 217) (z := 2) X381.here hx (hb hby at_216) rfl (by decide) ?_
    refine s_istore (pc' := 219) (Ls' := #[vi p0, vi p1, vi p2, vi p3, vi 2, vi rc, vi 1, vi 1, vi x3, vi x4, vr b372, vr b377, .val (.double mm), sn, .val (.long nd), sn, .val (.double (bst FP.dconst0 1 1 nd)), sn, vi 2]) X381.here hx (hb hby at_217) rfl  rfl ?_
    refine s_dload (pc' := 221) X381.here hx (hb hby at_219) rfl rfl ?_
    refine s_iload (pc' := 223) X381.here hx (hb hby at_221) rfl rfl ?_
    refine s_iconst (pc' := 224) (v := 2) X381.here hx (hb hby at_223) rfl rfl ?_
    refine s_lload (pc' := 226) X381.here hx (hb hby at_224) rfl rfl ?_
    obtain ⟨_, _, ⟨T382, L382, k382, n382⟩, -, X382, ⟨Lc382, hQ382, l382, y382, z382⟩, st382⟩ := Jvm.LawKit.callS X381 hx (y := yN3) hown (mvT hZ (hv hw 30 rfl)) (mvT hZ (hv hw 31 rfl)) (mvT hZ (hv hw 32 rfl)) (mvT hZ (hv hw 33 rfl)) (by decide) (backOf (W := 0) (rmB l Z a0 hw [] (bst FP.dconst0 1 1 nd) 2 2 nd T379.heap n0 O379 (by decide)) hZ (hv hw 33 rfl) (hv hw 32 rfl) (by decide) (by decide)) (g := (mkF m 226 #[vi p0, vi p1, vi p2, vi p3, vi 2, vi rc, vi 1, vi 1, vi x3, vi x4, vr b372, vr b377, .val (.double mm), sn, .val (.long nd), sn, .val (.double (bst FP.dconst0 1 1 nd)), sn, vi 2] [(.long nd), (.int 2), (.int 2), (.double (bst FP.dconst0 1 1 nd))])) rfl (by rw [hml]; rfl) (argsL := [(.double (bst FP.dconst0 1 1 nd)), (.int 2), (.int 2), (.long nd)]) (rest := []) (lenOf pd_4 rfl) rfl (by exact Nat.le_of_eq rfl) (hb hby at_226) (fun _ _ => ⟨rfl, hE381, (by decide : 3 + 0 ≤ _), (by decide : 7 + 0 ≤ _)⟩)
    dsimp only [Pt.U, Pt.locs, Pt.cells, Pt.slots] at X382 l382 y382 z382 st382 hQ382
    rw [l382, y382, z382] at X382
    obtain ⟨rfl, Nq382, hE382⟩ := hQ382
    have N382 := Fr.app N381 Nq382
    refine Go.st st382 ?_
    show Go p.tables e below Kx _ (mkF m 229 _ [(.double (bst (bst FP.dconst0 1 1 nd) 2 2 nd))])
    refine s_dstore (pc' := 231) (Ls' := #[vi p0, vi p1, vi p2, vi p3, vi 2, vi rc, vi 1, vi 1, vi x3, vi x4, vr b372, vr b377, .val (.double mm), sn, .val (.long nd), sn, .val (.double (bst (bst FP.dconst0 1 1 nd) 2 2 nd)), sn, vi 2]) X382.here hx (hb hby at_229) rfl  rfl ?_
    refine s_iload (pc' := 233) X382.here hx (hb hby at_231) rfl rfl ?_
    refine s_iconst (pc' := 234) (v := 3) X382.here hx (hb hby at_233) rfl rfl ?_
    refine s_icmpY (pc' := 260) X382.here hx (hb hby at_234) (tlt (by decide)).1 (by decide) (by decide) ?_
    refine s_iload (pc' := 262) X382.here hx (hb hby at_260) rfl rfl ?_
    refine s_iconst (pc' := 263) (v := 4) X382.here hx (hb hby at_262) rfl rfl ?_
    refine s_icmpY (pc' := 289) X382.here hx (hb hby at_263) (tlt (by decide)).1 (by decide) (by decide) ?_
    refine s_dload (pc' := 291) X382.here hx (hb hby at_289) rfl rfl ?_
    refine s_dload (pc' := 293) X382.here hx (hb hby at_291) rfl rfl ?_
    refine s_dcmpl (pc' := 294) (z := 0) X382.here hx (hb hby at_293) rfl (by rw [← hmm]; exact fin_211 nd) ?_
    refine s_ifN (pc' := 297) X382.here hx (hb hby at_294) rfl ((if0 _ _).trans (teq (by decide)).2) ?_
    refine s_iconst (pc' := 298) (v := 1) X382.here hx (hb hby at_297) rfl rfl ?_
    refine s_goto (pc' := 302) X382.here hx (hb hby at_298) (by decide) (by decide) ?_
    obtain ⟨fs, hr, hrun, hended, hW, hsame⟩ := X382.leave (v := (some (.int 1))) (fun h => by rw [Bd.returns] at h; cases h)
    refine Go.fin (retN X382 hx (t := .boolean) Bd.returns (by simp) (hb hby at_302) hr) (hF _ _ hrun hended ⟨_, _, rfl, ?_, ⟨_, rfl⟩, hW, hsame.mono (by decide) (by decide)⟩)
    ·
     show QL Z p0 p1 p2 p3 h0 n0 ((some (.int 1)) : Option Value) T382.heap _
     rw [hE382]
     exact ⟨rfl, N382⟩
 ·
  rcases hx1 with rfl | rfl
  ·
   rcases hx2 with rfl | rfl
   ·
    rcases hx3 with rfl | rfl
    ·
     show Go p.tables e below Kx _ (mkF m 75 _ [])
     refine s_iload (pc' := 77) X0.here hx (hb hby at_75) rfl rfl ?_
     obtain ⟨T383, h383, k383, X383, e383, E383, A383, st383⟩ := newP X0 hx hZ (hv hw 1 rfl) e0 (g := (mkF m 77 #[vi p0, vi p1, vi p2, vi p3, vi 3, vi rc, vi 0, vi 0, vi 0, vi x4, un, un, un, un, un, un, un, un, un] [(.int 3)])) rfl (hb hby at_77) rfl (by decide) (cap := 3) (by decide) (by decide) (by decide) (by decide)
     obtain ⟨b383, g383⟩ : ∃ z, z = h0.size := ⟨_, rfl⟩
     rw [← g383] at A383 st383
     have sz383 : h0.size ≤ b383 := Nat.le_trans K0.1 (Nat.le_of_eq g383.symm)
     have ge383 : n0 ≤ b383 := Nat.le_trans (X00.1 ▸ X00.2.1) (Nat.le_of_eq g383.symm)
     have K383 : Keep h0 h383 [] := K0.ext E383
     have O383 : Old Z n0 h383 := X00.ext E383
     have V383 : Arv Z h383 b383 k383 .boolean 3 [(.int 0), (.int 0), (.int 0)] (.int 0) := (Arv.new A383 (by decide)).pad (pad_rep [] (.int 0) 3)
     refine Go.st st383 ?_
     show Go p.tables e below Kx _ (mkF m 79 _ [(.ref b383)])
     refine s_astore (pc' := 81) (Ls' := #[vi p0, vi p1, vi p2, vi p3, vi 3, vi rc, vi 0, vi 0, vi 0, vi x4, vr b383, un, un, un, un, un, un, un, un]) X383.here hx (hb hby at_79) rfl rfl rfl ?_
     refine s_iload (pc' := 83) X383.here hx (hb hby at_81) rfl rfl ?_
     refine s_iconst (pc' := 84) (v := 1) X383.here hx (hb hby at_83) rfl rfl ?_
     refine s_icmpN (pc' := 87) X383.here hx (hb hby at_84) rfl (flt (by decide)).1 ?_
     refine s_aload (pc' := 89) X383.here hx (hb hby at_87) rfl rfl rfl ?_
     refine s_iconst (pc' := 90) (v := 0) X383.here hx (hb hby at_89) rfl rfl ?_
     refine s_iload (pc' := 92) X383.here hx (hb hby at_90) rfl rfl ?_
     obtain ⟨cl384, Ar384, Aq384, As384, An384, Ah384, Ag384⟩ := id V383
     have in385 := inb_of (j := 0) As384 (by decide)
     obtain ⟨T385, h385, X385, e385, W385, st385⟩ := stZ X383 hx hZ e383 Ar384 (j := 0) in385 (g := (mkF m 92 #[vi p0, vi p1, vi p2, vi p3, vi 3, vi rc, vi 0, vi 0, vi 0, vi x4, vr b383, un, un, un, un, un, un, un, un] [(.int 0), (.int 0), (.ref b383)])) rfl rfl (hb hby at_92)
     have V385 : Arv Z h385 b383 k383 .boolean 3 [(.int 0), (.int 0), (.int 0)] (.int 0) := by
      have q := Arv.set Ar384 Aq384 As384 An384 Ah384 Ag384 (fits_nar_bool _) W385 0 rfl (Nat.le_of_ble_eq_true rfl)
      rw [show nar .boolean 0 = 0 from by decide] at q; exact q
     have K385 : Keep h0 h385 [] := K383.wr W385 (Or.inr sz383)
     have O385 : Old Z n0 h385 := O383.wr W385 ge383
     have N385 := Fr.snoc X385 N0 ge383
     refine Go.st st385 ?_
     show Go p.tables e below Kx _ (mkF m 93 _ [])
     refine s_iload (pc' := 95) X385.here hx (hb hby at_93) rfl rfl ?_
     refine s_iconst (pc' := 96) (v := 2) X385.here hx (hb hby at_95) rfl rfl ?_
     refine s_icmpN (pc' := 99) X385.here hx (hb hby at_96) rfl (flt (by decide)).1 ?_
     refine s_aload (pc' := 101) X385.here hx (hb hby at_99) rfl rfl rfl ?_
     refine s_iconst (pc' := 102) (v := 1) X385.here hx (hb hby at_101) rfl rfl ?_
     refine s_iload (pc' := 104) X385.here hx (hb hby at_102) rfl rfl ?_
     obtain ⟨cl386, Ar386, Aq386, As386, An386, Ah386, Ag386⟩ := id V385
     have in387 := inb_of (j := 1) As386 (by decide)
     obtain ⟨T387, h387, X387, e387, W387, st387⟩ := stZ X385 hx hZ e385 Ar386 (j := 1) in387 (g := (mkF m 104 #[vi p0, vi p1, vi p2, vi p3, vi 3, vi rc, vi 0, vi 0, vi 0, vi x4, vr b383, un, un, un, un, un, un, un, un] [(.int 0), (.int 1), (.ref b383)])) rfl rfl (hb hby at_104)
     have V387 : Arv Z h387 b383 k383 .boolean 3 [(.int 0), (.int 0), (.int 0)] (.int 0) := by
      have q := Arv.set Ar386 Aq386 As386 An386 Ah386 Ag386 (fits_nar_bool _) W387 1 rfl (Nat.le_of_ble_eq_true rfl)
      rw [show nar .boolean 0 = 0 from by decide] at q; exact q
     have K387 : Keep h0 h387 [] := K385.wr W387 (Or.inr sz383)
     have O387 : Old Z n0 h387 := O385.wr W387 ge383
     have N387 := Fr.snoc X387 N385 ge383
     refine Go.st st387 ?_
     show Go p.tables e below Kx _ (mkF m 105 _ [])
     refine s_iload (pc' := 107) X387.here hx (hb hby at_105) rfl rfl ?_
     refine s_iconst (pc' := 108) (v := 3) X387.here hx (hb hby at_107) rfl rfl ?_
     refine s_icmpN (pc' := 111) X387.here hx (hb hby at_108) rfl (flt (by decide)).1 ?_
     refine s_aload (pc' := 113) X387.here hx (hb hby at_111) rfl rfl rfl ?_
     refine s_iconst (pc' := 114) (v := 2) X387.here hx (hb hby at_113) rfl rfl ?_
     refine s_iload (pc' := 116) X387.here hx (hb hby at_114) rfl rfl ?_
     obtain ⟨cl388, Ar388, Aq388, As388, An388, Ah388, Ag388⟩ := id V387
     have in389 := inb_of (j := 2) As388 (by decide)
     obtain ⟨T389, h389, X389, e389, W389, st389⟩ := stZ X387 hx hZ e387 Ar388 (j := 2) in389 (g := (mkF m 116 #[vi p0, vi p1, vi p2, vi p3, vi 3, vi rc, vi 0, vi 0, vi 0, vi x4, vr b383, un, un, un, un, un, un, un, un] [(.int 0), (.int 2), (.ref b383)])) rfl rfl (hb hby at_116)
     have V389 : Arv Z h389 b383 k383 .boolean 3 [(.int 0), (.int 0), (.int 0)] (.int 0) := by
      have q := Arv.set Ar388 Aq388 As388 An388 Ah388 Ag388 (fits_nar_bool _) W389 2 rfl (Nat.le_of_ble_eq_true rfl)
      rw [show nar .boolean 0 = 0 from by decide] at q; exact q
     have K389 : Keep h0 h389 [] := K387.wr W389 (Or.inr sz383)
     have O389 : Old Z n0 h389 := O387.wr W389 ge383
     have N389 := Fr.snoc X389 N387 ge383
     refine Go.st st389 ?_
     show Go p.tables e below Kx _ (mkF m 117 _ [])
     refine s_iload (pc' := 119) X389.here hx (hb hby at_117) rfl rfl ?_
     refine s_iconst (pc' := 120) (v := 4) X389.here hx (hb hby at_119) rfl rfl ?_
     refine s_icmpY (pc' := 129) X389.here hx (hb hby at_120) (tlt (by decide)).1 (by decide) (by decide) ?_
     obtain ⟨T390, h390, X390, e390, E390, A390, D390, -, st390⟩ := newO X389 hx hZ hown (hv hw 2 rfl) (hv hw 3 rfl) (hv hw 4 rfl) e389 (g := (mkF m 129 #[vi p0, vi p1, vi p2, vi p3, vi 3, vi rc, vi 0, vi 0, vi 0, vi x4, vr b383, un, un, un, un, un, un, un, un] [])) rfl (hb hby at_129) (by decide) (by decide)
     obtain ⟨b390, g390⟩ : ∃ z, z = h389.size := ⟨_, rfl⟩
     rw [← g390] at A390 D390 st390
     have sz390 : h0.size ≤ b390 := Nat.le_trans K389.1 (Nat.le_of_eq g390.symm)
     have ge390 : n0 ≤ b390 := Nat.le_trans (O389.1 ▸ O389.2.1) (Nat.le_of_eq g390.symm)
     have K390 : Keep h0 h390 [] := K389.ext E390
     have O390 : Old Z n0 h390 := O389.ext E390
     have F390_relevantWithin : Fld Z h390 b390 "com/example/kingfisher/kingfisher/eval/TopicRanking" "relevantWithin" "[I" .null := D390 (Or.inr (hv hw 13 rfl)) (ty := (.array .int)) (by decide)
     have F390_relevantCount : Fld Z h390 b390 "com/example/kingfisher/kingfisher/eval/TopicRanking" "relevantCount" "I" (.int 0) := D390 (Or.inr (hv hw 15 rfl)) (ty := .int) (by decide)
     refine Go.st st390 ?_
     show Go p.tables e below Kx _ (mkF m 132 _ [(.ref b390)])
     refine s_dup (pc' := 133) X390.here hx (hb hby at_132) rfl rfl ?_
     refine s_aload (pc' := 135) X390.here hx (hb hby at_133) rfl rfl rfl ?_
     refine s_iload (pc' := 137) X390.here hx (hb hby at_135) rfl rfl ?_
     have f391 : Arv Z h390 b383 k383 .boolean 3 [(.int 0), (.int 0), (.int 0)] (.int 0) := (V389.ext E390)
     obtain ⟨_, _, ⟨T392, L392, k392, n392⟩, -, X392, ⟨Lc392, hQ392, l392, y392, z392⟩, st392⟩ := X390.specialBack hx (y := yN0) rfl hown (mvT hZ (hv hw 5 rfl)) (mvT hZ (hv hw 6 rfl)) (mvT hZ (hv hw 7 rfl)) (by decide) (backOf (W := 1) (rmN3 l Z a0 hw [] b390 b383 k383 0 0 0 0 0 0 rc h390 n0 O390 ge390 (Nat.ne_of_lt (Nat.lt_of_lt_of_le (Nat.lt_of_lt_of_le A383.lt (Nat.le_trans (Nat.le_trans (Nat.le_of_eq W385.size.symm) (Nat.le_of_eq W387.size.symm)) (Nat.le_of_eq W389.size.symm))) (Nat.le_of_eq g390.symm))) A390 F390_relevantWithin F390_relevantCount f391 (by decide) (by decide) (by decide)) hZ (hv hw 7 rfl) (hv hw 4 rfl) (by decide) (by decide)) (g := (mkF m 137 #[vi p0, vi p1, vi p2, vi p3, vi 3, vi rc, vi 0, vi 0, vi 0, vi x4, vr b383, un, un, un, un, un, un, un, un] [(.int rc), (.ref b383), (.ref b390), (.ref b390)])) rfl (by rw [hml]; rfl) (Steps.refl _) (a := b390) (argsL := [(.ref b383), (.int rc)]) (rest := [(.ref b390)]) (lenOf pd_2 rfl) rfl (by exact Nat.le_of_eq rfl) (hb hby at_137) (fun _ _ => ⟨rfl, e390, (by decide : 2 + 1 ≤ _), (by decide : 5 + 4 ≤ _)⟩)
     dsimp only [Pt.U, Pt.locs, Pt.cells, Pt.slots] at X392 l392 y392 z392 st392 hQ392
     rw [l392, y392, z392] at X392
     obtain ⟨rfl, Nq392, Kq392, q1_392, q2_392, t392, kt392, q3_392, q4_392⟩ := hQ392
     have N392 := Fr.app N389 Nq392
     have K392 : Keep h0 T392.heap [] := K390.trans Kq392 (allS (P := fun zz => zz ∈ [] ∨ h0.size ≤ zz) (Or.inr sz390) all0)
     have O392 : Old Z n0 T392.heap := O390.keep Kq392 (allS ge390 all0)
     refine Go.tr st392 ?_
     show Go p.tables e below Kx _ (mkF m 140 _ [(.ref b390)])
     refine s_astore (pc' := 142) (Ls' := #[vi p0, vi p1, vi p2, vi p3, vi 3, vi rc, vi 0, vi 0, vi 0, vi x4, vr b383, vr b390, un, un, un, un, un, un, un]) X392.here hx (hb hby at_140) rfl rfl rfl ?_
     refine s_aload (pc' := 144) X392.here hx (hb hby at_142) rfl rfl rfl ?_
     refine s_iloadN (pc' := 145) X392.here hx (hb hby at_144) rfl rfl ?_
     obtain ⟨cq393, kq393, q393a, q393b, q393c⟩ := isOf hZ rfl q1_392
     obtain ⟨_, _, ⟨T393, L393, k393, n393⟩, -, X393, ⟨Lc393, hQ393, l393, y393, z393⟩, st393⟩ := X392.virtualBack hx (y := yN1) (z := yN1) hown (mvT hZ (hv hw 16 rfl)) (mvT hZ (hv hw 17 rfl)) (notFace_of_selects (args := #[]) (mvT hZ (hv hw 19 rfl))) (mvT hZ (hv hw 19 rfl)) (mvT hZ (hv hw 18 rfl)) (by decide) (backOf (W := 0) (rmA3 l Z a0 hw [] b390 t392 kt392 0 0 0 rc p2 T392.heap n0 O392 hrc q1_392 q3_392 q2_392 q4_392) hZ (hv hw 20 rfl) (hv hw 4 rfl) (by decide) (by decide)) q393a q393c (g := (mkF m 145 #[vi p0, vi p1, vi p2, vi p3, vi 3, vi rc, vi 0, vi 0, vi 0, vi x4, vr b383, vr b390, un, un, un, un, un, un, un] [(.int p2), (.ref b390)])) rfl (by rw [hml]; rfl) (Steps.refl _) (argsL := [(.int p2)]) (rest := []) (lenOf pd_3 rfl) rfl (by exact Nat.le_of_eq rfl) (hb hby at_145) (fun _ _ => ⟨rfl, rfl, (by decide : 3 + 0 ≤ _), (by decide : 9 + 0 ≤ _)⟩)
     dsimp only [Pt.U, Pt.locs, Pt.cells, Pt.slots] at X393 l393 y393 z393 st393 hQ393
     rw [l393, y393, z393] at X393
     obtain ⟨rfl, Nq393, hE393⟩ := hQ393
     have N393 := Fr.app N392 Nq393
     refine Go.tr st393 ?_
     show Go p.tables e below Kx _ (mkF m 148 _ [(.double (mst (mst (mst FP.dconst0 0 1 (needd p2 rc)) 0 2 (needd p2 rc)) 0 3 (needd p2 rc)))])
     refine s_dstore (pc' := 150) (Ls' := #[vi p0, vi p1, vi p2, vi p3, vi 3, vi rc, vi 0, vi 0, vi 0, vi x4, vr b383, vr b390, .val (.double (mst (mst (mst FP.dconst0 0 1 (needd p2 rc)) 0 2 (needd p2 rc)) 0 3 (needd p2 rc))), sn, un, un, un, un, un]) X393.here hx (hb hby at_148) rfl  rfl ?_
     refine s_iloadN (pc' := 151) X393.here hx (hb hby at_150) rfl rfl ?_
     refine s_i2d (pc' := 152) X393.here hx (hb hby at_151) rfl rfl ?_
     refine Go.st (X393.ldc2DoubleC hx hown (mvT hZ (hv hw 28 rfl)) (g := (mkF m 152 #[vi p0, vi p1, vi p2, vi p3, vi 3, vi rc, vi 0, vi 0, vi 0, vi x4, vr b383, vr b390, .val (.double (mst (mst (mst FP.dconst0 0 1 (needd p2 rc)) 0 2 (needd p2 rc)) 0 3 (needd p2 rc))), sn, un, un, un, un, un] [(.double (FP.i2d p2))])) rfl (hb hby at_152)) ?_
     show Go p.tables e below Kx _ (mkF m 155 _ [(.double (4621819117588971520 : UInt64)), (.double (FP.i2d p2))])
     refine s_ddiv (pc' := 156) X393.here hx (hb hby at_155) rfl (nn1 p2) rfl ?_
     refine s_iload (pc' := 158) X393.here hx (hb hby at_156) rfl rfl ?_
     refine s_i2d (pc' := 159) X393.here hx (hb hby at_158) rfl rfl ?_
     refine s_dmul (pc' := 160) X393.here hx (hb hby at_159) rfl (nn2 p2 hrc) rfl ?_
     refine Go.st (X393.ldc2DoubleC hx hown (mvT hZ (hv hw 29 rfl)) (g := (mkF m 160 #[vi p0, vi p1, vi p2, vi p3, vi 3, vi rc, vi 0, vi 0, vi 0, vi x4, vr b383, vr b390, .val (.double (mst (mst (mst FP.dconst0 0 1 (needd p2 rc)) 0 2 (needd p2 rc)) 0 3 (needd p2 rc))), sn, un, un, un, un, un] [(.double (FP.dmul (FP.ddiv (FP.i2d p2) (4621819117588971520 : UInt64)) (FP.i2d rc)))])) rfl (hb hby at_160)) ?_
     show Go p.tables e below Kx _ (mkF m 163 _ [(.double (4606281698874543309 : UInt64)), (.double (FP.dmul (FP.ddiv (FP.i2d p2) (4621819117588971520 : UInt64)) (FP.i2d rc)))])
     refine s_dadd (pc' := 164) X393.here hx (hb hby at_163) rfl (nn3 p2 hrc) rfl ?_
     refine s_d2l (pc' := 165) (z := needd p2 rc) X393.here hx (hb hby at_164) rfl rfl ?_
     show Go p.tables e below Kx _ (mkF m 165 _ [(.long (needd p2 rc))])
     generalize (needd p2 rc) = nd
     generalize hmm : (mst (mst (mst FP.dconst0 0 1 nd) 0 2 nd) 0 3 nd) = mm
     show Go p.tables e below Kx _ (mkF m 165 _ [(.long nd)])
     refine s_lstore (pc' := 167) (Ls' := #[vi p0, vi p1, vi p2, vi p3, vi 3, vi rc, vi 0, vi 0, vi 0, vi x4, vr b383, vr b390, .val (.double mm), sn, .val (.long nd), sn, un, un, un]) X393.here hx (hb hby at_165) rfl  rfl ?_
     refine s_dconst0 (pc' := 168) X393.here hx (hb hby at_167) rfl rfl ?_
     refine s_dstore (pc' := 170) (Ls' := #[vi p0, vi p1, vi p2, vi p3, vi 3, vi rc, vi 0, vi 0, vi 0, vi x4, vr b383, vr b390, .val (.double mm), sn, .val (.long nd), sn, .val (.double FP.dconst0), sn, un]) X393.here hx (hb hby at_168) rfl  rfl ?_
     refine s_iconst (pc' := 171) (v := 0) X393.here hx (hb hby at_170) rfl rfl ?_
     refine s_istore (pc' := 173) (Ls' := #[vi p0, vi p1, vi p2, vi p3, vi 3, vi rc, vi 0, vi 0, vi 0, vi x4, vr b383, vr b390, .val (.double mm), sn, .val (.long nd), sn, .val (.double FP.dconst0), sn, vi 0]) X393.here hx (hb hby at_171) rfl  rfl ?_
     refine s_iload (pc' := 175) X393.here hx (hb hby at_173) rfl rfl ?_
     refine s_iconst (pc' := 176) (v := 1) X393.here hx (hb hby at_175) rfl rfl ?_
     refine s_icmpN (pc' := 179) X393.here hx (hb hby at_176) rfl (flt (by decide)).1 ?_
     refine s_iload (pc' := 181) X393.here hx (hb hby at_179) rfl rfl ?_
     refine s_ifY (pc' := 202) X393.here hx (hb hby at_181) ((if0 _ _).trans (teq (by decide)).1) (by decide) (by decide) ?_
     refine s_iload (pc' := 204) X393.here hx (hb hby at_202) rfl rfl ?_
     refine s_iconst (pc' := 205) (v := 2) X393.here hx (hb hby at_204) rfl rfl ?_
     refine s_icmpN (pc' := 208) X393.here hx (hb hby at_205) rfl (flt (by decide)).1 ?_
     refine s_iload (pc' := 210) X393.here hx (hb hby at_208) rfl rfl ?_
     refine s_ifY (pc' := 231) X393.here hx (hb hby at_210) ((if0 _ _).trans (teq (by decide)).1) (by decide) (by decide) ?_
     refine s_iload (pc' := 233) X393.here hx (hb hby at_231) rfl rfl ?_
     refine s_iconst (pc' := 234) (v := 3) X393.here hx (hb hby at_233) rfl rfl ?_
     refine s_icmpN (pc' := 237) X393.here hx (hb hby at_234) rfl (flt (by decide)).1 ?_
     refine s_iload (pc' := 239) X393.here hx (hb hby at_237) rfl rfl ?_
     refine s_ifY (pc' := 260) X393.here hx (hb hby at_239) ((if0 _ _).trans (teq (by decide)).1) (by decide) (by decide) ?_
     refine s_iload (pc' := 262) X393.here hx (hb hby at_260) rfl rfl ?_
     refine s_iconst (pc' := 263) (v := 4) X393.here hx (hb hby at_262) rfl rfl ?_
     refine s_icmpY (pc' := 289) X393.here hx (hb hby at_263) (tlt (by decide)).1 (by decide) (by decide) ?_
     refine s_dload (pc' := 291) X393.here hx (hb hby at_289) rfl rfl ?_
     refine s_dload (pc' := 293) X393.here hx (hb hby at_291) rfl rfl ?_
     refine s_dcmpl (pc' := 294) (z := 0) X393.here hx (hb hby at_293) rfl (by rw [← hmm]; exact fin_3000 nd) ?_
     refine s_ifN (pc' := 297) X393.here hx (hb hby at_294) rfl ((if0 _ _).trans (teq (by decide)).2) ?_
     refine s_iconst (pc' := 298) (v := 1) X393.here hx (hb hby at_297) rfl rfl ?_
     refine s_goto (pc' := 302) X393.here hx (hb hby at_298) (by decide) (by decide) ?_
     obtain ⟨fs, hr, hrun, hended, hW, hsame⟩ := X393.leave (v := (some (.int 1))) (fun h => by rw [Bd.returns] at h; cases h)
     refine Go.fin (retN X393 hx (t := .boolean) Bd.returns (by simp) (hb hby at_302) hr) (hF _ _ hrun hended ⟨_, _, rfl, ?_, ⟨_, rfl⟩, hW, hsame.mono (by decide) (by decide)⟩)
     ·
      show QL Z p0 p1 p2 p3 h0 n0 ((some (.int 1)) : Option Value) T393.heap _
      rw [hE393]
      exact ⟨rfl, N393⟩
    ·
     show Go p.tables e below Kx _ (mkF m 75 _ [])
     refine s_iload (pc' := 77) X0.here hx (hb hby at_75) rfl rfl ?_
     obtain ⟨T394, h394, k394, X394, e394, E394, A394, st394⟩ := newP X0 hx hZ (hv hw 1 rfl) e0 (g := (mkF m 77 #[vi p0, vi p1, vi p2, vi p3, vi 3, vi rc, vi 0, vi 0, vi 1, vi x4, un, un, un, un, un, un, un, un, un] [(.int 3)])) rfl (hb hby at_77) rfl (by decide) (cap := 3) (by decide) (by decide) (by decide) (by decide)
     obtain ⟨b394, g394⟩ : ∃ z, z = h0.size := ⟨_, rfl⟩
     rw [← g394] at A394 st394
     have sz394 : h0.size ≤ b394 := Nat.le_trans K0.1 (Nat.le_of_eq g394.symm)
     have ge394 : n0 ≤ b394 := Nat.le_trans (X00.1 ▸ X00.2.1) (Nat.le_of_eq g394.symm)
     have K394 : Keep h0 h394 [] := K0.ext E394
     have O394 : Old Z n0 h394 := X00.ext E394
     have V394 : Arv Z h394 b394 k394 .boolean 3 [(.int 0), (.int 0), (.int 0)] (.int 0) := (Arv.new A394 (by decide)).pad (pad_rep [] (.int 0) 3)
     refine Go.st st394 ?_
     show Go p.tables e below Kx _ (mkF m 79 _ [(.ref b394)])
     refine s_astore (pc' := 81) (Ls' := #[vi p0, vi p1, vi p2, vi p3, vi 3, vi rc, vi 0, vi 0, vi 1, vi x4, vr b394, un, un, un, un, un, un, un, un]) X394.here hx (hb hby at_79) rfl rfl rfl ?_
     refine s_iload (pc' := 83) X394.here hx (hb hby at_81) rfl rfl ?_
     refine s_iconst (pc' := 84) (v := 1) X394.here hx (hb hby at_83) rfl rfl ?_
     refine s_icmpN (pc' := 87) X394.here hx (hb hby at_84) rfl (flt (by decide)).1 ?_
     refine s_aload (pc' := 89) X394.here hx (hb hby at_87) rfl rfl rfl ?_
     refine s_iconst (pc' := 90) (v := 0) X394.here hx (hb hby at_89) rfl rfl ?_
     refine s_iload (pc' := 92) X394.here hx (hb hby at_90) rfl rfl ?_
     obtain ⟨cl395, Ar395, Aq395, As395, An395, Ah395, Ag395⟩ := id V394
     have in396 := inb_of (j := 0) As395 (by decide)
     obtain ⟨T396, h396, X396, e396, W396, st396⟩ := stZ X394 hx hZ e394 Ar395 (j := 0) in396 (g := (mkF m 92 #[vi p0, vi p1, vi p2, vi p3, vi 3, vi rc, vi 0, vi 0, vi 1, vi x4, vr b394, un, un, un, un, un, un, un, un] [(.int 0), (.int 0), (.ref b394)])) rfl rfl (hb hby at_92)
     have V396 : Arv Z h396 b394 k394 .boolean 3 [(.int 0), (.int 0), (.int 0)] (.int 0) := by
      have q := Arv.set Ar395 Aq395 As395 An395 Ah395 Ag395 (fits_nar_bool _) W396 0 rfl (Nat.le_of_ble_eq_true rfl)
      rw [show nar .boolean 0 = 0 from by decide] at q; exact q
     have K396 : Keep h0 h396 [] := K394.wr W396 (Or.inr sz394)
     have O396 : Old Z n0 h396 := O394.wr W396 ge394
     have N396 := Fr.snoc X396 N0 ge394
     refine Go.st st396 ?_
     show Go p.tables e below Kx _ (mkF m 93 _ [])
     refine s_iload (pc' := 95) X396.here hx (hb hby at_93) rfl rfl ?_
     refine s_iconst (pc' := 96) (v := 2) X396.here hx (hb hby at_95) rfl rfl ?_
     refine s_icmpN (pc' := 99) X396.here hx (hb hby at_96) rfl (flt (by decide)).1 ?_
     refine s_aload (pc' := 101) X396.here hx (hb hby at_99) rfl rfl rfl ?_
     refine s_iconst (pc' := 102) (v := 1) X396.here hx (hb hby at_101) rfl rfl ?_
     refine s_iload (pc' := 104) X396.here hx (hb hby at_102) rfl rfl ?_
     obtain ⟨cl397, Ar397, Aq397, As397, An397, Ah397, Ag397⟩ := id V396
     have in398 := inb_of (j := 1) As397 (by decide)
     obtain ⟨T398, h398, X398, e398, W398, st398⟩ := stZ X396 hx hZ e396 Ar397 (j := 1) in398 (g := (mkF m 104 #[vi p0, vi p1, vi p2, vi p3, vi 3, vi rc, vi 0, vi 0, vi 1, vi x4, vr b394, un, un, un, un, un, un, un, un] [(.int 0), (.int 1), (.ref b394)])) rfl rfl (hb hby at_104)
     have V398 : Arv Z h398 b394 k394 .boolean 3 [(.int 0), (.int 0), (.int 0)] (.int 0) := by
      have q := Arv.set Ar397 Aq397 As397 An397 Ah397 Ag397 (fits_nar_bool _) W398 1 rfl (Nat.le_of_ble_eq_true rfl)
      rw [show nar .boolean 0 = 0 from by decide] at q; exact q
     have K398 : Keep h0 h398 [] := K396.wr W398 (Or.inr sz394)
     have O398 : Old Z n0 h398 := O396.wr W398 ge394
     have N398 := Fr.snoc X398 N396 ge394
     refine Go.st st398 ?_
     show Go p.tables e below Kx _ (mkF m 105 _ [])
     refine s_iload (pc' := 107) X398.here hx (hb hby at_105) rfl rfl ?_
     refine s_iconst (pc' := 108) (v := 3) X398.here hx (hb hby at_107) rfl rfl ?_
     refine s_icmpN (pc' := 111) X398.here hx (hb hby at_108) rfl (flt (by decide)).1 ?_
     refine s_aload (pc' := 113) X398.here hx (hb hby at_111) rfl rfl rfl ?_
     refine s_iconst (pc' := 114) (v := 2) X398.here hx (hb hby at_113) rfl rfl ?_
     refine s_iload (pc' := 116) X398.here hx (hb hby at_114) rfl rfl ?_
     obtain ⟨cl399, Ar399, Aq399, As399, An399, Ah399, Ag399⟩ := id V398
     have in400 := inb_of (j := 2) As399 (by decide)
     obtain ⟨T400, h400, X400, e400, W400, st400⟩ := stZ X398 hx hZ e398 Ar399 (j := 2) in400 (g := (mkF m 116 #[vi p0, vi p1, vi p2, vi p3, vi 3, vi rc, vi 0, vi 0, vi 1, vi x4, vr b394, un, un, un, un, un, un, un, un] [(.int 1), (.int 2), (.ref b394)])) rfl rfl (hb hby at_116)
     have V400 : Arv Z h400 b394 k394 .boolean 3 [(.int 0), (.int 0), (.int 1)] (.int 0) := by
      have q := Arv.set Ar399 Aq399 As399 An399 Ah399 Ag399 (fits_nar_bool _) W400 2 rfl (Nat.le_of_ble_eq_true rfl)
      rw [show nar .boolean 1 = 1 from by decide] at q; exact q
     have K400 : Keep h0 h400 [] := K398.wr W400 (Or.inr sz394)
     have O400 : Old Z n0 h400 := O398.wr W400 ge394
     have N400 := Fr.snoc X400 N398 ge394
     refine Go.st st400 ?_
     show Go p.tables e below Kx _ (mkF m 117 _ [])
     refine s_iload (pc' := 119) X400.here hx (hb hby at_117) rfl rfl ?_
     refine s_iconst (pc' := 120) (v := 4) X400.here hx (hb hby at_119) rfl rfl ?_
     refine s_icmpY (pc' := 129) X400.here hx (hb hby at_120) (tlt (by decide)).1 (by decide) (by decide) ?_
     obtain ⟨T401, h401, X401, e401, E401, A401, D401, -, st401⟩ := newO X400 hx hZ hown (hv hw 2 rfl) (hv hw 3 rfl) (hv hw 4 rfl) e400 (g := (mkF m 129 #[vi p0, vi p1, vi p2, vi p3, vi 3, vi rc, vi 0, vi 0, vi 1, vi x4, vr b394, un, un, un, un, un, un, un, un] [])) rfl (hb hby at_129) (by decide) (by decide)
     obtain ⟨b401, g401⟩ : ∃ z, z = h400.size := ⟨_, rfl⟩
     rw [← g401] at A401 D401 st401
     have sz401 : h0.size ≤ b401 := Nat.le_trans K400.1 (Nat.le_of_eq g401.symm)
     have ge401 : n0 ≤ b401 := Nat.le_trans (O400.1 ▸ O400.2.1) (Nat.le_of_eq g401.symm)
     have K401 : Keep h0 h401 [] := K400.ext E401
     have O401 : Old Z n0 h401 := O400.ext E401
     have F401_relevantWithin : Fld Z h401 b401 "com/example/kingfisher/kingfisher/eval/TopicRanking" "relevantWithin" "[I" .null := D401 (Or.inr (hv hw 13 rfl)) (ty := (.array .int)) (by decide)
     have F401_relevantCount : Fld Z h401 b401 "com/example/kingfisher/kingfisher/eval/TopicRanking" "relevantCount" "I" (.int 0) := D401 (Or.inr (hv hw 15 rfl)) (ty := .int) (by decide)
     refine Go.st st401 ?_
     show Go p.tables e below Kx _ (mkF m 132 _ [(.ref b401)])
     refine s_dup (pc' := 133) X401.here hx (hb hby at_132) rfl rfl ?_
     refine s_aload (pc' := 135) X401.here hx (hb hby at_133) rfl rfl rfl ?_
     refine s_iload (pc' := 137) X401.here hx (hb hby at_135) rfl rfl ?_
     have f402 : Arv Z h401 b394 k394 .boolean 3 [(.int 0), (.int 0), (.int 1)] (.int 0) := (V400.ext E401)
     obtain ⟨_, _, ⟨T403, L403, k403, n403⟩, -, X403, ⟨Lc403, hQ403, l403, y403, z403⟩, st403⟩ := X401.specialBack hx (y := yN0) rfl hown (mvT hZ (hv hw 5 rfl)) (mvT hZ (hv hw 6 rfl)) (mvT hZ (hv hw 7 rfl)) (by decide) (backOf (W := 1) (rmN3 l Z a0 hw [] b401 b394 k394 0 0 1 0 0 1 rc h401 n0 O401 ge401 (Nat.ne_of_lt (Nat.lt_of_lt_of_le (Nat.lt_of_lt_of_le A394.lt (Nat.le_trans (Nat.le_trans (Nat.le_of_eq W396.size.symm) (Nat.le_of_eq W398.size.symm)) (Nat.le_of_eq W400.size.symm))) (Nat.le_of_eq g401.symm))) A401 F401_relevantWithin F401_relevantCount f402 (by decide) (by decide) (by decide)) hZ (hv hw 7 rfl) (hv hw 4 rfl) (by decide) (by decide)) (g := (mkF m 137 #[vi p0, vi p1, vi p2, vi p3, vi 3, vi rc, vi 0, vi 0, vi 1, vi x4, vr b394, un, un, un, un, un, un, un, un] [(.int rc), (.ref b394), (.ref b401), (.ref b401)])) rfl (by rw [hml]; rfl) (Steps.refl _) (a := b401) (argsL := [(.ref b394), (.int rc)]) (rest := [(.ref b401)]) (lenOf pd_2 rfl) rfl (by exact Nat.le_of_eq rfl) (hb hby at_137) (fun _ _ => ⟨rfl, e401, (by decide : 2 + 1 ≤ _), (by decide : 5 + 4 ≤ _)⟩)
     dsimp only [Pt.U, Pt.locs, Pt.cells, Pt.slots] at X403 l403 y403 z403 st403 hQ403
     rw [l403, y403, z403] at X403
     obtain ⟨rfl, Nq403, Kq403, q1_403, q2_403, t403, kt403, q3_403, q4_403⟩ := hQ403
     have N403 := Fr.app N400 Nq403
     have K403 : Keep h0 T403.heap [] := K401.trans Kq403 (allS (P := fun zz => zz ∈ [] ∨ h0.size ≤ zz) (Or.inr sz401) all0)
     have O403 : Old Z n0 T403.heap := O401.keep Kq403 (allS ge401 all0)
     refine Go.tr st403 ?_
     show Go p.tables e below Kx _ (mkF m 140 _ [(.ref b401)])
     refine s_astore (pc' := 142) (Ls' := #[vi p0, vi p1, vi p2, vi p3, vi 3, vi rc, vi 0, vi 0, vi 1, vi x4, vr b394, vr b401, un, un, un, un, un, un, un]) X403.here hx (hb hby at_140) rfl rfl rfl ?_
     refine s_aload (pc' := 144) X403.here hx (hb hby at_142) rfl rfl rfl ?_
     refine s_iloadN (pc' := 145) X403.here hx (hb hby at_144) rfl rfl ?_
     obtain ⟨cq404, kq404, q404a, q404b, q404c⟩ := isOf hZ rfl q1_403
     obtain ⟨_, _, ⟨T404, L404, k404, n404⟩, -, X404, ⟨Lc404, hQ404, l404, y404, z404⟩, st404⟩ := X403.virtualBack hx (y := yN1) (z := yN1) hown (mvT hZ (hv hw 16 rfl)) (mvT hZ (hv hw 17 rfl)) (notFace_of_selects (args := #[]) (mvT hZ (hv hw 19 rfl))) (mvT hZ (hv hw 19 rfl)) (mvT hZ (hv hw 18 rfl)) (by decide) (backOf (W := 0) (rmA3 l Z a0 hw [] b401 t403 kt403 0 0 1 rc p2 T403.heap n0 O403 hrc q1_403 q3_403 q2_403 q4_403) hZ (hv hw 20 rfl) (hv hw 4 rfl) (by decide) (by decide)) q404a q404c (g := (mkF m 145 #[vi p0, vi p1, vi p2, vi p3, vi 3, vi rc, vi 0, vi 0, vi 1, vi x4, vr b394, vr b401, un, un, un, un, un, un, un] [(.int p2), (.ref b401)])) rfl (by rw [hml]; rfl) (Steps.refl _) (argsL := [(.int p2)]) (rest := []) (lenOf pd_3 rfl) rfl (by exact Nat.le_of_eq rfl) (hb hby at_145) (fun _ _ => ⟨rfl, rfl, (by decide : 3 + 0 ≤ _), (by decide : 9 + 0 ≤ _)⟩)
     dsimp only [Pt.U, Pt.locs, Pt.cells, Pt.slots] at X404 l404 y404 z404 st404 hQ404
     rw [l404, y404, z404] at X404
     obtain ⟨rfl, Nq404, hE404⟩ := hQ404
     have N404 := Fr.app N403 Nq404
     refine Go.tr st404 ?_
     show Go p.tables e below Kx _ (mkF m 148 _ [(.double (mst (mst (mst FP.dconst0 0 1 (needd p2 rc)) 0 2 (needd p2 rc)) 1 3 (needd p2 rc)))])
     refine s_dstore (pc' := 150) (Ls' := #[vi p0, vi p1, vi p2, vi p3, vi 3, vi rc, vi 0, vi 0, vi 1, vi x4, vr b394, vr b401, .val (.double (mst (mst (mst FP.dconst0 0 1 (needd p2 rc)) 0 2 (needd p2 rc)) 1 3 (needd p2 rc))), sn, un, un, un, un, un]) X404.here hx (hb hby at_148) rfl  rfl ?_
     refine s_iloadN (pc' := 151) X404.here hx (hb hby at_150) rfl rfl ?_
     refine s_i2d (pc' := 152) X404.here hx (hb hby at_151) rfl rfl ?_
     refine Go.st (X404.ldc2DoubleC hx hown (mvT hZ (hv hw 28 rfl)) (g := (mkF m 152 #[vi p0, vi p1, vi p2, vi p3, vi 3, vi rc, vi 0, vi 0, vi 1, vi x4, vr b394, vr b401, .val (.double (mst (mst (mst FP.dconst0 0 1 (needd p2 rc)) 0 2 (needd p2 rc)) 1 3 (needd p2 rc))), sn, un, un, un, un, un] [(.double (FP.i2d p2))])) rfl (hb hby at_152)) ?_
     show Go p.tables e below Kx _ (mkF m 155 _ [(.double (4621819117588971520 : UInt64)), (.double (FP.i2d p2))])
     refine s_ddiv (pc' := 156) X404.here hx (hb hby at_155) rfl (nn1 p2) rfl ?_
     refine s_iload (pc' := 158) X404.here hx (hb hby at_156) rfl rfl ?_
     refine s_i2d (pc' := 159) X404.here hx (hb hby at_158) rfl rfl ?_
     refine s_dmul (pc' := 160) X404.here hx (hb hby at_159) rfl (nn2 p2 hrc) rfl ?_
     refine Go.st (X404.ldc2DoubleC hx hown (mvT hZ (hv hw 29 rfl)) (g := (mkF m 160 #[vi p0, vi p1, vi p2, vi p3, vi 3, vi rc, vi 0, vi 0, vi 1, vi x4, vr b394, vr b401, .val (.double (mst (mst (mst FP.dconst0 0 1 (needd p2 rc)) 0 2 (needd p2 rc)) 1 3 (needd p2 rc))), sn, un, un, un, un, un] [(.double (FP.dmul (FP.ddiv (FP.i2d p2) (4621819117588971520 : UInt64)) (FP.i2d rc)))])) rfl (hb hby at_160)) ?_
     show Go p.tables e below Kx _ (mkF m 163 _ [(.double (4606281698874543309 : UInt64)), (.double (FP.dmul (FP.ddiv (FP.i2d p2) (4621819117588971520 : UInt64)) (FP.i2d rc)))])
     refine s_dadd (pc' := 164) X404.here hx (hb hby at_163) rfl (nn3 p2 hrc) rfl ?_
     refine s_d2l (pc' := 165) (z := needd p2 rc) X404.here hx (hb hby at_164) rfl rfl ?_
     show Go p.tables e below Kx _ (mkF m 165 _ [(.long (needd p2 rc))])
     generalize (needd p2 rc) = nd
     generalize hmm : (mst (mst (mst FP.dconst0 0 1 nd) 0 2 nd) 1 3 nd) = mm
     show Go p.tables e below Kx _ (mkF m 165 _ [(.long nd)])
     refine s_lstore (pc' := 167) (Ls' := #[vi p0, vi p1, vi p2, vi p3, vi 3, vi rc, vi 0, vi 0, vi 1, vi x4, vr b394, vr b401, .val (.double mm), sn, .val (.long nd), sn, un, un, un]) X404.here hx (hb hby at_165) rfl  rfl ?_
     refine s_dconst0 (pc' := 168) X404.here hx (hb hby at_167) rfl rfl ?_
     refine s_dstore (pc' := 170) (Ls' := #[vi p0, vi p1, vi p2, vi p3, vi 3, vi rc, vi 0, vi 0, vi 1, vi x4, vr b394, vr b401, .val (.double mm), sn, .val (.long nd), sn, .val (.double FP.dconst0), sn, un]) X404.here hx (hb hby at_168) rfl  rfl ?_
     refine s_iconst (pc' := 171) (v := 0) X404.here hx (hb hby at_170) rfl rfl ?_
     refine s_istore (pc' := 173) (Ls' := #[vi p0, vi p1, vi p2, vi p3, vi 3, vi rc, vi 0, vi 0, vi 1, vi x4, vr b394, vr b401, .val (.double mm), sn, .val (.long nd), sn, .val (.double FP.dconst0), sn, vi 0]) X404.here hx (hb hby at_171) rfl  rfl ?_
     refine s_iload (pc' := 175) X404.here hx (hb hby at_173) rfl rfl ?_
     refine s_iconst (pc' := 176) (v := 1) X404.here hx (hb hby at_175) rfl rfl ?_
     refine s_icmpN (pc' := 179) X404.here hx (hb hby at_176) rfl (flt (by decide)).1 ?_
     refine s_iload (pc' := 181) X404.here hx (hb hby at_179) rfl rfl ?_
     refine s_ifY (pc' := 202) X404.here hx (hb hby at_181) ((if0 _ _).trans (teq (by decide)).1) (by decide) (by decide) ?_
     refine s_iload (pc' := 204) X404.here hx (hb hby at_202) rfl rfl ?_
     refine s_iconst (pc' := 205) (v := 2) X404.here hx (hb hby at_204) rfl rfl ?_
     refine s_icmpN (pc' := 208) X404.here hx (hb hby at_205) rfl (flt (by decide)).1 ?_
     refine s_iload (pc' := 210) X404.here hx (hb hby at_208) rfl rfl ?_
     refine s_ifY (pc' := 231) X404.here hx (hb hby at_210) ((if0 _ _).trans (teq (by decide)).1) (by decide) (by decide) ?_
     refine s_iload (pc' := 233) X404.here hx (hb hby at_231) rfl rfl ?_
     refine s_iconst (pc' := 234) (v := 3) X404.here hx (hb hby at_233) rfl rfl ?_
     refine s_icmpN (pc' := 237) X404.here hx (hb hby at_234) rfl (flt (by decide)).1 ?_
     refine s_iload (pc' := 239) X404.here hx (hb hby at_237) rfl rfl ?_
     refine s_ifN (pc' := 242) X404.here hx (hb hby at_239) rfl ((if0 _ _).trans (feq (by decide)).1) ?_
     refine s_iload (pc' := 244) X404.here hx (hb hby at_242) rfl rfl ?_
     refine s_iconst (pc' := 245) (v := 1) X404.here hx (hb hby at_244) rfl rfl ?_
     refine s_iadd (pc' := 246) (z := 1) X404.here hx (hb hby at_245) rfl (by decide) ?_
     refine s_istore (pc' := 248) (Ls' := #[vi p0, vi p1, vi p2, vi p3, vi 3, vi rc, vi 0, vi 0, vi 1, vi x4, vr b394, vr b401, .val (.double mm), sn, .val (.long nd), sn, .val (.double FP.dconst0), sn, vi 1]) X404.here hx (hb hby at_246) rfl  rfl ?_
     refine s_dload (pc' := 250) X404.here hx (hb hby at_248) rfl rfl ?_
     refine s_iload (pc' := 252) X404.here hx (hb hby at_250) rfl rfl ?_
     refine s_iconst (pc' := 253) (v := 3) X404.here hx (hb hby at_252) rfl rfl ?_
     refine s_lload (pc' := 255) X404.here hx (hb hby at_253) rfl rfl ?_
     obtain ⟨_, _, ⟨T405, L405, k405, n405⟩, -, X405, ⟨Lc405, hQ405, l405, y405, z405⟩, st405⟩ := Jvm.LawKit.callS X404 hx (y := yN3) hown (mvT hZ (hv hw 30 rfl)) (mvT hZ (hv hw 31 rfl)) (mvT hZ (hv hw 32 rfl)) (mvT hZ (hv hw 33 rfl)) (by decide) (backOf (W := 0) (rmB l Z a0 hw [] FP.dconst0 1 3 nd T403.heap n0 O403 (by decide)) hZ (hv hw 33 rfl) (hv hw 32 rfl) (by decide) (by decide)) (g := (mkF m 255 #[vi p0, vi p1, vi p2, vi p3, vi 3, vi rc, vi 0, vi 0, vi 1, vi x4, vr b394, vr b401, .val (.double mm), sn, .val (.long nd), sn, .val (.double FP.dconst0), sn, vi 1] [(.long nd), (.int 3), (.int 1), (.double FP.dconst0)])) rfl (by rw [hml]; rfl) (argsL := [(.double FP.dconst0), (.int 1), (.int 3), (.long nd)]) (rest := []) (lenOf pd_4 rfl) rfl (by exact Nat.le_of_eq rfl) (hb hby at_255) (fun _ _ => ⟨rfl, hE404, (by decide : 3 + 0 ≤ _), (by decide : 9 + 0 ≤ _)⟩)
     dsimp only [Pt.U, Pt.locs, Pt.cells, Pt.slots] at X405 l405 y405 z405 st405 hQ405
     rw [l405, y405, z405] at X405
     obtain ⟨rfl, Nq405, hE405⟩ := hQ405
     have N405 := Fr.app N404 Nq405
     refine Go.st st405 ?_
     show Go p.tables e below Kx _ (mkF m 258 _ [(.double (bst FP.dconst0 1 3 nd))])
     refine s_dstore (pc' := 260) (Ls' := #[vi p0, vi p1, vi p2, vi p3, vi 3, vi rc, vi 0, vi 0, vi 1, vi x4, vr b394, vr b401, .val (.double mm), sn, .val (.long nd), sn, .val (.double (bst FP.dconst0 1 3 nd)), sn, vi 1]) X405.here hx (hb hby at_258) rfl  rfl ?_
     refine s_iload (pc' := 262) X405.here hx (hb hby at_260) rfl rfl ?_
     refine s_iconst (pc' := 263) (v := 4) X405.here hx (hb hby at_262) rfl rfl ?_
     refine s_icmpY (pc' := 289) X405.here hx (hb hby at_263) (tlt (by decide)).1 (by decide) (by decide) ?_
     refine s_dload (pc' := 291) X405.here hx (hb hby at_289) rfl rfl ?_
     refine s_dload (pc' := 293) X405.here hx (hb hby at_291) rfl rfl ?_
     refine s_dcmpl (pc' := 294) (z := 0) X405.here hx (hb hby at_293) rfl (by rw [← hmm]; exact fin_3001 nd) ?_
     refine s_ifN (pc' := 297) X405.here hx (hb hby at_294) rfl ((if0 _ _).trans (teq (by decide)).2) ?_
     refine s_iconst (pc' := 298) (v := 1) X405.here hx (hb hby at_297) rfl rfl ?_
     refine s_goto (pc' := 302) X405.here hx (hb hby at_298) (by decide) (by decide) ?_
     obtain ⟨fs, hr, hrun, hended, hW, hsame⟩ := X405.leave (v := (some (.int 1))) (fun h => by rw [Bd.returns] at h; cases h)
     refine Go.fin (retN X405 hx (t := .boolean) Bd.returns (by simp) (hb hby at_302) hr) (hF _ _ hrun hended ⟨_, _, rfl, ?_, ⟨_, rfl⟩, hW, hsame.mono (by decide) (by decide)⟩)
     ·
      show QL Z p0 p1 p2 p3 h0 n0 ((some (.int 1)) : Option Value) T405.heap _
      rw [hE405]
      exact ⟨rfl, N405⟩
   ·
    rcases hx3 with rfl | rfl
    ·
     show Go p.tables e below Kx _ (mkF m 75 _ [])
     refine s_iload (pc' := 77) X0.here hx (hb hby at_75) rfl rfl ?_
     obtain ⟨T406, h406, k406, X406, e406, E406, A406, st406⟩ := newP X0 hx hZ (hv hw 1 rfl) e0 (g := (mkF m 77 #[vi p0, vi p1, vi p2, vi p3, vi 3, vi rc, vi 0, vi 1, vi 0, vi x4, un, un, un, un, un, un, un, un, un] [(.int 3)])) rfl (hb hby at_77) rfl (by decide) (cap := 3) (by decide) (by decide) (by decide) (by decide)
     obtain ⟨b406, g406⟩ : ∃ z, z = h0.size := ⟨_, rfl⟩
     rw [← g406] at A406 st406
     have sz406 : h0.size ≤ b406 := Nat.le_trans K0.1 (Nat.le_of_eq g406.symm)
     have ge406 : n0 ≤ b406 := Nat.le_trans (X00.1 ▸ X00.2.1) (Nat.le_of_eq g406.symm)
     have K406 : Keep h0 h406 [] := K0.ext E406
     have O406 : Old Z n0 h406 := X00.ext E406
     have V406 : Arv Z h406 b406 k406 .boolean 3 [(.int 0), (.int 0), (.int 0)] (.int 0) := (Arv.new A406 (by decide)).pad (pad_rep [] (.int 0) 3)
     refine Go.st st406 ?_
     show Go p.tables e below Kx _ (mkF m 79 _ [(.ref b406)])
     refine s_astore (pc' := 81) (Ls' := #[vi p0, vi p1, vi p2, vi p3, vi 3, vi rc, vi 0, vi 1, vi 0, vi x4, vr b406, un, un, un, un, un, un, un, un]) X406.here hx (hb hby at_79) rfl rfl rfl ?_
     refine s_iload (pc' := 83) X406.here hx (hb hby at_81) rfl rfl ?_
     refine s_iconst (pc' := 84) (v := 1) X406.here hx (hb hby at_83) rfl rfl ?_
     refine s_icmpN (pc' := 87) X406.here hx (hb hby at_84) rfl (flt (by decide)).1 ?_
     refine s_aload (pc' := 89) X406.here hx (hb hby at_87) rfl rfl rfl ?_
     refine s_iconst (pc' := 90) (v := 0) X406.here hx (hb hby at_89) rfl rfl ?_
     refine s_iload (pc' := 92) X406.here hx (hb hby at_90) rfl rfl ?_
     obtain ⟨cl407, Ar407, Aq407, As407, An407, Ah407, Ag407⟩ := id V406
     have in408 := inb_of (j := 0) As407 (by decide)
     obtain ⟨T408, h408, X408, e408, W408, st408⟩ := stZ X406 hx hZ e406 Ar407 (j := 0) in408 (g := (mkF m 92 #[vi p0, vi p1, vi p2, vi p3, vi 3, vi rc, vi 0, vi 1, vi 0, vi x4, vr b406, un, un, un, un, un, un, un, un] [(.int 0), (.int 0), (.ref b406)])) rfl rfl (hb hby at_92)
     have V408 : Arv Z h408 b406 k406 .boolean 3 [(.int 0), (.int 0), (.int 0)] (.int 0) := by
      have q := Arv.set Ar407 Aq407 As407 An407 Ah407 Ag407 (fits_nar_bool _) W408 0 rfl (Nat.le_of_ble_eq_true rfl)
      rw [show nar .boolean 0 = 0 from by decide] at q; exact q
     have K408 : Keep h0 h408 [] := K406.wr W408 (Or.inr sz406)
     have O408 : Old Z n0 h408 := O406.wr W408 ge406
     have N408 := Fr.snoc X408 N0 ge406
     refine Go.st st408 ?_
     show Go p.tables e below Kx _ (mkF m 93 _ [])
     refine s_iload (pc' := 95) X408.here hx (hb hby at_93) rfl rfl ?_
     refine s_iconst (pc' := 96) (v := 2) X408.here hx (hb hby at_95) rfl rfl ?_
     refine s_icmpN (pc' := 99) X408.here hx (hb hby at_96) rfl (flt (by decide)).1 ?_
     refine s_aload (pc' := 101) X408.here hx (hb hby at_99) rfl rfl rfl ?_
     refine s_iconst (pc' := 102) (v := 1) X408.here hx (hb hby at_101) rfl rfl ?_
     refine s_iload (pc' := 104) X408.here hx (hb hby at_102) rfl rfl ?_
     obtain ⟨cl409, Ar409, Aq409, As409, An409, Ah409, Ag409⟩ := id V408
     have in410 := inb_of (j := 1) As409 (by decide)
     obtain ⟨T410, h410, X410, e410, W410, st410⟩ := stZ X408 hx hZ e408 Ar409 (j := 1) in410 (g := (mkF m 104 #[vi p0, vi p1, vi p2, vi p3, vi 3, vi rc, vi 0, vi 1, vi 0, vi x4, vr b406, un, un, un, un, un, un, un, un] [(.int 1), (.int 1), (.ref b406)])) rfl rfl (hb hby at_104)
     have V410 : Arv Z h410 b406 k406 .boolean 3 [(.int 0), (.int 1), (.int 0)] (.int 0) := by
      have q := Arv.set Ar409 Aq409 As409 An409 Ah409 Ag409 (fits_nar_bool _) W410 1 rfl (Nat.le_of_ble_eq_true rfl)
      rw [show nar .boolean 1 = 1 from by decide] at q; exact q
     have K410 : Keep h0 h410 [] := K408.wr W410 (Or.inr sz406)
     have O410 : Old Z n0 h410 := O408.wr W410 ge406
     have N410 := Fr.snoc X410 N408 ge406
     refine Go.st st410 ?_
     show Go p.tables e below Kx _ (mkF m 105 _ [])
     refine s_iload (pc' := 107) X410.here hx (hb hby at_105) rfl rfl ?_
     refine s_iconst (pc' := 108) (v := 3) X410.here hx (hb hby at_107) rfl rfl ?_
     refine s_icmpN (pc' := 111) X410.here hx (hb hby at_108) rfl (flt (by decide)).1 ?_
     refine s_aload (pc' := 113) X410.here hx (hb hby at_111) rfl rfl rfl ?_
     refine s_iconst (pc' := 114) (v := 2) X410.here hx (hb hby at_113) rfl rfl ?_
     refine s_iload (pc' := 116) X410.here hx (hb hby at_114) rfl rfl ?_
     obtain ⟨cl411, Ar411, Aq411, As411, An411, Ah411, Ag411⟩ := id V410
     have in412 := inb_of (j := 2) As411 (by decide)
     obtain ⟨T412, h412, X412, e412, W412, st412⟩ := stZ X410 hx hZ e410 Ar411 (j := 2) in412 (g := (mkF m 116 #[vi p0, vi p1, vi p2, vi p3, vi 3, vi rc, vi 0, vi 1, vi 0, vi x4, vr b406, un, un, un, un, un, un, un, un] [(.int 0), (.int 2), (.ref b406)])) rfl rfl (hb hby at_116)
     have V412 : Arv Z h412 b406 k406 .boolean 3 [(.int 0), (.int 1), (.int 0)] (.int 0) := by
      have q := Arv.set Ar411 Aq411 As411 An411 Ah411 Ag411 (fits_nar_bool _) W412 2 rfl (Nat.le_of_ble_eq_true rfl)
      rw [show nar .boolean 0 = 0 from by decide] at q; exact q
     have K412 : Keep h0 h412 [] := K410.wr W412 (Or.inr sz406)
     have O412 : Old Z n0 h412 := O410.wr W412 ge406
     have N412 := Fr.snoc X412 N410 ge406
     refine Go.st st412 ?_
     show Go p.tables e below Kx _ (mkF m 117 _ [])
     refine s_iload (pc' := 119) X412.here hx (hb hby at_117) rfl rfl ?_
     refine s_iconst (pc' := 120) (v := 4) X412.here hx (hb hby at_119) rfl rfl ?_
     refine s_icmpY (pc' := 129) X412.here hx (hb hby at_120) (tlt (by decide)).1 (by decide) (by decide) ?_
     obtain ⟨T413, h413, X413, e413, E413, A413, D413, -, st413⟩ := newO X412 hx hZ hown (hv hw 2 rfl) (hv hw 3 rfl) (hv hw 4 rfl) e412 (g := (mkF m 129 #[vi p0, vi p1, vi p2, vi p3, vi 3, vi rc, vi 0, vi 1, vi 0, vi x4, vr b406, un, un, un, un, un, un, un, un] [])) rfl (hb hby at_129) (by decide) (by decide)
     obtain ⟨b413, g413⟩ : ∃ z, z = h412.size := ⟨_, rfl⟩
     rw [← g413] at A413 D413 st413
     have sz413 : h0.size ≤ b413 := Nat.le_trans K412.1 (Nat.le_of_eq g413.symm)
     have ge413 : n0 ≤ b413 := Nat.le_trans (O412.1 ▸ O412.2.1) (Nat.le_of_eq g413.symm)
     have K413 : Keep h0 h413 [] := K412.ext E413
     have O413 : Old Z n0 h413 := O412.ext E413
     have F413_relevantWithin : Fld Z h413 b413 "com/example/kingfisher/kingfisher/eval/TopicRanking" "relevantWithin" "[I" .null := D413 (Or.inr (hv hw 13 rfl)) (ty := (.array .int)) (by decide)
     have F413_relevantCount : Fld Z h413 b413 "com/example/kingfisher/kingfisher/eval/TopicRanking" "relevantCount" "I" (.int 0) := D413 (Or.inr (hv hw 15 rfl)) (ty := .int) (by decide)
     refine Go.st st413 ?_
     show Go p.tables e below Kx _ (mkF m 132 _ [(.ref b413)])
     refine s_dup (pc' := 133) X413.here hx (hb hby at_132) rfl rfl ?_
     refine s_aload (pc' := 135) X413.here hx (hb hby at_133) rfl rfl rfl ?_
     refine s_iload (pc' := 137) X413.here hx (hb hby at_135) rfl rfl ?_
     have f414 : Arv Z h413 b406 k406 .boolean 3 [(.int 0), (.int 1), (.int 0)] (.int 0) := (V412.ext E413)
     obtain ⟨_, _, ⟨T415, L415, k415, n415⟩, -, X415, ⟨Lc415, hQ415, l415, y415, z415⟩, st415⟩ := X413.specialBack hx (y := yN0) rfl hown (mvT hZ (hv hw 5 rfl)) (mvT hZ (hv hw 6 rfl)) (mvT hZ (hv hw 7 rfl)) (by decide) (backOf (W := 1) (rmN3 l Z a0 hw [] b413 b406 k406 0 1 0 0 1 1 rc h413 n0 O413 ge413 (Nat.ne_of_lt (Nat.lt_of_lt_of_le (Nat.lt_of_lt_of_le A406.lt (Nat.le_trans (Nat.le_trans (Nat.le_of_eq W408.size.symm) (Nat.le_of_eq W410.size.symm)) (Nat.le_of_eq W412.size.symm))) (Nat.le_of_eq g413.symm))) A413 F413_relevantWithin F413_relevantCount f414 (by decide) (by decide) (by decide)) hZ (hv hw 7 rfl) (hv hw 4 rfl) (by decide) (by decide)) (g := (mkF m 137 #[vi p0, vi p1, vi p2, vi p3, vi 3, vi rc, vi 0, vi 1, vi 0, vi x4, vr b406, un, un, un, un, un, un, un, un] [(.int rc), (.ref b406), (.ref b413), (.ref b413)])) rfl (by rw [hml]; rfl) (Steps.refl _) (a := b413) (argsL := [(.ref b406), (.int rc)]) (rest := [(.ref b413)]) (lenOf pd_2 rfl) rfl (by exact Nat.le_of_eq rfl) (hb hby at_137) (fun _ _ => ⟨rfl, e413, (by decide : 2 + 1 ≤ _), (by decide : 5 + 4 ≤ _)⟩)
     dsimp only [Pt.U, Pt.locs, Pt.cells, Pt.slots] at X415 l415 y415 z415 st415 hQ415
     rw [l415, y415, z415] at X415
     obtain ⟨rfl, Nq415, Kq415, q1_415, q2_415, t415, kt415, q3_415, q4_415⟩ := hQ415
     have N415 := Fr.app N412 Nq415
     have K415 : Keep h0 T415.heap [] := K413.trans Kq415 (allS (P := fun zz => zz ∈ [] ∨ h0.size ≤ zz) (Or.inr sz413) all0)
     have O415 : Old Z n0 T415.heap := O413.keep Kq415 (allS ge413 all0)
     refine Go.tr st415 ?_
     show Go p.tables e below Kx _ (mkF m 140 _ [(.ref b413)])
     refine s_astore (pc' := 142) (Ls' := #[vi p0, vi p1, vi p2, vi p3, vi 3, vi rc, vi 0, vi 1, vi 0, vi x4, vr b406, vr b413, un, un, un, un, un, un, un]) X415.here hx (hb hby at_140) rfl rfl rfl ?_
     refine s_aload (pc' := 144) X415.here hx (hb hby at_142) rfl rfl rfl ?_
     refine s_iloadN (pc' := 145) X415.here hx (hb hby at_144) rfl rfl ?_
     obtain ⟨cq416, kq416, q416a, q416b, q416c⟩ := isOf hZ rfl q1_415
     obtain ⟨_, _, ⟨T416, L416, k416, n416⟩, -, X416, ⟨Lc416, hQ416, l416, y416, z416⟩, st416⟩ := X415.virtualBack hx (y := yN1) (z := yN1) hown (mvT hZ (hv hw 16 rfl)) (mvT hZ (hv hw 17 rfl)) (notFace_of_selects (args := #[]) (mvT hZ (hv hw 19 rfl))) (mvT hZ (hv hw 19 rfl)) (mvT hZ (hv hw 18 rfl)) (by decide) (backOf (W := 0) (rmA3 l Z a0 hw [] b413 t415 kt415 0 1 1 rc p2 T415.heap n0 O415 hrc q1_415 q3_415 q2_415 q4_415) hZ (hv hw 20 rfl) (hv hw 4 rfl) (by decide) (by decide)) q416a q416c (g := (mkF m 145 #[vi p0, vi p1, vi p2, vi p3, vi 3, vi rc, vi 0, vi 1, vi 0, vi x4, vr b406, vr b413, un, un, un, un, un, un, un] [(.int p2), (.ref b413)])) rfl (by rw [hml]; rfl) (Steps.refl _) (argsL := [(.int p2)]) (rest := []) (lenOf pd_3 rfl) rfl (by exact Nat.le_of_eq rfl) (hb hby at_145) (fun _ _ => ⟨rfl, rfl, (by decide : 3 + 0 ≤ _), (by decide : 9 + 0 ≤ _)⟩)
     dsimp only [Pt.U, Pt.locs, Pt.cells, Pt.slots] at X416 l416 y416 z416 st416 hQ416
     rw [l416, y416, z416] at X416
     obtain ⟨rfl, Nq416, hE416⟩ := hQ416
     have N416 := Fr.app N415 Nq416
     refine Go.tr st416 ?_
     show Go p.tables e below Kx _ (mkF m 148 _ [(.double (mst (mst (mst FP.dconst0 0 1 (needd p2 rc)) 1 2 (needd p2 rc)) 1 3 (needd p2 rc)))])
     refine s_dstore (pc' := 150) (Ls' := #[vi p0, vi p1, vi p2, vi p3, vi 3, vi rc, vi 0, vi 1, vi 0, vi x4, vr b406, vr b413, .val (.double (mst (mst (mst FP.dconst0 0 1 (needd p2 rc)) 1 2 (needd p2 rc)) 1 3 (needd p2 rc))), sn, un, un, un, un, un]) X416.here hx (hb hby at_148) rfl  rfl ?_
     refine s_iloadN (pc' := 151) X416.here hx (hb hby at_150) rfl rfl ?_
     refine s_i2d (pc' := 152) X416.here hx (hb hby at_151) rfl rfl ?_
     refine Go.st (X416.ldc2DoubleC hx hown (mvT hZ (hv hw 28 rfl)) (g := (mkF m 152 #[vi p0, vi p1, vi p2, vi p3, vi 3, vi rc, vi 0, vi 1, vi 0, vi x4, vr b406, vr b413, .val (.double (mst (mst (mst FP.dconst0 0 1 (needd p2 rc)) 1 2 (needd p2 rc)) 1 3 (needd p2 rc))), sn, un, un, un, un, un] [(.double (FP.i2d p2))])) rfl (hb hby at_152)) ?_
     show Go p.tables e below Kx _ (mkF m 155 _ [(.double (4621819117588971520 : UInt64)), (.double (FP.i2d p2))])
     refine s_ddiv (pc' := 156) X416.here hx (hb hby at_155) rfl (nn1 p2) rfl ?_
     refine s_iload (pc' := 158) X416.here hx (hb hby at_156) rfl rfl ?_
     refine s_i2d (pc' := 159) X416.here hx (hb hby at_158) rfl rfl ?_
     refine s_dmul (pc' := 160) X416.here hx (hb hby at_159) rfl (nn2 p2 hrc) rfl ?_
     refine Go.st (X416.ldc2DoubleC hx hown (mvT hZ (hv hw 29 rfl)) (g := (mkF m 160 #[vi p0, vi p1, vi p2, vi p3, vi 3, vi rc, vi 0, vi 1, vi 0, vi x4, vr b406, vr b413, .val (.double (mst (mst (mst FP.dconst0 0 1 (needd p2 rc)) 1 2 (needd p2 rc)) 1 3 (needd p2 rc))), sn, un, un, un, un, un] [(.double (FP.dmul (FP.ddiv (FP.i2d p2) (4621819117588971520 : UInt64)) (FP.i2d rc)))])) rfl (hb hby at_160)) ?_
     show Go p.tables e below Kx _ (mkF m 163 _ [(.double (4606281698874543309 : UInt64)), (.double (FP.dmul (FP.ddiv (FP.i2d p2) (4621819117588971520 : UInt64)) (FP.i2d rc)))])
     refine s_dadd (pc' := 164) X416.here hx (hb hby at_163) rfl (nn3 p2 hrc) rfl ?_
     refine s_d2l (pc' := 165) (z := needd p2 rc) X416.here hx (hb hby at_164) rfl rfl ?_
     show Go p.tables e below Kx _ (mkF m 165 _ [(.long (needd p2 rc))])
     generalize (needd p2 rc) = nd
     generalize hmm : (mst (mst (mst FP.dconst0 0 1 nd) 1 2 nd) 1 3 nd) = mm
     show Go p.tables e below Kx _ (mkF m 165 _ [(.long nd)])
     refine s_lstore (pc' := 167) (Ls' := #[vi p0, vi p1, vi p2, vi p3, vi 3, vi rc, vi 0, vi 1, vi 0, vi x4, vr b406, vr b413, .val (.double mm), sn, .val (.long nd), sn, un, un, un]) X416.here hx (hb hby at_165) rfl  rfl ?_
     refine s_dconst0 (pc' := 168) X416.here hx (hb hby at_167) rfl rfl ?_
     refine s_dstore (pc' := 170) (Ls' := #[vi p0, vi p1, vi p2, vi p3, vi 3, vi rc, vi 0, vi 1, vi 0, vi x4, vr b406, vr b413, .val (.double mm), sn, .val (.long nd), sn, .val (.double FP.dconst0), sn, un]) X416.here hx (hb hby at_168) rfl  rfl ?_
     refine s_iconst (pc' := 171) (v := 0) X416.here hx (hb hby at_170) rfl rfl ?_
     refine s_istore (pc' := 173) (Ls' := #[vi p0, vi p1, vi p2, vi p3, vi 3, vi rc, vi 0, vi 1, vi 0, vi x4, vr b406, vr b413, .val (.double mm), sn, .val (.long nd), sn, .val (.double FP.dconst0), sn, vi 0]) X416.here hx (hb hby at_171) rfl  rfl ?_
     refine s_iload (pc' := 175) X416.here hx (hb hby at_173) rfl rfl ?_
     refine s_iconst (pc' := 176) (v := 1) X416.here hx (hb hby at_175) rfl rfl ?_
     refine s_icmpN (pc' := 179) X416.here hx (hb hby at_176) rfl (flt (by decide)).1 ?_
     refine s_iload (pc' := 181) X416.here hx (hb hby at_179) rfl rfl ?_
     refine s_ifY (pc' := 202) X416.here hx (hb hby at_181) ((if0 _ _).trans (teq (by decide)).1) (by decide) (by decide) ?_
     refine s_iload (pc' := 204) X416.here hx (hb hby at_202) rfl rfl ?_
     refine s_iconst (pc' := 205) (v := 2) X416.here hx (hb hby at_204) rfl rfl ?_
     refine s_icmpN (pc' := 208) X416.here hx (hb hby at_205) rfl (flt (by decide)).1 ?_
     refine s_iload (pc' := 210) X416.here hx (hb hby at_208) rfl rfl ?_
     refine s_ifN (pc' := 213) X416.here hx (hb hby at_210) rfl ((if0 _ _).trans (feq (by decide)).1) ?_
     refine s_iload (pc' := 215) X416.here hx (hb hby at_213) rfl rfl ?_
     refine s_iconst (pc' := 216) (v := 1) X416.here hx (hb hby at_215) rfl rfl ?_
     refine s_iadd (pc' := 217) (z := 1) X416.here hx (hb hby at_216) rfl (by decide) ?_
     refine s_istore (pc' := 219) (Ls' := #[vi p0, vi p1, vi p2, vi p3, vi 3, vi rc, vi 0, vi 1, vi 0, vi x4, vr b406, vr b413, .val (.double mm), sn, .val (.long nd), sn, .val (.double FP.dconst0), sn, vi 1]) X416.here hx (hb hby at_217) rfl  rfl ?_
     refine s_dload (pc' := 221) X416.here hx (hb hby at_219) rfl rfl ?_
     refine s_iload (pc' := 223) X416.here hx (hb hby at_221) rfl rfl ?_
     refine s_iconst (pc' := 224) (v := 2) X416.here hx (hb hby at_223) rfl rfl ?_
     refine s_lload (pc' := 226) X416.here hx (hb hby at_224) rfl rfl ?_
     obtain ⟨_, _, ⟨T417, L417, k417, n417⟩, -, X417, ⟨Lc417, hQ417, l417, y417, z417⟩, st417⟩ := Jvm.LawKit.callS X416 hx (y := yN3) hown (mvT hZ (hv hw 30 rfl)) (mvT hZ (hv hw 31 rfl)) (mvT hZ (hv hw 32 rfl)) (mvT hZ (hv hw 33 rfl)) (by decide) (backOf (W := 0) (rmB l Z a0 hw [] FP.dconst0 1 2 nd T415.heap n0 O415 (by decide)) hZ (hv hw 33 rfl) (hv hw 32 rfl) (by decide) (by decide)) (g := (mkF m 226 #[vi p0, vi p1, vi p2, vi p3, vi 3, vi rc, vi 0, vi 1, vi 0, vi x4, vr b406, vr b413, .val (.double mm), sn, .val (.long nd), sn, .val (.double FP.dconst0), sn, vi 1] [(.long nd), (.int 2), (.int 1), (.double FP.dconst0)])) rfl (by rw [hml]; rfl) (argsL := [(.double FP.dconst0), (.int 1), (.int 2), (.long nd)]) (rest := []) (lenOf pd_4 rfl) rfl (by exact Nat.le_of_eq rfl) (hb hby at_226) (fun _ _ => ⟨rfl, hE416, (by decide : 3 + 0 ≤ _), (by decide : 9 + 0 ≤ _)⟩)
     dsimp only [Pt.U, Pt.locs, Pt.cells, Pt.slots] at X417 l417 y417 z417 st417 hQ417
     rw [l417, y417, z417] at X417
     obtain ⟨rfl, Nq417, hE417⟩ := hQ417
     have N417 := Fr.app N416 Nq417
     refine Go.st st417 ?_
     show Go p.tables e below Kx _ (mkF m 229 _ [(.double (bst FP.dconst0 1 2 nd))])
     refine s_dstore (pc' := 231) (Ls' := #[vi p0, vi p1, vi p2, vi p3, vi 3, vi rc, vi 0, vi 1, vi 0, vi x4, vr b406, vr b413, .val (.double mm), sn, .val (.long nd), sn, .val (.double (bst FP.dconst0 1 2 nd)), sn, vi 1]) X417.here hx (hb hby at_229) rfl  rfl ?_
     refine s_iload (pc' := 233) X417.here hx (hb hby at_231) rfl rfl ?_
     refine s_iconst (pc' := 234) (v := 3) X417.here hx (hb hby at_233) rfl rfl ?_
     refine s_icmpN (pc' := 237) X417.here hx (hb hby at_234) rfl (flt (by decide)).1 ?_
     refine s_iload (pc' := 239) X417.here hx (hb hby at_237) rfl rfl ?_
     refine s_ifY (pc' := 260) X417.here hx (hb hby at_239) ((if0 _ _).trans (teq (by decide)).1) (by decide) (by decide) ?_
     refine s_iload (pc' := 262) X417.here hx (hb hby at_260) rfl rfl ?_
     refine s_iconst (pc' := 263) (v := 4) X417.here hx (hb hby at_262) rfl rfl ?_
     refine s_icmpY (pc' := 289) X417.here hx (hb hby at_263) (tlt (by decide)).1 (by decide) (by decide) ?_
     refine s_dload (pc' := 291) X417.here hx (hb hby at_289) rfl rfl ?_
     refine s_dload (pc' := 293) X417.here hx (hb hby at_291) rfl rfl ?_
     refine s_dcmpl (pc' := 294) (z := 0) X417.here hx (hb hby at_293) rfl (by rw [← hmm]; exact fin_3010 nd) ?_
     refine s_ifN (pc' := 297) X417.here hx (hb hby at_294) rfl ((if0 _ _).trans (teq (by decide)).2) ?_
     refine s_iconst (pc' := 298) (v := 1) X417.here hx (hb hby at_297) rfl rfl ?_
     refine s_goto (pc' := 302) X417.here hx (hb hby at_298) (by decide) (by decide) ?_
     obtain ⟨fs, hr, hrun, hended, hW, hsame⟩ := X417.leave (v := (some (.int 1))) (fun h => by rw [Bd.returns] at h; cases h)
     refine Go.fin (retN X417 hx (t := .boolean) Bd.returns (by simp) (hb hby at_302) hr) (hF _ _ hrun hended ⟨_, _, rfl, ?_, ⟨_, rfl⟩, hW, hsame.mono (by decide) (by decide)⟩)
     ·
      show QL Z p0 p1 p2 p3 h0 n0 ((some (.int 1)) : Option Value) T417.heap _
      rw [hE417]
      exact ⟨rfl, N417⟩
    ·
     show Go p.tables e below Kx _ (mkF m 75 _ [])
     refine s_iload (pc' := 77) X0.here hx (hb hby at_75) rfl rfl ?_
     obtain ⟨T418, h418, k418, X418, e418, E418, A418, st418⟩ := newP X0 hx hZ (hv hw 1 rfl) e0 (g := (mkF m 77 #[vi p0, vi p1, vi p2, vi p3, vi 3, vi rc, vi 0, vi 1, vi 1, vi x4, un, un, un, un, un, un, un, un, un] [(.int 3)])) rfl (hb hby at_77) rfl (by decide) (cap := 3) (by decide) (by decide) (by decide) (by decide)
     obtain ⟨b418, g418⟩ : ∃ z, z = h0.size := ⟨_, rfl⟩
     rw [← g418] at A418 st418
     have sz418 : h0.size ≤ b418 := Nat.le_trans K0.1 (Nat.le_of_eq g418.symm)
     have ge418 : n0 ≤ b418 := Nat.le_trans (X00.1 ▸ X00.2.1) (Nat.le_of_eq g418.symm)
     have K418 : Keep h0 h418 [] := K0.ext E418
     have O418 : Old Z n0 h418 := X00.ext E418
     have V418 : Arv Z h418 b418 k418 .boolean 3 [(.int 0), (.int 0), (.int 0)] (.int 0) := (Arv.new A418 (by decide)).pad (pad_rep [] (.int 0) 3)
     refine Go.st st418 ?_
     show Go p.tables e below Kx _ (mkF m 79 _ [(.ref b418)])
     refine s_astore (pc' := 81) (Ls' := #[vi p0, vi p1, vi p2, vi p3, vi 3, vi rc, vi 0, vi 1, vi 1, vi x4, vr b418, un, un, un, un, un, un, un, un]) X418.here hx (hb hby at_79) rfl rfl rfl ?_
     refine s_iload (pc' := 83) X418.here hx (hb hby at_81) rfl rfl ?_
     refine s_iconst (pc' := 84) (v := 1) X418.here hx (hb hby at_83) rfl rfl ?_
     refine s_icmpN (pc' := 87) X418.here hx (hb hby at_84) rfl (flt (by decide)).1 ?_
     refine s_aload (pc' := 89) X418.here hx (hb hby at_87) rfl rfl rfl ?_
     refine s_iconst (pc' := 90) (v := 0) X418.here hx (hb hby at_89) rfl rfl ?_
     refine s_iload (pc' := 92) X418.here hx (hb hby at_90) rfl rfl ?_
     obtain ⟨cl419, Ar419, Aq419, As419, An419, Ah419, Ag419⟩ := id V418
     have in420 := inb_of (j := 0) As419 (by decide)
     obtain ⟨T420, h420, X420, e420, W420, st420⟩ := stZ X418 hx hZ e418 Ar419 (j := 0) in420 (g := (mkF m 92 #[vi p0, vi p1, vi p2, vi p3, vi 3, vi rc, vi 0, vi 1, vi 1, vi x4, vr b418, un, un, un, un, un, un, un, un] [(.int 0), (.int 0), (.ref b418)])) rfl rfl (hb hby at_92)
     have V420 : Arv Z h420 b418 k418 .boolean 3 [(.int 0), (.int 0), (.int 0)] (.int 0) := by
      have q := Arv.set Ar419 Aq419 As419 An419 Ah419 Ag419 (fits_nar_bool _) W420 0 rfl (Nat.le_of_ble_eq_true rfl)
      rw [show nar .boolean 0 = 0 from by decide] at q; exact q
     have K420 : Keep h0 h420 [] := K418.wr W420 (Or.inr sz418)
     have O420 : Old Z n0 h420 := O418.wr W420 ge418
     have N420 := Fr.snoc X420 N0 ge418
     refine Go.st st420 ?_
     show Go p.tables e below Kx _ (mkF m 93 _ [])
     refine s_iload (pc' := 95) X420.here hx (hb hby at_93) rfl rfl ?_
     refine s_iconst (pc' := 96) (v := 2) X420.here hx (hb hby at_95) rfl rfl ?_
     refine s_icmpN (pc' := 99) X420.here hx (hb hby at_96) rfl (flt (by decide)).1 ?_
     refine s_aload (pc' := 101) X420.here hx (hb hby at_99) rfl rfl rfl ?_
     refine s_iconst (pc' := 102) (v := 1) X420.here hx (hb hby at_101) rfl rfl ?_
     refine s_iload (pc' := 104) X420.here hx (hb hby at_102) rfl rfl ?_
     obtain ⟨cl421, Ar421, Aq421, As421, An421, Ah421, Ag421⟩ := id V420
     have in422 := inb_of (j := 1) As421 (by decide)
     obtain ⟨T422, h422, X422, e422, W422, st422⟩ := stZ X420 hx hZ e420 Ar421 (j := 1) in422 (g := (mkF m 104 #[vi p0, vi p1, vi p2, vi p3, vi 3, vi rc, vi 0, vi 1, vi 1, vi x4, vr b418, un, un, un, un, un, un, un, un] [(.int 1), (.int 1), (.ref b418)])) rfl rfl (hb hby at_104)
     have V422 : Arv Z h422 b418 k418 .boolean 3 [(.int 0), (.int 1), (.int 0)] (.int 0) := by
      have q := Arv.set Ar421 Aq421 As421 An421 Ah421 Ag421 (fits_nar_bool _) W422 1 rfl (Nat.le_of_ble_eq_true rfl)
      rw [show nar .boolean 1 = 1 from by decide] at q; exact q
     have K422 : Keep h0 h422 [] := K420.wr W422 (Or.inr sz418)
     have O422 : Old Z n0 h422 := O420.wr W422 ge418
     have N422 := Fr.snoc X422 N420 ge418
     refine Go.st st422 ?_
     show Go p.tables e below Kx _ (mkF m 105 _ [])
     refine s_iload (pc' := 107) X422.here hx (hb hby at_105) rfl rfl ?_
     refine s_iconst (pc' := 108) (v := 3) X422.here hx (hb hby at_107) rfl rfl ?_
     refine s_icmpN (pc' := 111) X422.here hx (hb hby at_108) rfl (flt (by decide)).1 ?_
     refine s_aload (pc' := 113) X422.here hx (hb hby at_111) rfl rfl rfl ?_
     refine s_iconst (pc' := 114) (v := 2) X422.here hx (hb hby at_113) rfl rfl ?_
     refine s_iload (pc' := 116) X422.here hx (hb hby at_114) rfl rfl ?_
     obtain ⟨cl423, Ar423, Aq423, As423, An423, Ah423, Ag423⟩ := id V422
     have in424 := inb_of (j := 2) As423 (by decide)
     obtain ⟨T424, h424, X424, e424, W424, st424⟩ := stZ X422 hx hZ e422 Ar423 (j := 2) in424 (g := (mkF m 116 #[vi p0, vi p1, vi p2, vi p3, vi 3, vi rc, vi 0, vi 1, vi 1, vi x4, vr b418, un, un, un, un, un, un, un, un] [(.int 1), (.int 2), (.ref b418)])) rfl rfl (hb hby at_116)
     have V424 : Arv Z h424 b418 k418 .boolean 3 [(.int 0), (.int 1), (.int 1)] (.int 0) := by
      have q := Arv.set Ar423 Aq423 As423 An423 Ah423 Ag423 (fits_nar_bool _) W424 2 rfl (Nat.le_of_ble_eq_true rfl)
      rw [show nar .boolean 1 = 1 from by decide] at q; exact q
     have K424 : Keep h0 h424 [] := K422.wr W424 (Or.inr sz418)
     have O424 : Old Z n0 h424 := O422.wr W424 ge418
     have N424 := Fr.snoc X424 N422 ge418
     refine Go.st st424 ?_
     show Go p.tables e below Kx _ (mkF m 117 _ [])
     refine s_iload (pc' := 119) X424.here hx (hb hby at_117) rfl rfl ?_
     refine s_iconst (pc' := 120) (v := 4) X424.here hx (hb hby at_119) rfl rfl ?_
     refine s_icmpY (pc' := 129) X424.here hx (hb hby at_120) (tlt (by decide)).1 (by decide) (by decide) ?_
     obtain ⟨T425, h425, X425, e425, E425, A425, D425, -, st425⟩ := newO X424 hx hZ hown (hv hw 2 rfl) (hv hw 3 rfl) (hv hw 4 rfl) e424 (g := (mkF m 129 #[vi p0, vi p1, vi p2, vi p3, vi 3, vi rc, vi 0, vi 1, vi 1, vi x4, vr b418, un, un, un, un, un, un, un, un] [])) rfl (hb hby at_129) (by decide) (by decide)
     obtain ⟨b425, g425⟩ : ∃ z, z = h424.size := ⟨_, rfl⟩
     rw [← g425] at A425 D425 st425
     have sz425 : h0.size ≤ b425 := Nat.le_trans K424.1 (Nat.le_of_eq g425.symm)
     have ge425 : n0 ≤ b425 := Nat.le_trans (O424.1 ▸ O424.2.1) (Nat.le_of_eq g425.symm)
     have K425 : Keep h0 h425 [] := K424.ext E425
     have O425 : Old Z n0 h425 := O424.ext E425
     have F425_relevantWithin : Fld Z h425 b425 "com/example/kingfisher/kingfisher/eval/TopicRanking" "relevantWithin" "[I" .null := D425 (Or.inr (hv hw 13 rfl)) (ty := (.array .int)) (by decide)
     have F425_relevantCount : Fld Z h425 b425 "com/example/kingfisher/kingfisher/eval/TopicRanking" "relevantCount" "I" (.int 0) := D425 (Or.inr (hv hw 15 rfl)) (ty := .int) (by decide)
     refine Go.st st425 ?_
     show Go p.tables e below Kx _ (mkF m 132 _ [(.ref b425)])
     refine s_dup (pc' := 133) X425.here hx (hb hby at_132) rfl rfl ?_
     refine s_aload (pc' := 135) X425.here hx (hb hby at_133) rfl rfl rfl ?_
     refine s_iload (pc' := 137) X425.here hx (hb hby at_135) rfl rfl ?_
     have f426 : Arv Z h425 b418 k418 .boolean 3 [(.int 0), (.int 1), (.int 1)] (.int 0) := (V424.ext E425)
     obtain ⟨_, _, ⟨T427, L427, k427, n427⟩, -, X427, ⟨Lc427, hQ427, l427, y427, z427⟩, st427⟩ := X425.specialBack hx (y := yN0) rfl hown (mvT hZ (hv hw 5 rfl)) (mvT hZ (hv hw 6 rfl)) (mvT hZ (hv hw 7 rfl)) (by decide) (backOf (W := 1) (rmN3 l Z a0 hw [] b425 b418 k418 0 1 1 0 1 2 rc h425 n0 O425 ge425 (Nat.ne_of_lt (Nat.lt_of_lt_of_le (Nat.lt_of_lt_of_le A418.lt (Nat.le_trans (Nat.le_trans (Nat.le_of_eq W420.size.symm) (Nat.le_of_eq W422.size.symm)) (Nat.le_of_eq W424.size.symm))) (Nat.le_of_eq g425.symm))) A425 F425_relevantWithin F425_relevantCount f426 (by decide) (by decide) (by decide)) hZ (hv hw 7 rfl) (hv hw 4 rfl) (by decide) (by decide)) (g := (mkF m 137 #[vi p0, vi p1, vi p2, vi p3, vi 3, vi rc, vi 0, vi 1, vi 1, vi x4, vr b418, un, un, un, un, un, un, un, un] [(.int rc), (.ref b418), (.ref b425), (.ref b425)])) rfl (by rw [hml]; rfl) (Steps.refl _) (a := b425) (argsL := [(.ref b418), (.int rc)]) (rest := [(.ref b425)]) (lenOf pd_2 rfl) rfl (by exact Nat.le_of_eq rfl) (hb hby at_137) (fun _ _ => ⟨rfl, e425, (by decide : 2 + 1 ≤ _), (by decide : 5 + 4 ≤ _)⟩)
     dsimp only [Pt.U, Pt.locs, Pt.cells, Pt.slots] at X427 l427 y427 z427 st427 hQ427
     rw [l427, y427, z427] at X427
     obtain ⟨rfl, Nq427, Kq427, q1_427, q2_427, t427, kt427, q3_427, q4_427⟩ := hQ427
     have N427 := Fr.app N424 Nq427
     have K427 : Keep h0 T427.heap [] := K425.trans Kq427 (allS (P := fun zz => zz ∈ [] ∨ h0.size ≤ zz) (Or.inr sz425) all0)
     have O427 : Old Z n0 T427.heap := O425.keep Kq427 (allS ge425 all0)
     refine Go.tr st427 ?_
     show Go p.tables e below Kx _ (mkF m 140 _ [(.ref b425)])
     refine s_astore (pc' := 142) (Ls' := #[vi p0, vi p1, vi p2, vi p3, vi 3, vi rc, vi 0, vi 1, vi 1, vi x4, vr b418, vr b425, un, un, un, un, un, un, un]) X427.here hx (hb hby at_140) rfl rfl rfl ?_
     refine s_aload (pc' := 144) X427.here hx (hb hby at_142) rfl rfl rfl ?_
     refine s_iloadN (pc' := 145) X427.here hx (hb hby at_144) rfl rfl ?_
     obtain ⟨cq428, kq428, q428a, q428b, q428c⟩ := isOf hZ rfl q1_427
     obtain ⟨_, _, ⟨T428, L428, k428, n428⟩, -, X428, ⟨Lc428, hQ428, l428, y428, z428⟩, st428⟩ := X427.virtualBack hx (y := yN1) (z := yN1) hown (mvT hZ (hv hw 16 rfl)) (mvT hZ (hv hw 17 rfl)) (notFace_of_selects (args := #[]) (mvT hZ (hv hw 19 rfl))) (mvT hZ (hv hw 19 rfl)) (mvT hZ (hv hw 18 rfl)) (by decide) (backOf (W := 0) (rmA3 l Z a0 hw [] b425 t427 kt427 0 1 2 rc p2 T427.heap n0 O427 hrc q1_427 q3_427 q2_427 q4_427) hZ (hv hw 20 rfl) (hv hw 4 rfl) (by decide) (by decide)) q428a q428c (g := (mkF m 145 #[vi p0, vi p1, vi p2, vi p3, vi 3, vi rc, vi 0, vi 1, vi 1, vi x4, vr b418, vr b425, un, un, un, un, un, un, un] [(.int p2), (.ref b425)])) rfl (by rw [hml]; rfl) (Steps.refl _) (argsL := [(.int p2)]) (rest := []) (lenOf pd_3 rfl) rfl (by exact Nat.le_of_eq rfl) (hb hby at_145) (fun _ _ => ⟨rfl, rfl, (by decide : 3 + 0 ≤ _), (by decide : 9 + 0 ≤ _)⟩)
     dsimp only [Pt.U, Pt.locs, Pt.cells, Pt.slots] at X428 l428 y428 z428 st428 hQ428
     rw [l428, y428, z428] at X428
     obtain ⟨rfl, Nq428, hE428⟩ := hQ428
     have N428 := Fr.app N427 Nq428
     refine Go.tr st428 ?_
     show Go p.tables e below Kx _ (mkF m 148 _ [(.double (mst (mst (mst FP.dconst0 0 1 (needd p2 rc)) 1 2 (needd p2 rc)) 2 3 (needd p2 rc)))])
     refine s_dstore (pc' := 150) (Ls' := #[vi p0, vi p1, vi p2, vi p3, vi 3, vi rc, vi 0, vi 1, vi 1, vi x4, vr b418, vr b425, .val (.double (mst (mst (mst FP.dconst0 0 1 (needd p2 rc)) 1 2 (needd p2 rc)) 2 3 (needd p2 rc))), sn, un, un, un, un, un]) X428.here hx (hb hby at_148) rfl  rfl ?_
     refine s_iloadN (pc' := 151) X428.here hx (hb hby at_150) rfl rfl ?_
     refine s_i2d (pc' := 152) X428.here hx (hb hby at_151) rfl rfl ?_
     refine Go.st (X428.ldc2DoubleC hx hown (mvT hZ (hv hw 28 rfl)) (g := (mkF m 152 #[vi p0, vi p1, vi p2, vi p3, vi 3, vi rc, vi 0, vi 1, vi 1, vi x4, vr b418, vr b425, .val (.double (mst (mst (mst FP.dconst0 0 1 (needd p2 rc)) 1 2 (needd p2 rc)) 2 3 (needd p2 rc))), sn, un, un, un, un, un] [(.double (FP.i2d p2))])) rfl (hb hby at_152)) ?_
     show Go p.tables e below Kx _ (mkF m 155 _ [(.double (4621819117588971520 : UInt64)), (.double (FP.i2d p2))])
     refine s_ddiv (pc' := 156) X428.here hx (hb hby at_155) rfl (nn1 p2) rfl ?_
     refine s_iload (pc' := 158) X428.here hx (hb hby at_156) rfl rfl ?_
     refine s_i2d (pc' := 159) X428.here hx (hb hby at_158) rfl rfl ?_
     refine s_dmul (pc' := 160) X428.here hx (hb hby at_159) rfl (nn2 p2 hrc) rfl ?_
     refine Go.st (X428.ldc2DoubleC hx hown (mvT hZ (hv hw 29 rfl)) (g := (mkF m 160 #[vi p0, vi p1, vi p2, vi p3, vi 3, vi rc, vi 0, vi 1, vi 1, vi x4, vr b418, vr b425, .val (.double (mst (mst (mst FP.dconst0 0 1 (needd p2 rc)) 1 2 (needd p2 rc)) 2 3 (needd p2 rc))), sn, un, un, un, un, un] [(.double (FP.dmul (FP.ddiv (FP.i2d p2) (4621819117588971520 : UInt64)) (FP.i2d rc)))])) rfl (hb hby at_160)) ?_
     show Go p.tables e below Kx _ (mkF m 163 _ [(.double (4606281698874543309 : UInt64)), (.double (FP.dmul (FP.ddiv (FP.i2d p2) (4621819117588971520 : UInt64)) (FP.i2d rc)))])
     refine s_dadd (pc' := 164) X428.here hx (hb hby at_163) rfl (nn3 p2 hrc) rfl ?_
     refine s_d2l (pc' := 165) (z := needd p2 rc) X428.here hx (hb hby at_164) rfl rfl ?_
     show Go p.tables e below Kx _ (mkF m 165 _ [(.long (needd p2 rc))])
     generalize (needd p2 rc) = nd
     generalize hmm : (mst (mst (mst FP.dconst0 0 1 nd) 1 2 nd) 2 3 nd) = mm
     show Go p.tables e below Kx _ (mkF m 165 _ [(.long nd)])
     refine s_lstore (pc' := 167) (Ls' := #[vi p0, vi p1, vi p2, vi p3, vi 3, vi rc, vi 0, vi 1, vi 1, vi x4, vr b418, vr b425, .val (.double mm), sn, .val (.long nd), sn, un, un, un]) X428.here hx (hb hby at_165) rfl  rfl ?_
     refine s_dconst0 (pc' := 168) X428.here hx (hb hby at_167) rfl rfl ?_
     refine s_dstore (pc' := 170) (Ls' := #[vi p0, vi p1, vi p2, vi p3, vi 3, vi rc, vi 0, vi 1, vi 1, vi x4, vr b418, vr b425, .val (.double mm), sn, .val (.long nd), sn, .val (.double FP.dconst0), sn, un]) X428.here hx (hb hby at_168) rfl  rfl ?_
     refine s_iconst (pc' := 171) (v := 0) X428.here hx (hb hby at_170) rfl rfl ?_
     refine s_istore (pc' := 173) (Ls' := #[vi p0, vi p1, vi p2, vi p3, vi 3, vi rc, vi 0, vi 1, vi 1, vi x4, vr b418, vr b425, .val (.double mm), sn, .val (.long nd), sn, .val (.double FP.dconst0), sn, vi 0]) X428.here hx (hb hby at_171) rfl  rfl ?_
     refine s_iload (pc' := 175) X428.here hx (hb hby at_173) rfl rfl ?_
     refine s_iconst (pc' := 176) (v := 1) X428.here hx (hb hby at_175) rfl rfl ?_
     refine s_icmpN (pc' := 179) X428.here hx (hb hby at_176) rfl (flt (by decide)).1 ?_
     refine s_iload (pc' := 181) X428.here hx (hb hby at_179) rfl rfl ?_
     refine s_ifY (pc' := 202) X428.here hx (hb hby at_181) ((if0 _ _).trans (teq (by decide)).1) (by decide) (by decide) ?_
     refine s_iload (pc' := 204) X428.here hx (hb hby at_202) rfl rfl ?_
     refine s_iconst (pc' := 205) (v := 2) X428.here hx (hb hby at_204) rfl rfl ?_
     refine s_icmpN (pc' := 208) X428.here hx (hb hby at_205) rfl (flt (by decide)).1 ?_
     refine s_iload (pc' := 210) X428.here hx (hb hby at_208) rfl rfl ?_
     refine s_ifN (pc' := 213) X428.here hx (hb hby at_210) rfl ((if0 _ _).trans (feq (by decide)).1) ?_
     refine s_iload (pc' := 215) X428.here hx (hb hby at_213) rfl rfl ?_
     refine s_iconst (pc' := 216) (v := 1) X428.here hx (hb hby at_215) rfl rfl ?_
     refine s_iadd (pc' := 217) (z := 1) X428.here hx (hb hby at_216) rfl (by decide) ?_
     refine s_istore (pc' := 219) (Ls' := #[vi p0, vi p1, vi p2, vi p3, vi 3, vi rc, vi 0, vi 1, vi 1, vi x4, vr b418, vr b425, .val (.double mm), sn, .val (.long nd), sn, .val (.double FP.dconst0), sn, vi 1]) X428.here hx (hb hby at_217) rfl  rfl ?_
     refine s_dload (pc' := 221) X428.here hx (hb hby at_219) rfl rfl ?_
     refine s_iload (pc' := 223) X428.here hx (hb hby at_221) rfl rfl ?_
     refine s_iconst (pc' := 224) (v := 2) X428.here hx (hb hby at_223) rfl rfl ?_
     refine s_lload (pc' := 226) X428.here hx (hb hby at_224) rfl rfl ?_
     obtain ⟨_, _, ⟨T429, L429, k429, n429⟩, -, X429, ⟨Lc429, hQ429, l429, y429, z429⟩, st429⟩ := Jvm.LawKit.callS X428 hx (y := yN3) hown (mvT hZ (hv hw 30 rfl)) (mvT hZ (hv hw 31 rfl)) (mvT hZ (hv hw 32 rfl)) (mvT hZ (hv hw 33 rfl)) (by decide) (backOf (W := 0) (rmB l Z a0 hw [] FP.dconst0 1 2 nd T427.heap n0 O427 (by decide)) hZ (hv hw 33 rfl) (hv hw 32 rfl) (by decide) (by decide)) (g := (mkF m 226 #[vi p0, vi p1, vi p2, vi p3, vi 3, vi rc, vi 0, vi 1, vi 1, vi x4, vr b418, vr b425, .val (.double mm), sn, .val (.long nd), sn, .val (.double FP.dconst0), sn, vi 1] [(.long nd), (.int 2), (.int 1), (.double FP.dconst0)])) rfl (by rw [hml]; rfl) (argsL := [(.double FP.dconst0), (.int 1), (.int 2), (.long nd)]) (rest := []) (lenOf pd_4 rfl) rfl (by exact Nat.le_of_eq rfl) (hb hby at_226) (fun _ _ => ⟨rfl, hE428, (by decide : 3 + 0 ≤ _), (by decide : 9 + 0 ≤ _)⟩)
     dsimp only [Pt.U, Pt.locs, Pt.cells, Pt.slots] at X429 l429 y429 z429 st429 hQ429
     rw [l429, y429, z429] at X429
     obtain ⟨rfl, Nq429, hE429⟩ := hQ429
     have N429 := Fr.app N428 Nq429
     refine Go.st st429 ?_
     show Go p.tables e below Kx _ (mkF m 229 _ [(.double (bst FP.dconst0 1 2 nd))])
     refine s_dstore (pc' := 231) (Ls' := #[vi p0, vi p1, vi p2, vi p3, vi 3, vi rc, vi 0, vi 1, vi 1, vi x4, vr b418, vr b425, .val (.double mm), sn, .val (.long nd), sn, .val (.double (bst FP.dconst0 1 2 nd)), sn, vi 1]) X429.here hx (hb hby at_229) rfl  rfl ?_
     refine s_iload (pc' := 233) X429.here hx (hb hby at_231) rfl rfl ?_
     refine s_iconst (pc' := 234) (v := 3) X429.here hx (hb hby at_233) rfl rfl ?_
     refine s_icmpN (pc' := 237) X429.here hx (hb hby at_234) rfl (flt (by decide)).1 ?_
     refine s_iload (pc' := 239) X429.here hx (hb hby at_237) rfl rfl ?_
     refine s_ifN (pc' := 242) X429.here hx (hb hby at_239) rfl ((if0 _ _).trans (feq (by decide)).1) ?_
     refine s_iload (pc' := 244) X429.here hx (hb hby at_242) rfl rfl ?_
     refine s_iconst (pc' := 245) (v := 1) X429.here hx (hb hby at_244) rfl rfl ?_
     refine s_iadd (pc' := 246) (z := 2) X429.here hx (hb hby at_245) rfl (by decide) ?_
     refine s_istore (pc' := 248) (Ls' := #[vi p0, vi p1, vi p2, vi p3, vi 3, vi rc, vi 0, vi 1, vi 1, vi x4, vr b418, vr b425, .val (.double mm), sn, .val (.long nd), sn, .val (.double (bst FP.dconst0 1 2 nd)), sn, vi 2]) X429.here hx (hb hby at_246) rfl  rfl ?_
     refine s_dload (pc' := 250) X429.here hx (hb hby at_248) rfl rfl ?_
     refine s_iload (pc' := 252) X429.here hx (hb hby at_250) rfl rfl ?_
     refine s_iconst (pc' := 253) (v := 3) X429.here hx (hb hby at_252) rfl rfl ?_
     refine s_lload (pc' := 255) X429.here hx (hb hby at_253) rfl rfl ?_
     obtain ⟨_, _, ⟨T430, L430, k430, n430⟩, -, X430, ⟨Lc430, hQ430, l430, y430, z430⟩, st430⟩ := Jvm.LawKit.callS X429 hx (y := yN3) hown (mvT hZ (hv hw 30 rfl)) (mvT hZ (hv hw 31 rfl)) (mvT hZ (hv hw 32 rfl)) (mvT hZ (hv hw 33 rfl)) (by decide) (backOf (W := 0) (rmB l Z a0 hw [] (bst FP.dconst0 1 2 nd) 2 3 nd T427.heap n0 O427 (by decide)) hZ (hv hw 33 rfl) (hv hw 32 rfl) (by decide) (by decide)) (g := (mkF m 255 #[vi p0, vi p1, vi p2, vi p3, vi 3, vi rc, vi 0, vi 1, vi 1, vi x4, vr b418, vr b425, .val (.double mm), sn, .val (.long nd), sn, .val (.double (bst FP.dconst0 1 2 nd)), sn, vi 2] [(.long nd), (.int 3), (.int 2), (.double (bst FP.dconst0 1 2 nd))])) rfl (by rw [hml]; rfl) (argsL := [(.double (bst FP.dconst0 1 2 nd)), (.int 2), (.int 3), (.long nd)]) (rest := []) (lenOf pd_4 rfl) rfl (by exact Nat.le_of_eq rfl) (hb hby at_255) (fun _ _ => ⟨rfl, hE429, (by decide : 3 + 0 ≤ _), (by decide : 9 + 0 ≤ _)⟩)
     dsimp only [Pt.U, Pt.locs, Pt.cells, Pt.slots] at X430 l430 y430 z430 st430 hQ430
     rw [l430, y430, z430] at X430
     obtain ⟨rfl, Nq430, hE430⟩ := hQ430
     have N430 := Fr.app N429 Nq430
     refine Go.st st430 ?_
     show Go p.tables e below Kx _ (mkF m 258 _ [(.double (bst (bst FP.dconst0 1 2 nd) 2 3 nd))])
     refine s_dstore (pc' := 260) (Ls' := #[vi p0, vi p1, vi p2, vi p3, vi 3, vi rc, vi 0, vi 1, vi 1, vi x4, vr b418, vr b425, .val (.double mm), sn, .val (.long nd), sn, .val (.double (bst (bst FP.dconst0 1 2 nd) 2 3 nd)), sn, vi 2]) X430.here hx (hb hby at_258) rfl  rfl ?_
     refine s_iload (pc' := 262) X430.here hx (hb hby at_260) rfl rfl ?_
     refine s_iconst (pc' := 263) (v := 4) X430.here hx (hb hby at_262) rfl rfl ?_
     refine s_icmpY (pc' := 289) X430.here hx (hb hby at_263) (tlt (by decide)).1 (by decide) (by decide) ?_
     refine s_dload (pc' := 291) X430.here hx (hb hby at_289) rfl rfl ?_
     refine s_dload (pc' := 293) X430.here hx (hb hby at_291) rfl rfl ?_
     refine s_dcmpl (pc' := 294) (z := 0) X430.here hx (hb hby at_293) rfl (by rw [← hmm]; exact fin_3011 nd) ?_
     refine s_ifN (pc' := 297) X430.here hx (hb hby at_294) rfl ((if0 _ _).trans (teq (by decide)).2) ?_
     refine s_iconst (pc' := 298) (v := 1) X430.here hx (hb hby at_297) rfl rfl ?_
     refine s_goto (pc' := 302) X430.here hx (hb hby at_298) (by decide) (by decide) ?_
     obtain ⟨fs, hr, hrun, hended, hW, hsame⟩ := X430.leave (v := (some (.int 1))) (fun h => by rw [Bd.returns] at h; cases h)
     refine Go.fin (retN X430 hx (t := .boolean) Bd.returns (by simp) (hb hby at_302) hr) (hF _ _ hrun hended ⟨_, _, rfl, ?_, ⟨_, rfl⟩, hW, hsame.mono (by decide) (by decide)⟩)
     ·
      show QL Z p0 p1 p2 p3 h0 n0 ((some (.int 1)) : Option Value) T430.heap _
      rw [hE430]
      exact ⟨rfl, N430⟩
  ·
   rcases hx2 with rfl | rfl
   ·
    rcases hx3 with rfl | rfl
    ·
     show Go p.tables e below Kx _ (mkF m 75 _ [])
     refine s_iload (pc' := 77) X0.here hx (hb hby at_75) rfl rfl ?_
     obtain ⟨T431, h431, k431, X431, e431, E431, A431, st431⟩ := newP X0 hx hZ (hv hw 1 rfl) e0 (g := (mkF m 77 #[vi p0, vi p1, vi p2, vi p3, vi 3, vi rc, vi 1, vi 0, vi 0, vi x4, un, un, un, un, un, un, un, un, un] [(.int 3)])) rfl (hb hby at_77) rfl (by decide) (cap := 3) (by decide) (by decide) (by decide) (by decide)
     obtain ⟨b431, g431⟩ : ∃ z, z = h0.size := ⟨_, rfl⟩
     rw [← g431] at A431 st431
     have sz431 : h0.size ≤ b431 := Nat.le_trans K0.1 (Nat.le_of_eq g431.symm)
     have ge431 : n0 ≤ b431 := Nat.le_trans (X00.1 ▸ X00.2.1) (Nat.le_of_eq g431.symm)
     have K431 : Keep h0 h431 [] := K0.ext E431
     have O431 : Old Z n0 h431 := X00.ext E431
     have V431 : Arv Z h431 b431 k431 .boolean 3 [(.int 0), (.int 0), (.int 0)] (.int 0) := (Arv.new A431 (by decide)).pad (pad_rep [] (.int 0) 3)
     refine Go.st st431 ?_
     show Go p.tables e below Kx _ (mkF m 79 _ [(.ref b431)])
     refine s_astore (pc' := 81) (Ls' := #[vi p0, vi p1, vi p2, vi p3, vi 3, vi rc, vi 1, vi 0, vi 0, vi x4, vr b431, un, un, un, un, un, un, un, un]) X431.here hx (hb hby at_79) rfl rfl rfl ?_
     refine s_iload (pc' := 83) X431.here hx (hb hby at_81) rfl rfl ?_
     refine s_iconst (pc' := 84) (v := 1) X431.here hx (hb hby at_83) rfl rfl ?_
     refine s_icmpN (pc' := 87) X431.here hx (hb hby at_84) rfl (flt (by decide)).1 ?_
     refine s_aload (pc' := 89) X431.here hx (hb hby at_87) rfl rfl rfl ?_
     refine s_iconst (pc' := 90) (v := 0) X431.here hx (hb hby at_89) rfl rfl ?_
     refine s_iload (pc' := 92) X431.here hx (hb hby at_90) rfl rfl ?_
     obtain ⟨cl432, Ar432, Aq432, As432, An432, Ah432, Ag432⟩ := id V431
     have in433 := inb_of (j := 0) As432 (by decide)
     obtain ⟨T433, h433, X433, e433, W433, st433⟩ := stZ X431 hx hZ e431 Ar432 (j := 0) in433 (g := (mkF m 92 #[vi p0, vi p1, vi p2, vi p3, vi 3, vi rc, vi 1, vi 0, vi 0, vi x4, vr b431, un, un, un, un, un, un, un, un] [(.int 1), (.int 0), (.ref b431)])) rfl rfl (hb hby at_92)
     have V433 : Arv Z h433 b431 k431 .boolean 3 [(.int 1), (.int 0), (.int 0)] (.int 0) := by
      have q := Arv.set Ar432 Aq432 As432 An432 Ah432 Ag432 (fits_nar_bool _) W433 0 rfl (Nat.le_of_ble_eq_true rfl)
      rw [show nar .boolean 1 = 1 from by decide] at q; exact q
     have K433 : Keep h0 h433 [] := K431.wr W433 (Or.inr sz431)
     have O433 : Old Z n0 h433 := O431.wr W433 ge431
     have N433 := Fr.snoc X433 N0 ge431
     refine Go.st st433 ?_
     show Go p.tables e below Kx _ (mkF m 93 _ [])
     refine s_iload (pc' := 95) X433.here hx (hb hby at_93) rfl rfl ?_
     refine s_iconst (pc' := 96) (v := 2) X433.here hx (hb hby at_95) rfl rfl ?_
     refine s_icmpN (pc' := 99) X433.here hx (hb hby at_96) rfl (flt (by decide)).1 ?_
     refine s_aload (pc' := 101) X433.here hx (hb hby at_99) rfl rfl rfl ?_
     refine s_iconst (pc' := 102) (v := 1) X433.here hx (hb hby at_101) rfl rfl ?_
     refine s_iload (pc' := 104) X433.here hx (hb hby at_102) rfl rfl ?_
     obtain ⟨cl434, Ar434, Aq434, As434, An434, Ah434, Ag434⟩ := id V433
     have in435 := inb_of (j := 1) As434 (by decide)
     obtain ⟨T435, h435, X435, e435, W435, st435⟩ := stZ X433 hx hZ e433 Ar434 (j := 1) in435 (g := (mkF m 104 #[vi p0, vi p1, vi p2, vi p3, vi 3, vi rc, vi 1, vi 0, vi 0, vi x4, vr b431, un, un, un, un, un, un, un, un] [(.int 0), (.int 1), (.ref b431)])) rfl rfl (hb hby at_104)
     have V435 : Arv Z h435 b431 k431 .boolean 3 [(.int 1), (.int 0), (.int 0)] (.int 0) := by
      have q := Arv.set Ar434 Aq434 As434 An434 Ah434 Ag434 (fits_nar_bool _) W435 1 rfl (Nat.le_of_ble_eq_true rfl)
      rw [show nar .boolean 0 = 0 from by decide] at q; exact q
     have K435 : Keep h0 h435 [] := K433.wr W435 (Or.inr sz431)
     have O435 : Old Z n0 h435 := O433.wr W435 ge431
     have N435 := Fr.snoc X435 N433 ge431
     refine Go.st st435 ?_
     show Go p.tables e below Kx _ (mkF m 105 _ [])
     refine s_iload (pc' := 107) X435.here hx (hb hby at_105) rfl rfl ?_
     refine s_iconst (pc' := 108) (v := 3) X435.here hx (hb hby at_107) rfl rfl ?_
     refine s_icmpN (pc' := 111) X435.here hx (hb hby at_108) rfl (flt (by decide)).1 ?_
     refine s_aload (pc' := 113) X435.here hx (hb hby at_111) rfl rfl rfl ?_
     refine s_iconst (pc' := 114) (v := 2) X435.here hx (hb hby at_113) rfl rfl ?_
     refine s_iload (pc' := 116) X435.here hx (hb hby at_114) rfl rfl ?_
     obtain ⟨cl436, Ar436, Aq436, As436, An436, Ah436, Ag436⟩ := id V435
     have in437 := inb_of (j := 2) As436 (by decide)
     obtain ⟨T437, h437, X437, e437, W437, st437⟩ := stZ X435 hx hZ e435 Ar436 (j := 2) in437 (g := (mkF m 116 #[vi p0, vi p1, vi p2, vi p3, vi 3, vi rc, vi 1, vi 0, vi 0, vi x4, vr b431, un, un, un, un, un, un, un, un] [(.int 0), (.int 2), (.ref b431)])) rfl rfl (hb hby at_116)
     have V437 : Arv Z h437 b431 k431 .boolean 3 [(.int 1), (.int 0), (.int 0)] (.int 0) := by
      have q := Arv.set Ar436 Aq436 As436 An436 Ah436 Ag436 (fits_nar_bool _) W437 2 rfl (Nat.le_of_ble_eq_true rfl)
      rw [show nar .boolean 0 = 0 from by decide] at q; exact q
     have K437 : Keep h0 h437 [] := K435.wr W437 (Or.inr sz431)
     have O437 : Old Z n0 h437 := O435.wr W437 ge431
     have N437 := Fr.snoc X437 N435 ge431
     refine Go.st st437 ?_
     show Go p.tables e below Kx _ (mkF m 117 _ [])
     refine s_iload (pc' := 119) X437.here hx (hb hby at_117) rfl rfl ?_
     refine s_iconst (pc' := 120) (v := 4) X437.here hx (hb hby at_119) rfl rfl ?_
     refine s_icmpY (pc' := 129) X437.here hx (hb hby at_120) (tlt (by decide)).1 (by decide) (by decide) ?_
     obtain ⟨T438, h438, X438, e438, E438, A438, D438, -, st438⟩ := newO X437 hx hZ hown (hv hw 2 rfl) (hv hw 3 rfl) (hv hw 4 rfl) e437 (g := (mkF m 129 #[vi p0, vi p1, vi p2, vi p3, vi 3, vi rc, vi 1, vi 0, vi 0, vi x4, vr b431, un, un, un, un, un, un, un, un] [])) rfl (hb hby at_129) (by decide) (by decide)
     obtain ⟨b438, g438⟩ : ∃ z, z = h437.size := ⟨_, rfl⟩
     rw [← g438] at A438 D438 st438
     have sz438 : h0.size ≤ b438 := Nat.le_trans K437.1 (Nat.le_of_eq g438.symm)
     have ge438 : n0 ≤ b438 := Nat.le_trans (O437.1 ▸ O437.2.1) (Nat.le_of_eq g438.symm)
     have K438 : Keep h0 h438 [] := K437.ext E438
     have O438 : Old Z n0 h438 := O437.ext E438
     have F438_relevantWithin : Fld Z h438 b438 "com/example/kingfisher/kingfisher/eval/TopicRanking" "relevantWithin" "[I" .null := D438 (Or.inr (hv hw 13 rfl)) (ty := (.array .int)) (by decide)
     have F438_relevantCount : Fld Z h438 b438 "com/example/kingfisher/kingfisher/eval/TopicRanking" "relevantCount" "I" (.int 0) := D438 (Or.inr (hv hw 15 rfl)) (ty := .int) (by decide)
     refine Go.st st438 ?_
     show Go p.tables e below Kx _ (mkF m 132 _ [(.ref b438)])
     refine s_dup (pc' := 133) X438.here hx (hb hby at_132) rfl rfl ?_
     refine s_aload (pc' := 135) X438.here hx (hb hby at_133) rfl rfl rfl ?_
     refine s_iload (pc' := 137) X438.here hx (hb hby at_135) rfl rfl ?_
     have f439 : Arv Z h438 b431 k431 .boolean 3 [(.int 1), (.int 0), (.int 0)] (.int 0) := (V437.ext E438)
     obtain ⟨_, _, ⟨T440, L440, k440, n440⟩, -, X440, ⟨Lc440, hQ440, l440, y440, z440⟩, st440⟩ := X438.specialBack hx (y := yN0) rfl hown (mvT hZ (hv hw 5 rfl)) (mvT hZ (hv hw 6 rfl)) (mvT hZ (hv hw 7 rfl)) (by decide) (backOf (W := 1) (rmN3 l Z a0 hw [] b438 b431 k431 1 0 0 1 1 1 rc h438 n0 O438 ge438 (Nat.ne_of_lt (Nat.lt_of_lt_of_le (Nat.lt_of_lt_of_le A431.lt (Nat.le_trans (Nat.le_trans (Nat.le_of_eq W433.size.symm) (Nat.le_of_eq W435.size.symm)) (Nat.le_of_eq W437.size.symm))) (Nat.le_of_eq g438.symm))) A438 F438_relevantWithin F438_relevantCount f439 (by decide) (by decide) (by decide)) hZ (hv hw 7 rfl) (hv hw 4 rfl) (by decide) (by decide)) (g := (mkF m 137 #[vi p0, vi p1, vi p2, vi p3, vi 3, vi rc, vi 1, vi 0, vi 0, vi x4, vr b431, un, un, un, un, un, un, un, un] [(.int rc), (.ref b431), (.ref b438), (.ref b438)])) rfl (by rw [hml]; rfl) (Steps.refl _) (a := b438) (argsL := [(.ref b431), (.int rc)]) (rest := [(.ref b438)]) (lenOf pd_2 rfl) rfl (by exact Nat.le_of_eq rfl) (hb hby at_137) (fun _ _ => ⟨rfl, e438, (by decide : 2 + 1 ≤ _), (by decide : 5 + 4 ≤ _)⟩)
     dsimp only [Pt.U, Pt.locs, Pt.cells, Pt.slots] at X440 l440 y440 z440 st440 hQ440
     rw [l440, y440, z440] at X440
     obtain ⟨rfl, Nq440, Kq440, q1_440, q2_440, t440, kt440, q3_440, q4_440⟩ := hQ440
     have N440 := Fr.app N437 Nq440
     have K440 : Keep h0 T440.heap [] := K438.trans Kq440 (allS (P := fun zz => zz ∈ [] ∨ h0.size ≤ zz) (Or.inr sz438) all0)
     have O440 : Old Z n0 T440.heap := O438.keep Kq440 (allS ge438 all0)
     refine Go.tr st440 ?_
     show Go p.tables e below Kx _ (mkF m 140 _ [(.ref b438)])
     refine s_astore (pc' := 142) (Ls' := #[vi p0, vi p1, vi p2, vi p3, vi 3, vi rc, vi 1, vi 0, vi 0, vi x4, vr b431, vr b438, un, un, un, un, un, un, un]) X440.here hx (hb hby at_140) rfl rfl rfl ?_
     refine s_aload (pc' := 144) X440.here hx (hb hby at_142) rfl rfl rfl ?_
     refine s_iloadN (pc' := 145) X440.here hx (hb hby at_144) rfl rfl ?_
     obtain ⟨cq441, kq441, q441a, q441b, q441c⟩ := isOf hZ rfl q1_440
     obtain ⟨_, _, ⟨T441, L441, k441, n441⟩, -, X441, ⟨Lc441, hQ441, l441, y441, z441⟩, st441⟩ := X440.virtualBack hx (y := yN1) (z := yN1) hown (mvT hZ (hv hw 16 rfl)) (mvT hZ (hv hw 17 rfl)) (notFace_of_selects (args := #[]) (mvT hZ (hv hw 19 rfl))) (mvT hZ (hv hw 19 rfl)) (mvT hZ (hv hw 18 rfl)) (by decide) (backOf (W := 0) (rmA3 l Z a0 hw [] b438 t440 kt440 1 1 1 rc p2 T440.heap n0 O440 hrc q1_440 q3_440 q2_440 q4_440) hZ (hv hw 20 rfl) (hv hw 4 rfl) (by decide) (by decide)) q441a q441c (g := (mkF m 145 #[vi p0, vi p1, vi p2, vi p3, vi 3, vi rc, vi 1, vi 0, vi 0, vi x4, vr b431, vr b438, un, un, un, un, un, un, un] [(.int p2), (.ref b438)])) rfl (by rw [hml]; rfl) (Steps.refl _) (argsL := [(.int p2)]) (rest := []) (lenOf pd_3 rfl) rfl (by exact Nat.le_of_eq rfl) (hb hby at_145) (fun _ _ => ⟨rfl, rfl, (by decide : 3 + 0 ≤ _), (by decide : 9 + 0 ≤ _)⟩)
     dsimp only [Pt.U, Pt.locs, Pt.cells, Pt.slots] at X441 l441 y441 z441 st441 hQ441
     rw [l441, y441, z441] at X441
     obtain ⟨rfl, Nq441, hE441⟩ := hQ441
     have N441 := Fr.app N440 Nq441
     refine Go.tr st441 ?_
     show Go p.tables e below Kx _ (mkF m 148 _ [(.double (mst (mst (mst FP.dconst0 1 1 (needd p2 rc)) 1 2 (needd p2 rc)) 1 3 (needd p2 rc)))])
     refine s_dstore (pc' := 150) (Ls' := #[vi p0, vi p1, vi p2, vi p3, vi 3, vi rc, vi 1, vi 0, vi 0, vi x4, vr b431, vr b438, .val (.double (mst (mst (mst FP.dconst0 1 1 (needd p2 rc)) 1 2 (needd p2 rc)) 1 3 (needd p2 rc))), sn, un, un, un, un, un]) X441.here hx (hb hby at_148) rfl  rfl ?_
     refine s_iloadN (pc' := 151) X441.here hx (hb hby at_150) rfl rfl ?_
     refine s_i2d (pc' := 152) X441.here hx (hb hby at_151) rfl rfl ?_
     refine Go.st (X441.ldc2DoubleC hx hown (mvT hZ (hv hw 28 rfl)) (g := (mkF m 152 #[vi p0, vi p1, vi p2, vi p3, vi 3, vi rc, vi 1, vi 0, vi 0, vi x4, vr b431, vr b438, .val (.double (mst (mst (mst FP.dconst0 1 1 (needd p2 rc)) 1 2 (needd p2 rc)) 1 3 (needd p2 rc))), sn, un, un, un, un, un] [(.double (FP.i2d p2))])) rfl (hb hby at_152)) ?_
     show Go p.tables e below Kx _ (mkF m 155 _ [(.double (4621819117588971520 : UInt64)), (.double (FP.i2d p2))])
     refine s_ddiv (pc' := 156) X441.here hx (hb hby at_155) rfl (nn1 p2) rfl ?_
     refine s_iload (pc' := 158) X441.here hx (hb hby at_156) rfl rfl ?_
     refine s_i2d (pc' := 159) X441.here hx (hb hby at_158) rfl rfl ?_
     refine s_dmul (pc' := 160) X441.here hx (hb hby at_159) rfl (nn2 p2 hrc) rfl ?_
     refine Go.st (X441.ldc2DoubleC hx hown (mvT hZ (hv hw 29 rfl)) (g := (mkF m 160 #[vi p0, vi p1, vi p2, vi p3, vi 3, vi rc, vi 1, vi 0, vi 0, vi x4, vr b431, vr b438, .val (.double (mst (mst (mst FP.dconst0 1 1 (needd p2 rc)) 1 2 (needd p2 rc)) 1 3 (needd p2 rc))), sn, un, un, un, un, un] [(.double (FP.dmul (FP.ddiv (FP.i2d p2) (4621819117588971520 : UInt64)) (FP.i2d rc)))])) rfl (hb hby at_160)) ?_
     show Go p.tables e below Kx _ (mkF m 163 _ [(.double (4606281698874543309 : UInt64)), (.double (FP.dmul (FP.ddiv (FP.i2d p2) (4621819117588971520 : UInt64)) (FP.i2d rc)))])
     refine s_dadd (pc' := 164) X441.here hx (hb hby at_163) rfl (nn3 p2 hrc) rfl ?_
     refine s_d2l (pc' := 165) (z := needd p2 rc) X441.here hx (hb hby at_164) rfl rfl ?_
     show Go p.tables e below Kx _ (mkF m 165 _ [(.long (needd p2 rc))])
     generalize (needd p2 rc) = nd
     generalize hmm : (mst (mst (mst FP.dconst0 1 1 nd) 1 2 nd) 1 3 nd) = mm
     show Go p.tables e below Kx _ (mkF m 165 _ [(.long nd)])
     refine s_lstore (pc' := 167) (Ls' := #[vi p0, vi p1, vi p2, vi p3, vi 3, vi rc, vi 1, vi 0, vi 0, vi x4, vr b431, vr b438, .val (.double mm), sn, .val (.long nd), sn, un, un, un]) X441.here hx (hb hby at_165) rfl  rfl ?_
     refine s_dconst0 (pc' := 168) X441.here hx (hb hby at_167) rfl rfl ?_
     refine s_dstore (pc' := 170) (Ls' := #[vi p0, vi p1, vi p2, vi p3, vi 3, vi rc, vi 1, vi 0, vi 0, vi x4, vr b431, vr b438, .val (.double mm), sn, .val (.long nd), sn, .val (.double FP.dconst0), sn, un]) X441.here hx (hb hby at_168) rfl  rfl ?_
     refine s_iconst (pc' := 171) (v := 0) X441.here hx (hb hby at_170) rfl rfl ?_
     refine s_istore (pc' := 173) (Ls' := #[vi p0, vi p1, vi p2, vi p3, vi 3, vi rc, vi 1, vi 0, vi 0, vi x4, vr b431, vr b438, .val (.double mm), sn, .val (.long nd), sn, .val (.double FP.dconst0), sn, vi 0]) X441.here hx (hb hby at_171) rfl  rfl ?_
     refine s_iload (pc' := 175) X441.here hx (hb hby at_173) rfl rfl ?_
     refine s_iconst (pc' := 176) (v := 1) X441.here hx (hb hby at_175) rfl rfl ?_
     refine s_icmpN (pc' := 179) X441.here hx (hb hby at_176) rfl (flt (by decide)).1 ?_
     refine s_iload (pc' := 181) X441.here hx (hb hby at_179) rfl rfl ?_
     refine s_ifN (pc' := 184) X441.here hx (hb hby at_181) rfl ((if0 _ _).trans (feq (by decide)).1) ?_
     refine s_iload (pc' := 186) X441.here hx (hb hby at_184) rfl rfl ?_
     refine s_iconst (pc' := 187) (v := 1) X441.here hx (hb hby at_186) rfl rfl ?_
     refine s_iadd (pc' := 188) (z := 1) X441.here hx (hb hby at_187) rfl (by decide) ?_
     refine s_istore (pc' := 190) (Ls' := #[vi p0, vi p1, vi p2, vi p3, vi 3, vi rc, vi 1, vi 0, vi 0, vi x4, vr b431, vr b438, .val (.double mm), sn, .val (.long nd), sn, .val (.double FP.dconst0), sn, vi 1]) X441.here hx (hb hby at_188) rfl  rfl ?_
     refine s_dload (pc' := 192) X441.here hx (hb hby at_190) rfl rfl ?_
     refine s_iload (pc' := 194) X441.here hx (hb hby at_192) rfl rfl ?_
     refine s_iconst (pc' := 195) (v := 1) X441.here hx (hb hby at_194) rfl rfl ?_
     refine s_lload (pc' := 197) X441.here hx (hb hby at_195) rfl rfl ?_
     obtain ⟨_, _, ⟨T442, L442, k442, n442⟩, -, X442, ⟨Lc442, hQ442, l442, y442, z442⟩, st442⟩ := Jvm.LawKit.callS X441 hx (y := yN3) hown (mvT hZ (hv hw 30 rfl)) (mvT hZ (hv hw 31 rfl)) (mvT hZ (hv hw 32 rfl)) (mvT hZ (hv hw 33 rfl)) (by decide) (backOf (W := 0) (rmB l Z a0 hw [] FP.dconst0 1 1 nd T440.heap n0 O440 (by decide)) hZ (hv hw 33 rfl) (hv hw 32 rfl) (by decide) (by decide)) (g := (mkF m 197 #[vi p0, vi p1, vi p2, vi p3, vi 3, vi rc, vi 1, vi 0, vi 0, vi x4, vr b431, vr b438, .val (.double mm), sn, .val (.long nd), sn, .val (.double FP.dconst0), sn, vi 1] [(.long nd), (.int 1), (.int 1), (.double FP.dconst0)])) rfl (by rw [hml]; rfl) (argsL := [(.double FP.dconst0), (.int 1), (.int 1), (.long nd)]) (rest := []) (lenOf pd_4 rfl) rfl (by exact Nat.le_of_eq rfl) (hb hby at_197) (fun _ _ => ⟨rfl, hE441, (by decide : 3 + 0 ≤ _), (by decide : 9 + 0 ≤ _)⟩)
     dsimp only [Pt.U, Pt.locs, Pt.cells, Pt.slots] at X442 l442 y442 z442 st442 hQ442
     rw [l442, y442, z442] at X442
     obtain ⟨rfl, Nq442, hE442⟩ := hQ442
     have N442 := Fr.app N441 Nq442
     refine Go.st st442 ?_
     show Go p.tables e below Kx _ (mkF m 200 _ [(.double (bst FP.dconst0 1 1 nd))])
     refine s_dstore (pc' := 202) (Ls' := #[vi p0, vi p1, vi p2, vi p3, vi 3, vi rc, vi 1, vi 0, vi 0, vi x4, vr b431, vr b438, .val (.double mm), sn, .val (.long nd), sn, .val (.double (bst FP.dconst0 1 1 nd)), sn, vi 1]) X442.here hx (hb hby at_200) rfl  rfl ?_
     refine s_iload (pc' := 204) X442.here hx (hb hby at_202) rfl rfl ?_
     refine s_iconst (pc' := 205) (v := 2) X442.here hx (hb hby at_204) rfl rfl ?_
     refine s_icmpN (pc' := 208) X442.here hx (hb hby at_205) rfl (flt (by decide)).1 ?_
     refine s_iload (pc' := 210) X442.here hx (hb hby at_208) rfl rfl ?_
     refine s_ifY (pc' := 231) X442.here hx (hb hby at_210) ((if0 _ _).trans (teq (by decide)).1) (by decide) (by decide) ?_
     refine s_iload (pc' := 233) X442.here hx (hb hby at_231) rfl rfl ?_
     refine s_iconst (pc' := 234) (v := 3) X442.here hx (hb hby at_233) rfl rfl ?_
     refine s_icmpN (pc' := 237) X442.here hx (hb hby at_234) rfl (flt (by decide)).1 ?_
     refine s_iload (pc' := 239) X442.here hx (hb hby at_237) rfl rfl ?_
     refine s_ifY (pc' := 260) X442.here hx (hb hby at_239) ((if0 _ _).trans (teq (by decide)).1) (by decide) (by decide) ?_
     refine s_iload (pc' := 262) X442.here hx (hb hby at_260) rfl rfl ?_
     refine s_iconst (pc' := 263) (v := 4) X442.here hx (hb hby at_262) rfl rfl ?_
     refine s_icmpY (pc' := 289) X442.here hx (hb hby at_263) (tlt (by decide)).1 (by decide) (by decide) ?_
     refine s_dload (pc' := 291) X442.here hx (hb hby at_289) rfl rfl ?_
     refine s_dload (pc' := 293) X442.here hx (hb hby at_291) rfl rfl ?_
     refine s_dcmpl (pc' := 294) (z := 0) X442.here hx (hb hby at_293) rfl (by rw [← hmm]; exact fin_3100 nd) ?_
     refine s_ifN (pc' := 297) X442.here hx (hb hby at_294) rfl ((if0 _ _).trans (teq (by decide)).2) ?_
     refine s_iconst (pc' := 298) (v := 1) X442.here hx (hb hby at_297) rfl rfl ?_
     refine s_goto (pc' := 302) X442.here hx (hb hby at_298) (by decide) (by decide) ?_
     obtain ⟨fs, hr, hrun, hended, hW, hsame⟩ := X442.leave (v := (some (.int 1))) (fun h => by rw [Bd.returns] at h; cases h)
     refine Go.fin (retN X442 hx (t := .boolean) Bd.returns (by simp) (hb hby at_302) hr) (hF _ _ hrun hended ⟨_, _, rfl, ?_, ⟨_, rfl⟩, hW, hsame.mono (by decide) (by decide)⟩)
     ·
      show QL Z p0 p1 p2 p3 h0 n0 ((some (.int 1)) : Option Value) T442.heap _
      rw [hE442]
      exact ⟨rfl, N442⟩
    ·
     show Go p.tables e below Kx _ (mkF m 75 _ [])
     refine s_iload (pc' := 77) X0.here hx (hb hby at_75) rfl rfl ?_
     obtain ⟨T443, h443, k443, X443, e443, E443, A443, st443⟩ := newP X0 hx hZ (hv hw 1 rfl) e0 (g := (mkF m 77 #[vi p0, vi p1, vi p2, vi p3, vi 3, vi rc, vi 1, vi 0, vi 1, vi x4, un, un, un, un, un, un, un, un, un] [(.int 3)])) rfl (hb hby at_77) rfl (by decide) (cap := 3) (by decide) (by decide) (by decide) (by decide)
     obtain ⟨b443, g443⟩ : ∃ z, z = h0.size := ⟨_, rfl⟩
     rw [← g443] at A443 st443
     have sz443 : h0.size ≤ b443 := Nat.le_trans K0.1 (Nat.le_of_eq g443.symm)
     have ge443 : n0 ≤ b443 := Nat.le_trans (X00.1 ▸ X00.2.1) (Nat.le_of_eq g443.symm)
     have K443 : Keep h0 h443 [] := K0.ext E443
     have O443 : Old Z n0 h443 := X00.ext E443
     have V443 : Arv Z h443 b443 k443 .boolean 3 [(.int 0), (.int 0), (.int 0)] (.int 0) := (Arv.new A443 (by decide)).pad (pad_rep [] (.int 0) 3)
     refine Go.st st443 ?_
     show Go p.tables e below Kx _ (mkF m 79 _ [(.ref b443)])
     refine s_astore (pc' := 81) (Ls' := #[vi p0, vi p1, vi p2, vi p3, vi 3, vi rc, vi 1, vi 0, vi 1, vi x4, vr b443, un, un, un, un, un, un, un, un]) X443.here hx (hb hby at_79) rfl rfl rfl ?_
     refine s_iload (pc' := 83) X443.here hx (hb hby at_81) rfl rfl ?_
     refine s_iconst (pc' := 84) (v := 1) X443.here hx (hb hby at_83) rfl rfl ?_
     refine s_icmpN (pc' := 87) X443.here hx (hb hby at_84) rfl (flt (by decide)).1 ?_
     refine s_aload (pc' := 89) X443.here hx (hb hby at_87) rfl rfl rfl ?_
     refine s_iconst (pc' := 90) (v := 0) X443.here hx (hb hby at_89) rfl rfl ?_
     refine s_iload (pc' := 92) X443.here hx (hb hby at_90) rfl rfl ?_
     obtain ⟨cl444, Ar444, Aq444, As444, An444, Ah444, Ag444⟩ := id V443
     have in445 := inb_of (j := 0) As444 (by decide)
     obtain ⟨T445, h445, X445, e445, W445, st445⟩ := stZ X443 hx hZ e443 Ar444 (j := 0) in445 (g := (mkF m 92 #[vi p0, vi p1, vi p2, vi p3, vi 3, vi rc, vi 1, vi 0, vi 1, vi x4, vr b443, un, un, un, un, un, un, un, un] [(.int 1), (.int 0), (.ref b443)])) rfl rfl (hb hby at_92)
     have V445 : Arv Z h445 b443 k443 .boolean 3 [(.int 1), (.int 0), (.int 0)] (.int 0) := by
      have q := Arv.set Ar444 Aq444 As444 An444 Ah444 Ag444 (fits_nar_bool _) W445 0 rfl (Nat.le_of_ble_eq_true rfl)
      rw [show nar .boolean 1 = 1 from by decide] at q; exact q
     have K445 : Keep h0 h445 [] := K443.wr W445 (Or.inr sz443)
     have O445 : Old Z n0 h445 := O443.wr W445 ge443
     have N445 := Fr.snoc X445 N0 ge443
     refine Go.st st445 ?_
     show Go p.tables e below Kx _ (mkF m 93 _ [])
     refine s_iload (pc' := 95) X445.here hx (hb hby at_93) rfl rfl ?_
     refine s_iconst (pc' := 96) (v := 2) X445.here hx (hb hby at_95) rfl rfl ?_
     refine s_icmpN (pc' := 99) X445.here hx (hb hby at_96) rfl (flt (by decide)).1 ?_
     refine s_aload (pc' := 101) X445.here hx (hb hby at_99) rfl rfl rfl ?_
     refine s_iconst (pc' := 102) (v := 1) X445.here hx (hb hby at_101) rfl rfl ?_
     refine s_iload (pc' := 104) X445.here hx (hb hby at_102) rfl rfl ?_
     obtain ⟨cl446, Ar446, Aq446, As446, An446, Ah446, Ag446⟩ := id V445
     have in447 := inb_of (j := 1) As446 (by decide)
     obtain ⟨T447, h447, X447, e447, W447, st447⟩ := stZ X445 hx hZ e445 Ar446 (j := 1) in447 (g := (mkF m 104 #[vi p0, vi p1, vi p2, vi p3, vi 3, vi rc, vi 1, vi 0, vi 1, vi x4, vr b443, un, un, un, un, un, un, un, un] [(.int 0), (.int 1), (.ref b443)])) rfl rfl (hb hby at_104)
     have V447 : Arv Z h447 b443 k443 .boolean 3 [(.int 1), (.int 0), (.int 0)] (.int 0) := by
      have q := Arv.set Ar446 Aq446 As446 An446 Ah446 Ag446 (fits_nar_bool _) W447 1 rfl (Nat.le_of_ble_eq_true rfl)
      rw [show nar .boolean 0 = 0 from by decide] at q; exact q
     have K447 : Keep h0 h447 [] := K445.wr W447 (Or.inr sz443)
     have O447 : Old Z n0 h447 := O445.wr W447 ge443
     have N447 := Fr.snoc X447 N445 ge443
     refine Go.st st447 ?_
     show Go p.tables e below Kx _ (mkF m 105 _ [])
     refine s_iload (pc' := 107) X447.here hx (hb hby at_105) rfl rfl ?_
     refine s_iconst (pc' := 108) (v := 3) X447.here hx (hb hby at_107) rfl rfl ?_
     refine s_icmpN (pc' := 111) X447.here hx (hb hby at_108) rfl (flt (by decide)).1 ?_
     refine s_aload (pc' := 113) X447.here hx (hb hby at_111) rfl rfl rfl ?_
     refine s_iconst (pc' := 114) (v := 2) X447.here hx (hb hby at_113) rfl rfl ?_
     refine s_iload (pc' := 116) X447.here hx (hb hby at_114) rfl rfl ?_
     obtain ⟨cl448, Ar448, Aq448, As448, An448, Ah448, Ag448⟩ := id V447
     have in449 := inb_of (j := 2) As448 (by decide)
     obtain ⟨T449, h449, X449, e449, W449, st449⟩ := stZ X447 hx hZ e447 Ar448 (j := 2) in449 (g := (mkF m 116 #[vi p0, vi p1, vi p2, vi p3, vi 3, vi rc, vi 1, vi 0, vi 1, vi x4, vr b443, un, un, un, un, un, un, un, un] [(.int 1), (.int 2), (.ref b443)])) rfl rfl (hb hby at_116)
     have V449 : Arv Z h449 b443 k443 .boolean 3 [(.int 1), (.int 0), (.int 1)] (.int 0) := by
      have q := Arv.set Ar448 Aq448 As448 An448 Ah448 Ag448 (fits_nar_bool _) W449 2 rfl (Nat.le_of_ble_eq_true rfl)
      rw [show nar .boolean 1 = 1 from by decide] at q; exact q
     have K449 : Keep h0 h449 [] := K447.wr W449 (Or.inr sz443)
     have O449 : Old Z n0 h449 := O447.wr W449 ge443
     have N449 := Fr.snoc X449 N447 ge443
     refine Go.st st449 ?_
     show Go p.tables e below Kx _ (mkF m 117 _ [])
     refine s_iload (pc' := 119) X449.here hx (hb hby at_117) rfl rfl ?_
     refine s_iconst (pc' := 120) (v := 4) X449.here hx (hb hby at_119) rfl rfl ?_
     refine s_icmpY (pc' := 129) X449.here hx (hb hby at_120) (tlt (by decide)).1 (by decide) (by decide) ?_
     obtain ⟨T450, h450, X450, e450, E450, A450, D450, -, st450⟩ := newO X449 hx hZ hown (hv hw 2 rfl) (hv hw 3 rfl) (hv hw 4 rfl) e449 (g := (mkF m 129 #[vi p0, vi p1, vi p2, vi p3, vi 3, vi rc, vi 1, vi 0, vi 1, vi x4, vr b443, un, un, un, un, un, un, un, un] [])) rfl (hb hby at_129) (by decide) (by decide)
     obtain ⟨b450, g450⟩ : ∃ z, z = h449.size := ⟨_, rfl⟩
     rw [← g450] at A450 D450 st450
     have sz450 : h0.size ≤ b450 := Nat.le_trans K449.1 (Nat.le_of_eq g450.symm)
     have ge450 : n0 ≤ b450 := Nat.le_trans (O449.1 ▸ O449.2.1) (Nat.le_of_eq g450.symm)
     have K450 : Keep h0 h450 [] := K449.ext E450
     have O450 : Old Z n0 h450 := O449.ext E450
     have F450_relevantWithin : Fld Z h450 b450 "com/example/kingfisher/kingfisher/eval/TopicRanking" "relevantWithin" "[I" .null := D450 (Or.inr (hv hw 13 rfl)) (ty := (.array .int)) (by decide)
     have F450_relevantCount : Fld Z h450 b450 "com/example/kingfisher/kingfisher/eval/TopicRanking" "relevantCount" "I" (.int 0) := D450 (Or.inr (hv hw 15 rfl)) (ty := .int) (by decide)
     refine Go.st st450 ?_
     show Go p.tables e below Kx _ (mkF m 132 _ [(.ref b450)])
     refine s_dup (pc' := 133) X450.here hx (hb hby at_132) rfl rfl ?_
     refine s_aload (pc' := 135) X450.here hx (hb hby at_133) rfl rfl rfl ?_
     refine s_iload (pc' := 137) X450.here hx (hb hby at_135) rfl rfl ?_
     have f451 : Arv Z h450 b443 k443 .boolean 3 [(.int 1), (.int 0), (.int 1)] (.int 0) := (V449.ext E450)
     obtain ⟨_, _, ⟨T452, L452, k452, n452⟩, -, X452, ⟨Lc452, hQ452, l452, y452, z452⟩, st452⟩ := X450.specialBack hx (y := yN0) rfl hown (mvT hZ (hv hw 5 rfl)) (mvT hZ (hv hw 6 rfl)) (mvT hZ (hv hw 7 rfl)) (by decide) (backOf (W := 1) (rmN3 l Z a0 hw [] b450 b443 k443 1 0 1 1 1 2 rc h450 n0 O450 ge450 (Nat.ne_of_lt (Nat.lt_of_lt_of_le (Nat.lt_of_lt_of_le A443.lt (Nat.le_trans (Nat.le_trans (Nat.le_of_eq W445.size.symm) (Nat.le_of_eq W447.size.symm)) (Nat.le_of_eq W449.size.symm))) (Nat.le_of_eq g450.symm))) A450 F450_relevantWithin F450_relevantCount f451 (by decide) (by decide) (by decide)) hZ (hv hw 7 rfl) (hv hw 4 rfl) (by decide) (by decide)) (g := (mkF m 137 #[vi p0, vi p1, vi p2, vi p3, vi 3, vi rc, vi 1, vi 0, vi 1, vi x4, vr b443, un, un, un, un, un, un, un, un] [(.int rc), (.ref b443), (.ref b450), (.ref b450)])) rfl (by rw [hml]; rfl) (Steps.refl _) (a := b450) (argsL := [(.ref b443), (.int rc)]) (rest := [(.ref b450)]) (lenOf pd_2 rfl) rfl (by exact Nat.le_of_eq rfl) (hb hby at_137) (fun _ _ => ⟨rfl, e450, (by decide : 2 + 1 ≤ _), (by decide : 5 + 4 ≤ _)⟩)
     dsimp only [Pt.U, Pt.locs, Pt.cells, Pt.slots] at X452 l452 y452 z452 st452 hQ452
     rw [l452, y452, z452] at X452
     obtain ⟨rfl, Nq452, Kq452, q1_452, q2_452, t452, kt452, q3_452, q4_452⟩ := hQ452
     have N452 := Fr.app N449 Nq452
     have K452 : Keep h0 T452.heap [] := K450.trans Kq452 (allS (P := fun zz => zz ∈ [] ∨ h0.size ≤ zz) (Or.inr sz450) all0)
     have O452 : Old Z n0 T452.heap := O450.keep Kq452 (allS ge450 all0)
     refine Go.tr st452 ?_
     show Go p.tables e below Kx _ (mkF m 140 _ [(.ref b450)])
     refine s_astore (pc' := 142) (Ls' := #[vi p0, vi p1, vi p2, vi p3, vi 3, vi rc, vi 1, vi 0, vi 1, vi x4, vr b443, vr b450, un, un, un, un, un, un, un]) X452.here hx (hb hby at_140) rfl rfl rfl ?_
     refine s_aload (pc' := 144) X452.here hx (hb hby at_142) rfl rfl rfl ?_
     refine s_iloadN (pc' := 145) X452.here hx (hb hby at_144) rfl rfl ?_
     obtain ⟨cq453, kq453, q453a, q453b, q453c⟩ := isOf hZ rfl q1_452
     obtain ⟨_, _, ⟨T453, L453, k453, n453⟩, -, X453, ⟨Lc453, hQ453, l453, y453, z453⟩, st453⟩ := X452.virtualBack hx (y := yN1) (z := yN1) hown (mvT hZ (hv hw 16 rfl)) (mvT hZ (hv hw 17 rfl)) (notFace_of_selects (args := #[]) (mvT hZ (hv hw 19 rfl))) (mvT hZ (hv hw 19 rfl)) (mvT hZ (hv hw 18 rfl)) (by decide) (backOf (W := 0) (rmA3 l Z a0 hw [] b450 t452 kt452 1 1 2 rc p2 T452.heap n0 O452 hrc q1_452 q3_452 q2_452 q4_452) hZ (hv hw 20 rfl) (hv hw 4 rfl) (by decide) (by decide)) q453a q453c (g := (mkF m 145 #[vi p0, vi p1, vi p2, vi p3, vi 3, vi rc, vi 1, vi 0, vi 1, vi x4, vr b443, vr b450, un, un, un, un, un, un, un] [(.int p2), (.ref b450)])) rfl (by rw [hml]; rfl) (Steps.refl _) (argsL := [(.int p2)]) (rest := []) (lenOf pd_3 rfl) rfl (by exact Nat.le_of_eq rfl) (hb hby at_145) (fun _ _ => ⟨rfl, rfl, (by decide : 3 + 0 ≤ _), (by decide : 9 + 0 ≤ _)⟩)
     dsimp only [Pt.U, Pt.locs, Pt.cells, Pt.slots] at X453 l453 y453 z453 st453 hQ453
     rw [l453, y453, z453] at X453
     obtain ⟨rfl, Nq453, hE453⟩ := hQ453
     have N453 := Fr.app N452 Nq453
     refine Go.tr st453 ?_
     show Go p.tables e below Kx _ (mkF m 148 _ [(.double (mst (mst (mst FP.dconst0 1 1 (needd p2 rc)) 1 2 (needd p2 rc)) 2 3 (needd p2 rc)))])
     refine s_dstore (pc' := 150) (Ls' := #[vi p0, vi p1, vi p2, vi p3, vi 3, vi rc, vi 1, vi 0, vi 1, vi x4, vr b443, vr b450, .val (.double (mst (mst (mst FP.dconst0 1 1 (needd p2 rc)) 1 2 (needd p2 rc)) 2 3 (needd p2 rc))), sn, un, un, un, un, un]) X453.here hx (hb hby at_148) rfl  rfl ?_
     refine s_iloadN (pc' := 151) X453.here hx (hb hby at_150) rfl rfl ?_
     refine s_i2d (pc' := 152) X453.here hx (hb hby at_151) rfl rfl ?_
     refine Go.st (X453.ldc2DoubleC hx hown (mvT hZ (hv hw 28 rfl)) (g := (mkF m 152 #[vi p0, vi p1, vi p2, vi p3, vi 3, vi rc, vi 1, vi 0, vi 1, vi x4, vr b443, vr b450, .val (.double (mst (mst (mst FP.dconst0 1 1 (needd p2 rc)) 1 2 (needd p2 rc)) 2 3 (needd p2 rc))), sn, un, un, un, un, un] [(.double (FP.i2d p2))])) rfl (hb hby at_152)) ?_
     show Go p.tables e below Kx _ (mkF m 155 _ [(.double (4621819117588971520 : UInt64)), (.double (FP.i2d p2))])
     refine s_ddiv (pc' := 156) X453.here hx (hb hby at_155) rfl (nn1 p2) rfl ?_
     refine s_iload (pc' := 158) X453.here hx (hb hby at_156) rfl rfl ?_
     refine s_i2d (pc' := 159) X453.here hx (hb hby at_158) rfl rfl ?_
     refine s_dmul (pc' := 160) X453.here hx (hb hby at_159) rfl (nn2 p2 hrc) rfl ?_
     refine Go.st (X453.ldc2DoubleC hx hown (mvT hZ (hv hw 29 rfl)) (g := (mkF m 160 #[vi p0, vi p1, vi p2, vi p3, vi 3, vi rc, vi 1, vi 0, vi 1, vi x4, vr b443, vr b450, .val (.double (mst (mst (mst FP.dconst0 1 1 (needd p2 rc)) 1 2 (needd p2 rc)) 2 3 (needd p2 rc))), sn, un, un, un, un, un] [(.double (FP.dmul (FP.ddiv (FP.i2d p2) (4621819117588971520 : UInt64)) (FP.i2d rc)))])) rfl (hb hby at_160)) ?_
     show Go p.tables e below Kx _ (mkF m 163 _ [(.double (4606281698874543309 : UInt64)), (.double (FP.dmul (FP.ddiv (FP.i2d p2) (4621819117588971520 : UInt64)) (FP.i2d rc)))])
     refine s_dadd (pc' := 164) X453.here hx (hb hby at_163) rfl (nn3 p2 hrc) rfl ?_
     refine s_d2l (pc' := 165) (z := needd p2 rc) X453.here hx (hb hby at_164) rfl rfl ?_
     show Go p.tables e below Kx _ (mkF m 165 _ [(.long (needd p2 rc))])
     generalize (needd p2 rc) = nd
     generalize hmm : (mst (mst (mst FP.dconst0 1 1 nd) 1 2 nd) 2 3 nd) = mm
     show Go p.tables e below Kx _ (mkF m 165 _ [(.long nd)])
     refine s_lstore (pc' := 167) (Ls' := #[vi p0, vi p1, vi p2, vi p3, vi 3, vi rc, vi 1, vi 0, vi 1, vi x4, vr b443, vr b450, .val (.double mm), sn, .val (.long nd), sn, un, un, un]) X453.here hx (hb hby at_165) rfl  rfl ?_
     refine s_dconst0 (pc' := 168) X453.here hx (hb hby at_167) rfl rfl ?_
     refine s_dstore (pc' := 170) (Ls' := #[vi p0, vi p1, vi p2, vi p3, vi 3, vi rc, vi 1, vi 0, vi 1, vi x4, vr b443, vr b450, .val (.double mm), sn, .val (.long nd), sn, .val (.double FP.dconst0), sn, un]) X453.here hx (hb hby at_168) rfl  rfl ?_
     refine s_iconst (pc' := 171) (v := 0) X453.here hx (hb hby at_170) rfl rfl ?_
     refine s_istore (pc' := 173) (Ls' := #[vi p0, vi p1, vi p2, vi p3, vi 3, vi rc, vi 1, vi 0, vi 1, vi x4, vr b443, vr b450, .val (.double mm), sn, .val (.long nd), sn, .val (.double FP.dconst0), sn, vi 0]) X453.here hx (hb hby at_171) rfl  rfl ?_
     refine s_iload (pc' := 175) X453.here hx (hb hby at_173) rfl rfl ?_
     refine s_iconst (pc' := 176) (v := 1) X453.here hx (hb hby at_175) rfl rfl ?_
     refine s_icmpN (pc' := 179) X453.here hx (hb hby at_176) rfl (flt (by decide)).1 ?_
     refine s_iload (pc' := 181) X453.here hx (hb hby at_179) rfl rfl ?_
     refine s_ifN (pc' := 184) X453.here hx (hb hby at_181) rfl ((if0 _ _).trans (feq (by decide)).1) ?_
     refine s_iload (pc' := 186) X453.here hx (hb hby at_184) rfl rfl ?_
     refine s_iconst (pc' := 187) (v := 1) X453.here hx (hb hby at_186) rfl rfl ?_
     refine s_iadd (pc' := 188) (z := 1) X453.here hx (hb hby at_187) rfl (by decide) ?_
     refine s_istore (pc' := 190) (Ls' := #[vi p0, vi p1, vi p2, vi p3, vi 3, vi rc, vi 1, vi 0, vi 1, vi x4, vr b443, vr b450, .val (.double mm), sn, .val (.long nd), sn, .val (.double FP.dconst0), sn, vi 1]) X453.here hx (hb hby at_188) rfl  rfl ?_
     refine s_dload (pc' := 192) X453.here hx (hb hby at_190) rfl rfl ?_
     refine s_iload (pc' := 194) X453.here hx (hb hby at_192) rfl rfl ?_
     refine s_iconst (pc' := 195) (v := 1) X453.here hx (hb hby at_194) rfl rfl ?_
     refine s_lload (pc' := 197) X453.here hx (hb hby at_195) rfl rfl ?_
     obtain ⟨_, _, ⟨T454, L454, k454, n454⟩, -, X454, ⟨Lc454, hQ454, l454, y454, z454⟩, st454⟩ := Jvm.LawKit.callS X453 hx (y := yN3) hown (mvT hZ (hv hw 30 rfl)) (mvT hZ (hv hw 31 rfl)) (mvT hZ (hv hw 32 rfl)) (mvT hZ (hv hw 33 rfl)) (by decide) (backOf (W := 0) (rmB l Z a0 hw [] FP.dconst0 1 1 nd T452.heap n0 O452 (by decide)) hZ (hv hw 33 rfl) (hv hw 32 rfl) (by decide) (by decide)) (g := (mkF m 197 #[vi p0, vi p1, vi p2, vi p3, vi 3, vi rc, vi 1, vi 0, vi 1, vi x4, vr b443, vr b450, .val (.double mm), sn, .val (.long nd), sn, .val (.double FP.dconst0), sn, vi 1] [(.long nd), (.int 1), (.int 1), (.double FP.dconst0)])) rfl (by rw [hml]; rfl) (argsL := [(.double FP.dconst0), (.int 1), (.int 1), (.long nd)]) (rest := []) (lenOf pd_4 rfl) rfl (by exact Nat.le_of_eq rfl) (hb hby at_197) (fun _ _ => ⟨rfl, hE453, (by decide : 3 + 0 ≤ _), (by decide : 9 + 0 ≤ _)⟩)
     dsimp only [Pt.U, Pt.locs, Pt.cells, Pt.slots] at X454 l454 y454 z454 st454 hQ454
     rw [l454, y454, z454] at X454
     obtain ⟨rfl, Nq454, hE454⟩ := hQ454
     have N454 := Fr.app N453 Nq454
     refine Go.st st454 ?_
     show Go p.tables e below Kx _ (mkF m 200 _ [(.double (bst FP.dconst0 1 1 nd))])
     refine s_dstore (pc' := 202) (Ls' := #[vi p0, vi p1, vi p2, vi p3, vi 3, vi rc, vi 1, vi 0, vi 1, vi x4, vr b443, vr b450, .val (.double mm), sn, .val (.long nd), sn, .val (.double (bst FP.dconst0 1 1 nd)), sn, vi 1]) X454.here hx (hb hby at_200) rfl  rfl ?_
     refine s_iload (pc' := 204) X454.here hx (hb hby at_202) rfl rfl ?_
     refine s_iconst (pc' := 205) (v := 2) X454.here hx (hb hby at_204) rfl rfl ?_
     refine s_icmpN (pc' := 208) X454.here hx (hb hby at_205) rfl (flt (by decide)).1 ?_
     refine s_iload (pc' := 210) X454.here hx (hb hby at_208) rfl rfl ?_
     refine s_ifY (pc' := 231) X454.here hx (hb hby at_210) ((if0 _ _).trans (teq (by decide)).1) (by decide) (by decide) ?_
     refine s_iload (pc' := 233) X454.here hx (hb hby at_231) rfl rfl ?_
     refine s_iconst (pc' := 234) (v := 3) X454.here hx (hb hby at_233) rfl rfl ?_
     refine s_icmpN (pc' := 237) X454.here hx (hb hby at_234) rfl (flt (by decide)).1 ?_
     refine s_iload (pc' := 239) X454.here hx (hb hby at_237) rfl rfl ?_
     refine s_ifN (pc' := 242) X454.here hx (hb hby at_239) rfl ((if0 _ _).trans (feq (by decide)).1) ?_
     refine s_iload (pc' := 244) X454.here hx (hb hby at_242) rfl rfl ?_
     refine s_iconst (pc' := 245) (v := 1) X454.here hx (hb hby at_244) rfl rfl ?_
     refine s_iadd (pc' := 246) (z := 2) X454.here hx (hb hby at_245) rfl (by decide) ?_
     refine s_istore (pc' := 248) (Ls' := #[vi p0, vi p1, vi p2, vi p3, vi 3, vi rc, vi 1, vi 0, vi 1, vi x4, vr b443, vr b450, .val (.double mm), sn, .val (.long nd), sn, .val (.double (bst FP.dconst0 1 1 nd)), sn, vi 2]) X454.here hx (hb hby at_246) rfl  rfl ?_
     refine s_dload (pc' := 250) X454.here hx (hb hby at_248) rfl rfl ?_
     refine s_iload (pc' := 252) X454.here hx (hb hby at_250) rfl rfl ?_
     refine s_iconst (pc' := 253) (v := 3) X454.here hx (hb hby at_252) rfl rfl ?_
     refine s_lload (pc' := 255) X454.here hx (hb hby at_253) rfl rfl ?_
     obtain ⟨_, _, ⟨T455, L455, k455, n455⟩, -, X455, ⟨Lc455, hQ455, l455, y455, z455⟩, st455⟩ := Jvm.LawKit.callS X454 hx (y := yN3) hown (mvT hZ (hv hw 30 rfl)) (mvT hZ (hv hw 31 rfl)) (mvT hZ (hv hw 32 rfl)) (mvT hZ (hv hw 33 rfl)) (by decide) (backOf (W := 0) (rmB l Z a0 hw [] (bst FP.dconst0 1 1 nd) 2 3 nd T452.heap n0 O452 (by decide)) hZ (hv hw 33 rfl) (hv hw 32 rfl) (by decide) (by decide)) (g := (mkF m 255 #[vi p0, vi p1, vi p2, vi p3, vi 3, vi rc, vi 1, vi 0, vi 1, vi x4, vr b443, vr b450, .val (.double mm), sn, .val (.long nd), sn, .val (.double (bst FP.dconst0 1 1 nd)), sn, vi 2] [(.long nd), (.int 3), (.int 2), (.double (bst FP.dconst0 1 1 nd))])) rfl (by rw [hml]; rfl) (argsL := [(.double (bst FP.dconst0 1 1 nd)), (.int 2), (.int 3), (.long nd)]) (rest := []) (lenOf pd_4 rfl) rfl (by exact Nat.le_of_eq rfl) (hb hby at_255) (fun _ _ => ⟨rfl, hE454, (by decide : 3 + 0 ≤ _), (by decide : 9 + 0 ≤ _)⟩)
     dsimp only [Pt.U, Pt.locs, Pt.cells, Pt.slots] at X455 l455 y455 z455 st455 hQ455
     rw [l455, y455, z455] at X455
     obtain ⟨rfl, Nq455, hE455⟩ := hQ455
     have N455 := Fr.app N454 Nq455
     refine Go.st st455 ?_
     show Go p.tables e below Kx _ (mkF m 258 _ [(.double (bst (bst FP.dconst0 1 1 nd) 2 3 nd))])
     refine s_dstore (pc' := 260) (Ls' := #[vi p0, vi p1, vi p2, vi p3, vi 3, vi rc, vi 1, vi 0, vi 1, vi x4, vr b443, vr b450, .val (.double mm), sn, .val (.long nd), sn, .val (.double (bst (bst FP.dconst0 1 1 nd) 2 3 nd)), sn, vi 2]) X455.here hx (hb hby at_258) rfl  rfl ?_
     refine s_iload (pc' := 262) X455.here hx (hb hby at_260) rfl rfl ?_
     refine s_iconst (pc' := 263) (v := 4) X455.here hx (hb hby at_262) rfl rfl ?_
     refine s_icmpY (pc' := 289) X455.here hx (hb hby at_263) (tlt (by decide)).1 (by decide) (by decide) ?_
     refine s_dload (pc' := 291) X455.here hx (hb hby at_289) rfl rfl ?_
     refine s_dload (pc' := 293) X455.here hx (hb hby at_291) rfl rfl ?_
     refine s_dcmpl (pc' := 294) (z := 0) X455.here hx (hb hby at_293) rfl (by rw [← hmm]; exact fin_3101 nd) ?_
     refine s_ifN (pc' := 297) X455.here hx (hb hby at_294) rfl ((if0 _ _).trans (teq (by decide)).2) ?_
     refine s_iconst (pc' := 298) (v := 1) X455.here hx (hb hby at_297) rfl rfl ?_
     refine s_goto (pc' := 302) X455.here hx (hb hby at_298) (by decide) (by decide) ?_
     obtain ⟨fs, hr, hrun, hended, hW, hsame⟩ := X455.leave (v := (some (.int 1))) (fun h => by rw [Bd.returns] at h; cases h)
     refine Go.fin (retN X455 hx (t := .boolean) Bd.returns (by simp) (hb hby at_302) hr) (hF _ _ hrun hended ⟨_, _, rfl, ?_, ⟨_, rfl⟩, hW, hsame.mono (by decide) (by decide)⟩)
     ·
      show QL Z p0 p1 p2 p3 h0 n0 ((some (.int 1)) : Option Value) T455.heap _
      rw [hE455]
      exact ⟨rfl, N455⟩
   ·
    rcases hx3 with rfl | rfl
    ·
     show Go p.tables e below Kx _ (mkF m 75 _ [])
     refine s_iload (pc' := 77) X0.here hx (hb hby at_75) rfl rfl ?_
     obtain ⟨T456, h456, k456, X456, e456, E456, A456, st456⟩ := newP X0 hx hZ (hv hw 1 rfl) e0 (g := (mkF m 77 #[vi p0, vi p1, vi p2, vi p3, vi 3, vi rc, vi 1, vi 1, vi 0, vi x4, un, un, un, un, un, un, un, un, un] [(.int 3)])) rfl (hb hby at_77) rfl (by decide) (cap := 3) (by decide) (by decide) (by decide) (by decide)
     obtain ⟨b456, g456⟩ : ∃ z, z = h0.size := ⟨_, rfl⟩
     rw [← g456] at A456 st456
     have sz456 : h0.size ≤ b456 := Nat.le_trans K0.1 (Nat.le_of_eq g456.symm)
     have ge456 : n0 ≤ b456 := Nat.le_trans (X00.1 ▸ X00.2.1) (Nat.le_of_eq g456.symm)
     have K456 : Keep h0 h456 [] := K0.ext E456
     have O456 : Old Z n0 h456 := X00.ext E456
     have V456 : Arv Z h456 b456 k456 .boolean 3 [(.int 0), (.int 0), (.int 0)] (.int 0) := (Arv.new A456 (by decide)).pad (pad_rep [] (.int 0) 3)
     refine Go.st st456 ?_
     show Go p.tables e below Kx _ (mkF m 79 _ [(.ref b456)])
     refine s_astore (pc' := 81) (Ls' := #[vi p0, vi p1, vi p2, vi p3, vi 3, vi rc, vi 1, vi 1, vi 0, vi x4, vr b456, un, un, un, un, un, un, un, un]) X456.here hx (hb hby at_79) rfl rfl rfl ?_
     refine s_iload (pc' := 83) X456.here hx (hb hby at_81) rfl rfl ?_
     refine s_iconst (pc' := 84) (v := 1) X456.here hx (hb hby at_83) rfl rfl ?_
     refine s_icmpN (pc' := 87) X456.here hx (hb hby at_84) rfl (flt (by decide)).1 ?_
     refine s_aload (pc' := 89) X456.here hx (hb hby at_87) rfl rfl rfl ?_
     refine s_iconst (pc' := 90) (v := 0) X456.here hx (hb hby at_89) rfl rfl ?_
     refine s_iload (pc' := 92) X456.here hx (hb hby at_90) rfl rfl ?_
     obtain ⟨cl457, Ar457, Aq457, As457, An457, Ah457, Ag457⟩ := id V456
     have in458 := inb_of (j := 0) As457 (by decide)
     obtain ⟨T458, h458, X458, e458, W458, st458⟩ := stZ X456 hx hZ e456 Ar457 (j := 0) in458 (g := (mkF m 92 #[vi p0, vi p1, vi p2, vi p3, vi 3, vi rc, vi 1, vi 1, vi 0, vi x4, vr b456, un, un, un, un, un, un, un, un] [(.int 1), (.int 0), (.ref b456)])) rfl rfl (hb hby at_92)
     have V458 : Arv Z h458 b456 k456 .boolean 3 [(.int 1), (.int 0), (.int 0)] (.int 0) := by
      have q := Arv.set Ar457 Aq457 As457 An457 Ah457 Ag457 (fits_nar_bool _) W458 0 rfl (Nat.le_of_ble_eq_true rfl)
      rw [show nar .boolean 1 = 1 from by decide] at q; exact q
     have K458 : Keep h0 h458 [] := K456.wr W458 (Or.inr sz456)
     have O458 : Old Z n0 h458 := O456.wr W458 ge456
     have N458 := Fr.snoc X458 N0 ge456
     refine Go.st st458 ?_
     show Go p.tables e below Kx _ (mkF m 93 _ [])
     refine s_iload (pc' := 95) X458.here hx (hb hby at_93) rfl rfl ?_
     refine s_iconst (pc' := 96) (v := 2) X458.here hx (hb hby at_95) rfl rfl ?_
     refine s_icmpN (pc' := 99) X458.here hx (hb hby at_96) rfl (flt (by decide)).1 ?_
     refine s_aload (pc' := 101) X458.here hx (hb hby at_99) rfl rfl rfl ?_
     refine s_iconst (pc' := 102) (v := 1) X458.here hx (hb hby at_101) rfl rfl ?_
     refine s_iload (pc' := 104) X458.here hx (hb hby at_102) rfl rfl ?_
     obtain ⟨cl459, Ar459, Aq459, As459, An459, Ah459, Ag459⟩ := id V458
     have in460 := inb_of (j := 1) As459 (by decide)
     obtain ⟨T460, h460, X460, e460, W460, st460⟩ := stZ X458 hx hZ e458 Ar459 (j := 1) in460 (g := (mkF m 104 #[vi p0, vi p1, vi p2, vi p3, vi 3, vi rc, vi 1, vi 1, vi 0, vi x4, vr b456, un, un, un, un, un, un, un, un] [(.int 1), (.int 1), (.ref b456)])) rfl rfl (hb hby at_104)
     have V460 : Arv Z h460 b456 k456 .boolean 3 [(.int 1), (.int 1), (.int 0)] (.int 0) := by
      have q := Arv.set Ar459 Aq459 As459 An459 Ah459 Ag459 (fits_nar_bool _) W460 1 rfl (Nat.le_of_ble_eq_true rfl)
      rw [show nar .boolean 1 = 1 from by decide] at q; exact q
     have K460 : Keep h0 h460 [] := K458.wr W460 (Or.inr sz456)
     have O460 : Old Z n0 h460 := O458.wr W460 ge456
     have N460 := Fr.snoc X460 N458 ge456
     refine Go.st st460 ?_
     show Go p.tables e below Kx _ (mkF m 105 _ [])
     refine s_iload (pc' := 107) X460.here hx (hb hby at_105) rfl rfl ?_
     refine s_iconst (pc' := 108) (v := 3) X460.here hx (hb hby at_107) rfl rfl ?_
     refine s_icmpN (pc' := 111) X460.here hx (hb hby at_108) rfl (flt (by decide)).1 ?_
     refine s_aload (pc' := 113) X460.here hx (hb hby at_111) rfl rfl rfl ?_
     refine s_iconst (pc' := 114) (v := 2) X460.here hx (hb hby at_113) rfl rfl ?_
     refine s_iload (pc' := 116) X460.here hx (hb hby at_114) rfl rfl ?_
     obtain ⟨cl461, Ar461, Aq461, As461, An461, Ah461, Ag461⟩ := id V460
     have in462 := inb_of (j := 2) As461 (by decide)
     obtain ⟨T462, h462, X462, e462, W462, st462⟩ := stZ X460 hx hZ e460 Ar461 (j := 2) in462 (g := (mkF m 116 #[vi p0, vi p1, vi p2, vi p3, vi 3, vi rc, vi 1, vi 1, vi 0, vi x4, vr b456, un, un, un, un, un, un, un, un] [(.int 0), (.int 2), (.ref b456)])) rfl rfl (hb hby at_116)
     have V462 : Arv Z h462 b456 k456 .boolean 3 [(.int 1), (.int 1), (.int 0)] (.int 0) := by
      have q := Arv.set Ar461 Aq461 As461 An461 Ah461 Ag461 (fits_nar_bool _) W462 2 rfl (Nat.le_of_ble_eq_true rfl)
      rw [show nar .boolean 0 = 0 from by decide] at q; exact q
     have K462 : Keep h0 h462 [] := K460.wr W462 (Or.inr sz456)
     have O462 : Old Z n0 h462 := O460.wr W462 ge456
     have N462 := Fr.snoc X462 N460 ge456
     refine Go.st st462 ?_
     show Go p.tables e below Kx _ (mkF m 117 _ [])
     refine s_iload (pc' := 119) X462.here hx (hb hby at_117) rfl rfl ?_
     refine s_iconst (pc' := 120) (v := 4) X462.here hx (hb hby at_119) rfl rfl ?_
     refine s_icmpY (pc' := 129) X462.here hx (hb hby at_120) (tlt (by decide)).1 (by decide) (by decide) ?_
     obtain ⟨T463, h463, X463, e463, E463, A463, D463, -, st463⟩ := newO X462 hx hZ hown (hv hw 2 rfl) (hv hw 3 rfl) (hv hw 4 rfl) e462 (g := (mkF m 129 #[vi p0, vi p1, vi p2, vi p3, vi 3, vi rc, vi 1, vi 1, vi 0, vi x4, vr b456, un, un, un, un, un, un, un, un] [])) rfl (hb hby at_129) (by decide) (by decide)
     obtain ⟨b463, g463⟩ : ∃ z, z = h462.size := ⟨_, rfl⟩
     rw [← g463] at A463 D463 st463
     have sz463 : h0.size ≤ b463 := Nat.le_trans K462.1 (Nat.le_of_eq g463.symm)
     have ge463 : n0 ≤ b463 := Nat.le_trans (O462.1 ▸ O462.2.1) (Nat.le_of_eq g463.symm)
     have K463 : Keep h0 h463 [] := K462.ext E463
     have O463 : Old Z n0 h463 := O462.ext E463
     have F463_relevantWithin : Fld Z h463 b463 "com/example/kingfisher/kingfisher/eval/TopicRanking" "relevantWithin" "[I" .null := D463 (Or.inr (hv hw 13 rfl)) (ty := (.array .int)) (by decide)
     have F463_relevantCount : Fld Z h463 b463 "com/example/kingfisher/kingfisher/eval/TopicRanking" "relevantCount" "I" (.int 0) := D463 (Or.inr (hv hw 15 rfl)) (ty := .int) (by decide)
     refine Go.st st463 ?_
     show Go p.tables e below Kx _ (mkF m 132 _ [(.ref b463)])
     refine s_dup (pc' := 133) X463.here hx (hb hby at_132) rfl rfl ?_
     refine s_aload (pc' := 135) X463.here hx (hb hby at_133) rfl rfl rfl ?_
     refine s_iload (pc' := 137) X463.here hx (hb hby at_135) rfl rfl ?_
     have f464 : Arv Z h463 b456 k456 .boolean 3 [(.int 1), (.int 1), (.int 0)] (.int 0) := (V462.ext E463)
     obtain ⟨_, _, ⟨T465, L465, k465, n465⟩, -, X465, ⟨Lc465, hQ465, l465, y465, z465⟩, st465⟩ := X463.specialBack hx (y := yN0) rfl hown (mvT hZ (hv hw 5 rfl)) (mvT hZ (hv hw 6 rfl)) (mvT hZ (hv hw 7 rfl)) (by decide) (backOf (W := 1) (rmN3 l Z a0 hw [] b463 b456 k456 1 1 0 1 2 2 rc h463 n0 O463 ge463 (Nat.ne_of_lt (Nat.lt_of_lt_of_le (Nat.lt_of_lt_of_le A456.lt (Nat.le_trans (Nat.le_trans (Nat.le_of_eq W458.size.symm) (Nat.le_of_eq W460.size.symm)) (Nat.le_of_eq W462.size.symm))) (Nat.le_of_eq g463.symm))) A463 F463_relevantWithin F463_relevantCount f464 (by decide) (by decide) (by decide)) hZ (hv hw 7 rfl) (hv hw 4 rfl) (by decide) (by decide)) (g := (mkF m 137 #[vi p0, vi p1, vi p2, vi p3, vi 3, vi rc, vi 1, vi 1, vi 0, vi x4, vr b456, un, un, un, un, un, un, un, un] [(.int rc), (.ref b456), (.ref b463), (.ref b463)])) rfl (by rw [hml]; rfl) (Steps.refl _) (a := b463) (argsL := [(.ref b456), (.int rc)]) (rest := [(.ref b463)]) (lenOf pd_2 rfl) rfl (by exact Nat.le_of_eq rfl) (hb hby at_137) (fun _ _ => ⟨rfl, e463, (by decide : 2 + 1 ≤ _), (by decide : 5 + 4 ≤ _)⟩)
     dsimp only [Pt.U, Pt.locs, Pt.cells, Pt.slots] at X465 l465 y465 z465 st465 hQ465
     rw [l465, y465, z465] at X465
     obtain ⟨rfl, Nq465, Kq465, q1_465, q2_465, t465, kt465, q3_465, q4_465⟩ := hQ465
     have N465 := Fr.app N462 Nq465
     have K465 : Keep h0 T465.heap [] := K463.trans Kq465 (allS (P := fun zz => zz ∈ [] ∨ h0.size ≤ zz) (Or.inr sz463) all0)
     have O465 : Old Z n0 T465.heap := O463.keep Kq465 (allS ge463 all0)
     refine Go.tr st465 ?_
     show Go p.tables e below Kx _ (mkF m 140 _ [(.ref b463)])
     refine s_astore (pc' := 142) (Ls' := #[vi p0, vi p1, vi p2, vi p3, vi 3, vi rc, vi 1, vi 1, vi 0, vi x4, vr b456, vr b463, un, un, un, un, un, un, un]) X465.here hx (hb hby at_140) rfl rfl rfl ?_
     refine s_aload (pc' := 144) X465.here hx (hb hby at_142) rfl rfl rfl ?_
     refine s_iloadN (pc' := 145) X465.here hx (hb hby at_144) rfl rfl ?_
     obtain ⟨cq466, kq466, q466a, q466b, q466c⟩ := isOf hZ rfl q1_465
     obtain ⟨_, _, ⟨T466, L466, k466, n466⟩, -, X466, ⟨Lc466, hQ466, l466, y466, z466⟩, st466⟩ := X465.virtualBack hx (y := yN1) (z := yN1) hown (mvT hZ (hv hw 16 rfl)) (mvT hZ (hv hw 17 rfl)) (notFace_of_selects (args := #[]) (mvT hZ (hv hw 19 rfl))) (mvT hZ (hv hw 19 rfl)) (mvT hZ (hv hw 18 rfl)) (by decide) (backOf (W := 0) (rmA3 l Z a0 hw [] b463 t465 kt465 1 2 2 rc p2 T465.heap n0 O465 hrc q1_465 q3_465 q2_465 q4_465) hZ (hv hw 20 rfl) (hv hw 4 rfl) (by decide) (by decide)) q466a q466c (g := (mkF m 145 #[vi p0, vi p1, vi p2, vi p3, vi 3, vi rc, vi 1, vi 1, vi 0, vi x4, vr b456, vr b463, un, un, un, un, un, un, un] [(.int p2), (.ref b463)])) rfl (by rw [hml]; rfl) (Steps.refl _) (argsL := [(.int p2)]) (rest := []) (lenOf pd_3 rfl) rfl (by exact Nat.le_of_eq rfl) (hb hby at_145) (fun _ _ => ⟨rfl, rfl, (by decide : 3 + 0 ≤ _), (by decide : 9 + 0 ≤ _)⟩)
     dsimp only [Pt.U, Pt.locs, Pt.cells, Pt.slots] at X466 l466 y466 z466 st466 hQ466
     rw [l466, y466, z466] at X466
     obtain ⟨rfl, Nq466, hE466⟩ := hQ466
     have N466 := Fr.app N465 Nq466
     refine Go.tr st466 ?_
     show Go p.tables e below Kx _ (mkF m 148 _ [(.double (mst (mst (mst FP.dconst0 1 1 (needd p2 rc)) 2 2 (needd p2 rc)) 2 3 (needd p2 rc)))])
     refine s_dstore (pc' := 150) (Ls' := #[vi p0, vi p1, vi p2, vi p3, vi 3, vi rc, vi 1, vi 1, vi 0, vi x4, vr b456, vr b463, .val (.double (mst (mst (mst FP.dconst0 1 1 (needd p2 rc)) 2 2 (needd p2 rc)) 2 3 (needd p2 rc))), sn, un, un, un, un, un]) X466.here hx (hb hby at_148) rfl  rfl ?_
     refine s_iloadN (pc' := 151) X466.here hx (hb hby at_150) rfl rfl ?_
     refine s_i2d (pc' := 152) X466.here hx (hb hby at_151) rfl rfl ?_
     refine Go.st (X466.ldc2DoubleC hx hown (mvT hZ (hv hw 28 rfl)) (g := (mkF m 152 #[vi p0, vi p1, vi p2, vi p3, vi 3, vi rc, vi 1, vi 1, vi 0, vi x4, vr b456, vr b463, .val (.double (mst (mst (mst FP.dconst0 1 1 (needd p2 rc)) 2 2 (needd p2 rc)) 2 3 (needd p2 rc))), sn, un, un, un, un, un] [(.double (FP.i2d p2))])) rfl (hb hby at_152)) ?_
     show Go p.tables e below Kx _ (mkF m 155 _ [(.double (4621819117588971520 : UInt64)), (.double (FP.i2d p2))])
     refine s_ddiv (pc' := 156) X466.here hx (hb hby at_155) rfl (nn1 p2) rfl ?_
     refine s_iload (pc' := 158) X466.here hx (hb hby at_156) rfl rfl ?_
     refine s_i2d (pc' := 159) X466.here hx (hb hby at_158) rfl rfl ?_
     refine s_dmul (pc' := 160) X466.here hx (hb hby at_159) rfl (nn2 p2 hrc) rfl ?_
     refine Go.st (X466.ldc2DoubleC hx hown (mvT hZ (hv hw 29 rfl)) (g := (mkF m 160 #[vi p0, vi p1, vi p2, vi p3, vi 3, vi rc, vi 1, vi 1, vi 0, vi x4, vr b456, vr b463, .val (.double (mst (mst (mst FP.dconst0 1 1 (needd p2 rc)) 2 2 (needd p2 rc)) 2 3 (needd p2 rc))), sn, un, un, un, un, un] [(.double (FP.dmul (FP.ddiv (FP.i2d p2) (4621819117588971520 : UInt64)) (FP.i2d rc)))])) rfl (hb hby at_160)) ?_
     show Go p.tables e below Kx _ (mkF m 163 _ [(.double (4606281698874543309 : UInt64)), (.double (FP.dmul (FP.ddiv (FP.i2d p2) (4621819117588971520 : UInt64)) (FP.i2d rc)))])
     refine s_dadd (pc' := 164) X466.here hx (hb hby at_163) rfl (nn3 p2 hrc) rfl ?_
     refine s_d2l (pc' := 165) (z := needd p2 rc) X466.here hx (hb hby at_164) rfl rfl ?_
     show Go p.tables e below Kx _ (mkF m 165 _ [(.long (needd p2 rc))])
     generalize (needd p2 rc) = nd
     generalize hmm : (mst (mst (mst FP.dconst0 1 1 nd) 2 2 nd) 2 3 nd) = mm
     show Go p.tables e below Kx _ (mkF m 165 _ [(.long nd)])
     refine s_lstore (pc' := 167) (Ls' := #[vi p0, vi p1, vi p2, vi p3, vi 3, vi rc, vi 1, vi 1, vi 0, vi x4, vr b456, vr b463, .val (.double mm), sn, .val (.long nd), sn, un, un, un]) X466.here hx (hb hby at_165) rfl  rfl ?_
     refine s_dconst0 (pc' := 168) X466.here hx (hb hby at_167) rfl rfl ?_
     refine s_dstore (pc' := 170) (Ls' := #[vi p0, vi p1, vi p2, vi p3, vi 3, vi rc, vi 1, vi 1, vi 0, vi x4, vr b456, vr b463, .val (.double mm), sn, .val (.long nd), sn, .val (.double FP.dconst0), sn, un]) X466.here hx (hb hby at_168) rfl  rfl ?_
     refine s_iconst (pc' := 171) (v := 0) X466.here hx (hb hby at_170) rfl rfl ?_
     refine s_istore (pc' := 173) (Ls' := #[vi p0, vi p1, vi p2, vi p3, vi 3, vi rc, vi 1, vi 1, vi 0, vi x4, vr b456, vr b463, .val (.double mm), sn, .val (.long nd), sn, .val (.double FP.dconst0), sn, vi 0]) X466.here hx (hb hby at_171) rfl  rfl ?_
     refine s_iload (pc' := 175) X466.here hx (hb hby at_173) rfl rfl ?_
     refine s_iconst (pc' := 176) (v := 1) X466.here hx (hb hby at_175) rfl rfl ?_
     refine s_icmpN (pc' := 179) X466.here hx (hb hby at_176) rfl (flt (by decide)).1 ?_
     refine s_iload (pc' := 181) X466.here hx (hb hby at_179) rfl rfl ?_
     refine s_ifN (pc' := 184) X466.here hx (hb hby at_181) rfl ((if0 _ _).trans (feq (by decide)).1) ?_
     refine s_iload (pc' := 186) X466.here hx (hb hby at_184) rfl rfl ?_
     refine s_iconst (pc' := 187) (v := 1) X466.here hx (hb hby at_186) rfl rfl ?_
     refine s_iadd (pc' := 188) (z := 1) X466.here hx (hb hby at_187) rfl (by decide) ?_
     refine s_istore (pc' := 190) (Ls' := #[vi p0, vi p1, vi p2, vi p3, vi 3, vi rc, vi 1, vi 1, vi 0, vi x4, vr b456, vr b463, .val (.double mm), sn, .val (.long nd), sn, .val (.double FP.dconst0), sn, vi 1]) X466.here hx (hb hby at_188) rfl  rfl ?_
     refine s_dload (pc' := 192) X466.here hx (hb hby at_190) rfl rfl ?_
     refine s_iload (pc' := 194) X466.here hx (hb hby at_192) rfl rfl ?_
     refine s_iconst (pc' := 195) (v := 1) X466.here hx (hb hby at_194) rfl rfl ?_
     refine s_lload (pc' := 197) X466.here hx (hb hby at_195) rfl rfl ?_
     obtain ⟨_, _, ⟨T467, L467, k467, n467⟩, -, X467, ⟨Lc467, hQ467, l467, y467, z467⟩, st467⟩ := Jvm.LawKit.callS X466 hx (y := yN3) hown (mvT hZ (hv hw 30 rfl)) (mvT hZ (hv hw 31 rfl)) (mvT hZ (hv hw 32 rfl)) (mvT hZ (hv hw 33 rfl)) (by decide) (backOf (W := 0) (rmB l Z a0 hw [] FP.dconst0 1 1 nd T465.heap n0 O465 (by decide)) hZ (hv hw 33 rfl) (hv hw 32 rfl) (by decide) (by decide)) (g := (mkF m 197 #[vi p0, vi p1, vi p2, vi p3, vi 3, vi rc, vi 1, vi 1, vi 0, vi x4, vr b456, vr b463, .val (.double mm), sn, .val (.long nd), sn, .val (.double FP.dconst0), sn, vi 1] [(.long nd), (.int 1), (.int 1), (.double FP.dconst0)])) rfl (by rw [hml]; rfl) (argsL := [(.double FP.dconst0), (.int 1), (.int 1), (.long nd)]) (rest := []) (lenOf pd_4 rfl) rfl (by exact Nat.le_of_eq rfl) (hb hby at_197) (fun _ _ => ⟨rfl, hE466, (by decide : 3 + 0 ≤ _), (by decide : 9 + 0 ≤ _)⟩)
     dsimp only [Pt.U, Pt.locs, Pt.cells, Pt.slots] at X467 l467 y467 z467 st467 hQ467
     rw [l467, y467, z467] at X467
     obtain ⟨rfl, Nq467, hE467⟩ := hQ467
     have N467 := Fr.app N466 Nq467
     refine Go.st st467 ?_
     show Go p.tables e below Kx _ (mkF m 200 _ [(.double (bst FP.dconst0 1 1 nd))])
     refine s_dstore (pc' := 202) (Ls' := #[vi p0, vi p1, vi p2, vi p3, vi 3, vi rc, vi 1, vi 1, vi 0, vi x4, vr b456, vr b463, .val (.double mm), sn, .val (.long nd), sn, .val (.double (bst FP.dconst0 1 1 nd)), sn, vi 1]) X467.here hx (hb hby at_200) rfl  rfl ?_
     refine s_iload (pc' := 204) X467.here hx (hb hby at_202) rfl rfl ?_
     refine s_iconst (pc' := 205) (v := 2) X467.here hx (hb hby at_204) rfl rfl ?_
     refine s_icmpN (pc' := 208) X467.here hx (hb hby at_205) rfl (flt (by decide)).1 ?_
     refine s_iload (pc' := 210) X467.here hx (hb hby at_208) rfl rfl ?_
     refine s_ifN (pc' := 213) X467.here hx (hb hby at_210) rfl ((if0 _ _).trans (feq (by decide)).1) ?_
     refine s_iload (pc' := 215) X467.here hx (hb hby at_213) rfl rfl ?_
     refine s_iconst (pc' := 216) (v := 1) X467.here hx (hb hby at_215) rfl rfl ?_
     refine s_iadd (pc' := 217) (z := 2) X467.here hx (hb hby at_216) rfl (by decide) ?_
     refine s_istore (pc' := 219) (Ls' := #[vi p0, vi p1, vi p2, vi p3, vi 3, vi rc, vi 1, vi 1, vi 0, vi x4, vr b456, vr b463, .val (.double mm), sn, .val (.long nd), sn, .val (.double (bst FP.dconst0 1 1 nd)), sn, vi 2]) X467.here hx (hb hby at_217) rfl  rfl ?_
     refine s_dload (pc' := 221) X467.here hx (hb hby at_219) rfl rfl ?_
     refine s_iload (pc' := 223) X467.here hx (hb hby at_221) rfl rfl ?_
     refine s_iconst (pc' := 224) (v := 2) X467.here hx (hb hby at_223) rfl rfl ?_
     refine s_lload (pc' := 226) X467.here hx (hb hby at_224) rfl rfl ?_
     obtain ⟨_, _, ⟨T468, L468, k468, n468⟩, -, X468, ⟨Lc468, hQ468, l468, y468, z468⟩, st468⟩ := Jvm.LawKit.callS X467 hx (y := yN3) hown (mvT hZ (hv hw 30 rfl)) (mvT hZ (hv hw 31 rfl)) (mvT hZ (hv hw 32 rfl)) (mvT hZ (hv hw 33 rfl)) (by decide) (backOf (W := 0) (rmB l Z a0 hw [] (bst FP.dconst0 1 1 nd) 2 2 nd T465.heap n0 O465 (by decide)) hZ (hv hw 33 rfl) (hv hw 32 rfl) (by decide) (by decide)) (g := (mkF m 226 #[vi p0, vi p1, vi p2, vi p3, vi 3, vi rc, vi 1, vi 1, vi 0, vi x4, vr b456, vr b463, .val (.double mm), sn, .val (.long nd), sn, .val (.double (bst FP.dconst0 1 1 nd)), sn, vi 2] [(.long nd), (.int 2), (.int 2), (.double (bst FP.dconst0 1 1 nd))])) rfl (by rw [hml]; rfl) (argsL := [(.double (bst FP.dconst0 1 1 nd)), (.int 2), (.int 2), (.long nd)]) (rest := []) (lenOf pd_4 rfl) rfl (by exact Nat.le_of_eq rfl) (hb hby at_226) (fun _ _ => ⟨rfl, hE467, (by decide : 3 + 0 ≤ _), (by decide : 9 + 0 ≤ _)⟩)
     dsimp only [Pt.U, Pt.locs, Pt.cells, Pt.slots] at X468 l468 y468 z468 st468 hQ468
     rw [l468, y468, z468] at X468
     obtain ⟨rfl, Nq468, hE468⟩ := hQ468
     have N468 := Fr.app N467 Nq468
     refine Go.st st468 ?_
     show Go p.tables e below Kx _ (mkF m 229 _ [(.double (bst (bst FP.dconst0 1 1 nd) 2 2 nd))])
     refine s_dstore (pc' := 231) (Ls' := #[vi p0, vi p1, vi p2, vi p3, vi 3, vi rc, vi 1, vi 1, vi 0, vi x4, vr b456, vr b463, .val (.double mm), sn, .val (.long nd), sn, .val (.double (bst (bst FP.dconst0 1 1 nd) 2 2 nd)), sn, vi 2]) X468.here hx (hb hby at_229) rfl  rfl ?_
     refine s_iload (pc' := 233) X468.here hx (hb hby at_231) rfl rfl ?_
     refine s_iconst (pc' := 234) (v := 3) X468.here hx (hb hby at_233) rfl rfl ?_
     refine s_icmpN (pc' := 237) X468.here hx (hb hby at_234) rfl (flt (by decide)).1 ?_
     refine s_iload (pc' := 239) X468.here hx (hb hby at_237) rfl rfl ?_
     refine s_ifY (pc' := 260) X468.here hx (hb hby at_239) ((if0 _ _).trans (teq (by decide)).1) (by decide) (by decide) ?_
     refine s_iload (pc' := 262) X468.here hx (hb hby at_260) rfl rfl ?_
     refine s_iconst (pc' := 263) (v := 4) X468.here hx (hb hby at_262) rfl rfl ?_
     refine s_icmpY (pc' := 289) X468.here hx (hb hby at_263) (tlt (by decide)).1 (by decide) (by decide) ?_
     refine s_dload (pc' := 291) X468.here hx (hb hby at_289) rfl rfl ?_
     refine s_dload (pc' := 293) X468.here hx (hb hby at_291) rfl rfl ?_
     refine s_dcmpl (pc' := 294) (z := 0) X468.here hx (hb hby at_293) rfl (by rw [← hmm]; exact fin_3110 nd) ?_
     refine s_ifN (pc' := 297) X468.here hx (hb hby at_294) rfl ((if0 _ _).trans (teq (by decide)).2) ?_
     refine s_iconst (pc' := 298) (v := 1) X468.here hx (hb hby at_297) rfl rfl ?_
     refine s_goto (pc' := 302) X468.here hx (hb hby at_298) (by decide) (by decide) ?_
     obtain ⟨fs, hr, hrun, hended, hW, hsame⟩ := X468.leave (v := (some (.int 1))) (fun h => by rw [Bd.returns] at h; cases h)
     refine Go.fin (retN X468 hx (t := .boolean) Bd.returns (by simp) (hb hby at_302) hr) (hF _ _ hrun hended ⟨_, _, rfl, ?_, ⟨_, rfl⟩, hW, hsame.mono (by decide) (by decide)⟩)
     ·
      show QL Z p0 p1 p2 p3 h0 n0 ((some (.int 1)) : Option Value) T468.heap _
      rw [hE468]
      exact ⟨rfl, N468⟩
    ·
     show Go p.tables e below Kx _ (mkF m 75 _ [])
     refine s_iload (pc' := 77) X0.here hx (hb hby at_75) rfl rfl ?_
     obtain ⟨T469, h469, k469, X469, e469, E469, A469, st469⟩ := newP X0 hx hZ (hv hw 1 rfl) e0 (g := (mkF m 77 #[vi p0, vi p1, vi p2, vi p3, vi 3, vi rc, vi 1, vi 1, vi 1, vi x4, un, un, un, un, un, un, un, un, un] [(.int 3)])) rfl (hb hby at_77) rfl (by decide) (cap := 3) (by decide) (by decide) (by decide) (by decide)
     obtain ⟨b469, g469⟩ : ∃ z, z = h0.size := ⟨_, rfl⟩
     rw [← g469] at A469 st469
     have sz469 : h0.size ≤ b469 := Nat.le_trans K0.1 (Nat.le_of_eq g469.symm)
     have ge469 : n0 ≤ b469 := Nat.le_trans (X00.1 ▸ X00.2.1) (Nat.le_of_eq g469.symm)
     have K469 : Keep h0 h469 [] := K0.ext E469
     have O469 : Old Z n0 h469 := X00.ext E469
     have V469 : Arv Z h469 b469 k469 .boolean 3 [(.int 0), (.int 0), (.int 0)] (.int 0) := (Arv.new A469 (by decide)).pad (pad_rep [] (.int 0) 3)
     refine Go.st st469 ?_
     show Go p.tables e below Kx _ (mkF m 79 _ [(.ref b469)])
     refine s_astore (pc' := 81) (Ls' := #[vi p0, vi p1, vi p2, vi p3, vi 3, vi rc, vi 1, vi 1, vi 1, vi x4, vr b469, un, un, un, un, un, un, un, un]) X469.here hx (hb hby at_79) rfl rfl rfl ?_
     refine s_iload (pc' := 83) X469.here hx (hb hby at_81) rfl rfl ?_
     refine s_iconst (pc' := 84) (v := 1) X469.here hx (hb hby at_83) rfl rfl ?_
     refine s_icmpN (pc' := 87) X469.here hx (hb hby at_84) rfl (flt (by decide)).1 ?_
     refine s_aload (pc' := 89) X469.here hx (hb hby at_87) rfl rfl rfl ?_
     refine s_iconst (pc' := 90) (v := 0) X469.here hx (hb hby at_89) rfl rfl ?_
     refine s_iload (pc' := 92) X469.here hx (hb hby at_90) rfl rfl ?_
     obtain ⟨cl470, Ar470, Aq470, As470, An470, Ah470, Ag470⟩ := id V469
     have in471 := inb_of (j := 0) As470 (by decide)
     obtain ⟨T471, h471, X471, e471, W471, st471⟩ := stZ X469 hx hZ e469 Ar470 (j := 0) in471 (g := (mkF m 92 #[vi p0, vi p1, vi p2, vi p3, vi 3, vi rc, vi 1, vi 1, vi 1, vi x4, vr b469, un, un, un, un, un, un, un, un] [(.int 1), (.int 0), (.ref b469)])) rfl rfl (hb hby at_92)
     have V471 : Arv Z h471 b469 k469 .boolean 3 [(.int 1), (.int 0), (.int 0)] (.int 0) := by
      have q := Arv.set Ar470 Aq470 As470 An470 Ah470 Ag470 (fits_nar_bool _) W471 0 rfl (Nat.le_of_ble_eq_true rfl)
      rw [show nar .boolean 1 = 1 from by decide] at q; exact q
     have K471 : Keep h0 h471 [] := K469.wr W471 (Or.inr sz469)
     have O471 : Old Z n0 h471 := O469.wr W471 ge469
     have N471 := Fr.snoc X471 N0 ge469
     refine Go.st st471 ?_
     show Go p.tables e below Kx _ (mkF m 93 _ [])
     refine s_iload (pc' := 95) X471.here hx (hb hby at_93) rfl rfl ?_
     refine s_iconst (pc' := 96) (v := 2) X471.here hx (hb hby at_95) rfl rfl ?_
     refine s_icmpN (pc' := 99) X471.here hx (hb hby at_96) rfl (flt (by decide)).1 ?_
     refine s_aload (pc' := 101) X471.here hx (hb hby at_99) rfl rfl rfl ?_
     refine s_iconst (pc' := 102) (v := 1) X471.here hx (hb hby at_101) rfl rfl ?_
     refine s_iload (pc' := 104) X471.here hx (hb hby at_102) rfl rfl ?_
     obtain ⟨cl472, Ar472, Aq472, As472, An472, Ah472, Ag472⟩ := id V471
     have in473 := inb_of (j := 1) As472 (by decide)
     obtain ⟨T473, h473, X473, e473, W473, st473⟩ := stZ X471 hx hZ e471 Ar472 (j := 1) in473 (g := (mkF m 104 #[vi p0, vi p1, vi p2, vi p3, vi 3, vi rc, vi 1, vi 1, vi 1, vi x4, vr b469, un, un, un, un, un, un, un, un] [(.int 1), (.int 1), (.ref b469)])) rfl rfl (hb hby at_104)
     have V473 : Arv Z h473 b469 k469 .boolean 3 [(.int 1), (.int 1), (.int 0)] (.int 0) := by
      have q := Arv.set Ar472 Aq472 As472 An472 Ah472 Ag472 (fits_nar_bool _) W473 1 rfl (Nat.le_of_ble_eq_true rfl)
      rw [show nar .boolean 1 = 1 from by decide] at q; exact q
     have K473 : Keep h0 h473 [] := K471.wr W473 (Or.inr sz469)
     have O473 : Old Z n0 h473 := O471.wr W473 ge469
     have N473 := Fr.snoc X473 N471 ge469
     refine Go.st st473 ?_
     show Go p.tables e below Kx _ (mkF m 105 _ [])
     refine s_iload (pc' := 107) X473.here hx (hb hby at_105) rfl rfl ?_
     refine s_iconst (pc' := 108) (v := 3) X473.here hx (hb hby at_107) rfl rfl ?_
     refine s_icmpN (pc' := 111) X473.here hx (hb hby at_108) rfl (flt (by decide)).1 ?_
     refine s_aload (pc' := 113) X473.here hx (hb hby at_111) rfl rfl rfl ?_
     refine s_iconst (pc' := 114) (v := 2) X473.here hx (hb hby at_113) rfl rfl ?_
     refine s_iload (pc' := 116) X473.here hx (hb hby at_114) rfl rfl ?_
     obtain ⟨cl474, Ar474, Aq474, As474, An474, Ah474, Ag474⟩ := id V473
     have in475 := inb_of (j := 2) As474 (by decide)
     obtain ⟨T475, h475, X475, e475, W475, st475⟩ := stZ X473 hx hZ e473 Ar474 (j := 2) in475 (g := (mkF m 116 #[vi p0, vi p1, vi p2, vi p3, vi 3, vi rc, vi 1, vi 1, vi 1, vi x4, vr b469, un, un, un, un, un, un, un, un] [(.int 1), (.int 2), (.ref b469)])) rfl rfl (hb hby at_116)
     have V475 : Arv Z h475 b469 k469 .boolean 3 [(.int 1), (.int 1), (.int 1)] (.int 0) := by
      have q := Arv.set Ar474 Aq474 As474 An474 Ah474 Ag474 (fits_nar_bool _) W475 2 rfl (Nat.le_of_ble_eq_true rfl)
      rw [show nar .boolean 1 = 1 from by decide] at q; exact q
     have K475 : Keep h0 h475 [] := K473.wr W475 (Or.inr sz469)
     have O475 : Old Z n0 h475 := O473.wr W475 ge469
     have N475 := Fr.snoc X475 N473 ge469
     refine Go.st st475 ?_
     show Go p.tables e below Kx _ (mkF m 117 _ [])
     refine s_iload (pc' := 119) X475.here hx (hb hby at_117) rfl rfl ?_
     refine s_iconst (pc' := 120) (v := 4) X475.here hx (hb hby at_119) rfl rfl ?_
     refine s_icmpY (pc' := 129) X475.here hx (hb hby at_120) (tlt (by decide)).1 (by decide) (by decide) ?_
     obtain ⟨T476, h476, X476, e476, E476, A476, D476, -, st476⟩ := newO X475 hx hZ hown (hv hw 2 rfl) (hv hw 3 rfl) (hv hw 4 rfl) e475 (g := (mkF m 129 #[vi p0, vi p1, vi p2, vi p3, vi 3, vi rc, vi 1, vi 1, vi 1, vi x4, vr b469, un, un, un, un, un, un, un, un] [])) rfl (hb hby at_129) (by decide) (by decide)
     obtain ⟨b476, g476⟩ : ∃ z, z = h475.size := ⟨_, rfl⟩
     rw [← g476] at A476 D476 st476
     have sz476 : h0.size ≤ b476 := Nat.le_trans K475.1 (Nat.le_of_eq g476.symm)
     have ge476 : n0 ≤ b476 := Nat.le_trans (O475.1 ▸ O475.2.1) (Nat.le_of_eq g476.symm)
     have K476 : Keep h0 h476 [] := K475.ext E476
     have O476 : Old Z n0 h476 := O475.ext E476
     have F476_relevantWithin : Fld Z h476 b476 "com/example/kingfisher/kingfisher/eval/TopicRanking" "relevantWithin" "[I" .null := D476 (Or.inr (hv hw 13 rfl)) (ty := (.array .int)) (by decide)
     have F476_relevantCount : Fld Z h476 b476 "com/example/kingfisher/kingfisher/eval/TopicRanking" "relevantCount" "I" (.int 0) := D476 (Or.inr (hv hw 15 rfl)) (ty := .int) (by decide)
     refine Go.st st476 ?_
     show Go p.tables e below Kx _ (mkF m 132 _ [(.ref b476)])
     refine s_dup (pc' := 133) X476.here hx (hb hby at_132) rfl rfl ?_
     refine s_aload (pc' := 135) X476.here hx (hb hby at_133) rfl rfl rfl ?_
     refine s_iload (pc' := 137) X476.here hx (hb hby at_135) rfl rfl ?_
     have f477 : Arv Z h476 b469 k469 .boolean 3 [(.int 1), (.int 1), (.int 1)] (.int 0) := (V475.ext E476)
     obtain ⟨_, _, ⟨T478, L478, k478, n478⟩, -, X478, ⟨Lc478, hQ478, l478, y478, z478⟩, st478⟩ := X476.specialBack hx (y := yN0) rfl hown (mvT hZ (hv hw 5 rfl)) (mvT hZ (hv hw 6 rfl)) (mvT hZ (hv hw 7 rfl)) (by decide) (backOf (W := 1) (rmN3 l Z a0 hw [] b476 b469 k469 1 1 1 1 2 3 rc h476 n0 O476 ge476 (Nat.ne_of_lt (Nat.lt_of_lt_of_le (Nat.lt_of_lt_of_le A469.lt (Nat.le_trans (Nat.le_trans (Nat.le_of_eq W471.size.symm) (Nat.le_of_eq W473.size.symm)) (Nat.le_of_eq W475.size.symm))) (Nat.le_of_eq g476.symm))) A476 F476_relevantWithin F476_relevantCount f477 (by decide) (by decide) (by decide)) hZ (hv hw 7 rfl) (hv hw 4 rfl) (by decide) (by decide)) (g := (mkF m 137 #[vi p0, vi p1, vi p2, vi p3, vi 3, vi rc, vi 1, vi 1, vi 1, vi x4, vr b469, un, un, un, un, un, un, un, un] [(.int rc), (.ref b469), (.ref b476), (.ref b476)])) rfl (by rw [hml]; rfl) (Steps.refl _) (a := b476) (argsL := [(.ref b469), (.int rc)]) (rest := [(.ref b476)]) (lenOf pd_2 rfl) rfl (by exact Nat.le_of_eq rfl) (hb hby at_137) (fun _ _ => ⟨rfl, e476, (by decide : 2 + 1 ≤ _), (by decide : 5 + 4 ≤ _)⟩)
     dsimp only [Pt.U, Pt.locs, Pt.cells, Pt.slots] at X478 l478 y478 z478 st478 hQ478
     rw [l478, y478, z478] at X478
     obtain ⟨rfl, Nq478, Kq478, q1_478, q2_478, t478, kt478, q3_478, q4_478⟩ := hQ478
     have N478 := Fr.app N475 Nq478
     have K478 : Keep h0 T478.heap [] := K476.trans Kq478 (allS (P := fun zz => zz ∈ [] ∨ h0.size ≤ zz) (Or.inr sz476) all0)
     have O478 : Old Z n0 T478.heap := O476.keep Kq478 (allS ge476 all0)
     refine Go.tr st478 ?_
     show Go p.tables e below Kx _ (mkF m 140 _ [(.ref b476)])
     refine s_astore (pc' := 142) (Ls' := #[vi p0, vi p1, vi p2, vi p3, vi 3, vi rc, vi 1, vi 1, vi 1, vi x4, vr b469, vr b476, un, un, un, un, un, un, un]) X478.here hx (hb hby at_140) rfl rfl rfl ?_
     refine s_aload (pc' := 144) X478.here hx (hb hby at_142) rfl rfl rfl ?_
     refine s_iloadN (pc' := 145) X478.here hx (hb hby at_144) rfl rfl ?_
     obtain ⟨cq479, kq479, q479a, q479b, q479c⟩ := isOf hZ rfl q1_478
     obtain ⟨_, _, ⟨T479, L479, k479, n479⟩, -, X479, ⟨Lc479, hQ479, l479, y479, z479⟩, st479⟩ := X478.virtualBack hx (y := yN1) (z := yN1) hown (mvT hZ (hv hw 16 rfl)) (mvT hZ (hv hw 17 rfl)) (notFace_of_selects (args := #[]) (mvT hZ (hv hw 19 rfl))) (mvT hZ (hv hw 19 rfl)) (mvT hZ (hv hw 18 rfl)) (by decide) (backOf (W := 0) (rmA3 l Z a0 hw [] b476 t478 kt478 1 2 3 rc p2 T478.heap n0 O478 hrc q1_478 q3_478 q2_478 q4_478) hZ (hv hw 20 rfl) (hv hw 4 rfl) (by decide) (by decide)) q479a q479c (g := (mkF m 145 #[vi p0, vi p1, vi p2, vi p3, vi 3, vi rc, vi 1, vi 1, vi 1, vi x4, vr b469, vr b476, un, un, un, un, un, un, un] [(.int p2), (.ref b476)])) rfl (by rw [hml]; rfl) (Steps.refl _) (argsL := [(.int p2)]) (rest := []) (lenOf pd_3 rfl) rfl (by exact Nat.le_of_eq rfl) (hb hby at_145) (fun _ _ => ⟨rfl, rfl, (by decide : 3 + 0 ≤ _), (by decide : 9 + 0 ≤ _)⟩)
     dsimp only [Pt.U, Pt.locs, Pt.cells, Pt.slots] at X479 l479 y479 z479 st479 hQ479
     rw [l479, y479, z479] at X479
     obtain ⟨rfl, Nq479, hE479⟩ := hQ479
     have N479 := Fr.app N478 Nq479
     refine Go.tr st479 ?_
     show Go p.tables e below Kx _ (mkF m 148 _ [(.double (mst (mst (mst FP.dconst0 1 1 (needd p2 rc)) 2 2 (needd p2 rc)) 3 3 (needd p2 rc)))])
     refine s_dstore (pc' := 150) (Ls' := #[vi p0, vi p1, vi p2, vi p3, vi 3, vi rc, vi 1, vi 1, vi 1, vi x4, vr b469, vr b476, .val (.double (mst (mst (mst FP.dconst0 1 1 (needd p2 rc)) 2 2 (needd p2 rc)) 3 3 (needd p2 rc))), sn, un, un, un, un, un]) X479.here hx (hb hby at_148) rfl  rfl ?_
     refine s_iloadN (pc' := 151) X479.here hx (hb hby at_150) rfl rfl ?_
     refine s_i2d (pc' := 152) X479.here hx (hb hby at_151) rfl rfl ?_
     refine Go.st (X479.ldc2DoubleC hx hown (mvT hZ (hv hw 28 rfl)) (g := (mkF m 152 #[vi p0, vi p1, vi p2, vi p3, vi 3, vi rc, vi 1, vi 1, vi 1, vi x4, vr b469, vr b476, .val (.double (mst (mst (mst FP.dconst0 1 1 (needd p2 rc)) 2 2 (needd p2 rc)) 3 3 (needd p2 rc))), sn, un, un, un, un, un] [(.double (FP.i2d p2))])) rfl (hb hby at_152)) ?_
     show Go p.tables e below Kx _ (mkF m 155 _ [(.double (4621819117588971520 : UInt64)), (.double (FP.i2d p2))])
     refine s_ddiv (pc' := 156) X479.here hx (hb hby at_155) rfl (nn1 p2) rfl ?_
     refine s_iload (pc' := 158) X479.here hx (hb hby at_156) rfl rfl ?_
     refine s_i2d (pc' := 159) X479.here hx (hb hby at_158) rfl rfl ?_
     refine s_dmul (pc' := 160) X479.here hx (hb hby at_159) rfl (nn2 p2 hrc) rfl ?_
     refine Go.st (X479.ldc2DoubleC hx hown (mvT hZ (hv hw 29 rfl)) (g := (mkF m 160 #[vi p0, vi p1, vi p2, vi p3, vi 3, vi rc, vi 1, vi 1, vi 1, vi x4, vr b469, vr b476, .val (.double (mst (mst (mst FP.dconst0 1 1 (needd p2 rc)) 2 2 (needd p2 rc)) 3 3 (needd p2 rc))), sn, un, un, un, un, un] [(.double (FP.dmul (FP.ddiv (FP.i2d p2) (4621819117588971520 : UInt64)) (FP.i2d rc)))])) rfl (hb hby at_160)) ?_
     show Go p.tables e below Kx _ (mkF m 163 _ [(.double (4606281698874543309 : UInt64)), (.double (FP.dmul (FP.ddiv (FP.i2d p2) (4621819117588971520 : UInt64)) (FP.i2d rc)))])
     refine s_dadd (pc' := 164) X479.here hx (hb hby at_163) rfl (nn3 p2 hrc) rfl ?_
     refine s_d2l (pc' := 165) (z := needd p2 rc) X479.here hx (hb hby at_164) rfl rfl ?_
     show Go p.tables e below Kx _ (mkF m 165 _ [(.long (needd p2 rc))])
     generalize (needd p2 rc) = nd
     generalize hmm : (mst (mst (mst FP.dconst0 1 1 nd) 2 2 nd) 3 3 nd) = mm
     show Go p.tables e below Kx _ (mkF m 165 _ [(.long nd)])
     refine s_lstore (pc' := 167) (Ls' := #[vi p0, vi p1, vi p2, vi p3, vi 3, vi rc, vi 1, vi 1, vi 1, vi x4, vr b469, vr b476, .val (.double mm), sn, .val (.long nd), sn, un, un, un]) X479.here hx (hb hby at_165) rfl  rfl ?_
     refine s_dconst0 (pc' := 168) X479.here hx (hb hby at_167) rfl rfl ?_
     refine s_dstore (pc' := 170) (Ls' := #[vi p0, vi p1, vi p2, vi p3, vi 3, vi rc, vi 1, vi 1, vi 1, vi x4, vr b469, vr b476, .val (.double mm), sn, .val (.long nd), sn, .val (.double FP.dconst0), sn, un]) X479.here hx (hb hby at_168) rfl  rfl ?_
     refine s_iconst (pc' := 171) (v := 0) X479.here hx (hb hby at_170) rfl rfl ?_
     refine s_istore (pc' := 173) (Ls' := #[vi p0, vi p1, vi p2, vi p3, vi 3, vi rc, vi 1, vi 1, vi 1, vi x4, vr b469, vr b476, .val (.double mm), sn, .val (.long nd), sn, .val (.double FP.dconst0), sn, vi 0]) X479.here hx (hb hby at_171) rfl  rfl ?_
     refine s_iload (pc' := 175) X479.here hx (hb hby at_173) rfl rfl ?_
     refine s_iconst (pc' := 176) (v := 1) X479.here hx (hb hby at_175) rfl rfl ?_
     refine s_icmpN (pc' := 179) X479.here hx (hb hby at_176) rfl (flt (by decide)).1 ?_
     refine s_iload (pc' := 181) X479.here hx (hb hby at_179) rfl rfl ?_
     refine s_ifN (pc' := 184) X479.here hx (hb hby at_181) rfl ((if0 _ _).trans (feq (by decide)).1) ?_
     refine s_iload (pc' := 186) X479.here hx (hb hby at_184) rfl rfl ?_
     refine s_iconst (pc' := 187) (v := 1) X479.here hx (hb hby at_186) rfl rfl ?_
     refine s_iadd (pc' := 188) (z := 1) X479.here hx (hb hby at_187) rfl (by decide) ?_
     refine s_istore (pc' := 190) (Ls' := #[vi p0, vi p1, vi p2, vi p3, vi 3, vi rc, vi 1, vi 1, vi 1, vi x4, vr b469, vr b476, .val (.double mm), sn, .val (.long nd), sn, .val (.double FP.dconst0), sn, vi 1]) X479.here hx (hb hby at_188) rfl  rfl ?_
     refine s_dload (pc' := 192) X479.here hx (hb hby at_190) rfl rfl ?_
     refine s_iload (pc' := 194) X479.here hx (hb hby at_192) rfl rfl ?_
     refine s_iconst (pc' := 195) (v := 1) X479.here hx (hb hby at_194) rfl rfl ?_
     refine s_lload (pc' := 197) X479.here hx (hb hby at_195) rfl rfl ?_
     obtain ⟨_, _, ⟨T480, L480, k480, n480⟩, -, X480, ⟨Lc480, hQ480, l480, y480, z480⟩, st480⟩ := Jvm.LawKit.callS X479 hx (y := yN3) hown (mvT hZ (hv hw 30 rfl)) (mvT hZ (hv hw 31 rfl)) (mvT hZ (hv hw 32 rfl)) (mvT hZ (hv hw 33 rfl)) (by decide) (backOf (W := 0) (rmB l Z a0 hw [] FP.dconst0 1 1 nd T478.heap n0 O478 (by decide)) hZ (hv hw 33 rfl) (hv hw 32 rfl) (by decide) (by decide)) (g := (mkF m 197 #[vi p0, vi p1, vi p2, vi p3, vi 3, vi rc, vi 1, vi 1, vi 1, vi x4, vr b469, vr b476, .val (.double mm), sn, .val (.long nd), sn, .val (.double FP.dconst0), sn, vi 1] [(.long nd), (.int 1), (.int 1), (.double FP.dconst0)])) rfl (by rw [hml]; rfl) (argsL := [(.double FP.dconst0), (.int 1), (.int 1), (.long nd)]) (rest := []) (lenOf pd_4 rfl) rfl (by exact Nat.le_of_eq rfl) (hb hby at_197) (fun _ _ => ⟨rfl, hE479, (by decide : 3 + 0 ≤ _), (by decide : 9 + 0 ≤ _)⟩)
     dsimp only [Pt.U, Pt.locs, Pt.cells, Pt.slots] at X480 l480 y480 z480 st480 hQ480
     rw [l480, y480, z480] at X480
     obtain ⟨rfl, Nq480, hE480⟩ := hQ480
     have N480 := Fr.app N479 Nq480
     refine Go.st st480 ?_
     show Go p.tables e below Kx _ (mkF m 200 _ [(.double (bst FP.dconst0 1 1 nd))])
     refine s_dstore (pc' := 202) (Ls' := #[vi p0, vi p1, vi p2, vi p3, vi 3, vi rc, vi 1, vi 1, vi 1, vi x4, vr b469, vr b476, .val (.double mm), sn, .val (.long nd), sn, .val (.double (bst FP.dconst0 1 1 nd)), sn, vi 1]) X480.here hx (hb hby at_200) rfl  rfl ?_
     refine s_iload (pc' := 204) X480.here hx (hb hby at_202) rfl rfl ?_
     refine s_iconst (pc' := 205) (v := 2) X480.here hx (hb hby at_204) rfl rfl ?_
     refine s_icmpN (pc' := 208) X480.here hx (hb hby at_205) rfl (flt (by decide)).1 ?_
     refine s_iload (pc' := 210) X480.here hx (hb hby at_208) rfl rfl ?_
     refine s_ifN (pc' := 213) X480.here hx (hb hby at_210) rfl ((if0 _ _).trans (feq (by decide)).1) ?_
     refine s_iload (pc' := 215) X480.here hx (hb hby at_213) rfl rfl ?_
     refine s_iconst (pc' := 216) (v := 1) X480.here hx (hb hby at_215) rfl rfl ?_
     refine s_iadd (pc' := 217) (z := 2) X480.here hx (hb hby at_216) rfl (by decide) ?_
     refine s_istore (pc' := 219) (Ls' := #[vi p0, vi p1, vi p2, vi p3, vi 3, vi rc, vi 1, vi 1, vi 1, vi x4, vr b469, vr b476, .val (.double mm), sn, .val (.long nd), sn, .val (.double (bst FP.dconst0 1 1 nd)), sn, vi 2]) X480.here hx (hb hby at_217) rfl  rfl ?_
     refine s_dload (pc' := 221) X480.here hx (hb hby at_219) rfl rfl ?_
     refine s_iload (pc' := 223) X480.here hx (hb hby at_221) rfl rfl ?_
     refine s_iconst (pc' := 224) (v := 2) X480.here hx (hb hby at_223) rfl rfl ?_
     refine s_lload (pc' := 226) X480.here hx (hb hby at_224) rfl rfl ?_
     obtain ⟨_, _, ⟨T481, L481, k481, n481⟩, -, X481, ⟨Lc481, hQ481, l481, y481, z481⟩, st481⟩ := Jvm.LawKit.callS X480 hx (y := yN3) hown (mvT hZ (hv hw 30 rfl)) (mvT hZ (hv hw 31 rfl)) (mvT hZ (hv hw 32 rfl)) (mvT hZ (hv hw 33 rfl)) (by decide) (backOf (W := 0) (rmB l Z a0 hw [] (bst FP.dconst0 1 1 nd) 2 2 nd T478.heap n0 O478 (by decide)) hZ (hv hw 33 rfl) (hv hw 32 rfl) (by decide) (by decide)) (g := (mkF m 226 #[vi p0, vi p1, vi p2, vi p3, vi 3, vi rc, vi 1, vi 1, vi 1, vi x4, vr b469, vr b476, .val (.double mm), sn, .val (.long nd), sn, .val (.double (bst FP.dconst0 1 1 nd)), sn, vi 2] [(.long nd), (.int 2), (.int 2), (.double (bst FP.dconst0 1 1 nd))])) rfl (by rw [hml]; rfl) (argsL := [(.double (bst FP.dconst0 1 1 nd)), (.int 2), (.int 2), (.long nd)]) (rest := []) (lenOf pd_4 rfl) rfl (by exact Nat.le_of_eq rfl) (hb hby at_226) (fun _ _ => ⟨rfl, hE480, (by decide : 3 + 0 ≤ _), (by decide : 9 + 0 ≤ _)⟩)
     dsimp only [Pt.U, Pt.locs, Pt.cells, Pt.slots] at X481 l481 y481 z481 st481 hQ481
     rw [l481, y481, z481] at X481
     obtain ⟨rfl, Nq481, hE481⟩ := hQ481
     have N481 := Fr.app N480 Nq481
     refine Go.st st481 ?_
     show Go p.tables e below Kx _ (mkF m 229 _ [(.double (bst (bst FP.dconst0 1 1 nd) 2 2 nd))])
     refine s_dstore (pc' := 231) (Ls' := #[vi p0, vi p1, vi p2, vi p3, vi 3, vi rc, vi 1, vi 1, vi 1, vi x4, vr b469, vr b476, .val (.double mm), sn, .val (.long nd), sn, .val (.double (bst (bst FP.dconst0 1 1 nd) 2 2 nd)), sn, vi 2]) X481.here hx (hb hby at_229) rfl  rfl ?_
     refine s_iload (pc' := 233) X481.here hx (hb hby at_231) rfl rfl ?_
     refine s_iconst (pc' := 234) (v := 3) X481.here hx (hb hby at_233) rfl rfl ?_
     refine s_icmpN (pc' := 237) X481.here hx (hb hby at_234) rfl (flt (by decide)).1 ?_
     refine s_iload (pc' := 239) X481.here hx (hb hby at_237) rfl rfl ?_
     refine s_ifN (pc' := 242) X481.here hx (hb hby at_239) rfl ((if0 _ _).trans (feq (by decide)).1) ?_
     refine s_iload (pc' := 244) X481.here hx (hb hby at_242) rfl rfl ?_
     refine s_iconst (pc' := 245) (v := 1) X481.here hx (hb hby at_244) rfl rfl ?_
     refine s_iadd (pc' := 246) (z := 3) X481.here hx (hb hby at_245) rfl (by decide) ?_
     refine s_istore (pc' := 248) (Ls' := #[vi p0, vi p1, vi p2, vi p3, vi 3, vi rc, vi 1, vi 1, vi 1, vi x4, vr b469, vr b476, .val (.double mm), sn, .val (.long nd), sn, .val (.double (bst (bst FP.dconst0 1 1 nd) 2 2 nd)), sn, vi 3]) X481.here hx (hb hby at_246) rfl  rfl ?_
     refine s_dload (pc' := 250) X481.here hx (hb hby at_248) rfl rfl ?_
     refine s_iload (pc' := 252) X481.here hx (hb hby at_250) rfl rfl ?_
     refine s_iconst (pc' := 253) (v := 3) X481.here hx (hb hby at_252) rfl rfl ?_
     refine s_lload (pc' := 255) X481.here hx (hb hby at_253) rfl rfl ?_
     obtain ⟨_, _, ⟨T482, L482, k482, n482⟩, -, X482, ⟨Lc482, hQ482, l482, y482, z482⟩, st482⟩ := Jvm.LawKit.callS X481 hx (y := yN3) hown (mvT hZ (hv hw 30 rfl)) (mvT hZ (hv hw 31 rfl)) (mvT hZ (hv hw 32 rfl)) (mvT hZ (hv hw 33 rfl)) (by decide) (backOf (W := 0) (rmB l Z a0 hw [] (bst (bst FP.dconst0 1 1 nd) 2 2 nd) 3 3 nd T478.heap n0 O478 (by decide)) hZ (hv hw 33 rfl) (hv hw 32 rfl) (by decide) (by decide)) (g := (mkF m 255 #[vi p0, vi p1, vi p2, vi p3, vi 3, vi rc, vi 1, vi 1, vi 1, vi x4, vr b469, vr b476, .val (.double mm), sn, .val (.long nd), sn, .val (.double (bst (bst FP.dconst0 1 1 nd) 2 2 nd)), sn, vi 3] [(.long nd), (.int 3), (.int 3), (.double (bst (bst FP.dconst0 1 1 nd) 2 2 nd))])) rfl (by rw [hml]; rfl) (argsL := [(.double (bst (bst FP.dconst0 1 1 nd) 2 2 nd)), (.int 3), (.int 3), (.long nd)]) (rest := []) (lenOf pd_4 rfl) rfl (by exact Nat.le_of_eq rfl) (hb hby at_255) (fun _ _ => ⟨rfl, hE481, (by decide : 3 + 0 ≤ _), (by decide : 9 + 0 ≤ _)⟩)
     dsimp only [Pt.U, Pt.locs, Pt.cells, Pt.slots] at X482 l482 y482 z482 st482 hQ482
     rw [l482, y482, z482] at X482
     obtain ⟨rfl, Nq482, hE482⟩ := hQ482
     have N482 := Fr.app N481 Nq482
     refine Go.st st482 ?_
     show Go p.tables e below Kx _ (mkF m 258 _ [(.double (bst (bst (bst FP.dconst0 1 1 nd) 2 2 nd) 3 3 nd))])
     refine s_dstore (pc' := 260) (Ls' := #[vi p0, vi p1, vi p2, vi p3, vi 3, vi rc, vi 1, vi 1, vi 1, vi x4, vr b469, vr b476, .val (.double mm), sn, .val (.long nd), sn, .val (.double (bst (bst (bst FP.dconst0 1 1 nd) 2 2 nd) 3 3 nd)), sn, vi 3]) X482.here hx (hb hby at_258) rfl  rfl ?_
     refine s_iload (pc' := 262) X482.here hx (hb hby at_260) rfl rfl ?_
     refine s_iconst (pc' := 263) (v := 4) X482.here hx (hb hby at_262) rfl rfl ?_
     refine s_icmpY (pc' := 289) X482.here hx (hb hby at_263) (tlt (by decide)).1 (by decide) (by decide) ?_
     refine s_dload (pc' := 291) X482.here hx (hb hby at_289) rfl rfl ?_
     refine s_dload (pc' := 293) X482.here hx (hb hby at_291) rfl rfl ?_
     refine s_dcmpl (pc' := 294) (z := 0) X482.here hx (hb hby at_293) rfl (by rw [← hmm]; exact fin_3111 nd) ?_
     refine s_ifN (pc' := 297) X482.here hx (hb hby at_294) rfl ((if0 _ _).trans (teq (by decide)).2) ?_
     refine s_iconst (pc' := 298) (v := 1) X482.here hx (hb hby at_297) rfl rfl ?_
     refine s_goto (pc' := 302) X482.here hx (hb hby at_298) (by decide) (by decide) ?_
     obtain ⟨fs, hr, hrun, hended, hW, hsame⟩ := X482.leave (v := (some (.int 1))) (fun h => by rw [Bd.returns] at h; cases h)
     refine Go.fin (retN X482 hx (t := .boolean) Bd.returns (by simp) (hb hby at_302) hr) (hF _ _ hrun hended ⟨_, _, rfl, ?_, ⟨_, rfl⟩, hW, hsame.mono (by decide) (by decide)⟩)
     ·
      show QL Z p0 p1 p2 p3 h0 n0 ((some (.int 1)) : Option Value) T482.heap _
      rw [hE482]
      exact ⟨rfl, N482⟩
 ·
  rcases hx1 with rfl | rfl
  ·
   rcases hx2 with rfl | rfl
   ·
    rcases hx3 with rfl | rfl
    ·
     rcases hx4 with rfl | rfl
     ·
      show Go p.tables e below Kx _ (mkF m 75 _ [])
      refine s_iload (pc' := 77) X0.here hx (hb hby at_75) rfl rfl ?_
      obtain ⟨T483, h483, k483, X483, e483, E483, A483, st483⟩ := newP X0 hx hZ (hv hw 1 rfl) e0 (g := (mkF m 77 #[vi p0, vi p1, vi p2, vi p3, vi 4, vi rc, vi 0, vi 0, vi 0, vi 0, un, un, un, un, un, un, un, un, un] [(.int 4)])) rfl (hb hby at_77) rfl (by decide) (cap := 4) (by decide) (by decide) (by decide) (by decide)
      obtain ⟨b483, g483⟩ : ∃ z, z = h0.size := ⟨_, rfl⟩
      rw [← g483] at A483 st483
      have sz483 : h0.size ≤ b483 := Nat.le_trans K0.1 (Nat.le_of_eq g483.symm)
      have ge483 : n0 ≤ b483 := Nat.le_trans (X00.1 ▸ X00.2.1) (Nat.le_of_eq g483.symm)
      have K483 : Keep h0 h483 [] := K0.ext E483
      have O483 : Old Z n0 h483 := X00.ext E483
      have V483 : Arv Z h483 b483 k483 .boolean 4 [(.int 0), (.int 0), (.int 0), (.int 0)] (.int 0) := (Arv.new A483 (by decide)).pad (pad_rep [] (.int 0) 4)
      refine Go.st st483 ?_
      show Go p.tables e below Kx _ (mkF m 79 _ [(.ref b483)])
      refine s_astore (pc' := 81) (Ls' := #[vi p0, vi p1, vi p2, vi p3, vi 4, vi rc, vi 0, vi 0, vi 0, vi 0, vr b483, un, un, un, un, un, un, un, un]) X483.here hx (hb hby at_79) rfl rfl rfl ?_
      refine s_iload (pc' := 83) X483.here hx (hb hby at_81) rfl rfl ?_
      refine s_iconst (pc' := 84) (v := 1) X483.here hx (hb hby at_83) rfl rfl ?_
      refine s_icmpN (pc' := 87) X483.here hx (hb hby at_84) rfl (flt (by decide)).1 ?_
      refine s_aload (pc' := 89) X483.here hx (hb hby at_87) rfl rfl rfl ?_
      refine s_iconst (pc' := 90) (v := 0) X483.here hx (hb hby at_89) rfl rfl ?_
      refine s_iload (pc' := 92) X483.here hx (hb hby at_90) rfl rfl ?_
      obtain ⟨cl484, Ar484, Aq484, As484, An484, Ah484, Ag484⟩ := id V483
      have in485 := inb_of (j := 0) As484 (by decide)
      obtain ⟨T485, h485, X485, e485, W485, st485⟩ := stZ X483 hx hZ e483 Ar484 (j := 0) in485 (g := (mkF m 92 #[vi p0, vi p1, vi p2, vi p3, vi 4, vi rc, vi 0, vi 0, vi 0, vi 0, vr b483, un, un, un, un, un, un, un, un] [(.int 0), (.int 0), (.ref b483)])) rfl rfl (hb hby at_92)
      have V485 : Arv Z h485 b483 k483 .boolean 4 [(.int 0), (.int 0), (.int 0), (.int 0)] (.int 0) := by
       have q := Arv.set Ar484 Aq484 As484 An484 Ah484 Ag484 (fits_nar_bool _) W485 0 rfl (Nat.le_of_ble_eq_true rfl)
       rw [show nar .boolean 0 = 0 from by decide] at q; exact q
      have K485 : Keep h0 h485 [] := K483.wr W485 (Or.inr sz483)
      have O485 : Old Z n0 h485 := O483.wr W485 ge483
      have N485 := Fr.snoc X485 N0 ge483
      refine Go.st st485 ?_
      show Go p.tables e below Kx _ (mkF m 93 _ [])
      refine s_iload (pc' := 95) X485.here hx (hb hby at_93) rfl rfl ?_
      refine s_iconst (pc' := 96) (v := 2) X485.here hx (hb hby at_95) rfl rfl ?_
      refine s_icmpN (pc' := 99) X485.here hx (hb hby at_96) rfl (flt (by decide)).1 ?_
      refine s_aload (pc' := 101) X485.here hx (hb hby at_99) rfl rfl rfl ?_
      refine s_iconst (pc' := 102) (v := 1) X485.here hx (hb hby at_101) rfl rfl ?_
      refine s_iload (pc' := 104) X485.here hx (hb hby at_102) rfl rfl ?_
      obtain ⟨cl486, Ar486, Aq486, As486, An486, Ah486, Ag486⟩ := id V485
      have in487 := inb_of (j := 1) As486 (by decide)
      obtain ⟨T487, h487, X487, e487, W487, st487⟩ := stZ X485 hx hZ e485 Ar486 (j := 1) in487 (g := (mkF m 104 #[vi p0, vi p1, vi p2, vi p3, vi 4, vi rc, vi 0, vi 0, vi 0, vi 0, vr b483, un, un, un, un, un, un, un, un] [(.int 0), (.int 1), (.ref b483)])) rfl rfl (hb hby at_104)
      have V487 : Arv Z h487 b483 k483 .boolean 4 [(.int 0), (.int 0), (.int 0), (.int 0)] (.int 0) := by
       have q := Arv.set Ar486 Aq486 As486 An486 Ah486 Ag486 (fits_nar_bool _) W487 1 rfl (Nat.le_of_ble_eq_true rfl)
       rw [show nar .boolean 0 = 0 from by decide] at q; exact q
      have K487 : Keep h0 h487 [] := K485.wr W487 (Or.inr sz483)
      have O487 : Old Z n0 h487 := O485.wr W487 ge483
      have N487 := Fr.snoc X487 N485 ge483
      refine Go.st st487 ?_
      show Go p.tables e below Kx _ (mkF m 105 _ [])
      refine s_iload (pc' := 107) X487.here hx (hb hby at_105) rfl rfl ?_
      refine s_iconst (pc' := 108) (v := 3) X487.here hx (hb hby at_107) rfl rfl ?_
      refine s_icmpN (pc' := 111) X487.here hx (hb hby at_108) rfl (flt (by decide)).1 ?_
      refine s_aload (pc' := 113) X487.here hx (hb hby at_111) rfl rfl rfl ?_
      refine s_iconst (pc' := 114) (v := 2) X487.here hx (hb hby at_113) rfl rfl ?_
      refine s_iload (pc' := 116) X487.here hx (hb hby at_114) rfl rfl ?_
      obtain ⟨cl488, Ar488, Aq488, As488, An488, Ah488, Ag488⟩ := id V487
      have in489 := inb_of (j := 2) As488 (by decide)
      obtain ⟨T489, h489, X489, e489, W489, st489⟩ := stZ X487 hx hZ e487 Ar488 (j := 2) in489 (g := (mkF m 116 #[vi p0, vi p1, vi p2, vi p3, vi 4, vi rc, vi 0, vi 0, vi 0, vi 0, vr b483, un, un, un, un, un, un, un, un] [(.int 0), (.int 2), (.ref b483)])) rfl rfl (hb hby at_116)
      have V489 : Arv Z h489 b483 k483 .boolean 4 [(.int 0), (.int 0), (.int 0), (.int 0)] (.int 0) := by
       have q := Arv.set Ar488 Aq488 As488 An488 Ah488 Ag488 (fits_nar_bool _) W489 2 rfl (Nat.le_of_ble_eq_true rfl)
       rw [show nar .boolean 0 = 0 from by decide] at q; exact q
      have K489 : Keep h0 h489 [] := K487.wr W489 (Or.inr sz483)
      have O489 : Old Z n0 h489 := O487.wr W489 ge483
      have N489 := Fr.snoc X489 N487 ge483
      refine Go.st st489 ?_
      show Go p.tables e below Kx _ (mkF m 117 _ [])
      refine s_iload (pc' := 119) X489.here hx (hb hby at_117) rfl rfl ?_
      refine s_iconst (pc' := 120) (v := 4) X489.here hx (hb hby at_119) rfl rfl ?_
      refine s_icmpN (pc' := 123) X489.here hx (hb hby at_120) rfl (flt (by decide)).1 ?_
      refine s_aload (pc' := 125) X489.here hx (hb hby at_123) rfl rfl rfl ?_
      refine s_iconst (pc' := 126) (v := 3) X489.here hx (hb hby at_125) rfl rfl ?_
      refine s_iload (pc' := 128) X489.here hx (hb hby at_126) rfl rfl ?_
      obtain ⟨cl490, Ar490, Aq490, As490, An490, Ah490, Ag490⟩ := id V489
      have in491 := inb_of (j := 3) As490 (by decide)
      obtain ⟨T491, h491, X491, e491, W491, st491⟩ := stZ X489 hx hZ e489 Ar490 (j := 3) in491 (g := (mkF m 128 #[vi p0, vi p1, vi p2, vi p3, vi 4, vi rc, vi 0, vi 0, vi 0, vi 0, vr b483, un, un, un, un, un, un, un, un] [(.int 0), (.int 3), (.ref b483)])) rfl rfl (hb hby at_128)
      have V491 : Arv Z h491 b483 k483 .boolean 4 [(.int 0), (.int 0), (.int 0), (.int 0)] (.int 0) := by
       have q := Arv.set Ar490 Aq490 As490 An490 Ah490 Ag490 (fits_nar_bool _) W491 3 rfl (Nat.le_of_ble_eq_true rfl)
       rw [show nar .boolean 0 = 0 from by decide] at q; exact q
      have K491 : Keep h0 h491 [] := K489.wr W491 (Or.inr sz483)
      have O491 : Old Z n0 h491 := O489.wr W491 ge483
      have N491 := Fr.snoc X491 N489 ge483
      refine Go.st st491 ?_
      show Go p.tables e below Kx _ (mkF m 129 _ [])
      obtain ⟨T492, h492, X492, e492, E492, A492, D492, -, st492⟩ := newO X491 hx hZ hown (hv hw 2 rfl) (hv hw 3 rfl) (hv hw 4 rfl) e491 (g := (mkF m 129 #[vi p0, vi p1, vi p2, vi p3, vi 4, vi rc, vi 0, vi 0, vi 0, vi 0, vr b483, un, un, un, un, un, un, un, un] [])) rfl (hb hby at_129) (by decide) (by decide)
      obtain ⟨b492, g492⟩ : ∃ z, z = h491.size := ⟨_, rfl⟩
      rw [← g492] at A492 D492 st492
      have sz492 : h0.size ≤ b492 := Nat.le_trans K491.1 (Nat.le_of_eq g492.symm)
      have ge492 : n0 ≤ b492 := Nat.le_trans (O491.1 ▸ O491.2.1) (Nat.le_of_eq g492.symm)
      have K492 : Keep h0 h492 [] := K491.ext E492
      have O492 : Old Z n0 h492 := O491.ext E492
      have F492_relevantWithin : Fld Z h492 b492 "com/example/kingfisher/kingfisher/eval/TopicRanking" "relevantWithin" "[I" .null := D492 (Or.inr (hv hw 13 rfl)) (ty := (.array .int)) (by decide)
      have F492_relevantCount : Fld Z h492 b492 "com/example/kingfisher/kingfisher/eval/TopicRanking" "relevantCount" "I" (.int 0) := D492 (Or.inr (hv hw 15 rfl)) (ty := .int) (by decide)
      refine Go.st st492 ?_
      show Go p.tables e below Kx _ (mkF m 132 _ [(.ref b492)])
      refine s_dup (pc' := 133) X492.here hx (hb hby at_132) rfl rfl ?_
      refine s_aload (pc' := 135) X492.here hx (hb hby at_133) rfl rfl rfl ?_
      refine s_iload (pc' := 137) X492.here hx (hb hby at_135) rfl rfl ?_
      have f493 : Arv Z h492 b483 k483 .boolean 4 [(.int 0), (.int 0), (.int 0), (.int 0)] (.int 0) := (V491.ext E492)
      obtain ⟨_, _, ⟨T494, L494, k494, n494⟩, -, X494, ⟨Lc494, hQ494, l494, y494, z494⟩, st494⟩ := X492.specialBack hx (y := yN0) rfl hown (mvT hZ (hv hw 5 rfl)) (mvT hZ (hv hw 6 rfl)) (mvT hZ (hv hw 7 rfl)) (by decide) (backOf (W := 1) (rmN4 l Z a0 hw [] b492 b483 k483 0 0 0 0 0 0 0 0 rc h492 n0 O492 ge492 (Nat.ne_of_lt (Nat.lt_of_lt_of_le (Nat.lt_of_lt_of_le A483.lt (Nat.le_trans (Nat.le_trans (Nat.le_trans (Nat.le_of_eq W485.size.symm) (Nat.le_of_eq W487.size.symm)) (Nat.le_of_eq W489.size.symm)) (Nat.le_of_eq W491.size.symm))) (Nat.le_of_eq g492.symm))) A492 F492_relevantWithin F492_relevantCount f493 (by decide) (by decide) (by decide) (by decide)) hZ (hv hw 7 rfl) (hv hw 4 rfl) (by decide) (by decide)) (g := (mkF m 137 #[vi p0, vi p1, vi p2, vi p3, vi 4, vi rc, vi 0, vi 0, vi 0, vi 0, vr b483, un, un, un, un, un, un, un, un] [(.int rc), (.ref b483), (.ref b492), (.ref b492)])) rfl (by rw [hml]; rfl) (Steps.refl _) (a := b492) (argsL := [(.ref b483), (.int rc)]) (rest := [(.ref b492)]) (lenOf pd_2 rfl) rfl (by exact Nat.le_of_eq rfl) (hb hby at_137) (fun _ _ => ⟨rfl, e492, (by decide : 2 + 1 ≤ _), (by decide : 6 + 5 ≤ _)⟩)
      dsimp only [Pt.U, Pt.locs, Pt.cells, Pt.slots] at X494 l494 y494 z494 st494 hQ494
      rw [l494, y494, z494] at X494
      obtain ⟨rfl, Nq494, Kq494, q1_494, q2_494, t494, kt494, q3_494, q4_494⟩ := hQ494
      have N494 := Fr.app N491 Nq494
      have K494 : Keep h0 T494.heap [] := K492.trans Kq494 (allS (P := fun zz => zz ∈ [] ∨ h0.size ≤ zz) (Or.inr sz492) all0)
      have O494 : Old Z n0 T494.heap := O492.keep Kq494 (allS ge492 all0)
      refine Go.tr st494 ?_
      show Go p.tables e below Kx _ (mkF m 140 _ [(.ref b492)])
      refine s_astore (pc' := 142) (Ls' := #[vi p0, vi p1, vi p2, vi p3, vi 4, vi rc, vi 0, vi 0, vi 0, vi 0, vr b483, vr b492, un, un, un, un, un, un, un]) X494.here hx (hb hby at_140) rfl rfl rfl ?_
      refine s_aload (pc' := 144) X494.here hx (hb hby at_142) rfl rfl rfl ?_
      refine s_iloadN (pc' := 145) X494.here hx (hb hby at_144) rfl rfl ?_
      obtain ⟨cq495, kq495, q495a, q495b, q495c⟩ := isOf hZ rfl q1_494
      obtain ⟨_, _, ⟨T495, L495, k495, n495⟩, -, X495, ⟨Lc495, hQ495, l495, y495, z495⟩, st495⟩ := X494.virtualBack hx (y := yN1) (z := yN1) hown (mvT hZ (hv hw 16 rfl)) (mvT hZ (hv hw 17 rfl)) (notFace_of_selects (args := #[]) (mvT hZ (hv hw 19 rfl))) (mvT hZ (hv hw 19 rfl)) (mvT hZ (hv hw 18 rfl)) (by decide) (backOf (W := 0) (rmA4 l Z a0 hw [] b492 t494 kt494 0 0 0 0 rc p2 T494.heap n0 O494 hrc q1_494 q3_494 q2_494 q4_494) hZ (hv hw 20 rfl) (hv hw 4 rfl) (by decide) (by decide)) q495a q495c (g := (mkF m 145 #[vi p0, vi p1, vi p2, vi p3, vi 4, vi rc, vi 0, vi 0, vi 0, vi 0, vr b483, vr b492, un, un, un, un, un, un, un] [(.int p2), (.ref b492)])) rfl (by rw [hml]; rfl) (Steps.refl _) (argsL := [(.int p2)]) (rest := []) (lenOf pd_3 rfl) rfl (by exact Nat.le_of_eq rfl) (hb hby at_145) (fun _ _ => ⟨rfl, rfl, (by decide : 3 + 0 ≤ _), (by decide : 11 + 0 ≤ _)⟩)
      dsimp only [Pt.U, Pt.locs, Pt.cells, Pt.slots] at X495 l495 y495 z495 st495 hQ495
      rw [l495, y495, z495] at X495
      obtain ⟨rfl, Nq495, hE495⟩ := hQ495
      have N495 := Fr.app N494 Nq495
      refine Go.tr st495 ?_
      show Go p.tables e below Kx _ (mkF m 148 _ [(.double (mst (mst (mst (mst FP.dconst0 0 1 (needd p2 rc)) 0 2 (needd p2 rc)) 0 3 (needd p2 rc)) 0 4 (needd p2 rc)))])
      refine s_dstore (pc' := 150) (Ls' := #[vi p0, vi p1, vi p2, vi p3, vi 4, vi rc, vi 0, vi 0, vi 0, vi 0, vr b483, vr b492, .val (.double (mst (mst (mst (mst FP.dconst0 0 1 (needd p2 rc)) 0 2 (needd p2 rc)) 0 3 (needd p2 rc)) 0 4 (needd p2 rc))), sn, un, un, un, un, un]) X495.here hx (hb hby at_148) rfl  rfl ?_
      refine s_iloadN (pc' := 151) X495.here hx (hb hby at_150) rfl rfl ?_
      refine s_i2d (pc' := 152) X495.here hx (hb hby at_151) rfl rfl ?_
      refine Go.st (X495.ldc2DoubleC hx hown (mvT hZ (hv hw 28 rfl)) (g := (mkF m 152 #[vi p0, vi p1, vi p2, vi p3, vi 4, vi rc, vi 0, vi 0, vi 0, vi 0, vr b483, vr b492, .val (.double (mst (mst (mst (mst FP.dconst0 0 1 (needd p2 rc)) 0 2 (needd p2 rc)) 0 3 (needd p2 rc)) 0 4 (needd p2 rc))), sn, un, un, un, un, un] [(.double (FP.i2d p2))])) rfl (hb hby at_152)) ?_
      show Go p.tables e below Kx _ (mkF m 155 _ [(.double (4621819117588971520 : UInt64)), (.double (FP.i2d p2))])
      refine s_ddiv (pc' := 156) X495.here hx (hb hby at_155) rfl (nn1 p2) rfl ?_
      refine s_iload (pc' := 158) X495.here hx (hb hby at_156) rfl rfl ?_
      refine s_i2d (pc' := 159) X495.here hx (hb hby at_158) rfl rfl ?_
      refine s_dmul (pc' := 160) X495.here hx (hb hby at_159) rfl (nn2 p2 hrc) rfl ?_
      refine Go.st (X495.ldc2DoubleC hx hown (mvT hZ (hv hw 29 rfl)) (g := (mkF m 160 #[vi p0, vi p1, vi p2, vi p3, vi 4, vi rc, vi 0, vi 0, vi 0, vi 0, vr b483, vr b492, .val (.double (mst (mst (mst (mst FP.dconst0 0 1 (needd p2 rc)) 0 2 (needd p2 rc)) 0 3 (needd p2 rc)) 0 4 (needd p2 rc))), sn, un, un, un, un, un] [(.double (FP.dmul (FP.ddiv (FP.i2d p2) (4621819117588971520 : UInt64)) (FP.i2d rc)))])) rfl (hb hby at_160)) ?_
      show Go p.tables e below Kx _ (mkF m 163 _ [(.double (4606281698874543309 : UInt64)), (.double (FP.dmul (FP.ddiv (FP.i2d p2) (4621819117588971520 : UInt64)) (FP.i2d rc)))])
      refine s_dadd (pc' := 164) X495.here hx (hb hby at_163) rfl (nn3 p2 hrc) rfl ?_
      refine s_d2l (pc' := 165) (z := needd p2 rc) X495.here hx (hb hby at_164) rfl rfl ?_
      show Go p.tables e below Kx _ (mkF m 165 _ [(.long (needd p2 rc))])
      generalize (needd p2 rc) = nd
      generalize hmm : (mst (mst (mst (mst FP.dconst0 0 1 nd) 0 2 nd) 0 3 nd) 0 4 nd) = mm
      show Go p.tables e below Kx _ (mkF m 165 _ [(.long nd)])
      refine s_lstore (pc' := 167) (Ls' := #[vi p0, vi p1, vi p2, vi p3, vi 4, vi rc, vi 0, vi 0, vi 0, vi 0, vr b483, vr b492, .val (.double mm), sn, .val (.long nd), sn, un, un, un]) X495.here hx (hb hby at_165) rfl  rfl ?_
      refine s_dconst0 (pc' := 168) X495.here hx (hb hby at_167) rfl rfl ?_
      refine s_dstore (pc' := 170) (Ls' := #[vi p0, vi p1, vi p2, vi p3, vi 4, vi rc, vi 0, vi 0, vi 0, vi 0, vr b483, vr b492, .val (.double mm), sn, .val (.long nd), sn, .val (.double FP.dconst0), sn, un]) X495.here hx (hb hby at_168) rfl  rfl ?_
      refine s_iconst (pc' := 171) (v := 0) X495.here hx (hb hby at_170) rfl rfl ?_
      refine s_istore (pc' := 173) (Ls' := #[vi p0, vi p1, vi p2, vi p3, vi 4, vi rc, vi 0, vi 0, vi 0, vi 0, vr b483, vr b492, .val (.double mm), sn, .val (.long nd), sn, .val (.double FP.dconst0), sn, vi 0]) X495.here hx (hb hby at_171) rfl  rfl ?_
      refine s_iload (pc' := 175) X495.here hx (hb hby at_173) rfl rfl ?_
      refine s_iconst (pc' := 176) (v := 1) X495.here hx (hb hby at_175) rfl rfl ?_
      refine s_icmpN (pc' := 179) X495.here hx (hb hby at_176) rfl (flt (by decide)).1 ?_
      refine s_iload (pc' := 181) X495.here hx (hb hby at_179) rfl rfl ?_
      refine s_ifY (pc' := 202) X495.here hx (hb hby at_181) ((if0 _ _).trans (teq (by decide)).1) (by decide) (by decide) ?_
      refine s_iload (pc' := 204) X495.here hx (hb hby at_202) rfl rfl ?_
      refine s_iconst (pc' := 205) (v := 2) X495.here hx (hb hby at_204) rfl rfl ?_
      refine s_icmpN (pc' := 208) X495.here hx (hb hby at_205) rfl (flt (by decide)).1 ?_
      refine s_iload (pc' := 210) X495.here hx (hb hby at_208) rfl rfl ?_
      refine s_ifY (pc' := 231) X495.here hx (hb hby at_210) ((if0 _ _).trans (teq (by decide)).1) (by decide) (by decide) ?_
      refine s_iload (pc' := 233) X495.here hx (hb hby at_231) rfl rfl ?_
      refine s_iconst (pc' := 234) (v := 3) X495.here hx (hb hby at_233) rfl rfl ?_
      refine s_icmpN (pc' := 237) X495.here hx (hb hby at_234) rfl (flt (by decide)).1 ?_
      refine s_iload (pc' := 239) X495.here hx (hb hby at_237) rfl rfl ?_
      refine s_ifY (pc' := 260) X495.here hx (hb hby at_239) ((if0 _ _).trans (teq (by decide)).1) (by decide) (by decide) ?_
      refine s_iload (pc' := 262) X495.here hx (hb hby at_260) rfl rfl ?_
      refine s_iconst (pc' := 263) (v := 4) X495.here hx (hb hby at_262) rfl rfl ?_
      refine s_icmpN (pc' := 266) X495.here hx (hb hby at_263) rfl (flt (by decide)).1 ?_
      refine s_iload (pc' := 268) X495.here hx (hb hby at_266) rfl rfl ?_
      refine s_ifY (pc' := 289) X495.here hx (hb hby at_268) ((if0 _ _).trans (teq (by decide)).1) (by decide) (by decide) ?_
      refine s_dload (pc' := 291) X495.here hx (hb hby at_289) rfl rfl ?_
      refine s_dload (pc' := 293) X495.here hx (hb hby at_291) rfl rfl ?_
      refine s_dcmpl (pc' := 294) (z := 0) X495.here hx (hb hby at_293) rfl (by rw [← hmm]; exact fin_40000 nd) ?_
      refine s_ifN (pc' := 297) X495.here hx (hb hby at_294) rfl ((if0 _ _).trans (teq (by decide)).2) ?_
      refine s_iconst (pc' := 298) (v := 1) X495.here hx (hb hby at_297) rfl rfl ?_
      refine s_goto (pc' := 302) X495.here hx (hb hby at_298) (by decide) (by decide) ?_
      obtain ⟨fs, hr, hrun, hended, hW, hsame⟩ := X495.leave (v := (some (.int 1))) (fun h => by rw [Bd.returns] at h; cases h)
      refine Go.fin (retN X495 hx (t := .boolean) Bd.returns (by simp) (hb hby at_302) hr) (hF _ _ hrun hended ⟨_, _, rfl, ?_, ⟨_, rfl⟩, hW, hsame.mono (by decide) (by decide)⟩)
      ·
       show QL Z p0 p1 p2 p3 h0 n0 ((some (.int 1)) : Option Value) T495.heap _
       rw [hE495]
       exact ⟨rfl, N495⟩
     ·
      show Go p.tables e below Kx _ (mkF m 75 _ [])
      refine s_iload (pc' := 77) X0.here hx (hb hby at_75) rfl rfl ?_
      obtain ⟨T496, h496, k496, X496, e496, E496, A496, st496⟩ := newP X0 hx hZ (hv hw 1 rfl) e0 (g := (mkF m 77 #[vi p0, vi p1, vi p2, vi p3, vi 4, vi rc, vi 0, vi 0, vi 0, vi 1, un, un, un, un, un, un, un, un, un] [(.int 4)])) rfl (hb hby at_77) rfl (by decide) (cap := 4) (by decide) (by decide) (by decide) (by decide)
      obtain ⟨b496, g496⟩ : ∃ z, z = h0.size := ⟨_, rfl⟩
      rw [← g496] at A496 st496
      have sz496 : h0.size ≤ b496 := Nat.le_trans K0.1 (Nat.le_of_eq g496.symm)
      have ge496 : n0 ≤ b496 := Nat.le_trans (X00.1 ▸ X00.2.1) (Nat.le_of_eq g496.symm)
      have K496 : Keep h0 h496 [] := K0.ext E496
      have O496 : Old Z n0 h496 := X00.ext E496
      have V496 : Arv Z h496 b496 k496 .boolean 4 [(.int 0), (.int 0), (.int 0), (.int 0)] (.int 0) := (Arv.new A496 (by decide)).pad (pad_rep [] (.int 0) 4)
      refine Go.st st496 ?_
      show Go p.tables e below Kx _ (mkF m 79 _ [(.ref b496)])
      refine s_astore (pc' := 81) (Ls' := #[vi p0, vi p1, vi p2, vi p3, vi 4, vi rc, vi 0, vi 0, vi 0, vi 1, vr b496, un, un, un, un, un, un, un, un]) X496.here hx (hb hby at_79) rfl rfl rfl ?_
      refine s_iload (pc' := 83) X496.here hx (hb hby at_81) rfl rfl ?_
      refine s_iconst (pc' := 84) (v := 1) X496.here hx (hb hby at_83) rfl rfl ?_
      refine s_icmpN (pc' := 87) X496.here hx (hb hby at_84) rfl (flt (by decide)).1 ?_
      refine s_aload (pc' := 89) X496.here hx (hb hby at_87) rfl rfl rfl ?_
      refine s_iconst (pc' := 90) (v := 0) X496.here hx (hb hby at_89) rfl rfl ?_
      refine s_iload (pc' := 92) X496.here hx (hb hby at_90) rfl rfl ?_
      obtain ⟨cl497, Ar497, Aq497, As497, An497, Ah497, Ag497⟩ := id V496
      have in498 := inb_of (j := 0) As497 (by decide)
      obtain ⟨T498, h498, X498, e498, W498, st498⟩ := stZ X496 hx hZ e496 Ar497 (j := 0) in498 (g := (mkF m 92 #[vi p0, vi p1, vi p2, vi p3, vi 4, vi rc, vi 0, vi 0, vi 0, vi 1, vr b496, un, un, un, un, un, un, un, un] [(.int 0), (.int 0), (.ref b496)])) rfl rfl (hb hby at_92)
      have V498 : Arv Z h498 b496 k496 .boolean 4 [(.int 0), (.int 0), (.int 0), (.int 0)] (.int 0) := by
       have q := Arv.set Ar497 Aq497 As497 An497 Ah497 Ag497 (fits_nar_bool _) W498 0 rfl (Nat.le_of_ble_eq_true rfl)
       rw [show nar .boolean 0 = 0 from by decide] at q; exact q
      have K498 : Keep h0 h498 [] := K496.wr W498 (Or.inr sz496)
      have O498 : Old Z n0 h498 := O496.wr W498 ge496
      have N498 := Fr.snoc X498 N0 ge496
      refine Go.st st498 ?_
      show Go p.tables e below Kx _ (mkF m 93 _ [])
      refine s_iload (pc' := 95) X498.here hx (hb hby at_93) rfl rfl ?_
      refine s_iconst (pc' := 96) (v := 2) X498.here hx (hb hby at_95) rfl rfl ?_
      refine s_icmpN (pc' := 99) X498.here hx (hb hby at_96) rfl (flt (by decide)).1 ?_
      refine s_aload (pc' := 101) X498.here hx (hb hby at_99) rfl rfl rfl ?_
      refine s_iconst (pc' := 102) (v := 1) X498.here hx (hb hby at_101) rfl rfl ?_
      refine s_iload (pc' := 104) X498.here hx (hb hby at_102) rfl rfl ?_
      obtain ⟨cl499, Ar499, Aq499, As499, An499, Ah499, Ag499⟩ := id V498
      have in500 := inb_of (j := 1) As499 (by decide)
      obtain ⟨T500, h500, X500, e500, W500, st500⟩ := stZ X498 hx hZ e498 Ar499 (j := 1) in500 (g := (mkF m 104 #[vi p0, vi p1, vi p2, vi p3, vi 4, vi rc, vi 0, vi 0, vi 0, vi 1, vr b496, un, un, un, un, un, un, un, un] [(.int 0), (.int 1), (.ref b496)])) rfl rfl (hb hby at_104)
      have V500 : Arv Z h500 b496 k496 .boolean 4 [(.int 0), (.int 0), (.int 0), (.int 0)] (.int 0) := by
       have q := Arv.set Ar499 Aq499 As499 An499 Ah499 Ag499 (fits_nar_bool _) W500 1 rfl (Nat.le_of_ble_eq_true rfl)
       rw [show nar .boolean 0 = 0 from by decide] at q; exact q
      have K500 : Keep h0 h500 [] := K498.wr W500 (Or.inr sz496)
      have O500 : Old Z n0 h500 := O498.wr W500 ge496
      have N500 := Fr.snoc X500 N498 ge496
      refine Go.st st500 ?_
      show Go p.tables e below Kx _ (mkF m 105 _ [])
      refine s_iload (pc' := 107) X500.here hx (hb hby at_105) rfl rfl ?_
      refine s_iconst (pc' := 108) (v := 3) X500.here hx (hb hby at_107) rfl rfl ?_
      refine s_icmpN (pc' := 111) X500.here hx (hb hby at_108) rfl (flt (by decide)).1 ?_
      refine s_aload (pc' := 113) X500.here hx (hb hby at_111) rfl rfl rfl ?_
      refine s_iconst (pc' := 114) (v := 2) X500.here hx (hb hby at_113) rfl rfl ?_
      refine s_iload (pc' := 116) X500.here hx (hb hby at_114) rfl rfl ?_
      obtain ⟨cl501, Ar501, Aq501, As501, An501, Ah501, Ag501⟩ := id V500
      have in502 := inb_of (j := 2) As501 (by decide)
      obtain ⟨T502, h502, X502, e502, W502, st502⟩ := stZ X500 hx hZ e500 Ar501 (j := 2) in502 (g := (mkF m 116 #[vi p0, vi p1, vi p2, vi p3, vi 4, vi rc, vi 0, vi 0, vi 0, vi 1, vr b496, un, un, un, un, un, un, un, un] [(.int 0), (.int 2), (.ref b496)])) rfl rfl (hb hby at_116)
      have V502 : Arv Z h502 b496 k496 .boolean 4 [(.int 0), (.int 0), (.int 0), (.int 0)] (.int 0) := by
       have q := Arv.set Ar501 Aq501 As501 An501 Ah501 Ag501 (fits_nar_bool _) W502 2 rfl (Nat.le_of_ble_eq_true rfl)
       rw [show nar .boolean 0 = 0 from by decide] at q; exact q
      have K502 : Keep h0 h502 [] := K500.wr W502 (Or.inr sz496)
      have O502 : Old Z n0 h502 := O500.wr W502 ge496
      have N502 := Fr.snoc X502 N500 ge496
      refine Go.st st502 ?_
      show Go p.tables e below Kx _ (mkF m 117 _ [])
      refine s_iload (pc' := 119) X502.here hx (hb hby at_117) rfl rfl ?_
      refine s_iconst (pc' := 120) (v := 4) X502.here hx (hb hby at_119) rfl rfl ?_
      refine s_icmpN (pc' := 123) X502.here hx (hb hby at_120) rfl (flt (by decide)).1 ?_
      refine s_aload (pc' := 125) X502.here hx (hb hby at_123) rfl rfl rfl ?_
      refine s_iconst (pc' := 126) (v := 3) X502.here hx (hb hby at_125) rfl rfl ?_
      refine s_iload (pc' := 128) X502.here hx (hb hby at_126) rfl rfl ?_
      obtain ⟨cl503, Ar503, Aq503, As503, An503, Ah503, Ag503⟩ := id V502
      have in504 := inb_of (j := 3) As503 (by decide)
      obtain ⟨T504, h504, X504, e504, W504, st504⟩ := stZ X502 hx hZ e502 Ar503 (j := 3) in504 (g := (mkF m 128 #[vi p0, vi p1, vi p2, vi p3, vi 4, vi rc, vi 0, vi 0, vi 0, vi 1, vr b496, un, un, un, un, un, un, un, un] [(.int 1), (.int 3), (.ref b496)])) rfl rfl (hb hby at_128)
      have V504 : Arv Z h504 b496 k496 .boolean 4 [(.int 0), (.int 0), (.int 0), (.int 1)] (.int 0) := by
       have q := Arv.set Ar503 Aq503 As503 An503 Ah503 Ag503 (fits_nar_bool _) W504 3 rfl (Nat.le_of_ble_eq_true rfl)
       rw [show nar .boolean 1 = 1 from by decide] at q; exact q
      have K504 : Keep h0 h504 [] := K502.wr W504 (Or.inr sz496)
      have O504 : Old Z n0 h504 := O502.wr W504 ge496
      have N504 := Fr.snoc X504 N502 ge496
      refine Go.st st504 ?_
      show Go p.tables e below Kx _ (mkF m 129 _ [])
      obtain ⟨T505, h505, X505, e505, E505, A505, D505, -, st505⟩ := newO X504 hx hZ hown (hv hw 2 rfl) (hv hw 3 rfl) (hv hw 4 rfl) e504 (g := (mkF m 129 #[vi p0, vi p1, vi p2, vi p3, vi 4, vi rc, vi 0, vi 0, vi 0, vi 1, vr b496, un, un, un, un, un, un, un, un] [])) rfl (hb hby at_129) (by decide) (by decide)
      obtain ⟨b505, g505⟩ : ∃ z, z = h504.size := ⟨_, rfl⟩
      rw [← g505] at A505 D505 st505
      have sz505 : h0.size ≤ b505 := Nat.le_trans K504.1 (Nat.le_of_eq g505.symm)
      have ge505 : n0 ≤ b505 := Nat.le_trans (O504.1 ▸ O504.2.1) (Nat.le_of_eq g505.symm)
      have K505 : Keep h0 h505 [] := K504.ext E505
      have O505 : Old Z n0 h505 := O504.ext E505
      have F505_relevantWithin : Fld Z h505 b505 "com/example/kingfisher/kingfisher/eval/TopicRanking" "relevantWithin" "[I" .null := D505 (Or.inr (hv hw 13 rfl)) (ty := (.array .int)) (by decide)
      have F505_relevantCount : Fld Z h505 b505 "com/example/kingfisher/kingfisher/eval/TopicRanking" "relevantCount" "I" (.int 0) := D505 (Or.inr (hv hw 15 rfl)) (ty := .int) (by decide)
      refine Go.st st505 ?_
      show Go p.tables e below Kx _ (mkF m 132 _ [(.ref b505)])
      refine s_dup (pc' := 133) X505.here hx (hb hby at_132) rfl rfl ?_
      refine s_aload (pc' := 135) X505.here hx (hb hby at_133) rfl rfl rfl ?_
      refine s_iload (pc' := 137) X505.here hx (hb hby at_135) rfl rfl ?_
      have f506 : Arv Z h505 b496 k496 .boolean 4 [(.int 0), (.int 0), (.int 0), (.int 1)] (.int 0) := (V504.ext E505)
      obtain ⟨_, _, ⟨T507, L507, k507, n507⟩, -, X507, ⟨Lc507, hQ507, l507, y507, z507⟩, st507⟩ := X505.specialBack hx (y := yN0) rfl hown (mvT hZ (hv hw 5 rfl)) (mvT hZ (hv hw 6 rfl)) (mvT hZ (hv hw 7 rfl)) (by decide) (backOf (W := 1) (rmN4 l Z a0 hw [] b505 b496 k496 0 0 0 1 0 0 0 1 rc h505 n0 O505 ge505 (Nat.ne_of_lt (Nat.lt_of_lt_of_le (Nat.lt_of_lt_of_le A496.lt (Nat.le_trans (Nat.le_trans (Nat.le_trans (Nat.le_of_eq W498.size.symm) (Nat.le_of_eq W500.size.symm)) (Nat.le_of_eq W502.size.symm)) (Nat.le_of_eq W504.size.symm))) (Nat.le_of_eq g505.symm))) A505 F505_relevantWithin F505_relevantCount f506 (by decide) (by decide) (by decide) (by decide)) hZ (hv hw 7 rfl) (hv hw 4 rfl) (by decide) (by decide)) (g := (mkF m 137 #[vi p0, vi p1, vi p2, vi p3, vi 4, vi rc, vi 0, vi 0, vi 0, vi 1, vr b496, un, un, un, un, un, un, un, un] [(.int rc), (.ref b496), (.ref b505), (.ref b505)])) rfl (by rw [hml]; rfl) (Steps.refl _) (a := b505) (argsL := [(.ref b496), (.int rc)]) (rest := [(.ref b505)]) (lenOf pd_2 rfl) rfl (by exact Nat.le_of_eq rfl) (hb hby at_137) (fun _ _ => ⟨rfl, e505, (by decide : 2 + 1 ≤ _), (by decide : 6 + 5 ≤ _)⟩)
      dsimp only [Pt.U, Pt.locs, Pt.cells, Pt.slots] at X507 l507 y507 z507 st507 hQ507
      rw [l507, y507, z507] at X507
      obtain ⟨rfl, Nq507, Kq507, q1_507, q2_507, t507, kt507, q3_507, q4_507⟩ := hQ507
      have N507 := Fr.app N504 Nq507
      have K507 : Keep h0 T507.heap [] := K505.trans Kq507 (allS (P := fun zz => zz ∈ [] ∨ h0.size ≤ zz) (Or.inr sz505) all0)
      have O507 : Old Z n0 T507.heap := O505.keep Kq507 (allS ge505 all0)
      refine Go.tr st507 ?_
      show Go p.tables e below Kx _ (mkF m 140 _ [(.ref b505)])
      refine s_astore (pc' := 142) (Ls' := #[vi p0, vi p1, vi p2, vi p3, vi 4, vi rc, vi 0, vi 0, vi 0, vi 1, vr b496, vr b505, un, un, un, un, un, un, un]) X507.here hx (hb hby at_140) rfl rfl rfl ?_
      refine s_aload (pc' := 144) X507.here hx (hb hby at_142) rfl rfl rfl ?_
      refine s_iloadN (pc' := 145) X507.here hx (hb hby at_144) rfl rfl ?_
      obtain ⟨cq508, kq508, q508a, q508b, q508c⟩ := isOf hZ rfl q1_507
      obtain ⟨_, _, ⟨T508, L508, k508, n508⟩, -, X508, ⟨Lc508, hQ508, l508, y508, z508⟩, st508⟩ := X507.virtualBack hx (y := yN1) (z := yN1) hown (mvT hZ (hv hw 16 rfl)) (mvT hZ (hv hw 17 rfl)) (notFace_of_selects (args := #[]) (mvT hZ (hv hw 19 rfl))) (mvT hZ (hv hw 19 rfl)) (mvT hZ (hv hw 18 rfl)) (by decide) (backOf (W := 0) (rmA4 l Z a0 hw [] b505 t507 kt507 0 0 0 1 rc p2 T507.heap n0 O507 hrc q1_507 q3_507 q2_507 q4_507) hZ (hv hw 20 rfl) (hv hw 4 rfl) (by decide) (by decide)) q508a q508c (g := (mkF m 145 #[vi p0, vi p1, vi p2, vi p3, vi 4, vi rc, vi 0, vi 0, vi 0, vi 1, vr b496, vr b505, un, un, un, un, un, un, un] [(.int p2), (.ref b505)])) rfl (by rw [hml]; rfl) (Steps.refl _) (argsL := [(.int p2)]) (rest := []) (lenOf pd_3 rfl) rfl (by exact Nat.le_of_eq rfl) (hb hby at_145) (fun _ _ => ⟨rfl, rfl, (by decide : 3 + 0 ≤ _), (by decide : 11 + 0 ≤ _)⟩)
      dsimp only [Pt.U, Pt.locs, Pt.cells, Pt.slots] at X508 l508 y508 z508 st508 hQ508
      rw [l508, y508, z508] at X508
      obtain ⟨rfl, Nq508, hE508⟩ := hQ508
      have N508 := Fr.app N507 Nq508
      refine Go.tr st508 ?_
      show Go p.tables e below Kx _ (mkF m 148 _ [(.double (mst (mst (mst (mst FP.dconst0 0 1 (needd p2 rc)) 0 2 (needd p2 rc)) 0 3 (needd p2 rc)) 1 4 (needd p2 rc)))])
      refine s_dstore (pc' := 150) (Ls' := #[vi p0, vi p1, vi p2, vi p3, vi 4, vi rc, vi 0, vi 0, vi 0, vi 1, vr b496, vr b505, .val (.double (mst (mst (mst (mst FP.dconst0 0 1 (needd p2 rc)) 0 2 (needd p2 rc)) 0 3 (needd p2 rc)) 1 4 (needd p2 rc))), sn, un, un, un, un, un]) X508.here hx (hb hby at_148) rfl  rfl ?_
      refine s_iloadN (pc' := 151) X508.here hx (hb hby at_150) rfl rfl ?_
      refine s_i2d (pc' := 152) X508.here hx (hb hby at_151) rfl rfl ?_
      refine Go.st (X508.ldc2DoubleC hx hown (mvT hZ (hv hw 28 rfl)) (g := (mkF m 152 #[vi p0, vi p1, vi p2, vi p3, vi 4, vi rc, vi 0, vi 0, vi 0, vi 1, vr b496, vr b505, .val (.double (mst (mst (mst (mst FP.dconst0 0 1 (needd p2 rc)) 0 2 (needd p2 rc)) 0 3 (needd p2 rc)) 1 4 (needd p2 rc))), sn, un, un, un, un, un] [(.double (FP.i2d p2))])) rfl (hb hby at_152)) ?_
      show Go p.tables e below Kx _ (mkF m 155 _ [(.double (4621819117588971520 : UInt64)), (.double (FP.i2d p2))])
      refine s_ddiv (pc' := 156) X508.here hx (hb hby at_155) rfl (nn1 p2) rfl ?_
      refine s_iload (pc' := 158) X508.here hx (hb hby at_156) rfl rfl ?_
      refine s_i2d (pc' := 159) X508.here hx (hb hby at_158) rfl rfl ?_
      refine s_dmul (pc' := 160) X508.here hx (hb hby at_159) rfl (nn2 p2 hrc) rfl ?_
      refine Go.st (X508.ldc2DoubleC hx hown (mvT hZ (hv hw 29 rfl)) (g := (mkF m 160 #[vi p0, vi p1, vi p2, vi p3, vi 4, vi rc, vi 0, vi 0, vi 0, vi 1, vr b496, vr b505, .val (.double (mst (mst (mst (mst FP.dconst0 0 1 (needd p2 rc)) 0 2 (needd p2 rc)) 0 3 (needd p2 rc)) 1 4 (needd p2 rc))), sn, un, un, un, un, un] [(.double (FP.dmul (FP.ddiv (FP.i2d p2) (4621819117588971520 : UInt64)) (FP.i2d rc)))])) rfl (hb hby at_160)) ?_
      show Go p.tables e below Kx _ (mkF m 163 _ [(.double (4606281698874543309 : UInt64)), (.double (FP.dmul (FP.ddiv (FP.i2d p2) (4621819117588971520 : UInt64)) (FP.i2d rc)))])
      refine s_dadd (pc' := 164) X508.here hx (hb hby at_163) rfl (nn3 p2 hrc) rfl ?_
      refine s_d2l (pc' := 165) (z := needd p2 rc) X508.here hx (hb hby at_164) rfl rfl ?_
      show Go p.tables e below Kx _ (mkF m 165 _ [(.long (needd p2 rc))])
      generalize (needd p2 rc) = nd
      generalize hmm : (mst (mst (mst (mst FP.dconst0 0 1 nd) 0 2 nd) 0 3 nd) 1 4 nd) = mm
      show Go p.tables e below Kx _ (mkF m 165 _ [(.long nd)])
      refine s_lstore (pc' := 167) (Ls' := #[vi p0, vi p1, vi p2, vi p3, vi 4, vi rc, vi 0, vi 0, vi 0, vi 1, vr b496, vr b505, .val (.double mm), sn, .val (.long nd), sn, un, un, un]) X508.here hx (hb hby at_165) rfl  rfl ?_
      refine s_dconst0 (pc' := 168) X508.here hx (hb hby at_167) rfl rfl ?_
      refine s_dstore (pc' := 170) (Ls' := #[vi p0, vi p1, vi p2, vi p3, vi 4, vi rc, vi 0, vi 0, vi 0, vi 1, vr b496, vr b505, .val (.double mm), sn, .val (.long nd), sn, .val (.double FP.dconst0), sn, un]) X508.here hx (hb hby at_168) rfl  rfl ?_
      refine s_iconst (pc' := 171) (v := 0) X508.here hx (hb hby at_170) rfl rfl ?_
      refine s_istore (pc' := 173) (Ls' := #[vi p0, vi p1, vi p2, vi p3, vi 4, vi rc, vi 0, vi 0, vi 0, vi 1, vr b496, vr b505, .val (.double mm), sn, .val (.long nd), sn, .val (.double FP.dconst0), sn, vi 0]) X508.here hx (hb hby at_171) rfl  rfl ?_
      refine s_iload (pc' := 175) X508.here hx (hb hby at_173) rfl rfl ?_
      refine s_iconst (pc' := 176) (v := 1) X508.here hx (hb hby at_175) rfl rfl ?_
      refine s_icmpN (pc' := 179) X508.here hx (hb hby at_176) rfl (flt (by decide)).1 ?_
      refine s_iload (pc' := 181) X508.here hx (hb hby at_179) rfl rfl ?_
      refine s_ifY (pc' := 202) X508.here hx (hb hby at_181) ((if0 _ _).trans (teq (by decide)).1) (by decide) (by decide) ?_
      refine s_iload (pc' := 204) X508.here hx (hb hby at_202) rfl rfl ?_
      refine s_iconst (pc' := 205) (v := 2) X508.here hx (hb hby at_204) rfl rfl ?_
      refine s_icmpN (pc' := 208) X508.here hx (hb hby at_205) rfl (flt (by decide)).1 ?_
      refine s_iload (pc' := 210) X508.here hx (hb hby at_208) rfl rfl ?_
      refine s_ifY (pc' := 231) X508.here hx (hb hby at_210) ((if0 _ _).trans (teq (by decide)).1) (by decide) (by decide) ?_
      refine s_iload (pc' := 233) X508.here hx (hb hby at_231) rfl rfl ?_
      refine s_iconst (pc' := 234) (v := 3) X508.here hx (hb hby at_233) rfl rfl ?_
      refine s_icmpN (pc' := 237) X508.here hx (hb hby at_234) rfl (flt (by decide)).1 ?_
      refine s_iload (pc' := 239) X508.here hx (hb hby at_237) rfl rfl ?_
      refine s_ifY (pc' := 260) X508.here hx (hb hby at_239) ((if0 _ _).trans (teq (by decide)).1) (by decide) (by decide) ?_
      refine s_iload (pc' := 262) X508.here hx (hb hby at_260) rfl rfl ?_
      refine s_iconst (pc' := 263) (v := 4) X508.here hx (hb hby at_262) rfl rfl ?_
      refine s_icmpN (pc' := 266) X508.here hx (hb hby at_263) rfl (flt (by decide)).1 ?_
      refine s_iload (pc' := 268) X508.here hx (hb hby at_266) rfl rfl ?_
      refine s_ifN (pc' := 271) X508.here hx (hb hby at_268) rfl ((if0 _ _).trans (feq (by decide)).1) ?_
      refine s_iload (pc' := 273) X508.here hx (hb hby at_271) rfl rfl ?_
      refine s_iconst (pc' := 274) (v := 1) X508.here hx (hb hby at_273) rfl rfl ?_
      refine s_iadd (pc' := 275) (z := 1) X508.here hx (hb hby at_274) rfl (by decide) ?_
      refine s_istore (pc' := 277) (Ls' := #[vi p0, vi p1, vi p2, vi p3, vi 4, vi rc, vi 0, vi 0, vi 0, vi 1, vr b496, vr b505, .val (.double mm), sn, .val (.long nd), sn, .val (.double FP.dconst0), sn, vi 1]) X508.here hx (hb hby at_275) rfl  rfl ?_
      refine s_dload (pc' := 279) X508.here hx (hb hby at_277) rfl rfl ?_
      refine s_iload (pc' := 281) X508.here hx (hb hby at_279) rfl rfl ?_
      refine s_iconst (pc' := 282) (v := 4) X508.here hx (hb hby at_281) rfl rfl ?_
      refine s_lload (pc' := 284) X508.here hx (hb hby at_282) rfl rfl ?_
      obtain ⟨_, _, ⟨T509, L509, k509, n509⟩, -, X509, ⟨Lc509, hQ509, l509, y509, z509⟩, st509⟩ := Jvm.LawKit.callS X508 hx (y := yN3) hown (mvT hZ (hv hw 30 rfl)) (mvT hZ (hv hw 31 rfl)) (mvT hZ (hv hw 32 rfl)) (mvT hZ (hv hw 33 rfl)) (by decide) (backOf (W := 0) (rmB l Z a0 hw [] FP.dconst0 1 4 nd T507.heap n0 O507 (by decide)) hZ (hv hw 33 rfl) (hv hw 32 rfl) (by decide) (by decide)) (g := (mkF m 284 #[vi p0, vi p1, vi p2, vi p3, vi 4, vi rc, vi 0, vi 0, vi 0, vi 1, vr b496, vr b505, .val (.double mm), sn, .val (.long nd), sn, .val (.double FP.dconst0), sn, vi 1] [(.long nd), (.int 4), (.int 1), (.double FP.dconst0)])) rfl (by rw [hml]; rfl) (argsL := [(.double FP.dconst0), (.int 1), (.int 4), (.long nd)]) (rest := []) (lenOf pd_4 rfl) rfl (by exact Nat.le_of_eq rfl) (hb hby at_284) (fun _ _ => ⟨rfl, hE508, (by decide : 3 + 0 ≤ _), (by decide : 11 + 0 ≤ _)⟩)
      dsimp only [Pt.U, Pt.locs, Pt.cells, Pt.slots] at X509 l509 y509 z509 st509 hQ509
      rw [l509, y509, z509] at X509
      obtain ⟨rfl, Nq509, hE509⟩ := hQ509
      have N509 := Fr.app N508 Nq509
      refine Go.st st509 ?_
      show Go p.tables e below Kx _ (mkF m 287 _ [(.double (bst FP.dconst0 1 4 nd))])
      refine s_dstore (pc' := 289) (Ls' := #[vi p0, vi p1, vi p2, vi p3, vi 4, vi rc, vi 0, vi 0, vi 0, vi 1, vr b496, vr b505, .val (.double mm), sn, .val (.long nd), sn, .val (.double (bst FP.dconst0 1 4 nd)), sn, vi 1]) X509.here hx (hb hby at_287) rfl  rfl ?_
      refine s_dload (pc' := 291) X509.here hx (hb hby at_289) rfl rfl ?_
      refine s_dload (pc' := 293) X509.here hx (hb hby at_291) rfl rfl ?_
      refine s_dcmpl (pc' := 294) (z := 0) X509.here hx (hb hby at_293) rfl (by rw [← hmm]; exact fin_40001 nd) ?_
      refine s_ifN (pc' := 297) X509.here hx (hb hby at_294) rfl ((if0 _ _).trans (teq (by decide)).2) ?_
      refine s_iconst (pc' := 298) (v := 1) X509.here hx (hb hby at_297) rfl rfl ?_
      refine s_goto (pc' := 302) X509.here hx (hb hby at_298) (by decide) (by decide) ?_
      obtain ⟨fs, hr, hrun, hended, hW, hsame⟩ := X509.leave (v := (some (.int 1))) (fun h => by rw [Bd.returns] at h; cases h)
      refine Go.fin (retN X509 hx (t := .boolean) Bd.returns (by simp) (hb hby at_302) hr) (hF _ _ hrun hended ⟨_, _, rfl, ?_, ⟨_, rfl⟩, hW, hsame.mono (by decide) (by decide)⟩)
      ·
       show QL Z p0 p1 p2 p3 h0 n0 ((some (.int 1)) : Option Value) T509.heap _
       rw [hE509]
       exact ⟨rfl, N509⟩
    ·
     rcases hx4 with rfl | rfl
     ·
      show Go p.tables e below Kx _ (mkF m 75 _ [])
      refine s_iload (pc' := 77) X0.here hx (hb hby at_75) rfl rfl ?_
      obtain ⟨T510, h510, k510, X510, e510, E510, A510, st510⟩ := newP X0 hx hZ (hv hw 1 rfl) e0 (g := (mkF m 77 #[vi p0, vi p1, vi p2, vi p3, vi 4, vi rc, vi 0, vi 0, vi 1, vi 0, un, un, un, un, un, un, un, un, un] [(.int 4)])) rfl (hb hby at_77) rfl (by decide) (cap := 4) (by decide) (by decide) (by decide) (by decide)
      obtain ⟨b510, g510⟩ : ∃ z, z = h0.size := ⟨_, rfl⟩
      rw [← g510] at A510 st510
      have sz510 : h0.size ≤ b510 := Nat.le_trans K0.1 (Nat.le_of_eq g510.symm)
      have ge510 : n0 ≤ b510 := Nat.le_trans (X00.1 ▸ X00.2.1) (Nat.le_of_eq g510.symm)
      have K510 : Keep h0 h510 [] := K0.ext E510
      have O510 : Old Z n0 h510 := X00.ext E510
      have V510 : Arv Z h510 b510 k510 .boolean 4 [(.int 0), (.int 0), (.int 0), (.int 0)] (.int 0) := (Arv.new A510 (by decide)).pad (pad_rep [] (.int 0) 4)
      refine Go.st st510 ?_
      show Go p.tables e below Kx _ (mkF m 79 _ [(.ref b510)])
      refine s_astore (pc' := 81) (Ls' := #[vi p0, vi p1, vi p2, vi p3, vi 4, vi rc, vi 0, vi 0, vi 1, vi 0, vr b510, un, un, un, un, un, un, un, un]) X510.here hx (hb hby at_79) rfl rfl rfl ?_
      refine s_iload (pc' := 83) X510.here hx (hb hby at_81) rfl rfl ?_
      refine s_iconst (pc' := 84) (v := 1) X510.here hx (hb hby at_83) rfl rfl ?_
      refine s_icmpN (pc' := 87) X510.here hx (hb hby at_84) rfl (flt (by decide)).1 ?_
      refine s_aload (pc' := 89) X510.here hx (hb hby at_87) rfl rfl rfl ?_
      refine s_iconst (pc' := 90) (v := 0) X510.here hx (hb hby at_89) rfl rfl ?_
      refine s_iload (pc' := 92) X510.here hx (hb hby at_90) rfl rfl ?_
      obtain ⟨cl511, Ar511, Aq511, As511, An511, Ah511, Ag511⟩ := id V510
      have in512 := inb_of (j := 0) As511 (by decide)
      obtain ⟨T512, h512, X512, e512, W512, st512⟩ := stZ X510 hx hZ e510 Ar511 (j := 0) in512 (g := (mkF m 92 #[vi p0, vi p1, vi p2, vi p3, vi 4, vi rc, vi 0, vi 0, vi 1, vi 0, vr b510, un, un, un, un, un, un, un, un] [(.int 0), (.int 0), (.ref b510)])) rfl rfl (hb hby at_92)
      have V512 : Arv Z h512 b510 k510 .boolean 4 [(.int 0), (.int 0), (.int 0), (.int 0)] (.int 0) := by
       have q := Arv.set Ar511 Aq511 As511 An511 Ah511 Ag511 (fits_nar_bool _) W512 0 rfl (Nat.le_of_ble_eq_true rfl)
       rw [show nar .boolean 0 = 0 from by decide] at q; exact q
      have K512 : Keep h0 h512 [] := K510.wr W512 (Or.inr sz510)
      have O512 : Old Z n0 h512 := O510.wr W512 ge510
      have N512 := Fr.snoc X512 N0 ge510
      refine Go.st st512 ?_
      show Go p.tables e below Kx _ (mkF m 93 _ [])
      refine s_iload (pc' := 95) X512.here hx (hb hby at_93) rfl rfl ?_
      refine s_iconst (pc' := 96) (v := 2) X512.here hx (hb hby at_95) rfl rfl ?_
      refine s_icmpN (pc' := 99) X512.here hx (hb hby at_96) rfl (flt (by decide)).1 ?_
      refine s_aload (pc' := 101) X512.here hx (hb hby at_99) rfl rfl rfl ?_
      refine s_iconst (pc' := 102) (v := 1) X512.here hx (hb hby at_101) rfl rfl ?_
      refine s_iload (pc' := 104) X512.here hx (hb hby at_102) rfl rfl ?_
      obtain ⟨cl513, Ar513, Aq513, As513, An513, Ah513, Ag513⟩ := id V512
      have in514 := inb_of (j := 1) As513 (by decide)
      obtain ⟨T514, h514, X514, e514, W514, st514⟩ := stZ X512 hx hZ e512 Ar513 (j := 1) in514 (g := (mkF m 104 #[vi p0, vi p1, vi p2, vi p3, vi 4, vi rc, vi 0, vi 0, vi 1, vi 0, vr b510, un, un, un, un, un, un, un, un] [(.int 0), (.int 1), (.ref b510)])) rfl rfl (hb hby at_104)
      have V514 : Arv Z h514 b510 k510 .boolean 4 [(.int 0), (.int 0), (.int 0), (.int 0)] (.int 0) := by
       have q := Arv.set Ar513 Aq513 As513 An513 Ah513 Ag513 (fits_nar_bool _) W514 1 rfl (Nat.le_of_ble_eq_true rfl)
       rw [show nar .boolean 0 = 0 from by decide] at q; exact q
      have K514 : Keep h0 h514 [] := K512.wr W514 (Or.inr sz510)
      have O514 : Old Z n0 h514 := O512.wr W514 ge510
      have N514 := Fr.snoc X514 N512 ge510
      refine Go.st st514 ?_
      show Go p.tables e below Kx _ (mkF m 105 _ [])
      refine s_iload (pc' := 107) X514.here hx (hb hby at_105) rfl rfl ?_
      refine s_iconst (pc' := 108) (v := 3) X514.here hx (hb hby at_107) rfl rfl ?_
      refine s_icmpN (pc' := 111) X514.here hx (hb hby at_108) rfl (flt (by decide)).1 ?_
      refine s_aload (pc' := 113) X514.here hx (hb hby at_111) rfl rfl rfl ?_
      refine s_iconst (pc' := 114) (v := 2) X514.here hx (hb hby at_113) rfl rfl ?_
      refine s_iload (pc' := 116) X514.here hx (hb hby at_114) rfl rfl ?_
      obtain ⟨cl515, Ar515, Aq515, As515, An515, Ah515, Ag515⟩ := id V514
      have in516 := inb_of (j := 2) As515 (by decide)
      obtain ⟨T516, h516, X516, e516, W516, st516⟩ := stZ X514 hx hZ e514 Ar515 (j := 2) in516 (g := (mkF m 116 #[vi p0, vi p1, vi p2, vi p3, vi 4, vi rc, vi 0, vi 0, vi 1, vi 0, vr b510, un, un, un, un, un, un, un, un] [(.int 1), (.int 2), (.ref b510)])) rfl rfl (hb hby at_116)
      have V516 : Arv Z h516 b510 k510 .boolean 4 [(.int 0), (.int 0), (.int 1), (.int 0)] (.int 0) := by
       have q := Arv.set Ar515 Aq515 As515 An515 Ah515 Ag515 (fits_nar_bool _) W516 2 rfl (Nat.le_of_ble_eq_true rfl)
       rw [show nar .boolean 1 = 1 from by decide] at q; exact q
      have K516 : Keep h0 h516 [] := K514.wr W516 (Or.inr sz510)
      have O516 : Old Z n0 h516 := O514.wr W516 ge510
      have N516 := Fr.snoc X516 N514 ge510
      refine Go.st st516 ?_
      show Go p.tables e below Kx _ (mkF m 117 _ [])
      refine s_iload (pc' := 119) X516.here hx (hb hby at_117) rfl rfl ?_
      refine s_iconst (pc' := 120) (v := 4) X516.here hx (hb hby at_119) rfl rfl ?_
      refine s_icmpN (pc' := 123) X516.here hx (hb hby at_120) rfl (flt (by decide)).1 ?_
      refine s_aload (pc' := 125) X516.here hx (hb hby at_123) rfl rfl rfl ?_
      refine s_iconst (pc' := 126) (v := 3) X516.here hx (hb hby at_125) rfl rfl ?_
      refine s_iload (pc' := 128) X516.here hx (hb hby at_126) rfl rfl ?_
      obtain ⟨cl517, Ar517, Aq517, As517, An517, Ah517, Ag517⟩ := id V516
      have in518 := inb_of (j := 3) As517 (by decide)
      obtain ⟨T518, h518, X518, e518, W518, st518⟩ := stZ X516 hx hZ e516 Ar517 (j := 3) in518 (g := (mkF m 128 #[vi p0, vi p1, vi p2, vi p3, vi 4, vi rc, vi 0, vi 0, vi 1, vi 0, vr b510, un, un, un, un, un, un, un, un] [(.int 0), (.int 3), (.ref b510)])) rfl rfl (hb hby at_128)
      have V518 : Arv Z h518 b510 k510 .boolean 4 [(.int 0), (.int 0), (.int 1), (.int 0)] (.int 0) := by
       have q := Arv.set Ar517 Aq517 As517 An517 Ah517 Ag517 (fits_nar_bool _) W518 3 rfl (Nat.le_of_ble_eq_true rfl)
       rw [show nar .boolean 0 = 0 from by decide] at q; exact q
      have K518 : Keep h0 h518 [] := K516.wr W518 (Or.inr sz510)
      have O518 : Old Z n0 h518 := O516.wr W518 ge510
      have N518 := Fr.snoc X518 N516 ge510
      refine Go.st st518 ?_
      show Go p.tables e below Kx _ (mkF m 129 _ [])
      obtain ⟨T519, h519, X519, e519, E519, A519, D519, -, st519⟩ := newO X518 hx hZ hown (hv hw 2 rfl) (hv hw 3 rfl) (hv hw 4 rfl) e518 (g := (mkF m 129 #[vi p0, vi p1, vi p2, vi p3, vi 4, vi rc, vi 0, vi 0, vi 1, vi 0, vr b510, un, un, un, un, un, un, un, un] [])) rfl (hb hby at_129) (by decide) (by decide)
      obtain ⟨b519, g519⟩ : ∃ z, z = h518.size := ⟨_, rfl⟩
      rw [← g519] at A519 D519 st519
      have sz519 : h0.size ≤ b519 := Nat.le_trans K518.1 (Nat.le_of_eq g519.symm)
      have ge519 : n0 ≤ b519 := Nat.le_trans (O518.1 ▸ O518.2.1) (Nat.le_of_eq g519.symm)
      have K519 : Keep h0 h519 [] := K518.ext E519
      have O519 : Old Z n0 h519 := O518.ext E519
      have F519_relevantWithin : Fld Z h519 b519 "com/example/kingfisher/kingfisher/eval/TopicRanking" "relevantWithin" "[I" .null := D519 (Or.inr (hv hw 13 rfl)) (ty := (.array .int)) (by decide)
      have F519_relevantCount : Fld Z h519 b519 "com/example/kingfisher/kingfisher/eval/TopicRanking" "relevantCount" "I" (.int 0) := D519 (Or.inr (hv hw 15 rfl)) (ty := .int) (by decide)
      refine Go.st st519 ?_
      show Go p.tables e below Kx _ (mkF m 132 _ [(.ref b519)])
      refine s_dup (pc' := 133) X519.here hx (hb hby at_132) rfl rfl ?_
      refine s_aload (pc' := 135) X519.here hx (hb hby at_133) rfl rfl rfl ?_
      refine s_iload (pc' := 137) X519.here hx (hb hby at_135) rfl rfl ?_
      have f520 : Arv Z h519 b510 k510 .boolean 4 [(.int 0), (.int 0), (.int 1), (.int 0)] (.int 0) := (V518.ext E519)
      obtain ⟨_, _, ⟨T521, L521, k521, n521⟩, -, X521, ⟨Lc521, hQ521, l521, y521, z521⟩, st521⟩ := X519.specialBack hx (y := yN0) rfl hown (mvT hZ (hv hw 5 rfl)) (mvT hZ (hv hw 6 rfl)) (mvT hZ (hv hw 7 rfl)) (by decide) (backOf (W := 1) (rmN4 l Z a0 hw [] b519 b510 k510 0 0 1 0 0 0 1 1 rc h519 n0 O519 ge519 (Nat.ne_of_lt (Nat.lt_of_lt_of_le (Nat.lt_of_lt_of_le A510.lt (Nat.le_trans (Nat.le_trans (Nat.le_trans (Nat.le_of_eq W512.size.symm) (Nat.le_of_eq W514.size.symm)) (Nat.le_of_eq W516.size.symm)) (Nat.le_of_eq W518.size.symm))) (Nat.le_of_eq g519.symm))) A519 F519_relevantWithin F519_relevantCount f520 (by decide) (by decide) (by decide) (by decide)) hZ (hv hw 7 rfl) (hv hw 4 rfl) (by decide) (by decide)) (g := (mkF m 137 #[vi p0, vi p1, vi p2, vi p3, vi 4, vi rc, vi 0, vi 0, vi 1, vi 0, vr b510, un, un, un, un, un, un, un, un] [(.int rc), (.ref b510), (.ref b519), (.ref b519)])) rfl (by rw [hml]; rfl) (Steps.refl _) (a := b519) (argsL := [(.ref b510), (.int rc)]) (rest := [(.ref b519)]) (lenOf pd_2 rfl) rfl (by exact Nat.le_of_eq rfl) (hb hby at_137) (fun _ _ => ⟨rfl, e519, (by decide : 2 + 1 ≤ _), (by decide : 6 + 5 ≤ _)⟩)
      dsimp only [Pt.U, Pt.locs, Pt.cells, Pt.slots] at X521 l521 y521 z521 st521 hQ521
      rw [l521, y521, z521] at X521
      obtain ⟨rfl, Nq521, Kq521, q1_521, q2_521, t521, kt521, q3_521, q4_521⟩ := hQ521
      have N521 := Fr.app N518 Nq521
      have K521 : Keep h0 T521.heap [] := K519.trans Kq521 (allS (P := fun zz => zz ∈ [] ∨ h0.size ≤ zz) (Or.inr sz519) all0)
      have O521 : Old Z n0 T521.heap := O519.keep Kq521 (allS ge519 all0)
      refine Go.tr st521 ?_
      show Go p.tables e below Kx _ (mkF m 140 _ [(.ref b519)])
      refine s_astore (pc' := 142) (Ls' := #[vi p0, vi p1, vi p2, vi p3, vi 4, vi rc, vi 0, vi 0, vi 1, vi 0, vr b510, vr b519, un, un, un, un, un, un, un]) X521.here hx (hb hby at_140) rfl rfl rfl ?_
      refine s_aload (pc' := 144) X521.here hx (hb hby at_142) rfl rfl rfl ?_
      refine s_iloadN (pc' := 145) X521.here hx (hb hby at_144) rfl rfl ?_
      obtain ⟨cq522, kq522, q522a, q522b, q522c⟩ := isOf hZ rfl q1_521
      obtain ⟨_, _, ⟨T522, L522, k522, n522⟩, -, X522, ⟨Lc522, hQ522, l522, y522, z522⟩, st522⟩ := X521.virtualBack hx (y := yN1) (z := yN1) hown (mvT hZ (hv hw 16 rfl)) (mvT hZ (hv hw 17 rfl)) (notFace_of_selects (args := #[]) (mvT hZ (hv hw 19 rfl))) (mvT hZ (hv hw 19 rfl)) (mvT hZ (hv hw 18 rfl)) (by decide) (backOf (W := 0) (rmA4 l Z a0 hw [] b519 t521 kt521 0 0 1 1 rc p2 T521.heap n0 O521 hrc q1_521 q3_521 q2_521 q4_521) hZ (hv hw 20 rfl) (hv hw 4 rfl) (by decide) (by decide)) q522a q522c (g := (mkF m 145 #[vi p0, vi p1, vi p2, vi p3, vi 4, vi rc, vi 0, vi 0, vi 1, vi 0, vr b510, vr b519, un, un, un, un, un, un, un] [(.int p2), (.ref b519)])) rfl (by rw [hml]; rfl) (Steps.refl _) (argsL := [(.int p2)]) (rest := []) (lenOf pd_3 rfl) rfl (by exact Nat.le_of_eq rfl) (hb hby at_145) (fun _ _ => ⟨rfl, rfl, (by decide : 3 + 0 ≤ _), (by decide : 11 + 0 ≤ _)⟩)
      dsimp only [Pt.U, Pt.locs, Pt.cells, Pt.slots] at X522 l522 y522 z522 st522 hQ522
      rw [l522, y522, z522] at X522
      obtain ⟨rfl, Nq522, hE522⟩ := hQ522
      have N522 := Fr.app N521 Nq522
      refine Go.tr st522 ?_
      show Go p.tables e below Kx _ (mkF m 148 _ [(.double (mst (mst (mst (mst FP.dconst0 0 1 (needd p2 rc)) 0 2 (needd p2 rc)) 1 3 (needd p2 rc)) 1 4 (needd p2 rc)))])
      refine s_dstore (pc' := 150) (Ls' := #[vi p0, vi p1, vi p2, vi p3, vi 4, vi rc, vi 0, vi 0, vi 1, vi 0, vr b510, vr b519, .val (.double (mst (mst (mst (mst FP.dconst0 0 1 (needd p2 rc)) 0 2 (needd p2 rc)) 1 3 (needd p2 rc)) 1 4 (needd p2 rc))), sn, un, un, un, un, un]) X522.here hx (hb hby at_148) rfl  rfl ?_
      refine s_iloadN (pc' := 151) X522.here hx (hb hby at_150) rfl rfl ?_
      refine s_i2d (pc' := 152) X522.here hx (hb hby at_151) rfl rfl ?_
      refine Go.st (X522.ldc2DoubleC hx hown (mvT hZ (hv hw 28 rfl)) (g := (mkF m 152 #[vi p0, vi p1, vi p2, vi p3, vi 4, vi rc, vi 0, vi 0, vi 1, vi 0, vr b510, vr b519, .val (.double (mst (mst (mst (mst FP.dconst0 0 1 (needd p2 rc)) 0 2 (needd p2 rc)) 1 3 (needd p2 rc)) 1 4 (needd p2 rc))), sn, un, un, un, un, un] [(.double (FP.i2d p2))])) rfl (hb hby at_152)) ?_
      show Go p.tables e below Kx _ (mkF m 155 _ [(.double (4621819117588971520 : UInt64)), (.double (FP.i2d p2))])
      refine s_ddiv (pc' := 156) X522.here hx (hb hby at_155) rfl (nn1 p2) rfl ?_
      refine s_iload (pc' := 158) X522.here hx (hb hby at_156) rfl rfl ?_
      refine s_i2d (pc' := 159) X522.here hx (hb hby at_158) rfl rfl ?_
      refine s_dmul (pc' := 160) X522.here hx (hb hby at_159) rfl (nn2 p2 hrc) rfl ?_
      refine Go.st (X522.ldc2DoubleC hx hown (mvT hZ (hv hw 29 rfl)) (g := (mkF m 160 #[vi p0, vi p1, vi p2, vi p3, vi 4, vi rc, vi 0, vi 0, vi 1, vi 0, vr b510, vr b519, .val (.double (mst (mst (mst (mst FP.dconst0 0 1 (needd p2 rc)) 0 2 (needd p2 rc)) 1 3 (needd p2 rc)) 1 4 (needd p2 rc))), sn, un, un, un, un, un] [(.double (FP.dmul (FP.ddiv (FP.i2d p2) (4621819117588971520 : UInt64)) (FP.i2d rc)))])) rfl (hb hby at_160)) ?_
      show Go p.tables e below Kx _ (mkF m 163 _ [(.double (4606281698874543309 : UInt64)), (.double (FP.dmul (FP.ddiv (FP.i2d p2) (4621819117588971520 : UInt64)) (FP.i2d rc)))])
      refine s_dadd (pc' := 164) X522.here hx (hb hby at_163) rfl (nn3 p2 hrc) rfl ?_
      refine s_d2l (pc' := 165) (z := needd p2 rc) X522.here hx (hb hby at_164) rfl rfl ?_
      show Go p.tables e below Kx _ (mkF m 165 _ [(.long (needd p2 rc))])
      generalize (needd p2 rc) = nd
      generalize hmm : (mst (mst (mst (mst FP.dconst0 0 1 nd) 0 2 nd) 1 3 nd) 1 4 nd) = mm
      show Go p.tables e below Kx _ (mkF m 165 _ [(.long nd)])
      refine s_lstore (pc' := 167) (Ls' := #[vi p0, vi p1, vi p2, vi p3, vi 4, vi rc, vi 0, vi 0, vi 1, vi 0, vr b510, vr b519, .val (.double mm), sn, .val (.long nd), sn, un, un, un]) X522.here hx (hb hby at_165) rfl  rfl ?_
      refine s_dconst0 (pc' := 168) X522.here hx (hb hby at_167) rfl rfl ?_
      refine s_dstore (pc' := 170) (Ls' := #[vi p0, vi p1, vi p2, vi p3, vi 4, vi rc, vi 0, vi 0, vi 1, vi 0, vr b510, vr b519, .val (.double mm), sn, .val (.long nd), sn, .val (.double FP.dconst0), sn, un]) X522.here hx (hb hby at_168) rfl  rfl ?_
      refine s_iconst (pc' := 171) (v := 0) X522.here hx (hb hby at_170) rfl rfl ?_
      refine s_istore (pc' := 173) (Ls' := #[vi p0, vi p1, vi p2, vi p3, vi 4, vi rc, vi 0, vi 0, vi 1, vi 0, vr b510, vr b519, .val (.double mm), sn, .val (.long nd), sn, .val (.double FP.dconst0), sn, vi 0]) X522.here hx (hb hby at_171) rfl  rfl ?_
      refine s_iload (pc' := 175) X522.here hx (hb hby at_173) rfl rfl ?_
      refine s_iconst (pc' := 176) (v := 1) X522.here hx (hb hby at_175) rfl rfl ?_
      refine s_icmpN (pc' := 179) X522.here hx (hb hby at_176) rfl (flt (by decide)).1 ?_
      refine s_iload (pc' := 181) X522.here hx (hb hby at_179) rfl rfl ?_
      refine s_ifY (pc' := 202) X522.here hx (hb hby at_181) ((if0 _ _).trans (teq (by decide)).1) (by decide) (by decide) ?_
      refine s_iload (pc' := 204) X522.here hx (hb hby at_202) rfl rfl ?_
      refine s_iconst (pc' := 205) (v := 2) X522.here hx (hb hby at_204) rfl rfl ?_
      refine s_icmpN (pc' := 208) X522.here hx (hb hby at_205) rfl (flt (by decide)).1 ?_
      refine s_iload (pc' := 210) X522.here hx (hb hby at_208) rfl rfl ?_
      refine s_ifY (pc' := 231) X522.here hx (hb hby at_210) ((if0 _ _).trans (teq (by decide)).1) (by decide) (by decide) ?_
      refine s_iload (pc' := 233) X522.here hx (hb hby at_231) rfl rfl ?_
      refine s_iconst (pc' := 234) (v := 3) X522.here hx (hb hby at_233) rfl rfl ?_
      refine s_icmpN (pc' := 237) X522.here hx (hb hby at_234) rfl (flt (by decide)).1 ?_
      refine s_iload (pc' := 239) X522.here hx (hb hby at_237) rfl rfl ?_
      refine s_ifN (pc' := 242) X522.here hx (hb hby at_239) rfl ((if0 _ _).trans (feq (by decide)).1) ?_
      refine s_iload (pc' := 244) X522.here hx (hb hby at_242) rfl rfl ?_
      refine s_iconst (pc' := 245) (v := 1) X522.here hx (hb hby at_244) rfl rfl ?_
      refine s_iadd (pc' := 246) (z := 1) X522.here hx (hb hby at_245) rfl (by decide) ?_
      refine s_istore (pc' := 248) (Ls' := #[vi p0, vi p1, vi p2, vi p3, vi 4, vi rc, vi 0, vi 0, vi 1, vi 0, vr b510, vr b519, .val (.double mm), sn, .val (.long nd), sn, .val (.double FP.dconst0), sn, vi 1]) X522.here hx (hb hby at_246) rfl  rfl ?_
      refine s_dload (pc' := 250) X522.here hx (hb hby at_248) rfl rfl ?_
      refine s_iload (pc' := 252) X522.here hx (hb hby at_250) rfl rfl ?_
      refine s_iconst (pc' := 253) (v := 3) X522.here hx (hb hby at_252) rfl rfl ?_
      refine s_lload (pc' := 255) X522.here hx (hb hby at_253) rfl rfl ?_
      obtain ⟨_, _, ⟨T523, L523, k523, n523⟩, -, X523, ⟨Lc523, hQ523, l523, y523, z523⟩, st523⟩ := Jvm.LawKit.callS X522 hx (y := yN3) hown (mvT hZ (hv hw 30 rfl)) (mvT hZ (hv hw 31 rfl)) (mvT hZ (hv hw 32 rfl)) (mvT hZ (hv hw 33 rfl)) (by decide) (backOf (W := 0) (rmB l Z a0 hw [] FP.dconst0 1 3 nd T521.heap n0 O521 (by decide)) hZ (hv hw 33 rfl) (hv hw 32 rfl) (by decide) (by decide)) (g := (mkF m 255 #[vi p0, vi p1, vi p2, vi p3, vi 4, vi rc, vi 0, vi 0, vi 1, vi 0, vr b510, vr b519, .val (.double mm), sn, .val (.long nd), sn, .val (.double FP.dconst0), sn, vi 1] [(.long nd), (.int 3), (.int 1), (.double FP.dconst0)])) rfl (by rw [hml]; rfl) (argsL := [(.double FP.dconst0), (.int 1), (.int 3), (.long nd)]) (rest := []) (lenOf pd_4 rfl) rfl (by exact Nat.le_of_eq rfl) (hb hby at_255) (fun _ _ => ⟨rfl, hE522, (by decide : 3 + 0 ≤ _), (by decide : 11 + 0 ≤ _)⟩)
      dsimp only [Pt.U, Pt.locs, Pt.cells, Pt.slots] at X523 l523 y523 z523 st523 hQ523
      rw [l523, y523, z523] at X523
      obtain ⟨rfl, Nq523, hE523⟩ := hQ523
      have N523 := Fr.app N522 Nq523
      refine Go.st st523 ?_
      show Go p.tables e below Kx _ (mkF m 258 _ [(.double (bst FP.dconst0 1 3 nd))])
      refine s_dstore (pc' := 260) (Ls' := #[vi p0, vi p1, vi p2, vi p3, vi 4, vi rc, vi 0, vi 0, vi 1, vi 0, vr b510, vr b519, .val (.double mm), sn, .val (.long nd), sn, .val (.double (bst FP.dconst0 1 3 nd)), sn, vi 1]) X523.here hx (hb hby at_258) rfl  rfl ?_
      refine s_iload (pc' := 262) X523.here hx (hb hby at_260) rfl rfl ?_
      refine s_iconst (pc' := 263) (v := 4) X523.here hx (hb hby at_262) rfl rfl ?_
      refine s_icmpN (pc' := 266) X523.here hx (hb hby at_263) rfl (flt (by decide)).1 ?_
      refine s_iload (pc' := 268) X523.here hx (hb hby at_266) rfl rfl ?_
      refine s_ifY (pc' := 289) X523.here hx (hb hby at_268) ((if0 _ _).trans (teq (by decide)).1) (by decide) (by decide) ?_
      refine s_dload (pc' := 291) X523.here hx (hb hby at_289) rfl rfl ?_
      refine s_dload (pc' := 293) X523.here hx (hb hby at_291) rfl rfl ?_
      refine s_dcmpl (pc' := 294) (z := 0) X523.here hx (hb hby at_293) rfl (by rw [← hmm]; exact fin_40010 nd) ?_
      refine s_ifN (pc' := 297) X523.here hx (hb hby at_294) rfl ((if0 _ _).trans (teq (by decide)).2) ?_
      refine s_iconst (pc' := 298) (v := 1) X523.here hx (hb hby at_297) rfl rfl ?_
      refine s_goto (pc' := 302) X523.here hx (hb hby at_298) (by decide) (by decide) ?_
      obtain ⟨fs, hr, hrun, hended, hW, hsame⟩ := X523.leave (v := (some (.int 1))) (fun h => by rw [Bd.returns] at h; cases h)
      refine Go.fin (retN X523 hx (t := .boolean) Bd.returns (by simp) (hb hby at_302) hr) (hF _ _ hrun hended ⟨_, _, rfl, ?_, ⟨_, rfl⟩, hW, hsame.mono (by decide) (by decide)⟩)
      ·
       show QL Z p0 p1 p2 p3 h0 n0 ((some (.int 1)) : Option Value) T523.heap _
       rw [hE523]
       exact ⟨rfl, N523⟩
     ·
      show Go p.tables e below Kx _ (mkF m 75 _ [])
      refine s_iload (pc' := 77) X0.here hx (hb hby at_75) rfl rfl ?_
      obtain ⟨T524, h524, k524, X524, e524, E524, A524, st524⟩ := newP X0 hx hZ (hv hw 1 rfl) e0 (g := (mkF m 77 #[vi p0, vi p1, vi p2, vi p3, vi 4, vi rc, vi 0, vi 0, vi 1, vi 1, un, un, un, un, un, un, un, un, un] [(.int 4)])) rfl (hb hby at_77) rfl (by decide) (cap := 4) (by decide) (by decide) (by decide) (by decide)
      obtain ⟨b524, g524⟩ : ∃ z, z = h0.size := ⟨_, rfl⟩
      rw [← g524] at A524 st524
      have sz524 : h0.size ≤ b524 := Nat.le_trans K0.1 (Nat.le_of_eq g524.symm)
      have ge524 : n0 ≤ b524 := Nat.le_trans (X00.1 ▸ X00.2.1) (Nat.le_of_eq g524.symm)
      have K524 : Keep h0 h524 [] := K0.ext E524
      have O524 : Old Z n0 h524 := X00.ext E524
      have V524 : Arv Z h524 b524 k524 .boolean 4 [(.int 0), (.int 0), (.int 0), (.int 0)] (.int 0) := (Arv.new A524 (by decide)).pad (pad_rep [] (.int 0) 4)
      refine Go.st st524 ?_
      show Go p.tables e below Kx _ (mkF m 79 _ [(.ref b524)])
      refine s_astore (pc' := 81) (Ls' := #[vi p0, vi p1, vi p2, vi p3, vi 4, vi rc, vi 0, vi 0, vi 1, vi 1, vr b524, un, un, un, un, un, un, un, un]) X524.here hx (hb hby at_79) rfl rfl rfl ?_
      refine s_iload (pc' := 83) X524.here hx (hb hby at_81) rfl rfl ?_
      refine s_iconst (pc' := 84) (v := 1) X524.here hx (hb hby at_83) rfl rfl ?_
      refine s_icmpN (pc' := 87) X524.here hx (hb hby at_84) rfl (flt (by decide)).1 ?_
      refine s_aload (pc' := 89) X524.here hx (hb hby at_87) rfl rfl rfl ?_
      refine s_iconst (pc' := 90) (v := 0) X524.here hx (hb hby at_89) rfl rfl ?_
      refine s_iload (pc' := 92) X524.here hx (hb hby at_90) rfl rfl ?_
      obtain ⟨cl525, Ar525, Aq525, As525, An525, Ah525, Ag525⟩ := id V524
      have in526 := inb_of (j := 0) As525 (by decide)
      obtain ⟨T526, h526, X526, e526, W526, st526⟩ := stZ X524 hx hZ e524 Ar525 (j := 0) in526 (g := (mkF m 92 #[vi p0, vi p1, vi p2, vi p3, vi 4, vi rc, vi 0, vi 0, vi 1, vi 1, vr b524, un, un, un, un, un, un, un, un] [(.int 0), (.int 0), (.ref b524)])) rfl rfl (hb hby at_92)
      have V526 : Arv Z h526 b524 k524 .boolean 4 [(.int 0), (.int 0), (.int 0), (.int 0)] (.int 0) := by
       have q := Arv.set Ar525 Aq525 As525 An525 Ah525 Ag525 (fits_nar_bool _) W526 0 rfl (Nat.le_of_ble_eq_true rfl)
       rw [show nar .boolean 0 = 0 from by decide] at q; exact q
      have K526 : Keep h0 h526 [] := K524.wr W526 (Or.inr sz524)
      have O526 : Old Z n0 h526 := O524.wr W526 ge524
      have N526 := Fr.snoc X526 N0 ge524
      refine Go.st st526 ?_
      show Go p.tables e below Kx _ (mkF m 93 _ [])
      refine s_iload (pc' := 95) X526.here hx (hb hby at_93) rfl rfl ?_
      refine s_iconst (pc' := 96) (v := 2) X526.here hx (hb hby at_95) rfl rfl ?_
      refine s_icmpN (pc' := 99) X526.here hx (hb hby at_96) rfl (flt (by decide)).1 ?_
      refine s_aload (pc' := 101) X526.here hx (hb hby at_99) rfl rfl rfl ?_
      refine s_iconst (pc' := 102) (v := 1) X526.here hx (hb hby at_101) rfl rfl ?_
      refine s_iload (pc' := 104) X526.here hx (hb hby at_102) rfl rfl ?_
      obtain ⟨cl527, Ar527, Aq527, As527, An527, Ah527, Ag527⟩ := id V526
      have in528 := inb_of (j := 1) As527 (by decide)
      obtain ⟨T528, h528, X528, e528, W528, st528⟩ := stZ X526 hx hZ e526 Ar527 (j := 1) in528 (g := (mkF m 104 #[vi p0, vi p1, vi p2, vi p3, vi 4, vi rc, vi 0, vi 0, vi 1, vi 1, vr b524, un, un, un, un, un, un, un, un] [(.int 0), (.int 1), (.ref b524)])) rfl rfl (hb hby at_104)
      have V528 : Arv Z h528 b524 k524 .boolean 4 [(.int 0), (.int 0), (.int 0), (.int 0)] (.int 0) := by
       have q := Arv.set Ar527 Aq527 As527 An527 Ah527 Ag527 (fits_nar_bool _) W528 1 rfl (Nat.le_of_ble_eq_true rfl)
       rw [show nar .boolean 0 = 0 from by decide] at q; exact q
      have K528 : Keep h0 h528 [] := K526.wr W528 (Or.inr sz524)
      have O528 : Old Z n0 h528 := O526.wr W528 ge524
      have N528 := Fr.snoc X528 N526 ge524
      refine Go.st st528 ?_
      show Go p.tables e below Kx _ (mkF m 105 _ [])
      refine s_iload (pc' := 107) X528.here hx (hb hby at_105) rfl rfl ?_
      refine s_iconst (pc' := 108) (v := 3) X528.here hx (hb hby at_107) rfl rfl ?_
      refine s_icmpN (pc' := 111) X528.here hx (hb hby at_108) rfl (flt (by decide)).1 ?_
      refine s_aload (pc' := 113) X528.here hx (hb hby at_111) rfl rfl rfl ?_
      refine s_iconst (pc' := 114) (v := 2) X528.here hx (hb hby at_113) rfl rfl ?_
      refine s_iload (pc' := 116) X528.here hx (hb hby at_114) rfl rfl ?_
      obtain ⟨cl529, Ar529, Aq529, As529, An529, Ah529, Ag529⟩ := id V528
      have in530 := inb_of (j := 2) As529 (by decide)
      obtain ⟨T530, h530, X530, e530, W530, st530⟩ := stZ X528 hx hZ e528 Ar529 (j := 2) in530 (g := (mkF m 116 #[vi p0, vi p1, vi p2, vi p3, vi 4, vi rc, vi 0, vi 0, vi 1, vi 1, vr b524, un, un, un, un, un, un, un, un] [(.int 1), (.int 2), (.ref b524)])) rfl rfl (hb hby at_116)
      have V530 : Arv Z h530 b524 k524 .boolean 4 [(.int 0), (.int 0), (.int 1), (.int 0)] (.int 0) := by
       have q := Arv.set Ar529 Aq529 As529 An529 Ah529 Ag529 (fits_nar_bool _) W530 2 rfl (Nat.le_of_ble_eq_true rfl)
       rw [show nar .boolean 1 = 1 from by decide] at q; exact q
      have K530 : Keep h0 h530 [] := K528.wr W530 (Or.inr sz524)
      have O530 : Old Z n0 h530 := O528.wr W530 ge524
      have N530 := Fr.snoc X530 N528 ge524
      refine Go.st st530 ?_
      show Go p.tables e below Kx _ (mkF m 117 _ [])
      refine s_iload (pc' := 119) X530.here hx (hb hby at_117) rfl rfl ?_
      refine s_iconst (pc' := 120) (v := 4) X530.here hx (hb hby at_119) rfl rfl ?_
      refine s_icmpN (pc' := 123) X530.here hx (hb hby at_120) rfl (flt (by decide)).1 ?_
      refine s_aload (pc' := 125) X530.here hx (hb hby at_123) rfl rfl rfl ?_
      refine s_iconst (pc' := 126) (v := 3) X530.here hx (hb hby at_125) rfl rfl ?_
      refine s_iload (pc' := 128) X530.here hx (hb hby at_126) rfl rfl ?_
      obtain ⟨cl531, Ar531, Aq531, As531, An531, Ah531, Ag531⟩ := id V530
      have in532 := inb_of (j := 3) As531 (by decide)
      obtain ⟨T532, h532, X532, e532, W532, st532⟩ := stZ X530 hx hZ e530 Ar531 (j := 3) in532 (g := (mkF m 128 #[vi p0, vi p1, vi p2, vi p3, vi 4, vi rc, vi 0, vi 0, vi 1, vi 1, vr b524, un, un, un, un, un, un, un, un] [(.int 1), (.int 3), (.ref b524)])) rfl rfl (hb hby at_128)
      have V532 : Arv Z h532 b524 k524 .boolean 4 [(.int 0), (.int 0), (.int 1), (.int 1)] (.int 0) := by
       have q := Arv.set Ar531 Aq531 As531 An531 Ah531 Ag531 (fits_nar_bool _) W532 3 rfl (Nat.le_of_ble_eq_true rfl)
       rw [show nar .boolean 1 = 1 from by decide] at q; exact q
      have K532 : Keep h0 h532 [] := K530.wr W532 (Or.inr sz524)
      have O532 : Old Z n0 h532 := O530.wr W532 ge524
      have N532 := Fr.snoc X532 N530 ge524
      refine Go.st st532 ?_
      show Go p.tables e below Kx _ (mkF m 129 _ [])
      obtain ⟨T533, h533, X533, e533, E533, A533, D533, -, st533⟩ := newO X532 hx hZ hown (hv hw 2 rfl) (hv hw 3 rfl) (hv hw 4 rfl) e532 (g := (mkF m 129 #[vi p0, vi p1, vi p2, vi p3, vi 4, vi rc, vi 0, vi 0, vi 1, vi 1, vr b524, un, un, un, un, un, un, un, un] [])) rfl (hb hby at_129) (by decide) (by decide)
      obtain ⟨b533, g533⟩ : ∃ z, z = h532.size := ⟨_, rfl⟩
      rw [← g533] at A533 D533 st533
      have sz533 : h0.size ≤ b533 := Nat.le_trans K532.1 (Nat.le_of_eq g533.symm)
      have ge533 : n0 ≤ b533 := Nat.le_trans (O532.1 ▸ O532.2.1) (Nat.le_of_eq g533.symm)
      have K533 : Keep h0 h533 [] := K532.ext E533
      have O533 : Old Z n0 h533 := O532.ext E533
      have F533_relevantWithin : Fld Z h533 b533 "com/example/kingfisher/kingfisher/eval/TopicRanking" "relevantWithin" "[I" .null := D533 (Or.inr (hv hw 13 rfl)) (ty := (.array .int)) (by decide)
      have F533_relevantCount : Fld Z h533 b533 "com/example/kingfisher/kingfisher/eval/TopicRanking" "relevantCount" "I" (.int 0) := D533 (Or.inr (hv hw 15 rfl)) (ty := .int) (by decide)
      refine Go.st st533 ?_
      show Go p.tables e below Kx _ (mkF m 132 _ [(.ref b533)])
      refine s_dup (pc' := 133) X533.here hx (hb hby at_132) rfl rfl ?_
      refine s_aload (pc' := 135) X533.here hx (hb hby at_133) rfl rfl rfl ?_
      refine s_iload (pc' := 137) X533.here hx (hb hby at_135) rfl rfl ?_
      have f534 : Arv Z h533 b524 k524 .boolean 4 [(.int 0), (.int 0), (.int 1), (.int 1)] (.int 0) := (V532.ext E533)
      obtain ⟨_, _, ⟨T535, L535, k535, n535⟩, -, X535, ⟨Lc535, hQ535, l535, y535, z535⟩, st535⟩ := X533.specialBack hx (y := yN0) rfl hown (mvT hZ (hv hw 5 rfl)) (mvT hZ (hv hw 6 rfl)) (mvT hZ (hv hw 7 rfl)) (by decide) (backOf (W := 1) (rmN4 l Z a0 hw [] b533 b524 k524 0 0 1 1 0 0 1 2 rc h533 n0 O533 ge533 (Nat.ne_of_lt (Nat.lt_of_lt_of_le (Nat.lt_of_lt_of_le A524.lt (Nat.le_trans (Nat.le_trans (Nat.le_trans (Nat.le_of_eq W526.size.symm) (Nat.le_of_eq W528.size.symm)) (Nat.le_of_eq W530.size.symm)) (Nat.le_of_eq W532.size.symm))) (Nat.le_of_eq g533.symm))) A533 F533_relevantWithin F533_relevantCount f534 (by decide) (by decide) (by decide) (by decide)) hZ (hv hw 7 rfl) (hv hw 4 rfl) (by decide) (by decide)) (g := (mkF m 137 #[vi p0, vi p1, vi p2, vi p3, vi 4, vi rc, vi 0, vi 0, vi 1, vi 1, vr b524, un, un, un, un, un, un, un, un] [(.int rc), (.ref b524), (.ref b533), (.ref b533)])) rfl (by rw [hml]; rfl) (Steps.refl _) (a := b533) (argsL := [(.ref b524), (.int rc)]) (rest := [(.ref b533)]) (lenOf pd_2 rfl) rfl (by exact Nat.le_of_eq rfl) (hb hby at_137) (fun _ _ => ⟨rfl, e533, (by decide : 2 + 1 ≤ _), (by decide : 6 + 5 ≤ _)⟩)
      dsimp only [Pt.U, Pt.locs, Pt.cells, Pt.slots] at X535 l535 y535 z535 st535 hQ535
      rw [l535, y535, z535] at X535
      obtain ⟨rfl, Nq535, Kq535, q1_535, q2_535, t535, kt535, q3_535, q4_535⟩ := hQ535
      have N535 := Fr.app N532 Nq535
      have K535 : Keep h0 T535.heap [] := K533.trans Kq535 (allS (P := fun zz => zz ∈ [] ∨ h0.size ≤ zz) (Or.inr sz533) all0)
      have O535 : Old Z n0 T535.heap := O533.keep Kq535 (allS ge533 all0)
      refine Go.tr st535 ?_
      show Go p.tables e below Kx _ (mkF m 140 _ [(.ref b533)])
      refine s_astore (pc' := 142) (Ls' := #[vi p0, vi p1, vi p2, vi p3, vi 4, vi rc, vi 0, vi 0, vi 1, vi 1, vr b524, vr b533, un, un, un, un, un, un, un]) X535.here hx (hb hby at_140) rfl rfl rfl ?_
      refine s_aload (pc' := 144) X535.here hx (hb hby at_142) rfl rfl rfl ?_
      refine s_iloadN (pc' := 145) X535.here hx (hb hby at_144) rfl rfl ?_
      obtain ⟨cq536, kq536, q536a, q536b, q536c⟩ := isOf hZ rfl q1_535
      obtain ⟨_, _, ⟨T536, L536, k536, n536⟩, -, X536, ⟨Lc536, hQ536, l536, y536, z536⟩, st536⟩ := X535.virtualBack hx (y := yN1) (z := yN1) hown (mvT hZ (hv hw 16 rfl)) (mvT hZ (hv hw 17 rfl)) (notFace_of_selects (args := #[]) (mvT hZ (hv hw 19 rfl))) (mvT hZ (hv hw 19 rfl)) (mvT hZ (hv hw 18 rfl)) (by decide) (backOf (W := 0) (rmA4 l Z a0 hw [] b533 t535 kt535 0 0 1 2 rc p2 T535.heap n0 O535 hrc q1_535 q3_535 q2_535 q4_535) hZ (hv hw 20 rfl) (hv hw 4 rfl) (by decide) (by decide)) q536a q536c (g := (mkF m 145 #[vi p0, vi p1, vi p2, vi p3, vi 4, vi rc, vi 0, vi 0, vi 1, vi 1, vr b524, vr b533, un, un, un, un, un, un, un] [(.int p2), (.ref b533)])) rfl (by rw [hml]; rfl) (Steps.refl _) (argsL := [(.int p2)]) (rest := []) (lenOf pd_3 rfl) rfl (by exact Nat.le_of_eq rfl) (hb hby at_145) (fun _ _ => ⟨rfl, rfl, (by decide : 3 + 0 ≤ _), (by decide : 11 + 0 ≤ _)⟩)
      dsimp only [Pt.U, Pt.locs, Pt.cells, Pt.slots] at X536 l536 y536 z536 st536 hQ536
      rw [l536, y536, z536] at X536
      obtain ⟨rfl, Nq536, hE536⟩ := hQ536
      have N536 := Fr.app N535 Nq536
      refine Go.tr st536 ?_
      show Go p.tables e below Kx _ (mkF m 148 _ [(.double (mst (mst (mst (mst FP.dconst0 0 1 (needd p2 rc)) 0 2 (needd p2 rc)) 1 3 (needd p2 rc)) 2 4 (needd p2 rc)))])
      refine s_dstore (pc' := 150) (Ls' := #[vi p0, vi p1, vi p2, vi p3, vi 4, vi rc, vi 0, vi 0, vi 1, vi 1, vr b524, vr b533, .val (.double (mst (mst (mst (mst FP.dconst0 0 1 (needd p2 rc)) 0 2 (needd p2 rc)) 1 3 (needd p2 rc)) 2 4 (needd p2 rc))), sn, un, un, un, un, un]) X536.here hx (hb hby at_148) rfl  rfl ?_
      refine s_iloadN (pc' := 151) X536.here hx (hb hby at_150) rfl rfl ?_
      refine s_i2d (pc' := 152) X536.here hx (hb hby at_151) rfl rfl ?_
      refine Go.st (X536.ldc2DoubleC hx hown (mvT hZ (hv hw 28 rfl)) (g := (mkF m 152 #[vi p0, vi p1, vi p2, vi p3, vi 4, vi rc, vi 0, vi 0, vi 1, vi 1, vr b524, vr b533, .val (.double (mst (mst (mst (mst FP.dconst0 0 1 (needd p2 rc)) 0 2 (needd p2 rc)) 1 3 (needd p2 rc)) 2 4 (needd p2 rc))), sn, un, un, un, un, un] [(.double (FP.i2d p2))])) rfl (hb hby at_152)) ?_
      show Go p.tables e below Kx _ (mkF m 155 _ [(.double (4621819117588971520 : UInt64)), (.double (FP.i2d p2))])
      refine s_ddiv (pc' := 156) X536.here hx (hb hby at_155) rfl (nn1 p2) rfl ?_
      refine s_iload (pc' := 158) X536.here hx (hb hby at_156) rfl rfl ?_
      refine s_i2d (pc' := 159) X536.here hx (hb hby at_158) rfl rfl ?_
      refine s_dmul (pc' := 160) X536.here hx (hb hby at_159) rfl (nn2 p2 hrc) rfl ?_
      refine Go.st (X536.ldc2DoubleC hx hown (mvT hZ (hv hw 29 rfl)) (g := (mkF m 160 #[vi p0, vi p1, vi p2, vi p3, vi 4, vi rc, vi 0, vi 0, vi 1, vi 1, vr b524, vr b533, .val (.double (mst (mst (mst (mst FP.dconst0 0 1 (needd p2 rc)) 0 2 (needd p2 rc)) 1 3 (needd p2 rc)) 2 4 (needd p2 rc))), sn, un, un, un, un, un] [(.double (FP.dmul (FP.ddiv (FP.i2d p2) (4621819117588971520 : UInt64)) (FP.i2d rc)))])) rfl (hb hby at_160)) ?_
      show Go p.tables e below Kx _ (mkF m 163 _ [(.double (4606281698874543309 : UInt64)), (.double (FP.dmul (FP.ddiv (FP.i2d p2) (4621819117588971520 : UInt64)) (FP.i2d rc)))])
      refine s_dadd (pc' := 164) X536.here hx (hb hby at_163) rfl (nn3 p2 hrc) rfl ?_
      refine s_d2l (pc' := 165) (z := needd p2 rc) X536.here hx (hb hby at_164) rfl rfl ?_
      show Go p.tables e below Kx _ (mkF m 165 _ [(.long (needd p2 rc))])
      generalize (needd p2 rc) = nd
      generalize hmm : (mst (mst (mst (mst FP.dconst0 0 1 nd) 0 2 nd) 1 3 nd) 2 4 nd) = mm
      show Go p.tables e below Kx _ (mkF m 165 _ [(.long nd)])
      refine s_lstore (pc' := 167) (Ls' := #[vi p0, vi p1, vi p2, vi p3, vi 4, vi rc, vi 0, vi 0, vi 1, vi 1, vr b524, vr b533, .val (.double mm), sn, .val (.long nd), sn, un, un, un]) X536.here hx (hb hby at_165) rfl  rfl ?_
      refine s_dconst0 (pc' := 168) X536.here hx (hb hby at_167) rfl rfl ?_
      refine s_dstore (pc' := 170) (Ls' := #[vi p0, vi p1, vi p2, vi p3, vi 4, vi rc, vi 0, vi 0, vi 1, vi 1, vr b524, vr b533, .val (.double mm), sn, .val (.long nd), sn, .val (.double FP.dconst0), sn, un]) X536.here hx (hb hby at_168) rfl  rfl ?_
      refine s_iconst (pc' := 171) (v := 0) X536.here hx (hb hby at_170) rfl rfl ?_
      refine s_istore (pc' := 173) (Ls' := #[vi p0, vi p1, vi p2, vi p3, vi 4, vi rc, vi 0, vi 0, vi 1, vi 1, vr b524, vr b533, .val (.double mm), sn, .val (.long nd), sn, .val (.double FP.dconst0), sn, vi 0]) X536.here hx (hb hby at_171) rfl  rfl ?_
      refine s_iload (pc' := 175) X536.here hx (hb hby at_173) rfl rfl ?_
      refine s_iconst (pc' := 176) (v := 1) X536.here hx (hb hby at_175) rfl rfl ?_
      refine s_icmpN (pc' := 179) X536.here hx (hb hby at_176) rfl (flt (by decide)).1 ?_
      refine s_iload (pc' := 181) X536.here hx (hb hby at_179) rfl rfl ?_
      refine s_ifY (pc' := 202) X536.here hx (hb hby at_181) ((if0 _ _).trans (teq (by decide)).1) (by decide) (by decide) ?_
      refine s_iload (pc' := 204) X536.here hx (hb hby at_202) rfl rfl ?_
      refine s_iconst (pc' := 205) (v := 2) X536.here hx (hb hby at_204) rfl rfl ?_
      refine s_icmpN (pc' := 208) X536.here hx (hb hby at_205) rfl (flt (by decide)).1 ?_
      refine s_iload (pc' := 210) X536.here hx (hb hby at_208) rfl rfl ?_
      refine s_ifY (pc' := 231) X536.here hx (hb hby at_210) ((if0 _ _).trans (teq (by decide)).1) (by decide) (by decide) ?_
      refine s_iload (pc' := 233) X536.here hx (hb hby at_231) rfl rfl ?_
      refine s_iconst (pc' := 234) (v := 3) X536.here hx (hb hby at_233) rfl rfl ?_
      refine s_icmpN (pc' := 237) X536.here hx (hb hby at_234) rfl (flt (by decide)).1 ?_
      refine s_iload (pc' := 239) X536.here hx (hb hby at_237) rfl rfl ?_
      refine s_ifN (pc' := 242) X536.here hx (hb hby at_239) rfl ((if0 _ _).trans (feq (by decide)).1) ?_
      refine s_iload (pc' := 244) X536.here hx (hb hby at_242) rfl rfl ?_
      refine s_iconst (pc' := 245) (v := 1) X536.here hx (hb hby at_244) rfl rfl ?_
      refine s_iadd (pc' := 246) (z := 1) X536.here hx (hb hby at_245) rfl (by decide) ?_
      refine s_istore (pc' := 248) (Ls' := #[vi p0, vi p1, vi p2, vi p3, vi 4, vi rc, vi 0, vi 0, vi 1, vi 1, vr b524, vr b533, .val (.double mm), sn, .val (.long nd), sn, .val (.double FP.dconst0), sn, vi 1]) X536.here hx (hb hby at_246) rfl  rfl ?_
      refine s_dload (pc' := 250) X536.here hx (hb hby at_248) rfl rfl ?_
      refine s_iload (pc' := 252) X536.here hx (hb hby at_250) rfl rfl ?_
      refine s_iconst (pc' := 253) (v := 3) X536.here hx (hb hby at_252) rfl rfl ?_
      refine s_lload (pc' := 255) X536.here hx (hb hby at_253) rfl rfl ?_
      obtain ⟨_, _, ⟨T537, L537, k537, n537⟩, -, X537, ⟨Lc537, hQ537, l537, y537, z537⟩, st537⟩ := Jvm.LawKit.callS X536 hx (y := yN3) hown (mvT hZ (hv hw 30 rfl)) (mvT hZ (hv hw 31 rfl)) (mvT hZ (hv hw 32 rfl)) (mvT hZ (hv hw 33 rfl)) (by decide) (backOf (W := 0) (rmB l Z a0 hw [] FP.dconst0 1 3 nd T535.heap n0 O535 (by decide)) hZ (hv hw 33 rfl) (hv hw 32 rfl) (by decide) (by decide)) (g := (mkF m 255 #[vi p0, vi p1, vi p2, vi p3, vi 4, vi rc, vi 0, vi 0, vi 1, vi 1, vr b524, vr b533, .val (.double mm), sn, .val (.long nd), sn, .val (.double FP.dconst0), sn, vi 1] [(.long nd), (.int 3), (.int 1), (.double FP.dconst0)])) rfl (by rw [hml]; rfl) (argsL := [(.double FP.dconst0), (.int 1), (.int 3), (.long nd)]) (rest := []) (lenOf pd_4 rfl) rfl (by exact Nat.le_of_eq rfl) (hb hby at_255) (fun _ _ => ⟨rfl, hE536, (by decide : 3 + 0 ≤ _), (by decide : 11 + 0 ≤ _)⟩)
      dsimp only [Pt.U, Pt.locs, Pt.cells, Pt.slots] at X537 l537 y537 z537 st537 hQ537
      rw [l537, y537, z537] at X537
      obtain ⟨rfl, Nq537, hE537⟩ := hQ537
      have N537 := Fr.app N536 Nq537
      refine Go.st st537 ?_
      show Go p.tables e below Kx _ (mkF m 258 _ [(.double (bst FP.dconst0 1 3 nd))])
      refine s_dstore (pc' := 260) (Ls' := #[vi p0, vi p1, vi p2, vi p3, vi 4, vi rc, vi 0, vi 0, vi 1, vi 1, vr b524, vr b533, .val (.double mm), sn, .val (.long nd), sn, .val (.double (bst FP.dconst0 1 3 nd)), sn, vi 1]) X537.here hx (hb hby at_258) rfl  rfl ?_
      refine s_iload (pc' := 262) X537.here hx (hb hby at_260) rfl rfl ?_
      refine s_iconst (pc' := 263) (v := 4) X537.here hx (hb hby at_262) rfl rfl ?_
      refine s_icmpN (pc' := 266) X537.here hx (hb hby at_263) rfl (flt (by decide)).1 ?_
      refine s_iload (pc' := 268) X537.here hx (hb hby at_266) rfl rfl ?_
      refine s_ifN (pc' := 271) X537.here hx (hb hby at_268) rfl ((if0 _ _).trans (feq (by decide)).1) ?_
      refine s_iload (pc' := 273) X537.here hx (hb hby at_271) rfl rfl ?_
      refine s_iconst (pc' := 274) (v := 1) X537.here hx (hb hby at_273) rfl rfl ?_
      refine s_iadd (pc' := 275) (z := 2) X537.here hx (hb hby at_274) rfl (by decide) ?_
      refine s_istore (pc' := 277) (Ls' := #[vi p0, vi p1, vi p2, vi p3, vi 4, vi rc, vi 0, vi 0, vi 1, vi 1, vr b524, vr b533, .val (.double mm), sn, .val (.long nd), sn, .val (.double (bst FP.dconst0 1 3 nd)), sn, vi 2]) X537.here hx (hb hby at_275) rfl  rfl ?_
      refine s_dload (pc' := 279) X537.here hx (hb hby at_277) rfl rfl ?_
      refine s_iload (pc' := 281) X537.here hx (hb hby at_279) rfl rfl ?_
      refine s_iconst (pc' := 282) (v := 4) X537.here hx (hb hby at_281) rfl rfl ?_
      refine s_lload (pc' := 284) X537.here hx (hb hby at_282) rfl rfl ?_
      obtain ⟨_, _, ⟨T538, L538, k538, n538⟩, -, X538, ⟨Lc538, hQ538, l538, y538, z538⟩, st538⟩ := Jvm.LawKit.callS X537 hx (y := yN3) hown (mvT hZ (hv hw 30 rfl)) (mvT hZ (hv hw 31 rfl)) (mvT hZ (hv hw 32 rfl)) (mvT hZ (hv hw 33 rfl)) (by decide) (backOf (W := 0) (rmB l Z a0 hw [] (bst FP.dconst0 1 3 nd) 2 4 nd T535.heap n0 O535 (by decide)) hZ (hv hw 33 rfl) (hv hw 32 rfl) (by decide) (by decide)) (g := (mkF m 284 #[vi p0, vi p1, vi p2, vi p3, vi 4, vi rc, vi 0, vi 0, vi 1, vi 1, vr b524, vr b533, .val (.double mm), sn, .val (.long nd), sn, .val (.double (bst FP.dconst0 1 3 nd)), sn, vi 2] [(.long nd), (.int 4), (.int 2), (.double (bst FP.dconst0 1 3 nd))])) rfl (by rw [hml]; rfl) (argsL := [(.double (bst FP.dconst0 1 3 nd)), (.int 2), (.int 4), (.long nd)]) (rest := []) (lenOf pd_4 rfl) rfl (by exact Nat.le_of_eq rfl) (hb hby at_284) (fun _ _ => ⟨rfl, hE537, (by decide : 3 + 0 ≤ _), (by decide : 11 + 0 ≤ _)⟩)
      dsimp only [Pt.U, Pt.locs, Pt.cells, Pt.slots] at X538 l538 y538 z538 st538 hQ538
      rw [l538, y538, z538] at X538
      obtain ⟨rfl, Nq538, hE538⟩ := hQ538
      have N538 := Fr.app N537 Nq538
      refine Go.st st538 ?_
      show Go p.tables e below Kx _ (mkF m 287 _ [(.double (bst (bst FP.dconst0 1 3 nd) 2 4 nd))])
      refine s_dstore (pc' := 289) (Ls' := #[vi p0, vi p1, vi p2, vi p3, vi 4, vi rc, vi 0, vi 0, vi 1, vi 1, vr b524, vr b533, .val (.double mm), sn, .val (.long nd), sn, .val (.double (bst (bst FP.dconst0 1 3 nd) 2 4 nd)), sn, vi 2]) X538.here hx (hb hby at_287) rfl  rfl ?_
      refine s_dload (pc' := 291) X538.here hx (hb hby at_289) rfl rfl ?_
      refine s_dload (pc' := 293) X538.here hx (hb hby at_291) rfl rfl ?_
      refine s_dcmpl (pc' := 294) (z := 0) X538.here hx (hb hby at_293) rfl (by rw [← hmm]; exact fin_40011 nd) ?_
      refine s_ifN (pc' := 297) X538.here hx (hb hby at_294) rfl ((if0 _ _).trans (teq (by decide)).2) ?_
      refine s_iconst (pc' := 298) (v := 1) X538.here hx (hb hby at_297) rfl rfl ?_
      refine s_goto (pc' := 302) X538.here hx (hb hby at_298) (by decide) (by decide) ?_
      obtain ⟨fs, hr, hrun, hended, hW, hsame⟩ := X538.leave (v := (some (.int 1))) (fun h => by rw [Bd.returns] at h; cases h)
      refine Go.fin (retN X538 hx (t := .boolean) Bd.returns (by simp) (hb hby at_302) hr) (hF _ _ hrun hended ⟨_, _, rfl, ?_, ⟨_, rfl⟩, hW, hsame.mono (by decide) (by decide)⟩)
      ·
       show QL Z p0 p1 p2 p3 h0 n0 ((some (.int 1)) : Option Value) T538.heap _
       rw [hE538]
       exact ⟨rfl, N538⟩
   ·
    rcases hx3 with rfl | rfl
    ·
     rcases hx4 with rfl | rfl
     ·
      show Go p.tables e below Kx _ (mkF m 75 _ [])
      refine s_iload (pc' := 77) X0.here hx (hb hby at_75) rfl rfl ?_
      obtain ⟨T539, h539, k539, X539, e539, E539, A539, st539⟩ := newP X0 hx hZ (hv hw 1 rfl) e0 (g := (mkF m 77 #[vi p0, vi p1, vi p2, vi p3, vi 4, vi rc, vi 0, vi 1, vi 0, vi 0, un, un, un, un, un, un, un, un, un] [(.int 4)])) rfl (hb hby at_77) rfl (by decide) (cap := 4) (by decide) (by decide) (by decide) (by decide)
      obtain ⟨b539, g539⟩ : ∃ z, z = h0.size := ⟨_, rfl⟩
      rw [← g539] at A539 st539
      have sz539 : h0.size ≤ b539 := Nat.le_trans K0.1 (Nat.le_of_eq g539.symm)
      have ge539 : n0 ≤ b539 := Nat.le_trans (X00.1 ▸ X00.2.1) (Nat.le_of_eq g539.symm)
      have K539 : Keep h0 h539 [] := K0.ext E539
      have O539 : Old Z n0 h539 := X00.ext E539
      have V539 : Arv Z h539 b539 k539 .boolean 4 [(.int 0), (.int 0), (.int 0), (.int 0)] (.int 0) := (Arv.new A539 (by decide)).pad (pad_rep [] (.int 0) 4)
      refine Go.st st539 ?_
      show Go p.tables e below Kx _ (mkF m 79 _ [(.ref b539)])
      refine s_astore (pc' := 81) (Ls' := #[vi p0, vi p1, vi p2, vi p3, vi 4, vi rc, vi 0, vi 1, vi 0, vi 0, vr b539, un, un, un, un, un, un, un, un]) X539.here hx (hb hby at_79) rfl rfl rfl ?_
      refine s_iload (pc' := 83) X539.here hx (hb hby at_81) rfl rfl ?_
      refine s_iconst (pc' := 84) (v := 1) X539.here hx (hb hby at_83) rfl rfl ?_
      refine s_icmpN (pc' := 87) X539.here hx (hb hby at_84) rfl (flt (by decide)).1 ?_
      refine s_aload (pc' := 89) X539.here hx (hb hby at_87) rfl rfl rfl ?_
      refine s_iconst (pc' := 90) (v := 0) X539.here hx (hb hby at_89) rfl rfl ?_
      refine s_iload (pc' := 92) X539.here hx (hb hby at_90) rfl rfl ?_
      obtain ⟨cl540, Ar540, Aq540, As540, An540, Ah540, Ag540⟩ := id V539
      have in541 := inb_of (j := 0) As540 (by decide)
      obtain ⟨T541, h541, X541, e541, W541, st541⟩ := stZ X539 hx hZ e539 Ar540 (j := 0) in541 (g := (mkF m 92 #[vi p0, vi p1, vi p2, vi p3, vi 4, vi rc, vi 0, vi 1, vi 0, vi 0, vr b539, un, un, un, un, un, un, un, un] [(.int 0), (.int 0), (.ref b539)])) rfl rfl (hb hby at_92)
      have V541 : Arv Z h541 b539 k539 .boolean 4 [(.int 0), (.int 0), (.int 0), (.int 0)] (.int 0) := by
       have q := Arv.set Ar540 Aq540 As540 An540 Ah540 Ag540 (fits_nar_bool _) W541 0 rfl (Nat.le_of_ble_eq_true rfl)
       rw [show nar .boolean 0 = 0 from by decide] at q; exact q
      have K541 : Keep h0 h541 [] := K539.wr W541 (Or.inr sz539)
      have O541 : Old Z n0 h541 := O539.wr W541 ge539
      have N541 := Fr.snoc X541 N0 ge539
      refine Go.st st541 ?_
      show Go p.tables e below Kx _ (mkF m 93 _ [])
      refine s_iload (pc' := 95) X541.here hx (hb hby at_93) rfl rfl ?_
      refine s_iconst (pc' := 96) (v := 2) X541.here hx (hb hby at_95) rfl rfl ?_
      refine s_icmpN (pc' := 99) X541.here hx (hb hby at_96) rfl (flt (by decide)).1 ?_
      refine s_aload (pc' := 101) X541.here hx (hb hby at_99) rfl rfl rfl ?_
      refine s_iconst (pc' := 102) (v := 1) X541.here hx (hb hby at_101) rfl rfl ?_
      refine s_iload (pc' := 104) X541.here hx (hb hby at_102) rfl rfl ?_
      obtain ⟨cl542, Ar542, Aq542, As542, An542, Ah542, Ag542⟩ := id V541
      have in543 := inb_of (j := 1) As542 (by decide)
      obtain ⟨T543, h543, X543, e543, W543, st543⟩ := stZ X541 hx hZ e541 Ar542 (j := 1) in543 (g := (mkF m 104 #[vi p0, vi p1, vi p2, vi p3, vi 4, vi rc, vi 0, vi 1, vi 0, vi 0, vr b539, un, un, un, un, un, un, un, un] [(.int 1), (.int 1), (.ref b539)])) rfl rfl (hb hby at_104)
      have V543 : Arv Z h543 b539 k539 .boolean 4 [(.int 0), (.int 1), (.int 0), (.int 0)] (.int 0) := by
       have q := Arv.set Ar542 Aq542 As542 An542 Ah542 Ag542 (fits_nar_bool _) W543 1 rfl (Nat.le_of_ble_eq_true rfl)
       rw [show nar .boolean 1 = 1 from by decide] at q; exact q
      have K543 : Keep h0 h543 [] := K541.wr W543 (Or.inr sz539)
      have O543 : Old Z n0 h543 := O541.wr W543 ge539
      have N543 := Fr.snoc X543 N541 ge539
      refine Go.st st543 ?_
      show Go p.tables e below Kx _ (mkF m 105 _ [])
      refine s_iload (pc' := 107) X543.here hx (hb hby at_105) rfl rfl ?_
      refine s_iconst (pc' := 108) (v := 3) X543.here hx (hb hby at_107) rfl rfl ?_
      refine s_icmpN (pc' := 111) X543.here hx (hb hby at_108) rfl (flt (by decide)).1 ?_
      refine s_aload (pc' := 113) X543.here hx (hb hby at_111) rfl rfl rfl ?_
      refine s_iconst (pc' := 114) (v := 2) X543.here hx (hb hby at_113) rfl rfl ?_
      refine s_iload (pc' := 116) X543.here hx (hb hby at_114) rfl rfl ?_
      obtain ⟨cl544, Ar544, Aq544, As544, An544, Ah544, Ag544⟩ := id V543
      have in545 := inb_of (j := 2) As544 (by decide)
      obtain ⟨T545, h545, X545, e545, W545, st545⟩ := stZ X543 hx hZ e543 Ar544 (j := 2) in545 (g := (mkF m 116 #[vi p0, vi p1, vi p2, vi p3, vi 4, vi rc, vi 0, vi 1, vi 0, vi 0, vr b539, un, un, un, un, un, un, un, un] [(.int 0), (.int 2), (.ref b539)])) rfl rfl (hb hby at_116)
      have V545 : Arv Z h545 b539 k539 .boolean 4 [(.int 0), (.int 1), (.int 0), (.int 0)] (.int 0) := by
       have q := Arv.set Ar544 Aq544 As544 An544 Ah544 Ag544 (fits_nar_bool _) W545 2 rfl (Nat.le_of_ble_eq_true rfl)
       rw [show nar .boolean 0 = 0 from by decide] at q; exact q
      have K545 : Keep h0 h545 [] := K543.wr W545 (Or.inr sz539)
      have O545 : Old Z n0 h545 := O543.wr W545 ge539
      have N545 := Fr.snoc X545 N543 ge539
      refine Go.st st545 ?_
      show Go p.tables e below Kx _ (mkF m 117 _ [])
      refine s_iload (pc' := 119) X545.here hx (hb hby at_117) rfl rfl ?_
      refine s_iconst (pc' := 120) (v := 4) X545.here hx (hb hby at_119) rfl rfl ?_
      refine s_icmpN (pc' := 123) X545.here hx (hb hby at_120) rfl (flt (by decide)).1 ?_
      refine s_aload (pc' := 125) X545.here hx (hb hby at_123) rfl rfl rfl ?_
      refine s_iconst (pc' := 126) (v := 3) X545.here hx (hb hby at_125) rfl rfl ?_
      refine s_iload (pc' := 128) X545.here hx (hb hby at_126) rfl rfl ?_
      obtain ⟨cl546, Ar546, Aq546, As546, An546, Ah546, Ag546⟩ := id V545
      have in547 := inb_of (j := 3) As546 (by decide)
      obtain ⟨T547, h547, X547, e547, W547, st547⟩ := stZ X545 hx hZ e545 Ar546 (j := 3) in547 (g := (mkF m 128 #[vi p0, vi p1, vi p2, vi p3, vi 4, vi rc, vi 0, vi 1, vi 0, vi 0, vr b539, un, un, un, un, un, un, un, un] [(.int 0), (.int 3), (.ref b539)])) rfl rfl (hb hby at_128)
      have V547 : Arv Z h547 b539 k539 .boolean 4 [(.int 0), (.int 1), (.int 0), (.int 0)] (.int 0) := by
       have q := Arv.set Ar546 Aq546 As546 An546 Ah546 Ag546 (fits_nar_bool _) W547 3 rfl (Nat.le_of_ble_eq_true rfl)
       rw [show nar .boolean 0 = 0 from by decide] at q; exact q
      have K547 : Keep h0 h547 [] := K545.wr W547 (Or.inr sz539)
      have O547 : Old Z n0 h547 := O545.wr W547 ge539
      have N547 := Fr.snoc X547 N545 ge539
      refine Go.st st547 ?_
      show Go p.tables e below Kx _ (mkF m 129 _ [])
      obtain ⟨T548, h548, X548, e548, E548, A548, D548, -, st548⟩ := newO X547 hx hZ hown (hv hw 2 rfl) (hv hw 3 rfl) (hv hw 4 rfl) e547 (g := (mkF m 129 #[vi p0, vi p1, vi p2, vi p3, vi 4, vi rc, vi 0, vi 1, vi 0, vi 0, vr b539, un, un, un, un, un, un, un, un] [])) rfl (hb hby at_129) (by decide) (by decide)
      obtain ⟨b548, g548⟩ : ∃ z, z = h547.size := ⟨_, rfl⟩
      rw [← g548] at A548 D548 st548
      have sz548 : h0.size ≤ b548 := Nat.le_trans K547.1 (Nat.le_of_eq g548.symm)
      have ge548 : n0 ≤ b548 := Nat.le_trans (O547.1 ▸ O547.2.1) (Nat.le_of_eq g548.symm)
      have K548 : Keep h0 h548 [] := K547.ext E548
      have O548 : Old Z n0 h548 := O547.ext E548
      have F548_relevantWithin : Fld Z h548 b548 "com/example/kingfisher/kingfisher/eval/TopicRanking" "relevantWithin" "[I" .null := D548 (Or.inr (hv hw 13 rfl)) (ty := (.array .int)) (by decide)
      have F548_relevantCount : Fld Z h548 b548 "com/example/kingfisher/kingfisher/eval/TopicRanking" "relevantCount" "I" (.int 0) := D548 (Or.inr (hv hw 15 rfl)) (ty := .int) (by decide)
      refine Go.st st548 ?_
      show Go p.tables e below Kx _ (mkF m 132 _ [(.ref b548)])
      refine s_dup (pc' := 133) X548.here hx (hb hby at_132) rfl rfl ?_
      refine s_aload (pc' := 135) X548.here hx (hb hby at_133) rfl rfl rfl ?_
      refine s_iload (pc' := 137) X548.here hx (hb hby at_135) rfl rfl ?_
      have f549 : Arv Z h548 b539 k539 .boolean 4 [(.int 0), (.int 1), (.int 0), (.int 0)] (.int 0) := (V547.ext E548)
      obtain ⟨_, _, ⟨T550, L550, k550, n550⟩, -, X550, ⟨Lc550, hQ550, l550, y550, z550⟩, st550⟩ := X548.specialBack hx (y := yN0) rfl hown (mvT hZ (hv hw 5 rfl)) (mvT hZ (hv hw 6 rfl)) (mvT hZ (hv hw 7 rfl)) (by decide) (backOf (W := 1) (rmN4 l Z a0 hw [] b548 b539 k539 0 1 0 0 0 1 1 1 rc h548 n0 O548 ge548 (Nat.ne_of_lt (Nat.lt_of_lt_of_le (Nat.lt_of_lt_of_le A539.lt (Nat.le_trans (Nat.le_trans (Nat.le_trans (Nat.le_of_eq W541.size.symm) (Nat.le_of_eq W543.size.symm)) (Nat.le_of_eq W545.size.symm)) (Nat.le_of_eq W547.size.symm))) (Nat.le_of_eq g548.symm))) A548 F548_relevantWithin F548_relevantCount f549 (by decide) (by decide) (by decide) (by decide)) hZ (hv hw 7 rfl) (hv hw 4 rfl) (by decide) (by decide)) (g := (mkF m 137 #[vi p0, vi p1, vi p2, vi p3, vi 4, vi rc, vi 0, vi 1, vi 0, vi 0, vr b539, un, un, un, un, un, un, un, un] [(.int rc), (.ref b539), (.ref b548), (.ref b548)])) rfl (by rw [hml]; rfl) (Steps.refl _) (a := b548) (argsL := [(.ref b539), (.int rc)]) (rest := [(.ref b548)]) (lenOf pd_2 rfl) rfl (by exact Nat.le_of_eq rfl) (hb hby at_137) (fun _ _ => ⟨rfl, e548, (by decide : 2 + 1 ≤ _), (by decide : 6 + 5 ≤ _)⟩)
      dsimp only [Pt.U, Pt.locs, Pt.cells, Pt.slots] at X550 l550 y550 z550 st550 hQ550
      rw [l550, y550, z550] at X550
      obtain ⟨rfl, Nq550, Kq550, q1_550, q2_550, t550, kt550, q3_550, q4_550⟩ := hQ550
      have N550 := Fr.app N547 Nq550
      have K550 : Keep h0 T550.heap [] := K548.trans Kq550 (allS (P := fun zz => zz ∈ [] ∨ h0.size ≤ zz) (Or.inr sz548) all0)
      have O550 : Old Z n0 T550.heap := O548.keep Kq550 (allS ge548 all0)
      refine Go.tr st550 ?_
      show Go p.tables e below Kx _ (mkF m 140 _ [(.ref b548)])
      refine s_astore (pc' := 142) (Ls' := #[vi p0, vi p1, vi p2, vi p3, vi 4, vi rc, vi 0, vi 1, vi 0, vi 0, vr b539, vr b548, un, un, un, un, un, un, un]) X550.here hx (hb hby at_140) rfl rfl rfl ?_
      refine s_aload (pc' := 144) X550.here hx (hb hby at_142) rfl rfl rfl ?_
      refine s_iloadN (pc' := 145) X550.here hx (hb hby at_144) rfl rfl ?_
      obtain ⟨cq551, kq551, q551a, q551b, q551c⟩ := isOf hZ rfl q1_550
      obtain ⟨_, _, ⟨T551, L551, k551, n551⟩, -, X551, ⟨Lc551, hQ551, l551, y551, z551⟩, st551⟩ := X550.virtualBack hx (y := yN1) (z := yN1) hown (mvT hZ (hv hw 16 rfl)) (mvT hZ (hv hw 17 rfl)) (notFace_of_selects (args := #[]) (mvT hZ (hv hw 19 rfl))) (mvT hZ (hv hw 19 rfl)) (mvT hZ (hv hw 18 rfl)) (by decide) (backOf (W := 0) (rmA4 l Z a0 hw [] b548 t550 kt550 0 1 1 1 rc p2 T550.heap n0 O550 hrc q1_550 q3_550 q2_550 q4_550) hZ (hv hw 20 rfl) (hv hw 4 rfl) (by decide) (by decide)) q551a q551c (g := (mkF m 145 #[vi p0, vi p1, vi p2, vi p3, vi 4, vi rc, vi 0, vi 1, vi 0, vi 0, vr b539, vr b548, un, un, un, un, un, un, un] [(.int p2), (.ref b548)])) rfl (by rw [hml]; rfl) (Steps.refl _) (argsL := [(.int p2)]) (rest := []) (lenOf pd_3 rfl) rfl (by exact Nat.le_of_eq rfl) (hb hby at_145) (fun _ _ => ⟨rfl, rfl, (by decide : 3 + 0 ≤ _), (by decide : 11 + 0 ≤ _)⟩)
      dsimp only [Pt.U, Pt.locs, Pt.cells, Pt.slots] at X551 l551 y551 z551 st551 hQ551
      rw [l551, y551, z551] at X551
      obtain ⟨rfl, Nq551, hE551⟩ := hQ551
      have N551 := Fr.app N550 Nq551
      refine Go.tr st551 ?_
      show Go p.tables e below Kx _ (mkF m 148 _ [(.double (mst (mst (mst (mst FP.dconst0 0 1 (needd p2 rc)) 1 2 (needd p2 rc)) 1 3 (needd p2 rc)) 1 4 (needd p2 rc)))])
      refine s_dstore (pc' := 150) (Ls' := #[vi p0, vi p1, vi p2, vi p3, vi 4, vi rc, vi 0, vi 1, vi 0, vi 0, vr b539, vr b548, .val (.double (mst (mst (mst (mst FP.dconst0 0 1 (needd p2 rc)) 1 2 (needd p2 rc)) 1 3 (needd p2 rc)) 1 4 (needd p2 rc))), sn, un, un, un, un, un]) X551.here hx (hb hby at_148) rfl  rfl ?_
      refine s_iloadN (pc' := 151) X551.here hx (hb hby at_150) rfl rfl ?_
      refine s_i2d (pc' := 152) X551.here hx (hb hby at_151) rfl rfl ?_
      refine Go.st (X551.ldc2DoubleC hx hown (mvT hZ (hv hw 28 rfl)) (g := (mkF m 152 #[vi p0, vi p1, vi p2, vi p3, vi 4, vi rc, vi 0, vi 1, vi 0, vi 0, vr b539, vr b548, .val (.double (mst (mst (mst (mst FP.dconst0 0 1 (needd p2 rc)) 1 2 (needd p2 rc)) 1 3 (needd p2 rc)) 1 4 (needd p2 rc))), sn, un, un, un, un, un] [(.double (FP.i2d p2))])) rfl (hb hby at_152)) ?_
      show Go p.tables e below Kx _ (mkF m 155 _ [(.double (4621819117588971520 : UInt64)), (.double (FP.i2d p2))])
      refine s_ddiv (pc' := 156) X551.here hx (hb hby at_155) rfl (nn1 p2) rfl ?_
      refine s_iload (pc' := 158) X551.here hx (hb hby at_156) rfl rfl ?_
      refine s_i2d (pc' := 159) X551.here hx (hb hby at_158) rfl rfl ?_
      refine s_dmul (pc' := 160) X551.here hx (hb hby at_159) rfl (nn2 p2 hrc) rfl ?_
      refine Go.st (X551.ldc2DoubleC hx hown (mvT hZ (hv hw 29 rfl)) (g := (mkF m 160 #[vi p0, vi p1, vi p2, vi p3, vi 4, vi rc, vi 0, vi 1, vi 0, vi 0, vr b539, vr b548, .val (.double (mst (mst (mst (mst FP.dconst0 0 1 (needd p2 rc)) 1 2 (needd p2 rc)) 1 3 (needd p2 rc)) 1 4 (needd p2 rc))), sn, un, un, un, un, un] [(.double (FP.dmul (FP.ddiv (FP.i2d p2) (4621819117588971520 : UInt64)) (FP.i2d rc)))])) rfl (hb hby at_160)) ?_
      show Go p.tables e below Kx _ (mkF m 163 _ [(.double (4606281698874543309 : UInt64)), (.double (FP.dmul (FP.ddiv (FP.i2d p2) (4621819117588971520 : UInt64)) (FP.i2d rc)))])
      refine s_dadd (pc' := 164) X551.here hx (hb hby at_163) rfl (nn3 p2 hrc) rfl ?_
      refine s_d2l (pc' := 165) (z := needd p2 rc) X551.here hx (hb hby at_164) rfl rfl ?_
      show Go p.tables e below Kx _ (mkF m 165 _ [(.long (needd p2 rc))])
      generalize (needd p2 rc) = nd
      generalize hmm : (mst (mst (mst (mst FP.dconst0 0 1 nd) 1 2 nd) 1 3 nd) 1 4 nd) = mm
      show Go p.tables e below Kx _ (mkF m 165 _ [(.long nd)])
      refine s_lstore (pc' := 167) (Ls' := #[vi p0, vi p1, vi p2, vi p3, vi 4, vi rc, vi 0, vi 1, vi 0, vi 0, vr b539, vr b548, .val (.double mm), sn, .val (.long nd), sn, un, un, un]) X551.here hx (hb hby at_165) rfl  rfl ?_
      refine s_dconst0 (pc' := 168) X551.here hx (hb hby at_167) rfl rfl ?_
      refine s_dstore (pc' := 170) (Ls' := #[vi p0, vi p1, vi p2, vi p3, vi 4, vi rc, vi 0, vi 1, vi 0, vi 0, vr b539, vr b548, .val (.double mm), sn, .val (.long nd), sn, .val (.double FP.dconst0), sn, un]) X551.here hx (hb hby at_168) rfl  rfl ?_
      refine s_iconst (pc' := 171) (v := 0) X551.here hx (hb hby at_170) rfl rfl ?_
      refine s_istore (pc' := 173) (Ls' := #[vi p0, vi p1, vi p2, vi p3, vi 4, vi rc, vi 0, vi 1, vi 0, vi 0, vr b539, vr b548, .val (.double mm), sn, .val (.long nd), sn, .val (.double FP.dconst0), sn, vi 0]) X551.here hx (hb hby at_171) rfl  rfl ?_
      refine s_iload (pc' := 175) X551.here hx (hb hby at_173) rfl rfl ?_
      refine s_iconst (pc' := 176) (v := 1) X551.here hx (hb hby at_175) rfl rfl ?_
      refine s_icmpN (pc' := 179) X551.here hx (hb hby at_176) rfl (flt (by decide)).1 ?_
      refine s_iload (pc' := 181) X551.here hx (hb hby at_179) rfl rfl ?_
      refine s_ifY (pc' := 202) X551.here hx (hb hby at_181) ((if0 _ _).trans (teq (by decide)).1) (by decide) (by decide) ?_
      refine s_iload (pc' := 204) X551.here hx (hb hby at_202) rfl rfl ?_
      refine s_iconst (pc' := 205) (v := 2) X551.here hx (hb hby at_204) rfl rfl ?_
      refine s_icmpN (pc' := 208) X551.here hx (hb hby at_205) rfl (flt (by decide)).1 ?_
      refine s_iload (pc' := 210) X551.here hx (hb hby at_208) rfl rfl ?_
      refine s_ifN (pc' := 213) X551.here hx (hb hby at_210) rfl ((if0 _ _).trans (feq (by decide)).1) ?_
      refine s_iload (pc' := 215) X551.here hx (hb hby at_213) rfl rfl ?_
      refine s_iconst (pc' := 216) (v := 1) X551.here hx (hb hby at_215) rfl rfl ?_
      refine s_iadd (pc' := 217) (z := 1) X551.here hx (hb hby at_216) rfl (by decide) ?_
      refine s_istore (pc' := 219) (Ls' := #[vi p0, vi p1, vi p2, vi p3, vi 4, vi rc, vi 0, vi 1, vi 0, vi 0, vr b539, vr b548, .val (.double mm), sn, .val (.long nd), sn, .val (.double FP.dconst0), sn, vi 1]) X551.here hx (hb hby at_217) rfl  rfl ?_
      refine s_dload (pc' := 221) X551.here hx (hb hby at_219) rfl rfl ?_
      refine s_iload (pc' := 223) X551.here hx (hb hby at_221) rfl rfl ?_
      refine s_iconst (pc' := 224) (v := 2) X551.here hx (hb hby at_223) rfl rfl ?_
      refine s_lload (pc' := 226) X551.here hx (hb hby at_224) rfl rfl ?_
      obtain ⟨_, _, ⟨T552, L552, k552, n552⟩, -, X552, ⟨Lc552, hQ552, l552, y552, z552⟩, st552⟩ := Jvm.LawKit.callS X551 hx (y := yN3) hown (mvT hZ (hv hw 30 rfl)) (mvT hZ (hv hw 31 rfl)) (mvT hZ (hv hw 32 rfl)) (mvT hZ (hv hw 33 rfl)) (by decide) (backOf (W := 0) (rmB l Z a0 hw [] FP.dconst0 1 2 nd T550.heap n0 O550 (by decide)) hZ (hv hw 33 rfl) (hv hw 32 rfl) (by decide) (by decide)) (g := (mkF m 226 #[vi p0, vi p1, vi p2, vi p3, vi 4, vi rc, vi 0, vi 1, vi 0, vi 0, vr b539, vr b548, .val (.double mm), sn, .val (.long nd), sn, .val (.double FP.dconst0), sn, vi 1] [(.long nd), (.int 2), (.int 1), (.double FP.dconst0)])) rfl (by rw [hml]; rfl) (argsL := [(.double FP.dconst0), (.int 1), (.int 2), (.long nd)]) (rest := []) (lenOf pd_4 rfl) rfl (by exact Nat.le_of_eq rfl) (hb hby at_226) (fun _ _ => ⟨rfl, hE551, (by decide : 3 + 0 ≤ _), (by decide : 11 + 0 ≤ _)⟩)
      dsimp only [Pt.U, Pt.locs, Pt.cells, Pt.slots] at X552 l552 y552 z552 st552 hQ552
      rw [l552, y552, z552] at X552
      obtain ⟨rfl, Nq552, hE552⟩ := hQ552
      have N552 := Fr.app N551 Nq552
      refine Go.st st552 ?_
      show Go p.tables e below Kx _ (mkF m 229 _ [(.double (bst FP.dconst0 1 2 nd))])
      refine s_dstore (pc' := 231) (Ls' := #[vi p0, vi p1, vi p2, vi p3, vi 4, vi rc, vi 0, vi 1, vi 0, vi 0, vr b539, vr b548, .val (.double mm), sn, .val (.long nd), sn, .val (.double (bst FP.dconst0 1 2 nd)), sn, vi 1]) X552.here hx (hb hby at_229) rfl  rfl ?_
      refine s_iload (pc' := 233) X552.here hx (hb hby at_231) rfl rfl ?_
      refine s_iconst (pc' := 234) (v := 3) X552.here hx (hb hby at_233) rfl rfl ?_
      refine s_icmpN (pc' := 237) X552.here hx (hb hby at_234) rfl (flt (by decide)).1 ?_
      refine s_iload (pc' := 239) X552.here hx (hb hby at_237) rfl rfl ?_
      refine s_ifY (pc' := 260) X552.here hx (hb hby at_239) ((if0 _ _).trans (teq (by decide)).1) (by decide) (by decide) ?_
      refine s_iload (pc' := 262) X552.here hx (hb hby at_260) rfl rfl ?_
      refine s_iconst (pc' := 263) (v := 4) X552.here hx (hb hby at_262) rfl rfl ?_
      refine s_icmpN (pc' := 266) X552.here hx (hb hby at_263) rfl (flt (by decide)).1 ?_
      refine s_iload (pc' := 268) X552.here hx (hb hby at_266) rfl rfl ?_
      refine s_ifY (pc' := 289) X552.here hx (hb hby at_268) ((if0 _ _).trans (teq (by decide)).1) (by decide) (by decide) ?_
      refine s_dload (pc' := 291) X552.here hx (hb hby at_289) rfl rfl ?_
      refine s_dload (pc' := 293) X552.here hx (hb hby at_291) rfl rfl ?_
      refine s_dcmpl (pc' := 294) (z := 0) X552.here hx (hb hby at_293) rfl (by rw [← hmm]; exact fin_40100 nd) ?_
      refine s_ifN (pc' := 297) X552.here hx (hb hby at_294) rfl ((if0 _ _).trans (teq (by decide)).2) ?_
      refine s_iconst (pc' := 298) (v := 1) X552.here hx (hb hby at_297) rfl rfl ?_
      refine s_goto (pc' := 302) X552.here hx (hb hby at_298) (by decide) (by decide) ?_
      obtain ⟨fs, hr, hrun, hended, hW, hsame⟩ := X552.leave (v := (some (.int 1))) (fun h => by rw [Bd.returns] at h; cases h)
      refine Go.fin (retN X552 hx (t := .boolean) Bd.returns (by simp) (hb hby at_302) hr) (hF _ _ hrun hended ⟨_, _, rfl, ?_, ⟨_, rfl⟩, hW, hsame.mono (by decide) (by decide)⟩)
      ·
       show QL Z p0 p1 p2 p3 h0 n0 ((some (.int 1)) : Option Value) T552.heap _
       rw [hE552]
       exact ⟨rfl, N552⟩
     ·
      show Go p.tables e below Kx _ (mkF m 75 _ [])
      refine s_iload (pc' := 77) X0.here hx (hb hby at_75) rfl rfl ?_
      obtain ⟨T553, h553, k553, X553, e553, E553, A553, st553⟩ := newP X0 hx hZ (hv hw 1 rfl) e0 (g := (mkF m 77 #[vi p0, vi p1, vi p2, vi p3, vi 4, vi rc, vi 0, vi 1, vi 0, vi 1, un, un, un, un, un, un, un, un, un] [(.int 4)])) rfl (hb hby at_77) rfl (by decide) (cap := 4) (by decide) (by decide) (by decide) (by decide)
      obtain ⟨b553, g553⟩ : ∃ z, z = h0.size := ⟨_, rfl⟩
      rw [← g553] at A553 st553
      have sz553 : h0.size ≤ b553 := Nat.le_trans K0.1 (Nat.le_of_eq g553.symm)
      have ge553 : n0 ≤ b553 := Nat.le_trans (X00.1 ▸ X00.2.1) (Nat.le_of_eq g553.symm)
      have K553 : Keep h0 h553 [] := K0.ext E553
      have O553 : Old Z n0 h553 := X00.ext E553
      have V553 : Arv Z h553 b553 k553 .boolean 4 [(.int 0), (.int 0), (.int 0), (.int 0)] (.int 0) := (Arv.new A553 (by decide)).pad (pad_rep [] (.int 0) 4)
      refine Go.st st553 ?_
      show Go p.tables e below Kx _ (mkF m 79 _ [(.ref b553)])
      refine s_astore (pc' := 81) (Ls' := #[vi p0, vi p1, vi p2, vi p3, vi 4, vi rc, vi 0, vi 1, vi 0, vi 1, vr b553, un, un, un, un, un, un, un, un]) X553.here hx (hb hby at_79) rfl rfl rfl ?_
      refine s_iload (pc' := 83) X553.here hx (hb hby at_81) rfl rfl ?_
      refine s_iconst (pc' := 84) (v := 1) X553.here hx (hb hby at_83) rfl rfl ?_
      refine s_icmpN (pc' := 87) X553.here hx (hb hby at_84) rfl (flt (by decide)).1 ?_
      refine s_aload (pc' := 89) X553.here hx (hb hby at_87) rfl rfl rfl ?_
      refine s_iconst (pc' := 90) (v := 0) X553.here hx (hb hby at_89) rfl rfl ?_
      refine s_iload (pc' := 92) X553.here hx (hb hby at_90) rfl rfl ?_
      obtain ⟨cl554, Ar554, Aq554, As554, An554, Ah554, Ag554⟩ := id V553
      have in555 := inb_of (j := 0) As554 (by decide)
      obtain ⟨T555, h555, X555, e555, W555, st555⟩ := stZ X553 hx hZ e553 Ar554 (j := 0) in555 (g := (mkF m 92 #[vi p0, vi p1, vi p2, vi p3, vi 4, vi rc, vi 0, vi 1, vi 0, vi 1, vr b553, un, un, un, un, un, un, un, un] [(.int 0), (.int 0), (.ref b553)])) rfl rfl (hb hby at_92)
      have V555 : Arv Z h555 b553 k553 .boolean 4 [(.int 0), (.int 0), (.int 0), (.int 0)] (.int 0) := by
       have q := Arv.set Ar554 Aq554 As554 An554 Ah554 Ag554 (fits_nar_bool _) W555 0 rfl (Nat.le_of_ble_eq_true rfl)
       rw [show nar .boolean 0 = 0 from by decide] at q; exact q
      have K555 : Keep h0 h555 [] := K553.wr W555 (Or.inr sz553)
      have O555 : Old Z n0 h555 := O553.wr W555 ge553
      have N555 := Fr.snoc X555 N0 ge553
      refine Go.st st555 ?_
      show Go p.tables e below Kx _ (mkF m 93 _ [])
      refine s_iload (pc' := 95) X555.here hx (hb hby at_93) rfl rfl ?_
      refine s_iconst (pc' := 96) (v := 2) X555.here hx (hb hby at_95) rfl rfl ?_
      refine s_icmpN (pc' := 99) X555.here hx (hb hby at_96) rfl (flt (by decide)).1 ?_
      refine s_aload (pc' := 101) X555.here hx (hb hby at_99) rfl rfl rfl ?_
      refine s_iconst (pc' := 102) (v := 1) X555.here hx (hb hby at_101) rfl rfl ?_
      refine s_iload (pc' := 104) X555.here hx (hb hby at_102) rfl rfl ?_
      obtain ⟨cl556, Ar556, Aq556, As556, An556, Ah556, Ag556⟩ := id V555
      have in557 := inb_of (j := 1) As556 (by decide)
      obtain ⟨T557, h557, X557, e557, W557, st557⟩ := stZ X555 hx hZ e555 Ar556 (j := 1) in557 (g := (mkF m 104 #[vi p0, vi p1, vi p2, vi p3, vi 4, vi rc, vi 0, vi 1, vi 0, vi 1, vr b553, un, un, un, un, un, un, un, un] [(.int 1), (.int 1), (.ref b553)])) rfl rfl (hb hby at_104)
      have V557 : Arv Z h557 b553 k553 .boolean 4 [(.int 0), (.int 1), (.int 0), (.int 0)] (.int 0) := by
       have q := Arv.set Ar556 Aq556 As556 An556 Ah556 Ag556 (fits_nar_bool _) W557 1 rfl (Nat.le_of_ble_eq_true rfl)
       rw [show nar .boolean 1 = 1 from by decide] at q; exact q
      have K557 : Keep h0 h557 [] := K555.wr W557 (Or.inr sz553)
      have O557 : Old Z n0 h557 := O555.wr W557 ge553
      have N557 := Fr.snoc X557 N555 ge553
      refine Go.st st557 ?_
      show Go p.tables e below Kx _ (mkF m 105 _ [])
      refine s_iload (pc' := 107) X557.here hx (hb hby at_105) rfl rfl ?_
      refine s_iconst (pc' := 108) (v := 3) X557.here hx (hb hby at_107) rfl rfl ?_
      refine s_icmpN (pc' := 111) X557.here hx (hb hby at_108) rfl (flt (by decide)).1 ?_
      refine s_aload (pc' := 113) X557.here hx (hb hby at_111) rfl rfl rfl ?_
      refine s_iconst (pc' := 114) (v := 2) X557.here hx (hb hby at_113) rfl rfl ?_
      refine s_iload (pc' := 116) X557.here hx (hb hby at_114) rfl rfl ?_
      obtain ⟨cl558, Ar558, Aq558, As558, An558, Ah558, Ag558⟩ := id V557
      have in559 := inb_of (j := 2) As558 (by decide)
      obtain ⟨T559, h559, X559, e559, W559, st559⟩ := stZ X557 hx hZ e557 Ar558 (j := 2) in559 (g := (mkF m 116 #[vi p0, vi p1, vi p2, vi p3, vi 4, vi rc, vi 0, vi 1, vi 0, vi 1, vr b553, un, un, un, un, un, un, un, un] [(.int 0), (.int 2), (.ref b553)])) rfl rfl (hb hby at_116)
      have V559 : Arv Z h559 b553 k553 .boolean 4 [(.int 0), (.int 1), (.int 0), (.int 0)] (.int 0) := by
       have q := Arv.set Ar558 Aq558 As558 An558 Ah558 Ag558 (fits_nar_bool _) W559 2 rfl (Nat.le_of_ble_eq_true rfl)
       rw [show nar .boolean 0 = 0 from by decide] at q; exact q
      have K559 : Keep h0 h559 [] := K557.wr W559 (Or.inr sz553)
      have O559 : Old Z n0 h559 := O557.wr W559 ge553
      have N559 := Fr.snoc X559 N557 ge553
      refine Go.st st559 ?_
      show Go p.tables e below Kx _ (mkF m 117 _ [])
      refine s_iload (pc' := 119) X559.here hx (hb hby at_117) rfl rfl ?_
      refine s_iconst (pc' := 120) (v := 4) X559.here hx (hb hby at_119) rfl rfl ?_
      refine s_icmpN (pc' := 123) X559.here hx (hb hby at_120) rfl (flt (by decide)).1 ?_
      refine s_aload (pc' := 125) X559.here hx (hb hby at_123) rfl rfl rfl ?_
      refine s_iconst (pc' := 126) (v := 3) X559.here hx (hb hby at_125) rfl rfl ?_
      refine s_iload (pc' := 128) X559.here hx (hb hby at_126) rfl rfl ?_
      obtain ⟨cl560, Ar560, Aq560, As560, An560, Ah560, Ag560⟩ := id V559
      have in561 := inb_of (j := 3) As560 (by decide)
      obtain ⟨T561, h561, X561, e561, W561, st561⟩ := stZ X559 hx hZ e559 Ar560 (j := 3) in561 (g := (mkF m 128 #[vi p0, vi p1, vi p2, vi p3, vi 4, vi rc, vi 0, vi 1, vi 0, vi 1, vr b553, un, un, un, un, un, un, un, un] [(.int 1), (.int 3), (.ref b553)])) rfl rfl (hb hby at_128)
      have V561 : Arv Z h561 b553 k553 .boolean 4 [(.int 0), (.int 1), (.int 0), (.int 1)] (.int 0) := by
       have q := Arv.set Ar560 Aq560 As560 An560 Ah560 Ag560 (fits_nar_bool _) W561 3 rfl (Nat.le_of_ble_eq_true rfl)
       rw [show nar .boolean 1 = 1 from by decide] at q; exact q
      have K561 : Keep h0 h561 [] := K559.wr W561 (Or.inr sz553)
      have O561 : Old Z n0 h561 := O559.wr W561 ge553
      have N561 := Fr.snoc X561 N559 ge553
      refine Go.st st561 ?_
      show Go p.tables e below Kx _ (mkF m 129 _ [])
      obtain ⟨T562, h562, X562, e562, E562, A562, D562, -, st562⟩ := newO X561 hx hZ hown (hv hw 2 rfl) (hv hw 3 rfl) (hv hw 4 rfl) e561 (g := (mkF m 129 #[vi p0, vi p1, vi p2, vi p3, vi 4, vi rc, vi 0, vi 1, vi 0, vi 1, vr b553, un, un, un, un, un, un, un, un] [])) rfl (hb hby at_129) (by decide) (by decide)
      obtain ⟨b562, g562⟩ : ∃ z, z = h561.size := ⟨_, rfl⟩
      rw [← g562] at A562 D562 st562
      have sz562 : h0.size ≤ b562 := Nat.le_trans K561.1 (Nat.le_of_eq g562.symm)
      have ge562 : n0 ≤ b562 := Nat.le_trans (O561.1 ▸ O561.2.1) (Nat.le_of_eq g562.symm)
      have K562 : Keep h0 h562 [] := K561.ext E562
      have O562 : Old Z n0 h562 := O561.ext E562
      have F562_relevantWithin : Fld Z h562 b562 "com/example/kingfisher/kingfisher/eval/TopicRanking" "relevantWithin" "[I" .null := D562 (Or.inr (hv hw 13 rfl)) (ty := (.array .int)) (by decide)
      have F562_relevantCount : Fld Z h562 b562 "com/example/kingfisher/kingfisher/eval/TopicRanking" "relevantCount" "I" (.int 0) := D562 (Or.inr (hv hw 15 rfl)) (ty := .int) (by decide)
      refine Go.st st562 ?_
      show Go p.tables e below Kx _ (mkF m 132 _ [(.ref b562)])
      refine s_dup (pc' := 133) X562.here hx (hb hby at_132) rfl rfl ?_
      refine s_aload (pc' := 135) X562.here hx (hb hby at_133) rfl rfl rfl ?_
      refine s_iload (pc' := 137) X562.here hx (hb hby at_135) rfl rfl ?_
      have f563 : Arv Z h562 b553 k553 .boolean 4 [(.int 0), (.int 1), (.int 0), (.int 1)] (.int 0) := (V561.ext E562)
      obtain ⟨_, _, ⟨T564, L564, k564, n564⟩, -, X564, ⟨Lc564, hQ564, l564, y564, z564⟩, st564⟩ := X562.specialBack hx (y := yN0) rfl hown (mvT hZ (hv hw 5 rfl)) (mvT hZ (hv hw 6 rfl)) (mvT hZ (hv hw 7 rfl)) (by decide) (backOf (W := 1) (rmN4 l Z a0 hw [] b562 b553 k553 0 1 0 1 0 1 1 2 rc h562 n0 O562 ge562 (Nat.ne_of_lt (Nat.lt_of_lt_of_le (Nat.lt_of_lt_of_le A553.lt (Nat.le_trans (Nat.le_trans (Nat.le_trans (Nat.le_of_eq W555.size.symm) (Nat.le_of_eq W557.size.symm)) (Nat.le_of_eq W559.size.symm)) (Nat.le_of_eq W561.size.symm))) (Nat.le_of_eq g562.symm))) A562 F562_relevantWithin F562_relevantCount f563 (by decide) (by decide) (by decide) (by decide)) hZ (hv hw 7 rfl) (hv hw 4 rfl) (by decide) (by decide)) (g := (mkF m 137 #[vi p0, vi p1, vi p2, vi p3, vi 4, vi rc, vi 0, vi 1, vi 0, vi 1, vr b553, un, un, un, un, un, un, un, un] [(.int rc), (.ref b553), (.ref b562), (.ref b562)])) rfl (by rw [hml]; rfl) (Steps.refl _) (a := b562) (argsL := [(.ref b553), (.int rc)]) (rest := [(.ref b562)]) (lenOf pd_2 rfl) rfl (by exact Nat.le_of_eq rfl) (hb hby at_137) (fun _ _ => ⟨rfl, e562, (by decide : 2 + 1 ≤ _), (by decide : 6 + 5 ≤ _)⟩)
      dsimp only [Pt.U, Pt.locs, Pt.cells, Pt.slots] at X564 l564 y564 z564 st564 hQ564
      rw [l564, y564, z564] at X564
      obtain ⟨rfl, Nq564, Kq564, q1_564, q2_564, t564, kt564, q3_564, q4_564⟩ := hQ564
      have N564 := Fr.app N561 Nq564
      have K564 : Keep h0 T564.heap [] := K562.trans Kq564 (allS (P := fun zz => zz ∈ [] ∨ h0.size ≤ zz) (Or.inr sz562) all0)
      have O564 : Old Z n0 T564.heap := O562.keep Kq564 (allS ge562 all0)
      refine Go.tr st564 ?_
      show Go p.tables e below Kx _ (mkF m 140 _ [(.ref b562)])
      refine s_astore (pc' := 142) (Ls' := #[vi p0, vi p1, vi p2, vi p3, vi 4, vi rc, vi 0, vi 1, vi 0, vi 1, vr b553, vr b562, un, un, un, un, un, un, un]) X564.here hx (hb hby at_140) rfl rfl rfl ?_
      refine s_aload (pc' := 144) X564.here hx (hb hby at_142) rfl rfl rfl ?_
      refine s_iloadN (pc' := 145) X564.here hx (hb hby at_144) rfl rfl ?_
      obtain ⟨cq565, kq565, q565a, q565b, q565c⟩ := isOf hZ rfl q1_564
      obtain ⟨_, _, ⟨T565, L565, k565, n565⟩, -, X565, ⟨Lc565, hQ565, l565, y565, z565⟩, st565⟩ := X564.virtualBack hx (y := yN1) (z := yN1) hown (mvT hZ (hv hw 16 rfl)) (mvT hZ (hv hw 17 rfl)) (notFace_of_selects (args := #[]) (mvT hZ (hv hw 19 rfl))) (mvT hZ (hv hw 19 rfl)) (mvT hZ (hv hw 18 rfl)) (by decide) (backOf (W := 0) (rmA4 l Z a0 hw [] b562 t564 kt564 0 1 1 2 rc p2 T564.heap n0 O564 hrc q1_564 q3_564 q2_564 q4_564) hZ (hv hw 20 rfl) (hv hw 4 rfl) (by decide) (by decide)) q565a q565c (g := (mkF m 145 #[vi p0, vi p1, vi p2, vi p3, vi 4, vi rc, vi 0, vi 1, vi 0, vi 1, vr b553, vr b562, un, un, un, un, un, un, un] [(.int p2), (.ref b562)])) rfl (by rw [hml]; rfl) (Steps.refl _) (argsL := [(.int p2)]) (rest := []) (lenOf pd_3 rfl) rfl (by exact Nat.le_of_eq rfl) (hb hby at_145) (fun _ _ => ⟨rfl, rfl, (by decide : 3 + 0 ≤ _), (by decide : 11 + 0 ≤ _)⟩)
      dsimp only [Pt.U, Pt.locs, Pt.cells, Pt.slots] at X565 l565 y565 z565 st565 hQ565
      rw [l565, y565, z565] at X565
      obtain ⟨rfl, Nq565, hE565⟩ := hQ565
      have N565 := Fr.app N564 Nq565
      refine Go.tr st565 ?_
      show Go p.tables e below Kx _ (mkF m 148 _ [(.double (mst (mst (mst (mst FP.dconst0 0 1 (needd p2 rc)) 1 2 (needd p2 rc)) 1 3 (needd p2 rc)) 2 4 (needd p2 rc)))])
      refine s_dstore (pc' := 150) (Ls' := #[vi p0, vi p1, vi p2, vi p3, vi 4, vi rc, vi 0, vi 1, vi 0, vi 1, vr b553, vr b562, .val (.double (mst (mst (mst (mst FP.dconst0 0 1 (needd p2 rc)) 1 2 (needd p2 rc)) 1 3 (needd p2 rc)) 2 4 (needd p2 rc))), sn, un, un, un, un, un]) X565.here hx (hb hby at_148) rfl  rfl ?_
      refine s_iloadN (pc' := 151) X565.here hx (hb hby at_150) rfl rfl ?_
      refine s_i2d (pc' := 152) X565.here hx (hb hby at_151) rfl rfl ?_
      refine Go.st (X565.ldc2DoubleC hx hown (mvT hZ (hv hw 28 rfl)) (g := (mkF m 152 #[vi p0, vi p1, vi p2, vi p3, vi 4, vi rc, vi 0, vi 1, vi 0, vi 1, vr b553, vr b562, .val (.double (mst (mst (mst (mst FP.dconst0 0 1 (needd p2 rc)) 1 2 (needd p2 rc)) 1 3 (needd p2 rc)) 2 4 (needd p2 rc))), sn, un, un, un, un, un] [(.double (FP.i2d p2))])) rfl (hb hby at_152)) ?_
      show Go p.tables e below Kx _ (mkF m 155 _ [(.double (4621819117588971520 : UInt64)), (.double (FP.i2d p2))])
      refine s_ddiv (pc' := 156) X565.here hx (hb hby at_155) rfl (nn1 p2) rfl ?_
      refine s_iload (pc' := 158) X565.here hx (hb hby at_156) rfl rfl ?_
      refine s_i2d (pc' := 159) X565.here hx (hb hby at_158) rfl rfl ?_
      refine s_dmul (pc' := 160) X565.here hx (hb hby at_159) rfl (nn2 p2 hrc) rfl ?_
      refine Go.st (X565.ldc2DoubleC hx hown (mvT hZ (hv hw 29 rfl)) (g := (mkF m 160 #[vi p0, vi p1, vi p2, vi p3, vi 4, vi rc, vi 0, vi 1, vi 0, vi 1, vr b553, vr b562, .val (.double (mst (mst (mst (mst FP.dconst0 0 1 (needd p2 rc)) 1 2 (needd p2 rc)) 1 3 (needd p2 rc)) 2 4 (needd p2 rc))), sn, un, un, un, un, un] [(.double (FP.dmul (FP.ddiv (FP.i2d p2) (4621819117588971520 : UInt64)) (FP.i2d rc)))])) rfl (hb hby at_160)) ?_
      show Go p.tables e below Kx _ (mkF m 163 _ [(.double (4606281698874543309 : UInt64)), (.double (FP.dmul (FP.ddiv (FP.i2d p2) (4621819117588971520 : UInt64)) (FP.i2d rc)))])
      refine s_dadd (pc' := 164) X565.here hx (hb hby at_163) rfl (nn3 p2 hrc) rfl ?_
      refine s_d2l (pc' := 165) (z := needd p2 rc) X565.here hx (hb hby at_164) rfl rfl ?_
      show Go p.tables e below Kx _ (mkF m 165 _ [(.long (needd p2 rc))])
      generalize (needd p2 rc) = nd
      generalize hmm : (mst (mst (mst (mst FP.dconst0 0 1 nd) 1 2 nd) 1 3 nd) 2 4 nd) = mm
      show Go p.tables e below Kx _ (mkF m 165 _ [(.long nd)])
      refine s_lstore (pc' := 167) (Ls' := #[vi p0, vi p1, vi p2, vi p3, vi 4, vi rc, vi 0, vi 1, vi 0, vi 1, vr b553, vr b562, .val (.double mm), sn, .val (.long nd), sn, un, un, un]) X565.here hx (hb hby at_165) rfl  rfl ?_
      refine s_dconst0 (pc' := 168) X565.here hx (hb hby at_167) rfl rfl ?_
      refine s_dstore (pc' := 170) (Ls' := #[vi p0, vi p1, vi p2, vi p3, vi 4, vi rc, vi 0, vi 1, vi 0, vi 1, vr b553, vr b562, .val (.double mm), sn, .val (.long nd), sn, .val (.double FP.dconst0), sn, un]) X565.here hx (hb hby at_168) rfl  rfl ?_
      refine s_iconst (pc' := 171) (v := 0) X565.here hx (hb hby at_170) rfl rfl ?_
      refine s_istore (pc' := 173) (Ls' := #[vi p0, vi p1, vi p2, vi p3, vi 4, vi rc, vi 0, vi 1, vi 0, vi 1, vr b553, vr b562, .val (.double mm), sn, .val (.long nd), sn, .val (.double FP.dconst0), sn, vi 0]) X565.here hx (hb hby at_171) rfl  rfl ?_
      refine s_iload (pc' := 175) X565.here hx (hb hby at_173) rfl rfl ?_
      refine s_iconst (pc' := 176) (v := 1) X565.here hx (hb hby at_175) rfl rfl ?_
      refine s_icmpN (pc' := 179) X565.here hx (hb hby at_176) rfl (flt (by decide)).1 ?_
      refine s_iload (pc' := 181) X565.here hx (hb hby at_179) rfl rfl ?_
      refine s_ifY (pc' := 202) X565.here hx (hb hby at_181) ((if0 _ _).trans (teq (by decide)).1) (by decide) (by decide) ?_
      refine s_iload (pc' := 204) X565.here hx (hb hby at_202) rfl rfl ?_
      refine s_iconst (pc' := 205) (v := 2) X565.here hx (hb hby at_204) rfl rfl ?_
      refine s_icmpN (pc' := 208) X565.here hx (hb hby at_205) rfl (flt (by decide)).1 ?_
      refine s_iload (pc' := 210) X565.here hx (hb hby at_208) rfl rfl ?_
      refine s_ifN (pc' := 213) X565.here hx (hb hby at_210) rfl ((if0 _ _).trans (feq (by decide)).1) ?_
      refine s_iload (pc' := 215) X565.here hx (hb hby at_213) rfl rfl ?_
      refine s_iconst (pc' := 216) (v := 1) X565.here hx (hb hby at_215) rfl rfl ?_
      refine s_iadd (pc' := 217) (z := 1) X565.here hx (hb hby at_216) rfl (by decide) ?_
      refine s_istore (pc' := 219) (Ls' := #[vi p0, vi p1, vi p2, vi p3, vi 4, vi rc, vi 0, vi 1, vi 0, vi 1, vr b553, vr b562, .val (.double mm), sn, .val (.long nd), sn, .val (.double FP.dconst0), sn, vi 1]) X565.here hx (hb hby at_217) rfl  rfl ?_
      refine s_dload (pc' := 221) X565.here hx (hb hby at_219) rfl rfl ?_
      refine s_iload (pc' := 223) X565.here hx (hb hby at_221) rfl rfl ?_
      refine s_iconst (pc' := 224) (v := 2) X565.here hx (hb hby at_223) rfl rfl ?_
      refine s_lload (pc' := 226) X565.here hx (hb hby at_224) rfl rfl ?_
      obtain ⟨_, _, ⟨T566, L566, k566, n566⟩, -, X566, ⟨Lc566, hQ566, l566, y566, z566⟩, st566⟩ := Jvm.LawKit.callS X565 hx (y := yN3) hown (mvT hZ (hv hw 30 rfl)) (mvT hZ (hv hw 31 rfl)) (mvT hZ (hv hw 32 rfl)) (mvT hZ (hv hw 33 rfl)) (by decide) (backOf (W := 0) (rmB l Z a0 hw [] FP.dconst0 1 2 nd T564.heap n0 O564 (by decide)) hZ (hv hw 33 rfl) (hv hw 32 rfl) (by decide) (by decide)) (g := (mkF m 226 #[vi p0, vi p1, vi p2, vi p3, vi 4, vi rc, vi 0, vi 1, vi 0, vi 1, vr b553, vr b562, .val (.double mm), sn, .val (.long nd), sn, .val (.double FP.dconst0), sn, vi 1] [(.long nd), (.int 2), (.int 1), (.double FP.dconst0)])) rfl (by rw [hml]; rfl) (argsL := [(.double FP.dconst0), (.int 1), (.int 2), (.long nd)]) (rest := []) (lenOf pd_4 rfl) rfl (by exact Nat.le_of_eq rfl) (hb hby at_226) (fun _ _ => ⟨rfl, hE565, (by decide : 3 + 0 ≤ _), (by decide : 11 + 0 ≤ _)⟩)
      dsimp only [Pt.U, Pt.locs, Pt.cells, Pt.slots] at X566 l566 y566 z566 st566 hQ566
      rw [l566, y566, z566] at X566
      obtain ⟨rfl, Nq566, hE566⟩ := hQ566
      have N566 := Fr.app N565 Nq566
      refine Go.st st566 ?_
      show Go p.tables e below Kx _ (mkF m 229 _ [(.double (bst FP.dconst0 1 2 nd))])
      refine s_dstore (pc' := 231) (Ls' := #[vi p0, vi p1, vi p2, vi p3, vi 4, vi rc, vi 0, vi 1, vi 0, vi 1, vr b553, vr b562, .val (.double mm), sn, .val (.long nd), sn, .val (.double (bst FP.dconst0 1 2 nd)), sn, vi 1]) X566.here hx (hb hby at_229) rfl  rfl ?_
      refine s_iload (pc' := 233) X566.here hx (hb hby at_231) rfl rfl ?_
      refine s_iconst (pc' := 234) (v := 3) X566.here hx (hb hby at_233) rfl rfl ?_
      refine s_icmpN (pc' := 237) X566.here hx (hb hby at_234) rfl (flt (by decide)).1 ?_
      refine s_iload (pc' := 239) X566.here hx (hb hby at_237) rfl rfl ?_
      refine s_ifY (pc' := 260) X566.here hx (hb hby at_239) ((if0 _ _).trans (teq (by decide)).1) (by decide) (by decide) ?_
      refine s_iload (pc' := 262) X566.here hx (hb hby at_260) rfl rfl ?_
      refine s_iconst (pc' := 263) (v := 4) X566.here hx (hb hby at_262) rfl rfl ?_
      refine s_icmpN (pc' := 266) X566.here hx (hb hby at_263) rfl (flt (by decide)).1 ?_
      refine s_iload (pc' := 268) X566.here hx (hb hby at_266) rfl rfl ?_
      refine s_ifN (pc' := 271) X566.here hx (hb hby at_268) rfl ((if0 _ _).trans (feq (by decide)).1) ?_
      refine s_iload (pc' := 273) X566.here hx (hb hby at_271) rfl rfl ?_
      refine s_iconst (pc' := 274) (v := 1) X566.here hx (hb hby at_273) rfl rfl ?_
      refine s_iadd (pc' := 275) (z := 2) X566.here hx (hb hby at_274) rfl (by decide) ?_
      refine s_istore (pc' := 277) (Ls' := #[vi p0, vi p1, vi p2, vi p3, vi 4, vi rc, vi 0, vi 1, vi 0, vi 1, vr b553, vr b562, .val (.double mm), sn, .val (.long nd), sn, .val (.double (bst FP.dconst0 1 2 nd)), sn, vi 2]) X566.here hx (hb hby at_275) rfl  rfl ?_
      refine s_dload (pc' := 279) X566.here hx (hb hby at_277) rfl rfl ?_
      refine s_iload (pc' := 281) X566.here hx (hb hby at_279) rfl rfl ?_
      refine s_iconst (pc' := 282) (v := 4) X566.here hx (hb hby at_281) rfl rfl ?_
      refine s_lload (pc' := 284) X566.here hx (hb hby at_282) rfl rfl ?_
      obtain ⟨_, _, ⟨T567, L567, k567, n567⟩, -, X567, ⟨Lc567, hQ567, l567, y567, z567⟩, st567⟩ := Jvm.LawKit.callS X566 hx (y := yN3) hown (mvT hZ (hv hw 30 rfl)) (mvT hZ (hv hw 31 rfl)) (mvT hZ (hv hw 32 rfl)) (mvT hZ (hv hw 33 rfl)) (by decide) (backOf (W := 0) (rmB l Z a0 hw [] (bst FP.dconst0 1 2 nd) 2 4 nd T564.heap n0 O564 (by decide)) hZ (hv hw 33 rfl) (hv hw 32 rfl) (by decide) (by decide)) (g := (mkF m 284 #[vi p0, vi p1, vi p2, vi p3, vi 4, vi rc, vi 0, vi 1, vi 0, vi 1, vr b553, vr b562, .val (.double mm), sn, .val (.long nd), sn, .val (.double (bst FP.dconst0 1 2 nd)), sn, vi 2] [(.long nd), (.int 4), (.int 2), (.double (bst FP.dconst0 1 2 nd))])) rfl (by rw [hml]; rfl) (argsL := [(.double (bst FP.dconst0 1 2 nd)), (.int 2), (.int 4), (.long nd)]) (rest := []) (lenOf pd_4 rfl) rfl (by exact Nat.le_of_eq rfl) (hb hby at_284) (fun _ _ => ⟨rfl, hE566, (by decide : 3 + 0 ≤ _), (by decide : 11 + 0 ≤ _)⟩)
      dsimp only [Pt.U, Pt.locs, Pt.cells, Pt.slots] at X567 l567 y567 z567 st567 hQ567
      rw [l567, y567, z567] at X567
      obtain ⟨rfl, Nq567, hE567⟩ := hQ567
      have N567 := Fr.app N566 Nq567
      refine Go.st st567 ?_
      show Go p.tables e below Kx _ (mkF m 287 _ [(.double (bst (bst FP.dconst0 1 2 nd) 2 4 nd))])
      refine s_dstore (pc' := 289) (Ls' := #[vi p0, vi p1, vi p2, vi p3, vi 4, vi rc, vi 0, vi 1, vi 0, vi 1, vr b553, vr b562, .val (.double mm), sn, .val (.long nd), sn, .val (.double (bst (bst FP.dconst0 1 2 nd) 2 4 nd)), sn, vi 2]) X567.here hx (hb hby at_287) rfl  rfl ?_
      refine s_dload (pc' := 291) X567.here hx (hb hby at_289) rfl rfl ?_
      refine s_dload (pc' := 293) X567.here hx (hb hby at_291) rfl rfl ?_
      refine s_dcmpl (pc' := 294) (z := 0) X567.here hx (hb hby at_293) rfl (by rw [← hmm]; exact fin_40101 nd) ?_
      refine s_ifN (pc' := 297) X567.here hx (hb hby at_294) rfl ((if0 _ _).trans (teq (by decide)).2) ?_
      refine s_iconst (pc' := 298) (v := 1) X567.here hx (hb hby at_297) rfl rfl ?_
      refine s_goto (pc' := 302) X567.here hx (hb hby at_298) (by decide) (by decide) ?_
      obtain ⟨fs, hr, hrun, hended, hW, hsame⟩ := X567.leave (v := (some (.int 1))) (fun h => by rw [Bd.returns] at h; cases h)
      refine Go.fin (retN X567 hx (t := .boolean) Bd.returns (by simp) (hb hby at_302) hr) (hF _ _ hrun hended ⟨_, _, rfl, ?_, ⟨_, rfl⟩, hW, hsame.mono (by decide) (by decide)⟩)
      ·
       show QL Z p0 p1 p2 p3 h0 n0 ((some (.int 1)) : Option Value) T567.heap _
       rw [hE567]
       exact ⟨rfl, N567⟩
    ·
     rcases hx4 with rfl | rfl
     ·
      show Go p.tables e below Kx _ (mkF m 75 _ [])
      refine s_iload (pc' := 77) X0.here hx (hb hby at_75) rfl rfl ?_
      obtain ⟨T568, h568, k568, X568, e568, E568, A568, st568⟩ := newP X0 hx hZ (hv hw 1 rfl) e0 (g := (mkF m 77 #[vi p0, vi p1, vi p2, vi p3, vi 4, vi rc, vi 0, vi 1, vi 1, vi 0, un, un, un, un, un, un, un, un, un] [(.int 4)])) rfl (hb hby at_77) rfl (by decide) (cap := 4) (by decide) (by decide) (by decide) (by decide)
      obtain ⟨b568, g568⟩ : ∃ z, z = h0.size := ⟨_, rfl⟩
      rw [← g568] at A568 st568
      have sz568 : h0.size ≤ b568 := Nat.le_trans K0.1 (Nat.le_of_eq g568.symm)
      have ge568 : n0 ≤ b568 := Nat.le_trans (X00.1 ▸ X00.2.1) (Nat.le_of_eq g568.symm)
      have K568 : Keep h0 h568 [] := K0.ext E568
      have O568 : Old Z n0 h568 := X00.ext E568
      have V568 : Arv Z h568 b568 k568 .boolean 4 [(.int 0), (.int 0), (.int 0), (.int 0)] (.int 0) := (Arv.new A568 (by decide)).pad (pad_rep [] (.int 0) 4)
      refine Go.st st568 ?_
      show Go p.tables e below Kx _ (mkF m 79 _ [(.ref b568)])
      refine s_astore (pc' := 81) (Ls' := #[vi p0, vi p1, vi p2, vi p3, vi 4, vi rc, vi 0, vi 1, vi 1, vi 0, vr b568, un, un, un, un, un, un, un, un]) X568.here hx (hb hby at_79) rfl rfl rfl ?_
      refine s_iload (pc' := 83) X568.here hx (hb hby at_81) rfl rfl ?_
      refine s_iconst (pc' := 84) (v := 1) X568.here hx (hb hby at_83) rfl rfl ?_
      refine s_icmpN (pc' := 87) X568.here hx (hb hby at_84) rfl (flt (by decide)).1 ?_
      refine s_aload (pc' := 89) X568.here hx (hb hby at_87) rfl rfl rfl ?_
      refine s_iconst (pc' := 90) (v := 0) X568.here hx (hb hby at_89) rfl rfl ?_
      refine s_iload (pc' := 92) X568.here hx (hb hby at_90) rfl rfl ?_
      obtain ⟨cl569, Ar569, Aq569, As569, An569, Ah569, Ag569⟩ := id V568
      have in570 := inb_of (j := 0) As569 (by decide)
      obtain ⟨T570, h570, X570, e570, W570, st570⟩ := stZ X568 hx hZ e568 Ar569 (j := 0) in570 (g := (mkF m 92 #[vi p0, vi p1, vi p2, vi p3, vi 4, vi rc, vi 0, vi 1, vi 1, vi 0, vr b568, un, un, un, un, un, un, un, un] [(.int 0), (.int 0), (.ref b568)])) rfl rfl (hb hby at_92)
      have V570 : Arv Z h570 b568 k568 .boolean 4 [(.int 0), (.int 0), (.int 0), (.int 0)] (.int 0) := by
       have q := Arv.set Ar569 Aq569 As569 An569 Ah569 Ag569 (fits_nar_bool _) W570 0 rfl (Nat.le_of_ble_eq_true rfl)
       rw [show nar .boolean 0 = 0 from by decide] at q; exact q
      have K570 : Keep h0 h570 [] := K568.wr W570 (Or.inr sz568)
      have O570 : Old Z n0 h570 := O568.wr W570 ge568
      have N570 := Fr.snoc X570 N0 ge568
      refine Go.st st570 ?_
      show Go p.tables e below Kx _ (mkF m 93 _ [])
      refine s_iload (pc' := 95) X570.here hx (hb hby at_93) rfl rfl ?_
      refine s_iconst (pc' := 96) (v := 2) X570.here hx (hb hby at_95) rfl rfl ?_
      refine s_icmpN (pc' := 99) X570.here hx (hb hby at_96) rfl (flt (by decide)).1 ?_
      refine s_aload (pc' := 101) X570.here hx (hb hby at_99) rfl rfl rfl ?_
      refine s_iconst (pc' := 102) (v := 1) X570.here hx (hb hby at_101) rfl rfl ?_
      refine s_iload (pc' := 104) X570.here hx (hb hby at_102) rfl rfl ?_
      obtain ⟨cl571, Ar571, Aq571, As571, An571, Ah571, Ag571⟩ := id V570
      have in572 := inb_of (j := 1) As571 (by decide)
      obtain ⟨T572, h572, X572, e572, W572, st572⟩ := stZ X570 hx hZ e570 Ar571 (j := 1) in572 (g := (mkF m 104 #[vi p0, vi p1, vi p2, vi p3, vi 4, vi rc, vi 0, vi 1, vi 1, vi 0, vr b568, un, un, un, un, un, un, un, un] [(.int 1), (.int 1), (.ref b568)])) rfl rfl (hb hby at_104)
      have V572 : Arv Z h572 b568 k568 .boolean 4 [(.int 0), (.int 1), (.int 0), (.int 0)] (.int 0) := by
       have q := Arv.set Ar571 Aq571 As571 An571 Ah571 Ag571 (fits_nar_bool _) W572 1 rfl (Nat.le_of_ble_eq_true rfl)
       rw [show nar .boolean 1 = 1 from by decide] at q; exact q
      have K572 : Keep h0 h572 [] := K570.wr W572 (Or.inr sz568)
      have O572 : Old Z n0 h572 := O570.wr W572 ge568
      have N572 := Fr.snoc X572 N570 ge568
      refine Go.st st572 ?_
      show Go p.tables e below Kx _ (mkF m 105 _ [])
      refine s_iload (pc' := 107) X572.here hx (hb hby at_105) rfl rfl ?_
      refine s_iconst (pc' := 108) (v := 3) X572.here hx (hb hby at_107) rfl rfl ?_
      refine s_icmpN (pc' := 111) X572.here hx (hb hby at_108) rfl (flt (by decide)).1 ?_
      refine s_aload (pc' := 113) X572.here hx (hb hby at_111) rfl rfl rfl ?_
      refine s_iconst (pc' := 114) (v := 2) X572.here hx (hb hby at_113) rfl rfl ?_
      refine s_iload (pc' := 116) X572.here hx (hb hby at_114) rfl rfl ?_
      obtain ⟨cl573, Ar573, Aq573, As573, An573, Ah573, Ag573⟩ := id V572
      have in574 := inb_of (j := 2) As573 (by decide)
      obtain ⟨T574, h574, X574, e574, W574, st574⟩ := stZ X572 hx hZ e572 Ar573 (j := 2) in574 (g := (mkF m 116 #[vi p0, vi p1, vi p2, vi p3, vi 4, vi rc, vi 0, vi 1, vi 1, vi 0, vr b568, un, un, un, un, un, un, un, un] [(.int 1), (.int 2), (.ref b568)])) rfl rfl (hb hby at_116)
      have V574 : Arv Z h574 b568 k568 .boolean 4 [(.int 0), (.int 1), (.int 1), (.int 0)] (.int 0) := by
       have q := Arv.set Ar573 Aq573 As573 An573 Ah573 Ag573 (fits_nar_bool _) W574 2 rfl (Nat.le_of_ble_eq_true rfl)
       rw [show nar .boolean 1 = 1 from by decide] at q; exact q
      have K574 : Keep h0 h574 [] := K572.wr W574 (Or.inr sz568)
      have O574 : Old Z n0 h574 := O572.wr W574 ge568
      have N574 := Fr.snoc X574 N572 ge568
      refine Go.st st574 ?_
      show Go p.tables e below Kx _ (mkF m 117 _ [])
      refine s_iload (pc' := 119) X574.here hx (hb hby at_117) rfl rfl ?_
      refine s_iconst (pc' := 120) (v := 4) X574.here hx (hb hby at_119) rfl rfl ?_
      refine s_icmpN (pc' := 123) X574.here hx (hb hby at_120) rfl (flt (by decide)).1 ?_
      refine s_aload (pc' := 125) X574.here hx (hb hby at_123) rfl rfl rfl ?_
      refine s_iconst (pc' := 126) (v := 3) X574.here hx (hb hby at_125) rfl rfl ?_
      refine s_iload (pc' := 128) X574.here hx (hb hby at_126) rfl rfl ?_
      obtain ⟨cl575, Ar575, Aq575, As575, An575, Ah575, Ag575⟩ := id V574
      have in576 := inb_of (j := 3) As575 (by decide)
      obtain ⟨T576, h576, X576, e576, W576, st576⟩ := stZ X574 hx hZ e574 Ar575 (j := 3) in576 (g := (mkF m 128 #[vi p0, vi p1, vi p2, vi p3, vi 4, vi rc, vi 0, vi 1, vi 1, vi 0, vr b568, un, un, un, un, un, un, un, un] [(.int 0), (.int 3), (.ref b568)])) rfl rfl (hb hby at_128)
      have V576 : Arv Z h576 b568 k568 .boolean 4 [(.int 0), (.int 1), (.int 1), (.int 0)] (.int 0) := by
       have q := Arv.set Ar575 Aq575 As575 An575 Ah575 Ag575 (fits_nar_bool _) W576 3 rfl (Nat.le_of_ble_eq_true rfl)
       rw [show nar .boolean 0 = 0 from by decide] at q; exact q
      have K576 : Keep h0 h576 [] := K574.wr W576 (Or.inr sz568)
      have O576 : Old Z n0 h576 := O574.wr W576 ge568
      have N576 := Fr.snoc X576 N574 ge568
      refine Go.st st576 ?_
      show Go p.tables e below Kx _ (mkF m 129 _ [])
      obtain ⟨T577, h577, X577, e577, E577, A577, D577, -, st577⟩ := newO X576 hx hZ hown (hv hw 2 rfl) (hv hw 3 rfl) (hv hw 4 rfl) e576 (g := (mkF m 129 #[vi p0, vi p1, vi p2, vi p3, vi 4, vi rc, vi 0, vi 1, vi 1, vi 0, vr b568, un, un, un, un, un, un, un, un] [])) rfl (hb hby at_129) (by decide) (by decide)
      obtain ⟨b577, g577⟩ : ∃ z, z = h576.size := ⟨_, rfl⟩
      rw [← g577] at A577 D577 st577
      have sz577 : h0.size ≤ b577 := Nat.le_trans K576.1 (Nat.le_of_eq g577.symm)
      have ge577 : n0 ≤ b577 := Nat.le_trans (O576.1 ▸ O576.2.1) (Nat.le_of_eq g577.symm)
      have K577 : Keep h0 h577 [] := K576.ext E577
      have O577 : Old Z n0 h577 := O576.ext E577
      have F577_relevantWithin : Fld Z h577 b577 "com/example/kingfisher/kingfisher/eval/TopicRanking" "relevantWithin" "[I" .null := D577 (Or.inr (hv hw 13 rfl)) (ty := (.array .int)) (by decide)
      have F577_relevantCount : Fld Z h577 b577 "com/example/kingfisher/kingfisher/eval/TopicRanking" "relevantCount" "I" (.int 0) := D577 (Or.inr (hv hw 15 rfl)) (ty := .int) (by decide)
      refine Go.st st577 ?_
      show Go p.tables e below Kx _ (mkF m 132 _ [(.ref b577)])
      refine s_dup (pc' := 133) X577.here hx (hb hby at_132) rfl rfl ?_
      refine s_aload (pc' := 135) X577.here hx (hb hby at_133) rfl rfl rfl ?_
      refine s_iload (pc' := 137) X577.here hx (hb hby at_135) rfl rfl ?_
      have f578 : Arv Z h577 b568 k568 .boolean 4 [(.int 0), (.int 1), (.int 1), (.int 0)] (.int 0) := (V576.ext E577)
      obtain ⟨_, _, ⟨T579, L579, k579, n579⟩, -, X579, ⟨Lc579, hQ579, l579, y579, z579⟩, st579⟩ := X577.specialBack hx (y := yN0) rfl hown (mvT hZ (hv hw 5 rfl)) (mvT hZ (hv hw 6 rfl)) (mvT hZ (hv hw 7 rfl)) (by decide) (backOf (W := 1) (rmN4 l Z a0 hw [] b577 b568 k568 0 1 1 0 0 1 2 2 rc h577 n0 O577 ge577 (Nat.ne_of_lt (Nat.lt_of_lt_of_le (Nat.lt_of_lt_of_le A568.lt (Nat.le_trans (Nat.le_trans (Nat.le_trans (Nat.le_of_eq W570.size.symm) (Nat.le_of_eq W572.size.symm)) (Nat.le_of_eq W574.size.symm)) (Nat.le_of_eq W576.size.symm))) (Nat.le_of_eq g577.symm))) A577 F577_relevantWithin F577_relevantCount f578 (by decide) (by decide) (by decide) (by decide)) hZ (hv hw 7 rfl) (hv hw 4 rfl) (by decide) (by decide)) (g := (mkF m 137 #[vi p0, vi p1, vi p2, vi p3, vi 4, vi rc, vi 0, vi 1, vi 1, vi 0, vr b568, un, un, un, un, un, un, un, un] [(.int rc), (.ref b568), (.ref b577), (.ref b577)])) rfl (by rw [hml]; rfl) (Steps.refl _) (a := b577) (argsL := [(.ref b568), (.int rc)]) (rest := [(.ref b577)]) (lenOf pd_2 rfl) rfl (by exact Nat.le_of_eq rfl) (hb hby at_137) (fun _ _ => ⟨rfl, e577, (by decide : 2 + 1 ≤ _), (by decide : 6 + 5 ≤ _)⟩)
      dsimp only [Pt.U, Pt.locs, Pt.cells, Pt.slots] at X579 l579 y579 z579 st579 hQ579
      rw [l579, y579, z579] at X579
      obtain ⟨rfl, Nq579, Kq579, q1_579, q2_579, t579, kt579, q3_579, q4_579⟩ := hQ579
      have N579 := Fr.app N576 Nq579
      have K579 : Keep h0 T579.heap [] := K577.trans Kq579 (allS (P := fun zz => zz ∈ [] ∨ h0.size ≤ zz) (Or.inr sz577) all0)
      have O579 : Old Z n0 T579.heap := O577.keep Kq579 (allS ge577 all0)
      refine Go.tr st579 ?_
      show Go p.tables e below Kx _ (mkF m 140 _ [(.ref b577)])
      refine s_astore (pc' := 142) (Ls' := #[vi p0, vi p1, vi p2, vi p3, vi 4, vi rc, vi 0, vi 1, vi 1, vi 0, vr b568, vr b577, un, un, un, un, un, un, un]) X579.here hx (hb hby at_140) rfl rfl rfl ?_
      refine s_aload (pc' := 144) X579.here hx (hb hby at_142) rfl rfl rfl ?_
      refine s_iloadN (pc' := 145) X579.here hx (hb hby at_144) rfl rfl ?_
      obtain ⟨cq580, kq580, q580a, q580b, q580c⟩ := isOf hZ rfl q1_579
      obtain ⟨_, _, ⟨T580, L580, k580, n580⟩, -, X580, ⟨Lc580, hQ580, l580, y580, z580⟩, st580⟩ := X579.virtualBack hx (y := yN1) (z := yN1) hown (mvT hZ (hv hw 16 rfl)) (mvT hZ (hv hw 17 rfl)) (notFace_of_selects (args := #[]) (mvT hZ (hv hw 19 rfl))) (mvT hZ (hv hw 19 rfl)) (mvT hZ (hv hw 18 rfl)) (by decide) (backOf (W := 0) (rmA4 l Z a0 hw [] b577 t579 kt579 0 1 2 2 rc p2 T579.heap n0 O579 hrc q1_579 q3_579 q2_579 q4_579) hZ (hv hw 20 rfl) (hv hw 4 rfl) (by decide) (by decide)) q580a q580c (g := (mkF m 145 #[vi p0, vi p1, vi p2, vi p3, vi 4, vi rc, vi 0, vi 1, vi 1, vi 0, vr b568, vr b577, un, un, un, un, un, un, un] [(.int p2), (.ref b577)])) rfl (by rw [hml]; rfl) (Steps.refl _) (argsL := [(.int p2)]) (rest := []) (lenOf pd_3 rfl) rfl (by exact Nat.le_of_eq rfl) (hb hby at_145) (fun _ _ => ⟨rfl, rfl, (by decide : 3 + 0 ≤ _), (by decide : 11 + 0 ≤ _)⟩)
      dsimp only [Pt.U, Pt.locs, Pt.cells, Pt.slots] at X580 l580 y580 z580 st580 hQ580
      rw [l580, y580, z580] at X580
      obtain ⟨rfl, Nq580, hE580⟩ := hQ580
      have N580 := Fr.app N579 Nq580
      refine Go.tr st580 ?_
      show Go p.tables e below Kx _ (mkF m 148 _ [(.double (mst (mst (mst (mst FP.dconst0 0 1 (needd p2 rc)) 1 2 (needd p2 rc)) 2 3 (needd p2 rc)) 2 4 (needd p2 rc)))])
      refine s_dstore (pc' := 150) (Ls' := #[vi p0, vi p1, vi p2, vi p3, vi 4, vi rc, vi 0, vi 1, vi 1, vi 0, vr b568, vr b577, .val (.double (mst (mst (mst (mst FP.dconst0 0 1 (needd p2 rc)) 1 2 (needd p2 rc)) 2 3 (needd p2 rc)) 2 4 (needd p2 rc))), sn, un, un, un, un, un]) X580.here hx (hb hby at_148) rfl  rfl ?_
      refine s_iloadN (pc' := 151) X580.here hx (hb hby at_150) rfl rfl ?_
      refine s_i2d (pc' := 152) X580.here hx (hb hby at_151) rfl rfl ?_
      refine Go.st (X580.ldc2DoubleC hx hown (mvT hZ (hv hw 28 rfl)) (g := (mkF m 152 #[vi p0, vi p1, vi p2, vi p3, vi 4, vi rc, vi 0, vi 1, vi 1, vi 0, vr b568, vr b577, .val (.double (mst (mst (mst (mst FP.dconst0 0 1 (needd p2 rc)) 1 2 (needd p2 rc)) 2 3 (needd p2 rc)) 2 4 (needd p2 rc))), sn, un, un, un, un, un] [(.double (FP.i2d p2))])) rfl (hb hby at_152)) ?_
      show Go p.tables e below Kx _ (mkF m 155 _ [(.double (4621819117588971520 : UInt64)), (.double (FP.i2d p2))])
      refine s_ddiv (pc' := 156) X580.here hx (hb hby at_155) rfl (nn1 p2) rfl ?_
      refine s_iload (pc' := 158) X580.here hx (hb hby at_156) rfl rfl ?_
      refine s_i2d (pc' := 159) X580.here hx (hb hby at_158) rfl rfl ?_
      refine s_dmul (pc' := 160) X580.here hx (hb hby at_159) rfl (nn2 p2 hrc) rfl ?_
      refine Go.st (X580.ldc2DoubleC hx hown (mvT hZ (hv hw 29 rfl)) (g := (mkF m 160 #[vi p0, vi p1, vi p2, vi p3, vi 4, vi rc, vi 0, vi 1, vi 1, vi 0, vr b568, vr b577, .val (.double (mst (mst (mst (mst FP.dconst0 0 1 (needd p2 rc)) 1 2 (needd p2 rc)) 2 3 (needd p2 rc)) 2 4 (needd p2 rc))), sn, un, un, un, un, un] [(.double (FP.dmul (FP.ddiv (FP.i2d p2) (4621819117588971520 : UInt64)) (FP.i2d rc)))])) rfl (hb hby at_160)) ?_
      show Go p.tables e below Kx _ (mkF m 163 _ [(.double (4606281698874543309 : UInt64)), (.double (FP.dmul (FP.ddiv (FP.i2d p2) (4621819117588971520 : UInt64)) (FP.i2d rc)))])
      refine s_dadd (pc' := 164) X580.here hx (hb hby at_163) rfl (nn3 p2 hrc) rfl ?_
      refine s_d2l (pc' := 165) (z := needd p2 rc) X580.here hx (hb hby at_164) rfl rfl ?_
      show Go p.tables e below Kx _ (mkF m 165 _ [(.long (needd p2 rc))])
      generalize (needd p2 rc) = nd
      generalize hmm : (mst (mst (mst (mst FP.dconst0 0 1 nd) 1 2 nd) 2 3 nd) 2 4 nd) = mm
      show Go p.tables e below Kx _ (mkF m 165 _ [(.long nd)])
      refine s_lstore (pc' := 167) (Ls' := #[vi p0, vi p1, vi p2, vi p3, vi 4, vi rc, vi 0, vi 1, vi 1, vi 0, vr b568, vr b577, .val (.double mm), sn, .val (.long nd), sn, un, un, un]) X580.here hx (hb hby at_165) rfl  rfl ?_
      refine s_dconst0 (pc' := 168) X580.here hx (hb hby at_167) rfl rfl ?_
      refine s_dstore (pc' := 170) (Ls' := #[vi p0, vi p1, vi p2, vi p3, vi 4, vi rc, vi 0, vi 1, vi 1, vi 0, vr b568, vr b577, .val (.double mm), sn, .val (.long nd), sn, .val (.double FP.dconst0), sn, un]) X580.here hx (hb hby at_168) rfl  rfl ?_
      refine s_iconst (pc' := 171) (v := 0) X580.here hx (hb hby at_170) rfl rfl ?_
      refine s_istore (pc' := 173) (Ls' := #[vi p0, vi p1, vi p2, vi p3, vi 4, vi rc, vi 0, vi 1, vi 1, vi 0, vr b568, vr b577, .val (.double mm), sn, .val (.long nd), sn, .val (.double FP.dconst0), sn, vi 0]) X580.here hx (hb hby at_171) rfl  rfl ?_
      refine s_iload (pc' := 175) X580.here hx (hb hby at_173) rfl rfl ?_
      refine s_iconst (pc' := 176) (v := 1) X580.here hx (hb hby at_175) rfl rfl ?_
      refine s_icmpN (pc' := 179) X580.here hx (hb hby at_176) rfl (flt (by decide)).1 ?_
      refine s_iload (pc' := 181) X580.here hx (hb hby at_179) rfl rfl ?_
      refine s_ifY (pc' := 202) X580.here hx (hb hby at_181) ((if0 _ _).trans (teq (by decide)).1) (by decide) (by decide) ?_
      refine s_iload (pc' := 204) X580.here hx (hb hby at_202) rfl rfl ?_
      refine s_iconst (pc' := 205) (v := 2) X580.here hx (hb hby at_204) rfl rfl ?_
      refine s_icmpN (pc' := 208) X580.here hx (hb hby at_205) rfl (flt (by decide)).1 ?_
      refine s_iload (pc' := 210) X580.here hx (hb hby at_208) rfl rfl ?_
      refine s_ifN (pc' := 213) X580.here hx (hb hby at_210) rfl ((if0 _ _).trans (feq (by decide)).1) ?_
      refine s_iload (pc' := 215) X580.here hx (hb hby at_213) rfl rfl ?_
      refine s_iconst (pc' := 216) (v := 1) X580.here hx (hb hby at_215) rfl rfl ?_
      refine s_iadd (pc' := 217) (z := 1) X580.here hx (hb hby at_216) rfl (by decide) ?_
      refine s_istore (pc' := 219) (Ls' := #[vi p0, vi p1, vi p2, vi p3, vi 4, vi rc, vi 0, vi 1, vi 1, vi 0, vr b568, vr b577, .val (.double mm), sn, .val (.long nd), sn, .val (.double FP.dconst0), sn, vi 1]) X580.here hx (hb hby at_217) rfl  rfl ?_
      refine s_dload (pc' := 221) X580.here hx (hb hby at_219) rfl rfl ?_
      refine s_iload (pc' := 223) X580.here hx (hb hby at_221) rfl rfl ?_
      refine s_iconst (pc' := 224) (v := 2) X580.here hx (hb hby at_223) rfl rfl ?_
      refine s_lload (pc' := 226) X580.here hx (hb hby at_224) rfl rfl ?_
      obtain ⟨_, _, ⟨T581, L581, k581, n581⟩, -, X581, ⟨Lc581, hQ581, l581, y581, z581⟩, st581⟩ := Jvm.LawKit.callS X580 hx (y := yN3) hown (mvT hZ (hv hw 30 rfl)) (mvT hZ (hv hw 31 rfl)) (mvT hZ (hv hw 32 rfl)) (mvT hZ (hv hw 33 rfl)) (by decide) (backOf (W := 0) (rmB l Z a0 hw [] FP.dconst0 1 2 nd T579.heap n0 O579 (by decide)) hZ (hv hw 33 rfl) (hv hw 32 rfl) (by decide) (by decide)) (g := (mkF m 226 #[vi p0, vi p1, vi p2, vi p3, vi 4, vi rc, vi 0, vi 1, vi 1, vi 0, vr b568, vr b577, .val (.double mm), sn, .val (.long nd), sn, .val (.double FP.dconst0), sn, vi 1] [(.long nd), (.int 2), (.int 1), (.double FP.dconst0)])) rfl (by rw [hml]; rfl) (argsL := [(.double FP.dconst0), (.int 1), (.int 2), (.long nd)]) (rest := []) (lenOf pd_4 rfl) rfl (by exact Nat.le_of_eq rfl) (hb hby at_226) (fun _ _ => ⟨rfl, hE580, (by decide : 3 + 0 ≤ _), (by decide : 11 + 0 ≤ _)⟩)
      dsimp only [Pt.U, Pt.locs, Pt.cells, Pt.slots] at X581 l581 y581 z581 st581 hQ581
      rw [l581, y581, z581] at X581
      obtain ⟨rfl, Nq581, hE581⟩ := hQ581
      have N581 := Fr.app N580 Nq581
      refine Go.st st581 ?_
      show Go p.tables e below Kx _ (mkF m 229 _ [(.double (bst FP.dconst0 1 2 nd))])
      refine s_dstore (pc' := 231) (Ls' := #[vi p0, vi p1, vi p2, vi p3, vi 4, vi rc, vi 0, vi 1, vi 1, vi 0, vr b568, vr b577, .val (.double mm), sn, .val (.long nd), sn, .val (.double (bst FP.dconst0 1 2 nd)), sn, vi 1]) X581.here hx (hb hby at_229) rfl  rfl ?_
      refine s_iload (pc' := 233) X581.here hx (hb hby at_231) rfl rfl ?_
      refine s_iconst (pc' := 234) (v := 3) X581.here hx (hb hby at_233) rfl rfl ?_
      refine s_icmpN (pc' := 237) X581.here hx (hb hby at_234) rfl (flt (by decide)).1 ?_
      refine s_iload (pc' := 239) X581.here hx (hb hby at_237) rfl rfl ?_
      refine s_ifN (pc' := 242) X581.here hx (hb hby at_239) rfl ((if0 _ _).trans (feq (by decide)).1) ?_
      refine s_iload (pc' := 244) X581.here hx (hb hby at_242) rfl rfl ?_
      refine s_iconst (pc' := 245) (v := 1) X581.here hx (hb hby at_244) rfl rfl ?_
      refine s_iadd (pc' := 246) (z := 2) X581.here hx (hb hby at_245) rfl (by decide) ?_
      refine s_istore (pc' := 248) (Ls' := #[vi p0, vi p1, vi p2, vi p3, vi 4, vi rc, vi 0, vi 1, vi 1, vi 0, vr b568, vr b577, .val (.double mm), sn, .val (.long nd), sn, .val (.double (bst FP.dconst0 1 2 nd)), sn, vi 2]) X581.here hx (hb hby at_246) rfl  rfl ?_
      refine s_dload (pc' := 250) X581.here hx (hb hby at_248) rfl rfl ?_
      refine s_iload (pc' := 252) X581.here hx (hb hby at_250) rfl rfl ?_
      refine s_iconst (pc' := 253) (v := 3) X581.here hx (hb hby at_252) rfl rfl ?_
      refine s_lload (pc' := 255) X581.here hx (hb hby at_253) rfl rfl ?_
      obtain ⟨_, _, ⟨T582, L582, k582, n582⟩, -, X582, ⟨Lc582, hQ582, l582, y582, z582⟩, st582⟩ := Jvm.LawKit.callS X581 hx (y := yN3) hown (mvT hZ (hv hw 30 rfl)) (mvT hZ (hv hw 31 rfl)) (mvT hZ (hv hw 32 rfl)) (mvT hZ (hv hw 33 rfl)) (by decide) (backOf (W := 0) (rmB l Z a0 hw [] (bst FP.dconst0 1 2 nd) 2 3 nd T579.heap n0 O579 (by decide)) hZ (hv hw 33 rfl) (hv hw 32 rfl) (by decide) (by decide)) (g := (mkF m 255 #[vi p0, vi p1, vi p2, vi p3, vi 4, vi rc, vi 0, vi 1, vi 1, vi 0, vr b568, vr b577, .val (.double mm), sn, .val (.long nd), sn, .val (.double (bst FP.dconst0 1 2 nd)), sn, vi 2] [(.long nd), (.int 3), (.int 2), (.double (bst FP.dconst0 1 2 nd))])) rfl (by rw [hml]; rfl) (argsL := [(.double (bst FP.dconst0 1 2 nd)), (.int 2), (.int 3), (.long nd)]) (rest := []) (lenOf pd_4 rfl) rfl (by exact Nat.le_of_eq rfl) (hb hby at_255) (fun _ _ => ⟨rfl, hE581, (by decide : 3 + 0 ≤ _), (by decide : 11 + 0 ≤ _)⟩)
      dsimp only [Pt.U, Pt.locs, Pt.cells, Pt.slots] at X582 l582 y582 z582 st582 hQ582
      rw [l582, y582, z582] at X582
      obtain ⟨rfl, Nq582, hE582⟩ := hQ582
      have N582 := Fr.app N581 Nq582
      refine Go.st st582 ?_
      show Go p.tables e below Kx _ (mkF m 258 _ [(.double (bst (bst FP.dconst0 1 2 nd) 2 3 nd))])
      refine s_dstore (pc' := 260) (Ls' := #[vi p0, vi p1, vi p2, vi p3, vi 4, vi rc, vi 0, vi 1, vi 1, vi 0, vr b568, vr b577, .val (.double mm), sn, .val (.long nd), sn, .val (.double (bst (bst FP.dconst0 1 2 nd) 2 3 nd)), sn, vi 2]) X582.here hx (hb hby at_258) rfl  rfl ?_
      refine s_iload (pc' := 262) X582.here hx (hb hby at_260) rfl rfl ?_
      refine s_iconst (pc' := 263) (v := 4) X582.here hx (hb hby at_262) rfl rfl ?_
      refine s_icmpN (pc' := 266) X582.here hx (hb hby at_263) rfl (flt (by decide)).1 ?_
      refine s_iload (pc' := 268) X582.here hx (hb hby at_266) rfl rfl ?_
      refine s_ifY (pc' := 289) X582.here hx (hb hby at_268) ((if0 _ _).trans (teq (by decide)).1) (by decide) (by decide) ?_
      refine s_dload (pc' := 291) X582.here hx (hb hby at_289) rfl rfl ?_
      refine s_dload (pc' := 293) X582.here hx (hb hby at_291) rfl rfl ?_
      refine s_dcmpl (pc' := 294) (z := 0) X582.here hx (hb hby at_293) rfl (by rw [← hmm]; exact fin_40110 nd) ?_
      refine s_ifN (pc' := 297) X582.here hx (hb hby at_294) rfl ((if0 _ _).trans (teq (by decide)).2) ?_
      refine s_iconst (pc' := 298) (v := 1) X582.here hx (hb hby at_297) rfl rfl ?_
      refine s_goto (pc' := 302) X582.here hx (hb hby at_298) (by decide) (by decide) ?_
      obtain ⟨fs, hr, hrun, hended, hW, hsame⟩ := X582.leave (v := (some (.int 1))) (fun h => by rw [Bd.returns] at h; cases h)
      refine Go.fin (retN X582 hx (t := .boolean) Bd.returns (by simp) (hb hby at_302) hr) (hF _ _ hrun hended ⟨_, _, rfl, ?_, ⟨_, rfl⟩, hW, hsame.mono (by decide) (by decide)⟩)
      ·
       show QL Z p0 p1 p2 p3 h0 n0 ((some (.int 1)) : Option Value) T582.heap _
       rw [hE582]
       exact ⟨rfl, N582⟩
     ·
      show Go p.tables e below Kx _ (mkF m 75 _ [])
      refine s_iload (pc' := 77) X0.here hx (hb hby at_75) rfl rfl ?_
      obtain ⟨T583, h583, k583, X583, e583, E583, A583, st583⟩ := newP X0 hx hZ (hv hw 1 rfl) e0 (g := (mkF m 77 #[vi p0, vi p1, vi p2, vi p3, vi 4, vi rc, vi 0, vi 1, vi 1, vi 1, un, un, un, un, un, un, un, un, un] [(.int 4)])) rfl (hb hby at_77) rfl (by decide) (cap := 4) (by decide) (by decide) (by decide) (by decide)
      obtain ⟨b583, g583⟩ : ∃ z, z = h0.size := ⟨_, rfl⟩
      rw [← g583] at A583 st583
      have sz583 : h0.size ≤ b583 := Nat.le_trans K0.1 (Nat.le_of_eq g583.symm)
      have ge583 : n0 ≤ b583 := Nat.le_trans (X00.1 ▸ X00.2.1) (Nat.le_of_eq g583.symm)
      have K583 : Keep h0 h583 [] := K0.ext E583
      have O583 : Old Z n0 h583 := X00.ext E583
      have V583 : Arv Z h583 b583 k583 .boolean 4 [(.int 0), (.int 0), (.int 0), (.int 0)] (.int 0) := (Arv.new A583 (by decide)).pad (pad_rep [] (.int 0) 4)
      refine Go.st st583 ?_
      show Go p.tables e below Kx _ (mkF m 79 _ [(.ref b583)])
      refine s_astore (pc' := 81) (Ls' := #[vi p0, vi p1, vi p2, vi p3, vi 4, vi rc, vi 0, vi 1, vi 1, vi 1, vr b583, un, un, un, un, un, un, un, un]) X583.here hx (hb hby at_79) rfl rfl rfl ?_
      refine s_iload (pc' := 83) X583.here hx (hb hby at_81) rfl rfl ?_
      refine s_iconst (pc' := 84) (v := 1) X583.here hx (hb hby at_83) rfl rfl ?_
      refine s_icmpN (pc' := 87) X583.here hx (hb hby at_84) rfl (flt (by decide)).1 ?_
      refine s_aload (pc' := 89) X583.here hx (hb hby at_87) rfl rfl rfl ?_
      refine s_iconst (pc' := 90) (v := 0) X583.here hx (hb hby at_89) rfl rfl ?_
      refine s_iload (pc' := 92) X583.here hx (hb hby at_90) rfl rfl ?_
      obtain ⟨cl584, Ar584, Aq584, As584, An584, Ah584, Ag584⟩ := id V583
      have in585 := inb_of (j := 0) As584 (by decide)
      obtain ⟨T585, h585, X585, e585, W585, st585⟩ := stZ X583 hx hZ e583 Ar584 (j := 0) in585 (g := (mkF m 92 #[vi p0, vi p1, vi p2, vi p3, vi 4, vi rc, vi 0, vi 1, vi 1, vi 1, vr b583, un, un, un, un, un, un, un, un] [(.int 0), (.int 0), (.ref b583)])) rfl rfl (hb hby at_92)
      have V585 : Arv Z h585 b583 k583 .boolean 4 [(.int 0), (.int 0), (.int 0), (.int 0)] (.int 0) := by
       have q := Arv.set Ar584 Aq584 As584 An584 Ah584 Ag584 (fits_nar_bool _) W585 0 rfl (Nat.le_of_ble_eq_true rfl)
       rw [show nar .boolean 0 = 0 from by decide] at q; exact q
      have K585 : Keep h0 h585 [] := K583.wr W585 (Or.inr sz583)
      have O585 : Old Z n0 h585 := O583.wr W585 ge583
      have N585 := Fr.snoc X585 N0 ge583
      refine Go.st st585 ?_
      show Go p.tables e below Kx _ (mkF m 93 _ [])
      refine s_iload (pc' := 95) X585.here hx (hb hby at_93) rfl rfl ?_
      refine s_iconst (pc' := 96) (v := 2) X585.here hx (hb hby at_95) rfl rfl ?_
      refine s_icmpN (pc' := 99) X585.here hx (hb hby at_96) rfl (flt (by decide)).1 ?_
      refine s_aload (pc' := 101) X585.here hx (hb hby at_99) rfl rfl rfl ?_
      refine s_iconst (pc' := 102) (v := 1) X585.here hx (hb hby at_101) rfl rfl ?_
      refine s_iload (pc' := 104) X585.here hx (hb hby at_102) rfl rfl ?_
      obtain ⟨cl586, Ar586, Aq586, As586, An586, Ah586, Ag586⟩ := id V585
      have in587 := inb_of (j := 1) As586 (by decide)
      obtain ⟨T587, h587, X587, e587, W587, st587⟩ := stZ X585 hx hZ e585 Ar586 (j := 1) in587 (g := (mkF m 104 #[vi p0, vi p1, vi p2, vi p3, vi 4, vi rc, vi 0, vi 1, vi 1, vi 1, vr b583, un, un, un, un, un, un, un, un] [(.int 1), (.int 1), (.ref b583)])) rfl rfl (hb hby at_104)
      have V587 : Arv Z h587 b583 k583 .boolean 4 [(.int 0), (.int 1), (.int 0), (.int 0)] (.int 0) := by
       have q := Arv.set Ar586 Aq586 As586 An586 Ah586 Ag586 (fits_nar_bool _) W587 1 rfl (Nat.le_of_ble_eq_true rfl)
       rw [show nar .boolean 1 = 1 from by decide] at q; exact q
      have K587 : Keep h0 h587 [] := K585.wr W587 (Or.inr sz583)
      have O587 : Old Z n0 h587 := O585.wr W587 ge583
      have N587 := Fr.snoc X587 N585 ge583
      refine Go.st st587 ?_
      show Go p.tables e below Kx _ (mkF m 105 _ [])
      refine s_iload (pc' := 107) X587.here hx (hb hby at_105) rfl rfl ?_
      refine s_iconst (pc' := 108) (v := 3) X587.here hx (hb hby at_107) rfl rfl ?_
      refine s_icmpN (pc' := 111) X587.here hx (hb hby at_108) rfl (flt (by decide)).1 ?_
      refine s_aload (pc' := 113) X587.here hx (hb hby at_111) rfl rfl rfl ?_
      refine s_iconst (pc' := 114) (v := 2) X587.here hx (hb hby at_113) rfl rfl ?_
      refine s_iload (pc' := 116) X587.here hx (hb hby at_114) rfl rfl ?_
      obtain ⟨cl588, Ar588, Aq588, As588, An588, Ah588, Ag588⟩ := id V587
      have in589 := inb_of (j := 2) As588 (by decide)
      obtain ⟨T589, h589, X589, e589, W589, st589⟩ := stZ X587 hx hZ e587 Ar588 (j := 2) in589 (g := (mkF m 116 #[vi p0, vi p1, vi p2, vi p3, vi 4, vi rc, vi 0, vi 1, vi 1, vi 1, vr b583, un, un, un, un, un, un, un, un] [(.int 1), (.int 2), (.ref b583)])) rfl rfl (hb hby at_116)
      have V589 : Arv Z h589 b583 k583 .boolean 4 [(.int 0), (.int 1), (.int 1), (.int 0)] (.int 0) := by
       have q := Arv.set Ar588 Aq588 As588 An588 Ah588 Ag588 (fits_nar_bool _) W589 2 rfl (Nat.le_of_ble_eq_true rfl)
       rw [show nar .boolean 1 = 1 from by decide] at q; exact q
      have K589 : Keep h0 h589 [] := K587.wr W589 (Or.inr sz583)
      have O589 : Old Z n0 h589 := O587.wr W589 ge583
      have N589 := Fr.snoc X589 N587 ge583
      refine Go.st st589 ?_
      show Go p.tables e below Kx _ (mkF m 117 _ [])
      refine s_iload (pc' := 119) X589.here hx (hb hby at_117) rfl rfl ?_
      refine s_iconst (pc' := 120) (v := 4) X589.here hx (hb hby at_119) rfl rfl ?_
      refine s_icmpN (pc' := 123) X589.here hx (hb hby at_120) rfl (flt (by decide)).1 ?_
      refine s_aload (pc' := 125) X589.here hx (hb hby at_123) rfl rfl rfl ?_
      refine s_iconst (pc' := 126) (v := 3) X589.here hx (hb hby at_125) rfl rfl ?_
      refine s_iload (pc' := 128) X589.here hx (hb hby at_126) rfl rfl ?_
      obtain ⟨cl590, Ar590, Aq590, As590, An590, Ah590, Ag590⟩ := id V589
      have in591 := inb_of (j := 3) As590 (by decide)
      obtain ⟨T591, h591, X591, e591, W591, st591⟩ := stZ X589 hx hZ e589 Ar590 (j := 3) in591 (g := (mkF m 128 #[vi p0, vi p1, vi p2, vi p3, vi 4, vi rc, vi 0, vi 1, vi 1, vi 1, vr b583, un, un, un, un, un, un, un, un] [(.int 1), (.int 3), (.ref b583)])) rfl rfl (hb hby at_128)
      have V591 : Arv Z h591 b583 k583 .boolean 4 [(.int 0), (.int 1), (.int 1), (.int 1)] (.int 0) := by
       have q := Arv.set Ar590 Aq590 As590 An590 Ah590 Ag590 (fits_nar_bool _) W591 3 rfl (Nat.le_of_ble_eq_true rfl)
       rw [show nar .boolean 1 = 1 from by decide] at q; exact q
      have K591 : Keep h0 h591 [] := K589.wr W591 (Or.inr sz583)
      have O591 : Old Z n0 h591 := O589.wr W591 ge583
      have N591 := Fr.snoc X591 N589 ge583
      refine Go.st st591 ?_
      show Go p.tables e below Kx _ (mkF m 129 _ [])
      obtain ⟨T592, h592, X592, e592, E592, A592, D592, -, st592⟩ := newO X591 hx hZ hown (hv hw 2 rfl) (hv hw 3 rfl) (hv hw 4 rfl) e591 (g := (mkF m 129 #[vi p0, vi p1, vi p2, vi p3, vi 4, vi rc, vi 0, vi 1, vi 1, vi 1, vr b583, un, un, un, un, un, un, un, un] [])) rfl (hb hby at_129) (by decide) (by decide)
      obtain ⟨b592, g592⟩ : ∃ z, z = h591.size := ⟨_, rfl⟩
      rw [← g592] at A592 D592 st592
      have sz592 : h0.size ≤ b592 := Nat.le_trans K591.1 (Nat.le_of_eq g592.symm)
      have ge592 : n0 ≤ b592 := Nat.le_trans (O591.1 ▸ O591.2.1) (Nat.le_of_eq g592.symm)
      have K592 : Keep h0 h592 [] := K591.ext E592
      have O592 : Old Z n0 h592 := O591.ext E592
      have F592_relevantWithin : Fld Z h592 b592 "com/example/kingfisher/kingfisher/eval/TopicRanking" "relevantWithin" "[I" .null := D592 (Or.inr (hv hw 13 rfl)) (ty := (.array .int)) (by decide)
      have F592_relevantCount : Fld Z h592 b592 "com/example/kingfisher/kingfisher/eval/TopicRanking" "relevantCount" "I" (.int 0) := D592 (Or.inr (hv hw 15 rfl)) (ty := .int) (by decide)
      refine Go.st st592 ?_
      show Go p.tables e below Kx _ (mkF m 132 _ [(.ref b592)])
      refine s_dup (pc' := 133) X592.here hx (hb hby at_132) rfl rfl ?_
      refine s_aload (pc' := 135) X592.here hx (hb hby at_133) rfl rfl rfl ?_
      refine s_iload (pc' := 137) X592.here hx (hb hby at_135) rfl rfl ?_
      have f593 : Arv Z h592 b583 k583 .boolean 4 [(.int 0), (.int 1), (.int 1), (.int 1)] (.int 0) := (V591.ext E592)
      obtain ⟨_, _, ⟨T594, L594, k594, n594⟩, -, X594, ⟨Lc594, hQ594, l594, y594, z594⟩, st594⟩ := X592.specialBack hx (y := yN0) rfl hown (mvT hZ (hv hw 5 rfl)) (mvT hZ (hv hw 6 rfl)) (mvT hZ (hv hw 7 rfl)) (by decide) (backOf (W := 1) (rmN4 l Z a0 hw [] b592 b583 k583 0 1 1 1 0 1 2 3 rc h592 n0 O592 ge592 (Nat.ne_of_lt (Nat.lt_of_lt_of_le (Nat.lt_of_lt_of_le A583.lt (Nat.le_trans (Nat.le_trans (Nat.le_trans (Nat.le_of_eq W585.size.symm) (Nat.le_of_eq W587.size.symm)) (Nat.le_of_eq W589.size.symm)) (Nat.le_of_eq W591.size.symm))) (Nat.le_of_eq g592.symm))) A592 F592_relevantWithin F592_relevantCount f593 (by decide) (by decide) (by decide) (by decide)) hZ (hv hw 7 rfl) (hv hw 4 rfl) (by decide) (by decide)) (g := (mkF m 137 #[vi p0, vi p1, vi p2, vi p3, vi 4, vi rc, vi 0, vi 1, vi 1, vi 1, vr b583, un, un, un, un, un, un, un, un] [(.int rc), (.ref b583), (.ref b592), (.ref b592)])) rfl (by rw [hml]; rfl) (Steps.refl _) (a := b592) (argsL := [(.ref b583), (.int rc)]) (rest := [(.ref b592)]) (lenOf pd_2 rfl) rfl (by exact Nat.le_of_eq rfl) (hb hby at_137) (fun _ _ => ⟨rfl, e592, (by decide : 2 + 1 ≤ _), (by decide : 6 + 5 ≤ _)⟩)
      dsimp only [Pt.U, Pt.locs, Pt.cells, Pt.slots] at X594 l594 y594 z594 st594 hQ594
      rw [l594, y594, z594] at X594
      obtain ⟨rfl, Nq594, Kq594, q1_594, q2_594, t594, kt594, q3_594, q4_594⟩ := hQ594
      have N594 := Fr.app N591 Nq594
      have K594 : Keep h0 T594.heap [] := K592.trans Kq594 (allS (P := fun zz => zz ∈ [] ∨ h0.size ≤ zz) (Or.inr sz592) all0)
      have O594 : Old Z n0 T594.heap := O592.keep Kq594 (allS ge592 all0)
      refine Go.tr st594 ?_
      show Go p.tables e below Kx _ (mkF m 140 _ [(.ref b592)])
      refine s_astore (pc' := 142) (Ls' := #[vi p0, vi p1, vi p2, vi p3, vi 4, vi rc, vi 0, vi 1, vi 1, vi 1, vr b583, vr b592, un, un, un, un, un, un, un]) X594.here hx (hb hby at_140) rfl rfl rfl ?_
      refine s_aload (pc' := 144) X594.here hx (hb hby at_142) rfl rfl rfl ?_
      refine s_iloadN (pc' := 145) X594.here hx (hb hby at_144) rfl rfl ?_
      obtain ⟨cq595, kq595, q595a, q595b, q595c⟩ := isOf hZ rfl q1_594
      obtain ⟨_, _, ⟨T595, L595, k595, n595⟩, -, X595, ⟨Lc595, hQ595, l595, y595, z595⟩, st595⟩ := X594.virtualBack hx (y := yN1) (z := yN1) hown (mvT hZ (hv hw 16 rfl)) (mvT hZ (hv hw 17 rfl)) (notFace_of_selects (args := #[]) (mvT hZ (hv hw 19 rfl))) (mvT hZ (hv hw 19 rfl)) (mvT hZ (hv hw 18 rfl)) (by decide) (backOf (W := 0) (rmA4 l Z a0 hw [] b592 t594 kt594 0 1 2 3 rc p2 T594.heap n0 O594 hrc q1_594 q3_594 q2_594 q4_594) hZ (hv hw 20 rfl) (hv hw 4 rfl) (by decide) (by decide)) q595a q595c (g := (mkF m 145 #[vi p0, vi p1, vi p2, vi p3, vi 4, vi rc, vi 0, vi 1, vi 1, vi 1, vr b583, vr b592, un, un, un, un, un, un, un] [(.int p2), (.ref b592)])) rfl (by rw [hml]; rfl) (Steps.refl _) (argsL := [(.int p2)]) (rest := []) (lenOf pd_3 rfl) rfl (by exact Nat.le_of_eq rfl) (hb hby at_145) (fun _ _ => ⟨rfl, rfl, (by decide : 3 + 0 ≤ _), (by decide : 11 + 0 ≤ _)⟩)
      dsimp only [Pt.U, Pt.locs, Pt.cells, Pt.slots] at X595 l595 y595 z595 st595 hQ595
      rw [l595, y595, z595] at X595
      obtain ⟨rfl, Nq595, hE595⟩ := hQ595
      have N595 := Fr.app N594 Nq595
      refine Go.tr st595 ?_
      show Go p.tables e below Kx _ (mkF m 148 _ [(.double (mst (mst (mst (mst FP.dconst0 0 1 (needd p2 rc)) 1 2 (needd p2 rc)) 2 3 (needd p2 rc)) 3 4 (needd p2 rc)))])
      refine s_dstore (pc' := 150) (Ls' := #[vi p0, vi p1, vi p2, vi p3, vi 4, vi rc, vi 0, vi 1, vi 1, vi 1, vr b583, vr b592, .val (.double (mst (mst (mst (mst FP.dconst0 0 1 (needd p2 rc)) 1 2 (needd p2 rc)) 2 3 (needd p2 rc)) 3 4 (needd p2 rc))), sn, un, un, un, un, un]) X595.here hx (hb hby at_148) rfl  rfl ?_
      refine s_iloadN (pc' := 151) X595.here hx (hb hby at_150) rfl rfl ?_
      refine s_i2d (pc' := 152) X595.here hx (hb hby at_151) rfl rfl ?_
      refine Go.st (X595.ldc2DoubleC hx hown (mvT hZ (hv hw 28 rfl)) (g := (mkF m 152 #[vi p0, vi p1, vi p2, vi p3, vi 4, vi rc, vi 0, vi 1, vi 1, vi 1, vr b583, vr b592, .val (.double (mst (mst (mst (mst FP.dconst0 0 1 (needd p2 rc)) 1 2 (needd p2 rc)) 2 3 (needd p2 rc)) 3 4 (needd p2 rc))), sn, un, un, un, un, un] [(.double (FP.i2d p2))])) rfl (hb hby at_152)) ?_
      show Go p.tables e below Kx _ (mkF m 155 _ [(.double (4621819117588971520 : UInt64)), (.double (FP.i2d p2))])
      refine s_ddiv (pc' := 156) X595.here hx (hb hby at_155) rfl (nn1 p2) rfl ?_
      refine s_iload (pc' := 158) X595.here hx (hb hby at_156) rfl rfl ?_
      refine s_i2d (pc' := 159) X595.here hx (hb hby at_158) rfl rfl ?_
      refine s_dmul (pc' := 160) X595.here hx (hb hby at_159) rfl (nn2 p2 hrc) rfl ?_
      refine Go.st (X595.ldc2DoubleC hx hown (mvT hZ (hv hw 29 rfl)) (g := (mkF m 160 #[vi p0, vi p1, vi p2, vi p3, vi 4, vi rc, vi 0, vi 1, vi 1, vi 1, vr b583, vr b592, .val (.double (mst (mst (mst (mst FP.dconst0 0 1 (needd p2 rc)) 1 2 (needd p2 rc)) 2 3 (needd p2 rc)) 3 4 (needd p2 rc))), sn, un, un, un, un, un] [(.double (FP.dmul (FP.ddiv (FP.i2d p2) (4621819117588971520 : UInt64)) (FP.i2d rc)))])) rfl (hb hby at_160)) ?_
      show Go p.tables e below Kx _ (mkF m 163 _ [(.double (4606281698874543309 : UInt64)), (.double (FP.dmul (FP.ddiv (FP.i2d p2) (4621819117588971520 : UInt64)) (FP.i2d rc)))])
      refine s_dadd (pc' := 164) X595.here hx (hb hby at_163) rfl (nn3 p2 hrc) rfl ?_
      refine s_d2l (pc' := 165) (z := needd p2 rc) X595.here hx (hb hby at_164) rfl rfl ?_
      show Go p.tables e below Kx _ (mkF m 165 _ [(.long (needd p2 rc))])
      generalize (needd p2 rc) = nd
      generalize hmm : (mst (mst (mst (mst FP.dconst0 0 1 nd) 1 2 nd) 2 3 nd) 3 4 nd) = mm
      show Go p.tables e below Kx _ (mkF m 165 _ [(.long nd)])
      refine s_lstore (pc' := 167) (Ls' := #[vi p0, vi p1, vi p2, vi p3, vi 4, vi rc, vi 0, vi 1, vi 1, vi 1, vr b583, vr b592, .val (.double mm), sn, .val (.long nd), sn, un, un, un]) X595.here hx (hb hby at_165) rfl  rfl ?_
      refine s_dconst0 (pc' := 168) X595.here hx (hb hby at_167) rfl rfl ?_
      refine s_dstore (pc' := 170) (Ls' := #[vi p0, vi p1, vi p2, vi p3, vi 4, vi rc, vi 0, vi 1, vi 1, vi 1, vr b583, vr b592, .val (.double mm), sn, .val (.long nd), sn, .val (.double FP.dconst0), sn, un]) X595.here hx (hb hby at_168) rfl  rfl ?_
      refine s_iconst (pc' := 171) (v := 0) X595.here hx (hb hby at_170) rfl rfl ?_
      refine s_istore (pc' := 173) (Ls' := #[vi p0, vi p1, vi p2, vi p3, vi 4, vi rc, vi 0, vi 1, vi 1, vi 1, vr b583, vr b592, .val (.double mm), sn, .val (.long nd), sn, .val (.double FP.dconst0), sn, vi 0]) X595.here hx (hb hby at_171) rfl  rfl ?_
      refine s_iload (pc' := 175) X595.here hx (hb hby at_173) rfl rfl ?_
      refine s_iconst (pc' := 176) (v := 1) X595.here hx (hb hby at_175) rfl rfl ?_
      refine s_icmpN (pc' := 179) X595.here hx (hb hby at_176) rfl (flt (by decide)).1 ?_
      refine s_iload (pc' := 181) X595.here hx (hb hby at_179) rfl rfl ?_
      refine s_ifY (pc' := 202) X595.here hx (hb hby at_181) ((if0 _ _).trans (teq (by decide)).1) (by decide) (by decide) ?_
      refine s_iload (pc' := 204) X595.here hx (hb hby at_202) rfl rfl ?_
      refine s_iconst (pc' := 205) (v := 2) X595.here hx (hb hby at_204) rfl rfl ?_
      refine s_icmpN (pc' := 208) X595.here hx (hb hby at_205) rfl (flt (by decide)).1 ?_
      refine s_iload (pc' := 210) X595.here hx (hb hby at_208) rfl rfl ?_
      refine s_ifN (pc' := 213) X595.here hx (hb hby at_210) rfl ((if0 _ _).trans (feq (by decide)).1) ?_
      refine s_iload (pc' := 215) X595.here hx (hb hby at_213) rfl rfl ?_
      refine s_iconst (pc' := 216) (v := 1) X595.here hx (hb hby at_215) rfl rfl ?_
      refine s_iadd (pc' := 217) (z := 1) X595.here hx (hb hby at_216) rfl (by decide) ?_
      refine s_istore (pc' := 219) (Ls' := #[vi p0, vi p1, vi p2, vi p3, vi 4, vi rc, vi 0, vi 1, vi 1, vi 1, vr b583, vr b592, .val (.double mm), sn, .val (.long nd), sn, .val (.double FP.dconst0), sn, vi 1]) X595.here hx (hb hby at_217) rfl  rfl ?_
      refine s_dload (pc' := 221) X595.here hx (hb hby at_219) rfl rfl ?_
      refine s_iload (pc' := 223) X595.here hx (hb hby at_221) rfl rfl ?_
      refine s_iconst (pc' := 224) (v := 2) X595.here hx (hb hby at_223) rfl rfl ?_
      refine s_lload (pc' := 226) X595.here hx (hb hby at_224) rfl rfl ?_
      obtain ⟨_, _, ⟨T596, L596, k596, n596⟩, -, X596, ⟨Lc596, hQ596, l596, y596, z596⟩, st596⟩ := Jvm.LawKit.callS X595 hx (y := yN3) hown (mvT hZ (hv hw 30 rfl)) (mvT hZ (hv hw 31 rfl)) (mvT hZ (hv hw 32 rfl)) (mvT hZ (hv hw 33 rfl)) (by decide) (backOf (W := 0) (rmB l Z a0 hw [] FP.dconst0 1 2 nd T594.heap n0 O594 (by decide)) hZ (hv hw 33 rfl) (hv hw 32 rfl) (by decide) (by decide)) (g := (mkF m 226 #[vi p0, vi p1, vi p2, vi p3, vi 4, vi rc, vi 0, vi 1, vi 1, vi 1, vr b583, vr b592, .val (.double mm), sn, .val (.long nd), sn, .val (.double FP.dconst0), sn, vi 1] [(.long nd), (.int 2), (.int 1), (.double FP.dconst0)])) rfl (by rw [hml]; rfl) (argsL := [(.double FP.dconst0), (.int 1), (.int 2), (.long nd)]) (rest := []) (lenOf pd_4 rfl) rfl (by exact Nat.le_of_eq rfl) (hb hby at_226) (fun _ _ => ⟨rfl, hE595, (by decide : 3 + 0 ≤ _), (by decide : 11 + 0 ≤ _)⟩)
      dsimp only [Pt.U, Pt.locs, Pt.cells, Pt.slots] at X596 l596 y596 z596 st596 hQ596
      rw [l596, y596, z596] at X596
      obtain ⟨rfl, Nq596, hE596⟩ := hQ596
      have N596 := Fr.app N595 Nq596
      refine Go.st st596 ?_
      show Go p.tables e below Kx _ (mkF m 229 _ [(.double (bst FP.dconst0 1 2 nd))])
      refine s_dstore (pc' := 231) (Ls' := #[vi p0, vi p1, vi p2, vi p3, vi 4, vi rc, vi 0, vi 1, vi 1, vi 1, vr b583, vr b592, .val (.double mm), sn, .val (.long nd), sn, .val (.double (bst FP.dconst0 1 2 nd)), sn, vi 1]) X596.here hx (hb hby at_229) rfl  rfl ?_
      refine s_iload (pc' := 233) X596.here hx (hb hby at_231) rfl rfl ?_
      refine s_iconst (pc' := 234) (v := 3) X596.here hx (hb hby at_233) rfl rfl ?_
      refine s_icmpN (pc' := 237) X596.here hx (hb hby at_234) rfl (flt (by decide)).1 ?_
      refine s_iload (pc' := 239) X596.here hx (hb hby at_237) rfl rfl ?_
      refine s_ifN (pc' := 242) X596.here hx (hb hby at_239) rfl ((if0 _ _).trans (feq (by decide)).1) ?_
      refine s_iload (pc' := 244) X596.here hx (hb hby at_242) rfl rfl ?_
      refine s_iconst (pc' := 245) (v := 1) X596.here hx (hb hby at_244) rfl rfl ?_
      refine s_iadd (pc' := 246) (z := 2) X596.here hx (hb hby at_245) rfl (by decide) ?_
      refine s_istore (pc' := 248) (Ls' := #[vi p0, vi p1, vi p2, vi p3, vi 4, vi rc, vi 0, vi 1, vi 1, vi 1, vr b583, vr b592, .val (.double mm), sn, .val (.long nd), sn, .val (.double (bst FP.dconst0 1 2 nd)), sn, vi 2]) X596.here hx (hb hby at_246) rfl  rfl ?_
      refine s_dload (pc' := 250) X596.here hx (hb hby at_248) rfl rfl ?_
      refine s_iload (pc' := 252) X596.here hx (hb hby at_250) rfl rfl ?_
      refine s_iconst (pc' := 253) (v := 3) X596.here hx (hb hby at_252) rfl rfl ?_
      refine s_lload (pc' := 255) X596.here hx (hb hby at_253) rfl rfl ?_
      obtain ⟨_, _, ⟨T597, L597, k597, n597⟩, -, X597, ⟨Lc597, hQ597, l597, y597, z597⟩, st597⟩ := Jvm.LawKit.callS X596 hx (y := yN3) hown (mvT hZ (hv hw 30 rfl)) (mvT hZ (hv hw 31 rfl)) (mvT hZ (hv hw 32 rfl)) (mvT hZ (hv hw 33 rfl)) (by decide) (backOf (W := 0) (rmB l Z a0 hw [] (bst FP.dconst0 1 2 nd) 2 3 nd T594.heap n0 O594 (by decide)) hZ (hv hw 33 rfl) (hv hw 32 rfl) (by decide) (by decide)) (g := (mkF m 255 #[vi p0, vi p1, vi p2, vi p3, vi 4, vi rc, vi 0, vi 1, vi 1, vi 1, vr b583, vr b592, .val (.double mm), sn, .val (.long nd), sn, .val (.double (bst FP.dconst0 1 2 nd)), sn, vi 2] [(.long nd), (.int 3), (.int 2), (.double (bst FP.dconst0 1 2 nd))])) rfl (by rw [hml]; rfl) (argsL := [(.double (bst FP.dconst0 1 2 nd)), (.int 2), (.int 3), (.long nd)]) (rest := []) (lenOf pd_4 rfl) rfl (by exact Nat.le_of_eq rfl) (hb hby at_255) (fun _ _ => ⟨rfl, hE596, (by decide : 3 + 0 ≤ _), (by decide : 11 + 0 ≤ _)⟩)
      dsimp only [Pt.U, Pt.locs, Pt.cells, Pt.slots] at X597 l597 y597 z597 st597 hQ597
      rw [l597, y597, z597] at X597
      obtain ⟨rfl, Nq597, hE597⟩ := hQ597
      have N597 := Fr.app N596 Nq597
      refine Go.st st597 ?_
      show Go p.tables e below Kx _ (mkF m 258 _ [(.double (bst (bst FP.dconst0 1 2 nd) 2 3 nd))])
      refine s_dstore (pc' := 260) (Ls' := #[vi p0, vi p1, vi p2, vi p3, vi 4, vi rc, vi 0, vi 1, vi 1, vi 1, vr b583, vr b592, .val (.double mm), sn, .val (.long nd), sn, .val (.double (bst (bst FP.dconst0 1 2 nd) 2 3 nd)), sn, vi 2]) X597.here hx (hb hby at_258) rfl  rfl ?_
      refine s_iload (pc' := 262) X597.here hx (hb hby at_260) rfl rfl ?_
      refine s_iconst (pc' := 263) (v := 4) X597.here hx (hb hby at_262) rfl rfl ?_
      refine s_icmpN (pc' := 266) X597.here hx (hb hby at_263) rfl (flt (by decide)).1 ?_
      refine s_iload (pc' := 268) X597.here hx (hb hby at_266) rfl rfl ?_
      refine s_ifN (pc' := 271) X597.here hx (hb hby at_268) rfl ((if0 _ _).trans (feq (by decide)).1) ?_
      refine s_iload (pc' := 273) X597.here hx (hb hby at_271) rfl rfl ?_
      refine s_iconst (pc' := 274) (v := 1) X597.here hx (hb hby at_273) rfl rfl ?_
      refine s_iadd (pc' := 275) (z := 3) X597.here hx (hb hby at_274) rfl (by decide) ?_
      refine s_istore (pc' := 277) (Ls' := #[vi p0, vi p1, vi p2, vi p3, vi 4, vi rc, vi 0, vi 1, vi 1, vi 1, vr b583, vr b592, .val (.double mm), sn, .val (.long nd), sn, .val (.double (bst (bst FP.dconst0 1 2 nd) 2 3 nd)), sn, vi 3]) X597.here hx (hb hby at_275) rfl  rfl ?_
      refine s_dload (pc' := 279) X597.here hx (hb hby at_277) rfl rfl ?_
      refine s_iload (pc' := 281) X597.here hx (hb hby at_279) rfl rfl ?_
      refine s_iconst (pc' := 282) (v := 4) X597.here hx (hb hby at_281) rfl rfl ?_
      refine s_lload (pc' := 284) X597.here hx (hb hby at_282) rfl rfl ?_
      obtain ⟨_, _, ⟨T598, L598, k598, n598⟩, -, X598, ⟨Lc598, hQ598, l598, y598, z598⟩, st598⟩ := Jvm.LawKit.callS X597 hx (y := yN3) hown (mvT hZ (hv hw 30 rfl)) (mvT hZ (hv hw 31 rfl)) (mvT hZ (hv hw 32 rfl)) (mvT hZ (hv hw 33 rfl)) (by decide) (backOf (W := 0) (rmB l Z a0 hw [] (bst (bst FP.dconst0 1 2 nd) 2 3 nd) 3 4 nd T594.heap n0 O594 (by decide)) hZ (hv hw 33 rfl) (hv hw 32 rfl) (by decide) (by decide)) (g := (mkF m 284 #[vi p0, vi p1, vi p2, vi p3, vi 4, vi rc, vi 0, vi 1, vi 1, vi 1, vr b583, vr b592, .val (.double mm), sn, .val (.long nd), sn, .val (.double (bst (bst FP.dconst0 1 2 nd) 2 3 nd)), sn, vi 3] [(.long nd), (.int 4), (.int 3), (.double (bst (bst FP.dconst0 1 2 nd) 2 3 nd))])) rfl (by rw [hml]; rfl) (argsL := [(.double (bst (bst FP.dconst0 1 2 nd) 2 3 nd)), (.int 3), (.int 4), (.long nd)]) (rest := []) (lenOf pd_4 rfl) rfl (by exact Nat.le_of_eq rfl) (hb hby at_284) (fun _ _ => ⟨rfl, hE597, (by decide : 3 + 0 ≤ _), (by decide : 11 + 0 ≤ _)⟩)
      dsimp only [Pt.U, Pt.locs, Pt.cells, Pt.slots] at X598 l598 y598 z598 st598 hQ598
      rw [l598, y598, z598] at X598
      obtain ⟨rfl, Nq598, hE598⟩ := hQ598
      have N598 := Fr.app N597 Nq598
      refine Go.st st598 ?_
      show Go p.tables e below Kx _ (mkF m 287 _ [(.double (bst (bst (bst FP.dconst0 1 2 nd) 2 3 nd) 3 4 nd))])
      refine s_dstore (pc' := 289) (Ls' := #[vi p0, vi p1, vi p2, vi p3, vi 4, vi rc, vi 0, vi 1, vi 1, vi 1, vr b583, vr b592, .val (.double mm), sn, .val (.long nd), sn, .val (.double (bst (bst (bst FP.dconst0 1 2 nd) 2 3 nd) 3 4 nd)), sn, vi 3]) X598.here hx (hb hby at_287) rfl  rfl ?_
      refine s_dload (pc' := 291) X598.here hx (hb hby at_289) rfl rfl ?_
      refine s_dload (pc' := 293) X598.here hx (hb hby at_291) rfl rfl ?_
      refine s_dcmpl (pc' := 294) (z := 0) X598.here hx (hb hby at_293) rfl (by rw [← hmm]; exact fin_40111 nd) ?_
      refine s_ifN (pc' := 297) X598.here hx (hb hby at_294) rfl ((if0 _ _).trans (teq (by decide)).2) ?_
      refine s_iconst (pc' := 298) (v := 1) X598.here hx (hb hby at_297) rfl rfl ?_
      refine s_goto (pc' := 302) X598.here hx (hb hby at_298) (by decide) (by decide) ?_
      obtain ⟨fs, hr, hrun, hended, hW, hsame⟩ := X598.leave (v := (some (.int 1))) (fun h => by rw [Bd.returns] at h; cases h)
      refine Go.fin (retN X598 hx (t := .boolean) Bd.returns (by simp) (hb hby at_302) hr) (hF _ _ hrun hended ⟨_, _, rfl, ?_, ⟨_, rfl⟩, hW, hsame.mono (by decide) (by decide)⟩)
      ·
       show QL Z p0 p1 p2 p3 h0 n0 ((some (.int 1)) : Option Value) T598.heap _
       rw [hE598]
       exact ⟨rfl, N598⟩
  ·
   rcases hx2 with rfl | rfl
   ·
    rcases hx3 with rfl | rfl
    ·
     rcases hx4 with rfl | rfl
     ·
      show Go p.tables e below Kx _ (mkF m 75 _ [])
      refine s_iload (pc' := 77) X0.here hx (hb hby at_75) rfl rfl ?_
      obtain ⟨T599, h599, k599, X599, e599, E599, A599, st599⟩ := newP X0 hx hZ (hv hw 1 rfl) e0 (g := (mkF m 77 #[vi p0, vi p1, vi p2, vi p3, vi 4, vi rc, vi 1, vi 0, vi 0, vi 0, un, un, un, un, un, un, un, un, un] [(.int 4)])) rfl (hb hby at_77) rfl (by decide) (cap := 4) (by decide) (by decide) (by decide) (by decide)
      obtain ⟨b599, g599⟩ : ∃ z, z = h0.size := ⟨_, rfl⟩
      rw [← g599] at A599 st599
      have sz599 : h0.size ≤ b599 := Nat.le_trans K0.1 (Nat.le_of_eq g599.symm)
      have ge599 : n0 ≤ b599 := Nat.le_trans (X00.1 ▸ X00.2.1) (Nat.le_of_eq g599.symm)
      have K599 : Keep h0 h599 [] := K0.ext E599
      have O599 : Old Z n0 h599 := X00.ext E599
      have V599 : Arv Z h599 b599 k599 .boolean 4 [(.int 0), (.int 0), (.int 0), (.int 0)] (.int 0) := (Arv.new A599 (by decide)).pad (pad_rep [] (.int 0) 4)
      refine Go.st st599 ?_
      show Go p.tables e below Kx _ (mkF m 79 _ [(.ref b599)])
      refine s_astore (pc' := 81) (Ls' := #[vi p0, vi p1, vi p2, vi p3, vi 4, vi rc, vi 1, vi 0, vi 0, vi 0, vr b599, un, un, un, un, un, un, un, un]) X599.here hx (hb hby at_79) rfl rfl rfl ?_
      refine s_iload (pc' := 83) X599.here hx (hb hby at_81) rfl rfl ?_
      refine s_iconst (pc' := 84) (v := 1) X599.here hx (hb hby at_83) rfl rfl ?_
      refine s_icmpN (pc' := 87) X599.here hx (hb hby at_84) rfl (flt (by decide)).1 ?_
      refine s_aload (pc' := 89) X599.here hx (hb hby at_87) rfl rfl rfl ?_
      refine s_iconst (pc' := 90) (v := 0) X599.here hx (hb hby at_89) rfl rfl ?_
      refine s_iload (pc' := 92) X599.here hx (hb hby at_90) rfl rfl ?_
      obtain ⟨cl600, Ar600, Aq600, As600, An600, Ah600, Ag600⟩ := id V599
      have in601 := inb_of (j := 0) As600 (by decide)
      obtain ⟨T601, h601, X601, e601, W601, st601⟩ := stZ X599 hx hZ e599 Ar600 (j := 0) in601 (g := (mkF m 92 #[vi p0, vi p1, vi p2, vi p3, vi 4, vi rc, vi 1, vi 0, vi 0, vi 0, vr b599, un, un, un, un, un, un, un, un] [(.int 1), (.int 0), (.ref b599)])) rfl rfl (hb hby at_92)
      have V601 : Arv Z h601 b599 k599 .boolean 4 [(.int 1), (.int 0), (.int 0), (.int 0)] (.int 0) := by
       have q := Arv.set Ar600 Aq600 As600 An600 Ah600 Ag600 (fits_nar_bool _) W601 0 rfl (Nat.le_of_ble_eq_true rfl)
       rw [show nar .boolean 1 = 1 from by decide] at q; exact q
      have K601 : Keep h0 h601 [] := K599.wr W601 (Or.inr sz599)
      have O601 : Old Z n0 h601 := O599.wr W601 ge599
      have N601 := Fr.snoc X601 N0 ge599
      refine Go.st st601 ?_
      show Go p.tables e below Kx _ (mkF m 93 _ [])
      refine s_iload (pc' := 95) X601.here hx (hb hby at_93) rfl rfl ?_
      refine s_iconst (pc' := 96) (v := 2) X601.here hx (hb hby at_95) rfl rfl ?_
      refine s_icmpN (pc' := 99) X601.here hx (hb hby at_96) rfl (flt (by decide)).1 ?_
      refine s_aload (pc' := 101) X601.here hx (hb hby at_99) rfl rfl rfl ?_
      refine s_iconst (pc' := 102) (v := 1) X601.here hx (hb hby at_101) rfl rfl ?_
      refine s_iload (pc' := 104) X601.here hx (hb hby at_102) rfl rfl ?_
      obtain ⟨cl602, Ar602, Aq602, As602, An602, Ah602, Ag602⟩ := id V601
      have in603 := inb_of (j := 1) As602 (by decide)
      obtain ⟨T603, h603, X603, e603, W603, st603⟩ := stZ X601 hx hZ e601 Ar602 (j := 1) in603 (g := (mkF m 104 #[vi p0, vi p1, vi p2, vi p3, vi 4, vi rc, vi 1, vi 0, vi 0, vi 0, vr b599, un, un, un, un, un, un, un, un] [(.int 0), (.int 1), (.ref b599)])) rfl rfl (hb hby at_104)
      have V603 : Arv Z h603 b599 k599 .boolean 4 [(.int 1), (.int 0), (.int 0), (.int 0)] (.int 0) := by
       have q := Arv.set Ar602 Aq602 As602 An602 Ah602 Ag602 (fits_nar_bool _) W603 1 rfl (Nat.le_of_ble_eq_true rfl)
       rw [show nar .boolean 0 = 0 from by decide] at q; exact q
      have K603 : Keep h0 h603 [] := K601.wr W603 (Or.inr sz599)
      have O603 : Old Z n0 h603 := O601.wr W603 ge599
      have N603 := Fr.snoc X603 N601 ge599
      refine Go.st st603 ?_
      show Go p.tables e below Kx _ (mkF m 105 _ [])
      refine s_iload (pc' := 107) X603.here hx (hb hby at_105) rfl rfl ?_
      refine s_iconst (pc' := 108) (v := 3) X603.here hx (hb hby at_107) rfl rfl ?_
      refine s_icmpN (pc' := 111) X603.here hx (hb hby at_108) rfl (flt (by decide)).1 ?_
      refine s_aload (pc' := 113) X603.here hx (hb hby at_111) rfl rfl rfl ?_
      refine s_iconst (pc' := 114) (v := 2) X603.here hx (hb hby at_113) rfl rfl ?_
      refine s_iload (pc' := 116) X603.here hx (hb hby at_114) rfl rfl ?_
      obtain ⟨cl604, Ar604, Aq604, As604, An604, Ah604, Ag604⟩ := id V603
      have in605 := inb_of (j := 2) As604 (by decide)
      obtain ⟨T605, h605, X605, e605, W605, st605⟩ := stZ X603 hx hZ e603 Ar604 (j := 2) in605 (g := (mkF m 116 #[vi p0, vi p1, vi p2, vi p3, vi 4, vi rc, vi 1, vi 0, vi 0, vi 0, vr b599, un, un, un, un, un, un, un, un] [(.int 0), (.int 2), (.ref b599)])) rfl rfl (hb hby at_116)
      have V605 : Arv Z h605 b599 k599 .boolean 4 [(.int 1), (.int 0), (.int 0), (.int 0)] (.int 0) := by
       have q := Arv.set Ar604 Aq604 As604 An604 Ah604 Ag604 (fits_nar_bool _) W605 2 rfl (Nat.le_of_ble_eq_true rfl)
       rw [show nar .boolean 0 = 0 from by decide] at q; exact q
      have K605 : Keep h0 h605 [] := K603.wr W605 (Or.inr sz599)
      have O605 : Old Z n0 h605 := O603.wr W605 ge599
      have N605 := Fr.snoc X605 N603 ge599
      refine Go.st st605 ?_
      show Go p.tables e below Kx _ (mkF m 117 _ [])
      refine s_iload (pc' := 119) X605.here hx (hb hby at_117) rfl rfl ?_
      refine s_iconst (pc' := 120) (v := 4) X605.here hx (hb hby at_119) rfl rfl ?_
      refine s_icmpN (pc' := 123) X605.here hx (hb hby at_120) rfl (flt (by decide)).1 ?_
      refine s_aload (pc' := 125) X605.here hx (hb hby at_123) rfl rfl rfl ?_
      refine s_iconst (pc' := 126) (v := 3) X605.here hx (hb hby at_125) rfl rfl ?_
      refine s_iload (pc' := 128) X605.here hx (hb hby at_126) rfl rfl ?_
      obtain ⟨cl606, Ar606, Aq606, As606, An606, Ah606, Ag606⟩ := id V605
      have in607 := inb_of (j := 3) As606 (by decide)
      obtain ⟨T607, h607, X607, e607, W607, st607⟩ := stZ X605 hx hZ e605 Ar606 (j := 3) in607 (g := (mkF m 128 #[vi p0, vi p1, vi p2, vi p3, vi 4, vi rc, vi 1, vi 0, vi 0, vi 0, vr b599, un, un, un, un, un, un, un, un] [(.int 0), (.int 3), (.ref b599)])) rfl rfl (hb hby at_128)
      have V607 : Arv Z h607 b599 k599 .boolean 4 [(.int 1), (.int 0), (.int 0), (.int 0)] (.int 0) := by
       have q := Arv.set Ar606 Aq606 As606 An606 Ah606 Ag606 (fits_nar_bool _) W607 3 rfl (Nat.le_of_ble_eq_true rfl)
       rw [show nar .boolean 0 = 0 from by decide] at q; exact q
      have K607 : Keep h0 h607 [] := K605.wr W607 (Or.inr sz599)
      have O607 : Old Z n0 h607 := O605.wr W607 ge599
      have N607 := Fr.snoc X607 N605 ge599
      refine Go.st st607 ?_
      show Go p.tables e below Kx _ (mkF m 129 _ [])
      obtain ⟨T608, h608, X608, e608, E608, A608, D608, -, st608⟩ := newO X607 hx hZ hown (hv hw 2 rfl) (hv hw 3 rfl) (hv hw 4 rfl) e607 (g := (mkF m 129 #[vi p0, vi p1, vi p2, vi p3, vi 4, vi rc, vi 1, vi 0, vi 0, vi 0, vr b599, un, un, un, un, un, un, un, un] [])) rfl (hb hby at_129) (by decide) (by decide)
      obtain ⟨b608, g608⟩ : ∃ z, z = h607.size := ⟨_, rfl⟩
      rw [← g608] at A608 D608 st608
      have sz608 : h0.size ≤ b608 := Nat.le_trans K607.1 (Nat.le_of_eq g608.symm)
      have ge608 : n0 ≤ b608 := Nat.le_trans (O607.1 ▸ O607.2.1) (Nat.le_of_eq g608.symm)
      have K608 : Keep h0 h608 [] := K607.ext E608
      have O608 : Old Z n0 h608 := O607.ext E608
      have F608_relevantWithin : Fld Z h608 b608 "com/example/kingfisher/kingfisher/eval/TopicRanking" "relevantWithin" "[I" .null := D608 (Or.inr (hv hw 13 rfl)) (ty := (.array .int)) (by decide)
      have F608_relevantCount : Fld Z h608 b608 "com/example/kingfisher/kingfisher/eval/TopicRanking" "relevantCount" "I" (.int 0) := D608 (Or.inr (hv hw 15 rfl)) (ty := .int) (by decide)
      refine Go.st st608 ?_
      show Go p.tables e below Kx _ (mkF m 132 _ [(.ref b608)])
      refine s_dup (pc' := 133) X608.here hx (hb hby at_132) rfl rfl ?_
      refine s_aload (pc' := 135) X608.here hx (hb hby at_133) rfl rfl rfl ?_
      refine s_iload (pc' := 137) X608.here hx (hb hby at_135) rfl rfl ?_
      have f609 : Arv Z h608 b599 k599 .boolean 4 [(.int 1), (.int 0), (.int 0), (.int 0)] (.int 0) := (V607.ext E608)
      obtain ⟨_, _, ⟨T610, L610, k610, n610⟩, -, X610, ⟨Lc610, hQ610, l610, y610, z610⟩, st610⟩ := X608.specialBack hx (y := yN0) rfl hown (mvT hZ (hv hw 5 rfl)) (mvT hZ (hv hw 6 rfl)) (mvT hZ (hv hw 7 rfl)) (by decide) (backOf (W := 1) (rmN4 l Z a0 hw [] b608 b599 k599 1 0 0 0 1 1 1 1 rc h608 n0 O608 ge608 (Nat.ne_of_lt (Nat.lt_of_lt_of_le (Nat.lt_of_lt_of_le A599.lt (Nat.le_trans (Nat.le_trans (Nat.le_trans (Nat.le_of_eq W601.size.symm) (Nat.le_of_eq W603.size.symm)) (Nat.le_of_eq W605.size.symm)) (Nat.le_of_eq W607.size.symm))) (Nat.le_of_eq g608.symm))) A608 F608_relevantWithin F608_relevantCount f609 (by decide) (by decide) (by decide) (by decide)) hZ (hv hw 7 rfl) (hv hw 4 rfl) (by decide) (by decide)) (g := (mkF m 137 #[vi p0, vi p1, vi p2, vi p3, vi 4, vi rc, vi 1, vi 0, vi 0, vi 0, vr b599, un, un, un, un, un, un, un, un] [(.int rc), (.ref b599), (.ref b608), (.ref b608)])) rfl (by rw [hml]; rfl) (Steps.refl _) (a := b608) (argsL := [(.ref b599), (.int rc)]) (rest := [(.ref b608)]) (lenOf pd_2 rfl) rfl (by exact Nat.le_of_eq rfl) (hb hby at_137) (fun _ _ => ⟨rfl, e608, (by decide : 2 + 1 ≤ _), (by decide : 6 + 5 ≤ _)⟩)
      dsimp only [Pt.U, Pt.locs, Pt.cells, Pt.slots] at X610 l610 y610 z610 st610 hQ610
      rw [l610, y610, z610] at X610
      obtain ⟨rfl, Nq610, Kq610, q1_610, q2_610, t610, kt610, q3_610, q4_610⟩ := hQ610
      have N610 := Fr.app N607 Nq610
      have K610 : Keep h0 T610.heap [] := K608.trans Kq610 (allS (P := fun zz => zz ∈ [] ∨ h0.size ≤ zz) (Or.inr sz608) all0)
      have O610 : Old Z n0 T610.heap := O608.keep Kq610 (allS ge608 all0)
      refine Go.tr st610 ?_
      show Go p.tables e below Kx _ (mkF m 140 _ [(.ref b608)])
      refine s_astore (pc' := 142) (Ls' := #[vi p0, vi p1, vi p2, vi p3, vi 4, vi rc, vi 1, vi 0, vi 0, vi 0, vr b599, vr b608, un, un, un, un, un, un, un]) X610.here hx (hb hby at_140) rfl rfl rfl ?_
      refine s_aload (pc' := 144) X610.here hx (hb hby at_142) rfl rfl rfl ?_
      refine s_iloadN (pc' := 145) X610.here hx (hb hby at_144) rfl rfl ?_
      obtain ⟨cq611, kq611, q611a, q611b, q611c⟩ := isOf hZ rfl q1_610
      obtain ⟨_, _, ⟨T611, L611, k611, n611⟩, -, X611, ⟨Lc611, hQ611, l611, y611, z611⟩, st611⟩ := X610.virtualBack hx (y := yN1) (z := yN1) hown (mvT hZ (hv hw 16 rfl)) (mvT hZ (hv hw 17 rfl)) (notFace_of_selects (args := #[]) (mvT hZ (hv hw 19 rfl))) (mvT hZ (hv hw 19 rfl)) (mvT hZ (hv hw 18 rfl)) (by decide) (backOf (W := 0) (rmA4 l Z a0 hw [] b608 t610 kt610 1 1 1 1 rc p2 T610.heap n0 O610 hrc q1_610 q3_610 q2_610 q4_610) hZ (hv hw 20 rfl) (hv hw 4 rfl) (by decide) (by decide)) q611a q611c (g := (mkF m 145 #[vi p0, vi p1, vi p2, vi p3, vi 4, vi rc, vi 1, vi 0, vi 0, vi 0, vr b599, vr b608, un, un, un, un, un, un, un] [(.int p2), (.ref b608)])) rfl (by rw [hml]; rfl) (Steps.refl _) (argsL := [(.int p2)]) (rest := []) (lenOf pd_3 rfl) rfl (by exact Nat.le_of_eq rfl) (hb hby at_145) (fun _ _ => ⟨rfl, rfl, (by decide : 3 + 0 ≤ _), (by decide : 11 + 0 ≤ _)⟩)
      dsimp only [Pt.U, Pt.locs, Pt.cells, Pt.slots] at X611 l611 y611 z611 st611 hQ611
      rw [l611, y611, z611] at X611
      obtain ⟨rfl, Nq611, hE611⟩ := hQ611
      have N611 := Fr.app N610 Nq611
      refine Go.tr st611 ?_
      show Go p.tables e below Kx _ (mkF m 148 _ [(.double (mst (mst (mst (mst FP.dconst0 1 1 (needd p2 rc)) 1 2 (needd p2 rc)) 1 3 (needd p2 rc)) 1 4 (needd p2 rc)))])
      refine s_dstore (pc' := 150) (Ls' := #[vi p0, vi p1, vi p2, vi p3, vi 4, vi rc, vi 1, vi 0, vi 0, vi 0, vr b599, vr b608, .val (.double (mst (mst (mst (mst FP.dconst0 1 1 (needd p2 rc)) 1 2 (needd p2 rc)) 1 3 (needd p2 rc)) 1 4 (needd p2 rc))), sn, un, un, un, un, un]) X611.here hx (hb hby at_148) rfl  rfl ?_
      refine s_iloadN (pc' := 151) X611.here hx (hb hby at_150) rfl rfl ?_
      refine s_i2d (pc' := 152) X611.here hx (hb hby at_151) rfl rfl ?_
      refine Go.st (X611.ldc2DoubleC hx hown (mvT hZ (hv hw 28 rfl)) (g := (mkF m 152 #[vi p0, vi p1, vi p2, vi p3, vi 4, vi rc, vi 1, vi 0, vi 0, vi 0, vr b599, vr b608, .val (.double (mst (mst (mst (mst FP.dconst0 1 1 (needd p2 rc)) 1 2 (needd p2 rc)) 1 3 (needd p2 rc)) 1 4 (needd p2 rc))), sn, un, un, un, un, un] [(.double (FP.i2d p2))])) rfl (hb hby at_152)) ?_
      show Go p.tables e below Kx _ (mkF m 155 _ [(.double (4621819117588971520 : UInt64)), (.double (FP.i2d p2))])
      refine s_ddiv (pc' := 156) X611.here hx (hb hby at_155) rfl (nn1 p2) rfl ?_
      refine s_iload (pc' := 158) X611.here hx (hb hby at_156) rfl rfl ?_
      refine s_i2d (pc' := 159) X611.here hx (hb hby at_158) rfl rfl ?_
      refine s_dmul (pc' := 160) X611.here hx (hb hby at_159) rfl (nn2 p2 hrc) rfl ?_
      refine Go.st (X611.ldc2DoubleC hx hown (mvT hZ (hv hw 29 rfl)) (g := (mkF m 160 #[vi p0, vi p1, vi p2, vi p3, vi 4, vi rc, vi 1, vi 0, vi 0, vi 0, vr b599, vr b608, .val (.double (mst (mst (mst (mst FP.dconst0 1 1 (needd p2 rc)) 1 2 (needd p2 rc)) 1 3 (needd p2 rc)) 1 4 (needd p2 rc))), sn, un, un, un, un, un] [(.double (FP.dmul (FP.ddiv (FP.i2d p2) (4621819117588971520 : UInt64)) (FP.i2d rc)))])) rfl (hb hby at_160)) ?_
      show Go p.tables e below Kx _ (mkF m 163 _ [(.double (4606281698874543309 : UInt64)), (.double (FP.dmul (FP.ddiv (FP.i2d p2) (4621819117588971520 : UInt64)) (FP.i2d rc)))])
      refine s_dadd (pc' := 164) X611.here hx (hb hby at_163) rfl (nn3 p2 hrc) rfl ?_
      refine s_d2l (pc' := 165) (z := needd p2 rc) X611.here hx (hb hby at_164) rfl rfl ?_
      show Go p.tables e below Kx _ (mkF m 165 _ [(.long (needd p2 rc))])
      generalize (needd p2 rc) = nd
      generalize hmm : (mst (mst (mst (mst FP.dconst0 1 1 nd) 1 2 nd) 1 3 nd) 1 4 nd) = mm
      show Go p.tables e below Kx _ (mkF m 165 _ [(.long nd)])
      refine s_lstore (pc' := 167) (Ls' := #[vi p0, vi p1, vi p2, vi p3, vi 4, vi rc, vi 1, vi 0, vi 0, vi 0, vr b599, vr b608, .val (.double mm), sn, .val (.long nd), sn, un, un, un]) X611.here hx (hb hby at_165) rfl  rfl ?_
      refine s_dconst0 (pc' := 168) X611.here hx (hb hby at_167) rfl rfl ?_
      refine s_dstore (pc' := 170) (Ls' := #[vi p0, vi p1, vi p2, vi p3, vi 4, vi rc, vi 1, vi 0, vi 0, vi 0, vr b599, vr b608, .val (.double mm), sn, .val (.long nd), sn, .val (.double FP.dconst0), sn, un]) X611.here hx (hb hby at_168) rfl  rfl ?_
      refine s_iconst (pc' := 171) (v := 0) X611.here hx (hb hby at_170) rfl rfl ?_
      refine s_istore (pc' := 173) (Ls' := #[vi p0, vi p1, vi p2, vi p3, vi 4, vi rc, vi 1, vi 0, vi 0, vi 0, vr b599, vr b608, .val (.double mm), sn, .val (.long nd), sn, .val (.double FP.dconst0), sn, vi 0]) X611.here hx (hb hby at_171) rfl  rfl ?_
      refine s_iload (pc' := 175) X611.here hx (hb hby at_173) rfl rfl ?_
      refine s_iconst (pc' := 176) (v := 1) X611.here hx (hb hby at_175) rfl rfl ?_
      refine s_icmpN (pc' := 179) X611.here hx (hb hby at_176) rfl (flt (by decide)).1 ?_
      refine s_iload (pc' := 181) X611.here hx (hb hby at_179) rfl rfl ?_
      refine s_ifN (pc' := 184) X611.here hx (hb hby at_181) rfl ((if0 _ _).trans (feq (by decide)).1) ?_
      refine s_iload (pc' := 186) X611.here hx (hb hby at_184) rfl rfl ?_
      refine s_iconst (pc' := 187) (v := 1) X611.here hx (hb hby at_186) rfl rfl ?_
      refine s_iadd (pc' := 188) (z := 1) X611.here hx (hb hby at_187) rfl (by decide) ?_
      refine s_istore (pc' := 190) (Ls' := #[vi p0, vi p1, vi p2, vi p3, vi 4, vi rc, vi 1, vi 0, vi 0, vi 0, vr b599, vr b608, .val (.double mm), sn, .val (.long nd), sn, .val (.double FP.dconst0), sn, vi 1]) X611.here hx (hb hby at_188) rfl  rfl ?_
      refine s_dload (pc' := 192) X611.here hx (hb hby at_190) rfl rfl ?_
      refine s_iload (pc' := 194) X611.here hx (hb hby at_192) rfl rfl ?_
      refine s_iconst (pc' := 195) (v := 1) X611.here hx (hb hby at_194) rfl rfl ?_
      refine s_lload (pc' := 197) X611.here hx (hb hby at_195) rfl rfl ?_
      obtain ⟨_, _, ⟨T612, L612, k612, n612⟩, -, X612, ⟨Lc612, hQ612, l612, y612, z612⟩, st612⟩ := Jvm.LawKit.callS X611 hx (y := yN3) hown (mvT hZ (hv hw 30 rfl)) (mvT hZ (hv hw 31 rfl)) (mvT hZ (hv hw 32 rfl)) (mvT hZ (hv hw 33 rfl)) (by decide) (backOf (W := 0) (rmB l Z a0 hw [] FP.dconst0 1 1 nd T610.heap n0 O610 (by decide)) hZ (hv hw 33 rfl) (hv hw 32 rfl) (by decide) (by decide)) (g := (mkF m 197 #[vi p0, vi p1, vi p2, vi p3, vi 4, vi rc, vi 1, vi 0, vi 0, vi 0, vr b599, vr b608, .val (.double mm), sn, .val (.long nd), sn, .val (.double FP.dconst0), sn, vi 1] [(.long nd), (.int 1), (.int 1), (.double FP.dconst0)])) rfl (by rw [hml]; rfl) (argsL := [(.double FP.dconst0), (.int 1), (.int 1), (.long nd)]) (rest := []) (lenOf pd_4 rfl) rfl (by exact Nat.le_of_eq rfl) (hb hby at_197) (fun _ _ => ⟨rfl, hE611, (by decide : 3 + 0 ≤ _), (by decide : 11 + 0 ≤ _)⟩)
      dsimp only [Pt.U, Pt.locs, Pt.cells, Pt.slots] at X612 l612 y612 z612 st612 hQ612
      rw [l612, y612, z612] at X612
      obtain ⟨rfl, Nq612, hE612⟩ := hQ612
      have N612 := Fr.app N611 Nq612
      refine Go.st st612 ?_
      show Go p.tables e below Kx _ (mkF m 200 _ [(.double (bst FP.dconst0 1 1 nd))])
      refine s_dstore (pc' := 202) (Ls' := #[vi p0, vi p1, vi p2, vi p3, vi 4, vi rc, vi 1, vi 0, vi 0, vi 0, vr b599, vr b608, .val (.double mm), sn, .val (.long nd), sn, .val (.double (bst FP.dconst0 1 1 nd)), sn, vi 1]) X612.here hx (hb hby at_200) rfl  rfl ?_
      refine s_iload (pc' := 204) X612.here hx (hb hby at_202) rfl rfl ?_
      refine s_iconst (pc' := 205) (v := 2) X612.here hx (hb hby at_204) rfl rfl ?_
      refine s_icmpN (pc' := 208) X612.here hx (hb hby at_205) rfl (flt (by decide)).1 ?_
      refine s_iload (pc' := 210) X612.here hx (hb hby at_208) rfl rfl ?_
      refine s_ifY (pc' := 231) X612.here hx (hb hby at_210) ((if0 _ _).trans (teq (by decide)).1) (by decide) (by decide) ?_
      refine s_iload (pc' := 233) X612.here hx (hb hby at_231) rfl rfl ?_
      refine s_iconst (pc' := 234) (v := 3) X612.here hx (hb hby at_233) rfl rfl ?_
      refine s_icmpN (pc' := 237) X612.here hx (hb hby at_234) rfl (flt (by decide)).1 ?_
      refine s_iload (pc' := 239) X612.here hx (hb hby at_237) rfl rfl ?_
      refine s_ifY (pc' := 260) X612.here hx (hb hby at_239) ((if0 _ _).trans (teq (by decide)).1) (by decide) (by decide) ?_
      refine s_iload (pc' := 262) X612.here hx (hb hby at_260) rfl rfl ?_
      refine s_iconst (pc' := 263) (v := 4) X612.here hx (hb hby at_262) rfl rfl ?_
      refine s_icmpN (pc' := 266) X612.here hx (hb hby at_263) rfl (flt (by decide)).1 ?_
      refine s_iload (pc' := 268) X612.here hx (hb hby at_266) rfl rfl ?_
      refine s_ifY (pc' := 289) X612.here hx (hb hby at_268) ((if0 _ _).trans (teq (by decide)).1) (by decide) (by decide) ?_
      refine s_dload (pc' := 291) X612.here hx (hb hby at_289) rfl rfl ?_
      refine s_dload (pc' := 293) X612.here hx (hb hby at_291) rfl rfl ?_
      refine s_dcmpl (pc' := 294) (z := 0) X612.here hx (hb hby at_293) rfl (by rw [← hmm]; exact fin_41000 nd) ?_
      refine s_ifN (pc' := 297) X612.here hx (hb hby at_294) rfl ((if0 _ _).trans (teq (by decide)).2) ?_
      refine s_iconst (pc' := 298) (v := 1) X612.here hx (hb hby at_297) rfl rfl ?_
      refine s_goto (pc' := 302) X612.here hx (hb hby at_298) (by decide) (by decide) ?_
      obtain ⟨fs, hr, hrun, hended, hW, hsame⟩ := X612.leave (v := (some (.int 1))) (fun h => by rw [Bd.returns] at h; cases h)
      refine Go.fin (retN X612 hx (t := .boolean) Bd.returns (by simp) (hb hby at_302) hr) (hF _ _ hrun hended ⟨_, _, rfl, ?_, ⟨_, rfl⟩, hW, hsame.mono (by decide) (by decide)⟩)
      ·
       show QL Z p0 p1 p2 p3 h0 n0 ((some (.int 1)) : Option Value) T612.heap _
       rw [hE612]
       exact ⟨rfl, N612⟩
     ·
      show Go p.tables e below Kx _ (mkF m 75 _ [])
      refine s_iload (pc' := 77) X0.here hx (hb hby at_75) rfl rfl ?_
      obtain ⟨T613, h613, k613, X613, e613, E613, A613, st613⟩ := newP X0 hx hZ (hv hw 1 rfl) e0 (g := (mkF m 77 #[vi p0, vi p1, vi p2, vi p3, vi 4, vi rc, vi 1, vi 0, vi 0, vi 1, un, un, un, un, un, un, un, un, un] [(.int 4)])) rfl (hb hby at_77) rfl (by decide) (cap := 4) (by decide) (by decide) (by decide) (by decide)
      obtain ⟨b613, g613⟩ : ∃ z, z = h0.size := ⟨_, rfl⟩
      rw [← g613] at A613 st613
      have sz613 : h0.size ≤ b613 := Nat.le_trans K0.1 (Nat.le_of_eq g613.symm)
      have ge613 : n0 ≤ b613 := Nat.le_trans (X00.1 ▸ X00.2.1) (Nat.le_of_eq g613.symm)
      have K613 : Keep h0 h613 [] := K0.ext E613
      have O613 : Old Z n0 h613 := X00.ext E613
      have V613 : Arv Z h613 b613 k613 .boolean 4 [(.int 0), (.int 0), (.int 0), (.int 0)] (.int 0) := (Arv.new A613 (by decide)).pad (pad_rep [] (.int 0) 4)
      refine Go.st st613 ?_
      show Go p.tables e below Kx _ (mkF m 79 _ [(.ref b613)])
      refine s_astore (pc' := 81) (Ls' := #[vi p0, vi p1, vi p2, vi p3, vi 4, vi rc, vi 1, vi 0, vi 0, vi 1, vr b613, un, un, un, un, un, un, un, un]) X613.here hx (hb hby at_79) rfl rfl rfl ?_
      refine s_iload (pc' := 83) X613.here hx (hb hby at_81) rfl rfl ?_
      refine s_iconst (pc' := 84) (v := 1) X613.here hx (hb hby at_83) rfl rfl ?_
      refine s_icmpN (pc' := 87) X613.here hx (hb hby at_84) rfl (flt (by decide)).1 ?_
      refine s_aload (pc' := 89) X613.here hx (hb hby at_87) rfl rfl rfl ?_
      refine s_iconst (pc' := 90) (v := 0) X613.here hx (hb hby at_89) rfl rfl ?_
      refine s_iload (pc' := 92) X613.here hx (hb hby at_90) rfl rfl ?_
      obtain ⟨cl614, Ar614, Aq614, As614, An614, Ah614, Ag614⟩ := id V613
      have in615 := inb_of (j := 0) As614 (by decide)
      obtain ⟨T615, h615, X615, e615, W615, st615⟩ := stZ X613 hx hZ e613 Ar614 (j := 0) in615 (g := (mkF m 92 #[vi p0, vi p1, vi p2, vi p3, vi 4, vi rc, vi 1, vi 0, vi 0, vi 1, vr b613, un, un, un, un, un, un, un, un] [(.int 1), (.int 0), (.ref b613)])) rfl rfl (hb hby at_92)
      have V615 : Arv Z h615 b613 k613 .boolean 4 [(.int 1), (.int 0), (.int 0), (.int 0)] (.int 0) := by
       have q := Arv.set Ar614 Aq614 As614 An614 Ah614 Ag614 (fits_nar_bool _) W615 0 rfl (Nat.le_of_ble_eq_true rfl)
       rw [show nar .boolean 1 = 1 from by decide] at q; exact q
      have K615 : Keep h0 h615 [] := K613.wr W615 (Or.inr sz613)
      have O615 : Old Z n0 h615 := O613.wr W615 ge613
      have N615 := Fr.snoc X615 N0 ge613
      refine Go.st st615 ?_
      show Go p.tables e below Kx _ (mkF m 93 _ [])
      refine s_iload (pc' := 95) X615.here hx (hb hby at_93) rfl rfl ?_
      refine s_iconst (pc' := 96) (v := 2) X615.here hx (hb hby at_95) rfl rfl ?_
      refine s_icmpN (pc' := 99) X615.here hx (hb hby at_96) rfl (flt (by decide)).1 ?_
      refine s_aload (pc' := 101) X615.here hx (hb hby at_99) rfl rfl rfl ?_
      refine s_iconst (pc' := 102) (v := 1) X615.here hx (hb hby at_101) rfl rfl ?_
      refine s_iload (pc' := 104) X615.here hx (hb hby at_102) rfl rfl ?_
      obtain ⟨cl616, Ar616, Aq616, As616, An616, Ah616, Ag616⟩ := id V615
      have in617 := inb_of (j := 1) As616 (by decide)
      obtain ⟨T617, h617, X617, e617, W617, st617⟩ := stZ X615 hx hZ e615 Ar616 (j := 1) in617 (g := (mkF m 104 #[vi p0, vi p1, vi p2, vi p3, vi 4, vi rc, vi 1, vi 0, vi 0, vi 1, vr b613, un, un, un, un, un, un, un, un] [(.int 0), (.int 1), (.ref b613)])) rfl rfl (hb hby at_104)
      have V617 : Arv Z h617 b613 k613 .boolean 4 [(.int 1), (.int 0), (.int 0), (.int 0)] (.int 0) := by
       have q := Arv.set Ar616 Aq616 As616 An616 Ah616 Ag616 (fits_nar_bool _) W617 1 rfl (Nat.le_of_ble_eq_true rfl)
       rw [show nar .boolean 0 = 0 from by decide] at q; exact q
      have K617 : Keep h0 h617 [] := K615.wr W617 (Or.inr sz613)
      have O617 : Old Z n0 h617 := O615.wr W617 ge613
      have N617 := Fr.snoc X617 N615 ge613
      refine Go.st st617 ?_
      show Go p.tables e below Kx _ (mkF m 105 _ [])
      refine s_iload (pc' := 107) X617.here hx (hb hby at_105) rfl rfl ?_
      refine s_iconst (pc' := 108) (v := 3) X617.here hx (hb hby at_107) rfl rfl ?_
      refine s_icmpN (pc' := 111) X617.here hx (hb hby at_108) rfl (flt (by decide)).1 ?_
      refine s_aload (pc' := 113) X617.here hx (hb hby at_111) rfl rfl rfl ?_
      refine s_iconst (pc' := 114) (v := 2) X617.here hx (hb hby at_113) rfl rfl ?_
      refine s_iload (pc' := 116) X617.here hx (hb hby at_114) rfl rfl ?_
      obtain ⟨cl618, Ar618, Aq618, As618, An618, Ah618, Ag618⟩ := id V617
      have in619 := inb_of (j := 2) As618 (by decide)
      obtain ⟨T619, h619, X619, e619, W619, st619⟩ := stZ X617 hx hZ e617 Ar618 (j := 2) in619 (g := (mkF m 116 #[vi p0, vi p1, vi p2, vi p3, vi 4, vi rc, vi 1, vi 0, vi 0, vi 1, vr b613, un, un, un, un, un, un, un, un] [(.int 0), (.int 2), (.ref b613)])) rfl rfl (hb hby at_116)
      have V619 : Arv Z h619 b613 k613 .boolean 4 [(.int 1), (.int 0), (.int 0), (.int 0)] (.int 0) := by
       have q := Arv.set Ar618 Aq618 As618 An618 Ah618 Ag618 (fits_nar_bool _) W619 2 rfl (Nat.le_of_ble_eq_true rfl)
       rw [show nar .boolean 0 = 0 from by decide] at q; exact q
      have K619 : Keep h0 h619 [] := K617.wr W619 (Or.inr sz613)
      have O619 : Old Z n0 h619 := O617.wr W619 ge613
      have N619 := Fr.snoc X619 N617 ge613
      refine Go.st st619 ?_
      show Go p.tables e below Kx _ (mkF m 117 _ [])
      refine s_iload (pc' := 119) X619.here hx (hb hby at_117) rfl rfl ?_
      refine s_iconst (pc' := 120) (v := 4) X619.here hx (hb hby at_119) rfl rfl ?_
      refine s_icmpN (pc' := 123) X619.here hx (hb hby at_120) rfl (flt (by decide)).1 ?_
      refine s_aload (pc' := 125) X619.here hx (hb hby at_123) rfl rfl rfl ?_
      refine s_iconst (pc' := 126) (v := 3) X619.here hx (hb hby at_125) rfl rfl ?_
      refine s_iload (pc' := 128) X619.here hx (hb hby at_126) rfl rfl ?_
      obtain ⟨cl620, Ar620, Aq620, As620, An620, Ah620, Ag620⟩ := id V619
      have in621 := inb_of (j := 3) As620 (by decide)
      obtain ⟨T621, h621, X621, e621, W621, st621⟩ := stZ X619 hx hZ e619 Ar620 (j := 3) in621 (g := (mkF m 128 #[vi p0, vi p1, vi p2, vi p3, vi 4, vi rc, vi 1, vi 0, vi 0, vi 1, vr b613, un, un, un, un, un, un, un, un] [(.int 1), (.int 3), (.ref b613)])) rfl rfl (hb hby at_128)
      have V621 : Arv Z h621 b613 k613 .boolean 4 [(.int 1), (.int 0), (.int 0), (.int 1)] (.int 0) := by
       have q := Arv.set Ar620 Aq620 As620 An620 Ah620 Ag620 (fits_nar_bool _) W621 3 rfl (Nat.le_of_ble_eq_true rfl)
       rw [show nar .boolean 1 = 1 from by decide] at q; exact q
      have K621 : Keep h0 h621 [] := K619.wr W621 (Or.inr sz613)
      have O621 : Old Z n0 h621 := O619.wr W621 ge613
      have N621 := Fr.snoc X621 N619 ge613
      refine Go.st st621 ?_
      show Go p.tables e below Kx _ (mkF m 129 _ [])
      obtain ⟨T622, h622, X622, e622, E622, A622, D622, -, st622⟩ := newO X621 hx hZ hown (hv hw 2 rfl) (hv hw 3 rfl) (hv hw 4 rfl) e621 (g := (mkF m 129 #[vi p0, vi p1, vi p2, vi p3, vi 4, vi rc, vi 1, vi 0, vi 0, vi 1, vr b613, un, un, un, un, un, un, un, un] [])) rfl (hb hby at_129) (by decide) (by decide)
      obtain ⟨b622, g622⟩ : ∃ z, z = h621.size := ⟨_, rfl⟩
      rw [← g622] at A622 D622 st622
      have sz622 : h0.size ≤ b622 := Nat.le_trans K621.1 (Nat.le_of_eq g622.symm)
      have ge622 : n0 ≤ b622 := Nat.le_trans (O621.1 ▸ O621.2.1) (Nat.le_of_eq g622.symm)
      have K622 : Keep h0 h622 [] := K621.ext E622
      have O622 : Old Z n0 h622 := O621.ext E622
      have F622_relevantWithin : Fld Z h622 b622 "com/example/kingfisher/kingfisher/eval/TopicRanking" "relevantWithin" "[I" .null := D622 (Or.inr (hv hw 13 rfl)) (ty := (.array .int)) (by decide)
      have F622_relevantCount : Fld Z h622 b622 "com/example/kingfisher/kingfisher/eval/TopicRanking" "relevantCount" "I" (.int 0) := D622 (Or.inr (hv hw 15 rfl)) (ty := .int) (by decide)
      refine Go.st st622 ?_
      show Go p.tables e below Kx _ (mkF m 132 _ [(.ref b622)])
      refine s_dup (pc' := 133) X622.here hx (hb hby at_132) rfl rfl ?_
      refine s_aload (pc' := 135) X622.here hx (hb hby at_133) rfl rfl rfl ?_
      refine s_iload (pc' := 137) X622.here hx (hb hby at_135) rfl rfl ?_
      have f623 : Arv Z h622 b613 k613 .boolean 4 [(.int 1), (.int 0), (.int 0), (.int 1)] (.int 0) := (V621.ext E622)
      obtain ⟨_, _, ⟨T624, L624, k624, n624⟩, -, X624, ⟨Lc624, hQ624, l624, y624, z624⟩, st624⟩ := X622.specialBack hx (y := yN0) rfl hown (mvT hZ (hv hw 5 rfl)) (mvT hZ (hv hw 6 rfl)) (mvT hZ (hv hw 7 rfl)) (by decide) (backOf (W := 1) (rmN4 l Z a0 hw [] b622 b613 k613 1 0 0 1 1 1 1 2 rc h622 n0 O622 ge622 (Nat.ne_of_lt (Nat.lt_of_lt_of_le (Nat.lt_of_lt_of_le A613.lt (Nat.le_trans (Nat.le_trans (Nat.le_trans (Nat.le_of_eq W615.size.symm) (Nat.le_of_eq W617.size.symm)) (Nat.le_of_eq W619.size.symm)) (Nat.le_of_eq W621.size.symm))) (Nat.le_of_eq g622.symm))) A622 F622_relevantWithin F622_relevantCount f623 (by decide) (by decide) (by decide) (by decide)) hZ (hv hw 7 rfl) (hv hw 4 rfl) (by decide) (by decide)) (g := (mkF m 137 #[vi p0, vi p1, vi p2, vi p3, vi 4, vi rc, vi 1, vi 0, vi 0, vi 1, vr b613, un, un, un, un, un, un, un, un] [(.int rc), (.ref b613), (.ref b622), (.ref b622)])) rfl (by rw [hml]; rfl) (Steps.refl _) (a := b622) (argsL := [(.ref b613), (.int rc)]) (rest := [(.ref b622)]) (lenOf pd_2 rfl) rfl (by exact Nat.le_of_eq rfl) (hb hby at_137) (fun _ _ => ⟨rfl, e622, (by decide : 2 + 1 ≤ _), (by decide : 6 + 5 ≤ _)⟩)
      dsimp only [Pt.U, Pt.locs, Pt.cells, Pt.slots] at X624 l624 y624 z624 st624 hQ624
      rw [l624, y624, z624] at X624
      obtain ⟨rfl, Nq624, Kq624, q1_624, q2_624, t624, kt624, q3_624, q4_624⟩ := hQ624
      have N624 := Fr.app N621 Nq624
      have K624 : Keep h0 T624.heap [] := K622.trans Kq624 (allS (P := fun zz => zz ∈ [] ∨ h0.size ≤ zz) (Or.inr sz622) all0)
      have O624 : Old Z n0 T624.heap := O622.keep Kq624 (allS ge622 all0)
      refine Go.tr st624 ?_
      show Go p.tables e below Kx _ (mkF m 140 _ [(.ref b622)])
      refine s_astore (pc' := 142) (Ls' := #[vi p0, vi p1, vi p2, vi p3, vi 4, vi rc, vi 1, vi 0, vi 0, vi 1, vr b613, vr b622, un, un, un, un, un, un, un]) X624.here hx (hb hby at_140) rfl rfl rfl ?_
      refine s_aload (pc' := 144) X624.here hx (hb hby at_142) rfl rfl rfl ?_
      refine s_iloadN (pc' := 145) X624.here hx (hb hby at_144) rfl rfl ?_
      obtain ⟨cq625, kq625, q625a, q625b, q625c⟩ := isOf hZ rfl q1_624
      obtain ⟨_, _, ⟨T625, L625, k625, n625⟩, -, X625, ⟨Lc625, hQ625, l625, y625, z625⟩, st625⟩ := X624.virtualBack hx (y := yN1) (z := yN1) hown (mvT hZ (hv hw 16 rfl)) (mvT hZ (hv hw 17 rfl)) (notFace_of_selects (args := #[]) (mvT hZ (hv hw 19 rfl))) (mvT hZ (hv hw 19 rfl)) (mvT hZ (hv hw 18 rfl)) (by decide) (backOf (W := 0) (rmA4 l Z a0 hw [] b622 t624 kt624 1 1 1 2 rc p2 T624.heap n0 O624 hrc q1_624 q3_624 q2_624 q4_624) hZ (hv hw 20 rfl) (hv hw 4 rfl) (by decide) (by decide)) q625a q625c (g := (mkF m 145 #[vi p0, vi p1, vi p2, vi p3, vi 4, vi rc, vi 1, vi 0, vi 0, vi 1, vr b613, vr b622, un, un, un, un, un, un, un] [(.int p2), (.ref b622)])) rfl (by rw [hml]; rfl) (Steps.refl _) (argsL := [(.int p2)]) (rest := []) (lenOf pd_3 rfl) rfl (by exact Nat.le_of_eq rfl) (hb hby at_145) (fun _ _ => ⟨rfl, rfl, (by decide : 3 + 0 ≤ _), (by decide : 11 + 0 ≤ _)⟩)
      dsimp only [Pt.U, Pt.locs, Pt.cells, Pt.slots] at X625 l625 y625 z625 st625 hQ625
      rw [l625, y625, z625] at X625
      obtain ⟨rfl, Nq625, hE625⟩ := hQ625
      have N625 := Fr.app N624 Nq625
      refine Go.tr st625 ?_
      show Go p.tables e below Kx _ (mkF m 148 _ [(.double (mst (mst (mst (mst FP.dconst0 1 1 (needd p2 rc)) 1 2 (needd p2 rc)) 1 3 (needd p2 rc)) 2 4 (needd p2 rc)))])
      refine s_dstore (pc' := 150) (Ls' := #[vi p0, vi p1, vi p2, vi p3, vi 4, vi rc, vi 1, vi 0, vi 0, vi 1, vr b613, vr b622, .val (.double (mst (mst (mst (mst FP.dconst0 1 1 (needd p2 rc)) 1 2 (needd p2 rc)) 1 3 (needd p2 rc)) 2 4 (needd p2 rc))), sn, un, un, un, un, un]) X625.here hx (hb hby at_148) rfl  rfl ?_
      refine s_iloadN (pc' := 151) X625.here hx (hb hby at_150) rfl rfl ?_
      refine s_i2d (pc' := 152) X625.here hx (hb hby at_151) rfl rfl ?_
      refine Go.st (X625.ldc2DoubleC hx hown (mvT hZ (hv hw 28 rfl)) (g := (mkF m 152 #[vi p0, vi p1, vi p2, vi p3, vi 4, vi rc, vi 1, vi 0, vi 0, vi 1, vr b613, vr b622, .val (.double (mst (mst (mst (mst FP.dconst0 1 1 (needd p2 rc)) 1 2 (needd p2 rc)) 1 3 (needd p2 rc)) 2 4 (needd p2 rc))), sn, un, un, un, un, un] [(.double (FP.i2d p2))])) rfl (hb hby at_152)) ?_
      show Go p.tables e below Kx _ (mkF m 155 _ [(.double (4621819117588971520 : UInt64)), (.double (FP.i2d p2))])
      refine s_ddiv (pc' := 156) X625.here hx (hb hby at_155) rfl (nn1 p2) rfl ?_
      refine s_iload (pc' := 158) X625.here hx (hb hby at_156) rfl rfl ?_
      refine s_i2d (pc' := 159) X625.here hx (hb hby at_158) rfl rfl ?_
      refine s_dmul (pc' := 160) X625.here hx (hb hby at_159) rfl (nn2 p2 hrc) rfl ?_
      refine Go.st (X625.ldc2DoubleC hx hown (mvT hZ (hv hw 29 rfl)) (g := (mkF m 160 #[vi p0, vi p1, vi p2, vi p3, vi 4, vi rc, vi 1, vi 0, vi 0, vi 1, vr b613, vr b622, .val (.double (mst (mst (mst (mst FP.dconst0 1 1 (needd p2 rc)) 1 2 (needd p2 rc)) 1 3 (needd p2 rc)) 2 4 (needd p2 rc))), sn, un, un, un, un, un] [(.double (FP.dmul (FP.ddiv (FP.i2d p2) (4621819117588971520 : UInt64)) (FP.i2d rc)))])) rfl (hb hby at_160)) ?_
      show Go p.tables e below Kx _ (mkF m 163 _ [(.double (4606281698874543309 : UInt64)), (.double (FP.dmul (FP.ddiv (FP.i2d p2) (4621819117588971520 : UInt64)) (FP.i2d rc)))])
      refine s_dadd (pc' := 164) X625.here hx (hb hby at_163) rfl (nn3 p2 hrc) rfl ?_
      refine s_d2l (pc' := 165) (z := needd p2 rc) X625.here hx (hb hby at_164) rfl rfl ?_
      show Go p.tables e below Kx _ (mkF m 165 _ [(.long (needd p2 rc))])
      generalize (needd p2 rc) = nd
      generalize hmm : (mst (mst (mst (mst FP.dconst0 1 1 nd) 1 2 nd) 1 3 nd) 2 4 nd) = mm
      show Go p.tables e below Kx _ (mkF m 165 _ [(.long nd)])
      refine s_lstore (pc' := 167) (Ls' := #[vi p0, vi p1, vi p2, vi p3, vi 4, vi rc, vi 1, vi 0, vi 0, vi 1, vr b613, vr b622, .val (.double mm), sn, .val (.long nd), sn, un, un, un]) X625.here hx (hb hby at_165) rfl  rfl ?_
      refine s_dconst0 (pc' := 168) X625.here hx (hb hby at_167) rfl rfl ?_
      refine s_dstore (pc' := 170) (Ls' := #[vi p0, vi p1, vi p2, vi p3, vi 4, vi rc, vi 1, vi 0, vi 0, vi 1, vr b613, vr b622, .val (.double mm), sn, .val (.long nd), sn, .val (.double FP.dconst0), sn, un]) X625.here hx (hb hby at_168) rfl  rfl ?_
      refine s_iconst (pc' := 171) (v := 0) X625.here hx (hb hby at_170) rfl rfl ?_
      refine s_istore (pc' := 173) (Ls' := #[vi p0, vi p1, vi p2, vi p3, vi 4, vi rc, vi 1, vi 0, vi 0, vi 1, vr b613, vr b622, .val (.double mm), sn, .val (.long nd), sn, .val (.double FP.dconst0), sn, vi 0]) X625.here hx (hb hby at_171) rfl  rfl ?_
      refine s_iload (pc' := 175) X625.here hx (hb hby at_173) rfl rfl ?_
      refine s_iconst (pc' := 176) (v := 1) X625.here hx (hb hby at_175) rfl rfl ?_
      refine s_icmpN (pc' := 179) X625.here hx (hb hby at_176) rfl (flt (by decide)).1 ?_
      refine s_iload (pc' := 181) X625.here hx (hb hby at_179) rfl rfl ?_
      refine s_ifN (pc' := 184) X625.here hx (hb hby at_181) rfl ((if0 _ _).trans (feq (by decide)).1) ?_
      refine s_iload (pc' := 186) X625.here hx (hb hby at_184) rfl rfl ?_
      refine s_iconst (pc' := 187) (v := 1) X625.here hx (hb hby at_186) rfl rfl ?_
      refine s_iadd (pc' := 188) (z := 1) X625.here hx (hb hby at_187) rfl (by decide) ?_
      refine s_istore (pc' := 190) (Ls' := #[vi p0, vi p1, vi p2, vi p3, vi 4, vi rc, vi 1, vi 0, vi 0, vi 1, vr b613, vr b622, .val (.double mm), sn, .val (.long nd), sn, .val (.double FP.dconst0), sn, vi 1]) X625.here hx (hb hby at_188) rfl  rfl ?_
      refine s_dload (pc' := 192) X625.here hx (hb hby at_190) rfl rfl ?_
      refine s_iload (pc' := 194) X625.here hx (hb hby at_192) rfl rfl ?_
      refine s_iconst (pc' := 195) (v := 1) X625.here hx (hb hby at_194) rfl rfl ?_
      refine s_lload (pc' := 197) X625.here hx (hb hby at_195) rfl rfl ?_
      obtain ⟨_, _, ⟨T626, L626, k626, n626⟩, -, X626, ⟨Lc626, hQ626, l626, y626, z626⟩, st626⟩ := Jvm.LawKit.callS X625 hx (y := yN3) hown (mvT hZ (hv hw 30 rfl)) (mvT hZ (hv hw 31 rfl)) (mvT hZ (hv hw 32 rfl)) (mvT hZ (hv hw 33 rfl)) (by decide) (backOf (W := 0) (rmB l Z a0 hw [] FP.dconst0 1 1 nd T624.heap n0 O624 (by decide)) hZ (hv hw 33 rfl) (hv hw 32 rfl) (by decide) (by decide)) (g := (mkF m 197 #[vi p0, vi p1, vi p2, vi p3, vi 4, vi rc, vi 1, vi 0, vi 0, vi 1, vr b613, vr b622, .val (.double mm), sn, .val (.long nd), sn, .val (.double FP.dconst0), sn, vi 1] [(.long nd), (.int 1), (.int 1), (.double FP.dconst0)])) rfl (by rw [hml]; rfl) (argsL := [(.double FP.dconst0), (.int 1), (.int 1), (.long nd)]) (rest := []) (lenOf pd_4 rfl) rfl (by exact Nat.le_of_eq rfl) (hb hby at_197) (fun _ _ => ⟨rfl, hE625, (by decide : 3 + 0 ≤ _), (by decide : 11 + 0 ≤ _)⟩)
      dsimp only [Pt.U, Pt.locs, Pt.cells, Pt.slots] at X626 l626 y626 z626 st626 hQ626
      rw [l626, y626, z626] at X626
      obtain ⟨rfl, Nq626, hE626⟩ := hQ626
      have N626 := Fr.app N625 Nq626
      refine Go.st st626 ?_
      show Go p.tables e below Kx _ (mkF m 200 _ [(.double (bst FP.dconst0 1 1 nd))])
      refine s_dstore (pc' := 202) (Ls' := #[vi p0, vi p1, vi p2, vi p3, vi 4, vi rc, vi 1, vi 0, vi 0, vi 1, vr b613, vr b622, .val (.double mm), sn, .val (.long nd), sn, .val (.double (bst FP.dconst0 1 1 nd)), sn, vi 1]) X626.here hx (hb hby at_200) rfl  rfl ?_
      refine s_iload (pc' := 204) X626.here hx (hb hby at_202) rfl rfl ?_
      refine s_iconst (pc' := 205) (v := 2) X626.here hx (hb hby at_204) rfl rfl ?_
      refine s_icmpN (pc' := 208) X626.here hx (hb hby at_205) rfl (flt (by decide)).1 ?_
      refine s_iload (pc' := 210) X626.here hx (hb hby at_208) rfl rfl ?_
      refine s_ifY (pc' := 231) X626.here hx (hb hby at_210) ((if0 _ _).trans (teq (by decide)).1) (by decide) (by decide) ?_
      refine s_iload (pc' := 233) X626.here hx (hb hby at_231) rfl rfl ?_
      refine s_iconst (pc' := 234) (v := 3) X626.here hx (hb hby at_233) rfl rfl ?_
      refine s_icmpN (pc' := 237) X626.here hx (hb hby at_234) rfl (flt (by decide)).1 ?_
      refine s_iload (pc' := 239) X626.here hx (hb hby at_237) rfl rfl ?_
      refine s_ifY (pc' := 260) X626.here hx (hb hby at_239) ((if0 _ _).trans (teq (by decide)).1) (by decide) (by decide) ?_
      refine s_iload (pc' := 262) X626.here hx (hb hby at_260) rfl rfl ?_
      refine s_iconst (pc' := 263) (v := 4) X626.here hx (hb hby at_262) rfl rfl ?_
      refine s_icmpN (pc' := 266) X626.here hx (hb hby at_263) rfl (flt (by decide)).1 ?_
      refine s_iload (pc' := 268) X626.here hx (hb hby at_266) rfl rfl ?_
      refine s_ifN (pc' := 271) X626.here hx (hb hby at_268) rfl ((if0 _ _).trans (feq (by decide)).1) ?_
      refine s_iload (pc' := 273) X626.here hx (hb hby at_271) rfl rfl ?_
      refine s_iconst (pc' := 274) (v := 1) X626.here hx (hb hby at_273) rfl rfl ?_
      refine s_iadd (pc' := 275) (z := 2) X626.here hx (hb hby at_274) rfl (by decide) ?_
      refine s_istore (pc' := 277) (Ls' := #[vi p0, vi p1, vi p2, vi p3, vi 4, vi rc, vi 1, vi 0, vi 0, vi 1, vr b613, vr b622, .val (.double mm), sn, .val (.long nd), sn, .val (.double (bst FP.dconst0 1 1 nd)), sn, vi 2]) X626.here hx (hb hby at_275) rfl  rfl ?_
      refine s_dload (pc' := 279) X626.here hx (hb hby at_277) rfl rfl ?_
      refine s_iload (pc' := 281) X626.here hx (hb hby at_279) rfl rfl ?_
      refine s_iconst (pc' := 282) (v := 4) X626.here hx (hb hby at_281) rfl rfl ?_
      refine s_lload (pc' := 284) X626.here hx (hb hby at_282) rfl rfl ?_
      obtain ⟨_, _, ⟨T627, L627, k627, n627⟩, -, X627, ⟨Lc627, hQ627, l627, y627, z627⟩, st627⟩ := Jvm.LawKit.callS X626 hx (y := yN3) hown (mvT hZ (hv hw 30 rfl)) (mvT hZ (hv hw 31 rfl)) (mvT hZ (hv hw 32 rfl)) (mvT hZ (hv hw 33 rfl)) (by decide) (backOf (W := 0) (rmB l Z a0 hw [] (bst FP.dconst0 1 1 nd) 2 4 nd T624.heap n0 O624 (by decide)) hZ (hv hw 33 rfl) (hv hw 32 rfl) (by decide) (by decide)) (g := (mkF m 284 #[vi p0, vi p1, vi p2, vi p3, vi 4, vi rc, vi 1, vi 0, vi 0, vi 1, vr b613, vr b622, .val (.double mm), sn, .val (.long nd), sn, .val (.double (bst FP.dconst0 1 1 nd)), sn, vi 2] [(.long nd), (.int 4), (.int 2), (.double (bst FP.dconst0 1 1 nd))])) rfl (by rw [hml]; rfl) (argsL := [(.double (bst FP.dconst0 1 1 nd)), (.int 2), (.int 4), (.long nd)]) (rest := []) (lenOf pd_4 rfl) rfl (by exact Nat.le_of_eq rfl) (hb hby at_284) (fun _ _ => ⟨rfl, hE626, (by decide : 3 + 0 ≤ _), (by decide : 11 + 0 ≤ _)⟩)
      dsimp only [Pt.U, Pt.locs, Pt.cells, Pt.slots] at X627 l627 y627 z627 st627 hQ627
      rw [l627, y627, z627] at X627
      obtain ⟨rfl, Nq627, hE627⟩ := hQ627
      have N627 := Fr.app N626 Nq627
      refine Go.st st627 ?_
      show Go p.tables e below Kx _ (mkF m 287 _ [(.double (bst (bst FP.dconst0 1 1 nd) 2 4 nd))])
      refine s_dstore (pc' := 289) (Ls' := #[vi p0, vi p1, vi p2, vi p3, vi 4, vi rc, vi 1, vi 0, vi 0, vi 1, vr b613, vr b622, .val (.double mm), sn, .val (.long nd), sn, .val (.double (bst (bst FP.dconst0 1 1 nd) 2 4 nd)), sn, vi 2]) X627.here hx (hb hby at_287) rfl  rfl ?_
      refine s_dload (pc' := 291) X627.here hx (hb hby at_289) rfl rfl ?_
      refine s_dload (pc' := 293) X627.here hx (hb hby at_291) rfl rfl ?_
      refine s_dcmpl (pc' := 294) (z := 0) X627.here hx (hb hby at_293) rfl (by rw [← hmm]; exact fin_41001 nd) ?_
      refine s_ifN (pc' := 297) X627.here hx (hb hby at_294) rfl ((if0 _ _).trans (teq (by decide)).2) ?_
      refine s_iconst (pc' := 298) (v := 1) X627.here hx (hb hby at_297) rfl rfl ?_
      refine s_goto (pc' := 302) X627.here hx (hb hby at_298) (by decide) (by decide) ?_
      obtain ⟨fs, hr, hrun, hended, hW, hsame⟩ := X627.leave (v := (some (.int 1))) (fun h => by rw [Bd.returns] at h; cases h)
      refine Go.fin (retN X627 hx (t := .boolean) Bd.returns (by simp) (hb hby at_302) hr) (hF _ _ hrun hended ⟨_, _, rfl, ?_, ⟨_, rfl⟩, hW, hsame.mono (by decide) (by decide)⟩)
      ·
       show QL Z p0 p1 p2 p3 h0 n0 ((some (.int 1)) : Option Value) T627.heap _
       rw [hE627]
       exact ⟨rfl, N627⟩
    ·
     rcases hx4 with rfl | rfl
     ·
      show Go p.tables e below Kx _ (mkF m 75 _ [])
      refine s_iload (pc' := 77) X0.here hx (hb hby at_75) rfl rfl ?_
      obtain ⟨T628, h628, k628, X628, e628, E628, A628, st628⟩ := newP X0 hx hZ (hv hw 1 rfl) e0 (g := (mkF m 77 #[vi p0, vi p1, vi p2, vi p3, vi 4, vi rc, vi 1, vi 0, vi 1, vi 0, un, un, un, un, un, un, un, un, un] [(.int 4)])) rfl (hb hby at_77) rfl (by decide) (cap := 4) (by decide) (by decide) (by decide) (by decide)
      obtain ⟨b628, g628⟩ : ∃ z, z = h0.size := ⟨_, rfl⟩
      rw [← g628] at A628 st628
      have sz628 : h0.size ≤ b628 := Nat.le_trans K0.1 (Nat.le_of_eq g628.symm)
      have ge628 : n0 ≤ b628 := Nat.le_trans (X00.1 ▸ X00.2.1) (Nat.le_of_eq g628.symm)
      have K628 : Keep h0 h628 [] := K0.ext E628
      have O628 : Old Z n0 h628 := X00.ext E628
      have V628 : Arv Z h628 b628 k628 .boolean 4 [(.int 0), (.int 0), (.int 0), (.int 0)] (.int 0) := (Arv.new A628 (by decide)).pad (pad_rep [] (.int 0) 4)
      refine Go.st st628 ?_
      show Go p.tables e below Kx _ (mkF m 79 _ [(.ref b628)])
      refine s_astore (pc' := 81) (Ls' := #[vi p0, vi p1, vi p2, vi p3, vi 4, vi rc, vi 1, vi 0, vi 1, vi 0, vr b628, un, un, un, un, un, un, un, un]) X628.here hx (hb hby at_79) rfl rfl rfl ?_
      refine s_iload (pc' := 83) X628.here hx (hb hby at_81) rfl rfl ?_
      refine s_iconst (pc' := 84) (v := 1) X628.here hx (hb hby at_83) rfl rfl ?_
      refine s_icmpN (pc' := 87) X628.here hx (hb hby at_84) rfl (flt (by decide)).1 ?_
      refine s_aload (pc' := 89) X628.here hx (hb hby at_87) rfl rfl rfl ?_
      refine s_iconst (pc' := 90) (v := 0) X628.here hx (hb hby at_89) rfl rfl ?_
      refine s_iload (pc' := 92) X628.here hx (hb hby at_90) rfl rfl ?_
      obtain ⟨cl629, Ar629, Aq629, As629, An629, Ah629, Ag629⟩ := id V628
      have in630 := inb_of (j := 0) As629 (by decide)
      obtain ⟨T630, h630, X630, e630, W630, st630⟩ := stZ X628 hx hZ e628 Ar629 (j := 0) in630 (g := (mkF m 92 #[vi p0, vi p1, vi p2, vi p3, vi 4, vi rc, vi 1, vi 0, vi 1, vi 0, vr b628, un, un, un, un, un, un, un, un] [(.int 1), (.int 0), (.ref b628)])) rfl rfl (hb hby at_92)
      have V630 : Arv Z h630 b628 k628 .boolean 4 [(.int 1), (.int 0), (.int 0), (.int 0)] (.int 0) := by
       have q := Arv.set Ar629 Aq629 As629 An629 Ah629 Ag629 (fits_nar_bool _) W630 0 rfl (Nat.le_of_ble_eq_true rfl)
       rw [show nar .boolean 1 = 1 from by decide] at q; exact q
      have K630 : Keep h0 h630 [] := K628.wr W630 (Or.inr sz628)
      have O630 : Old Z n0 h630 := O628.wr W630 ge628
      have N630 := Fr.snoc X630 N0 ge628
      refine Go.st st630 ?_
      show Go p.tables e below Kx _ (mkF m 93 _ [])
      refine s_iload (pc' := 95) X630.here hx (hb hby at_93) rfl rfl ?_
      refine s_iconst (pc' := 96) (v := 2) X630.here hx (hb hby at_95) rfl rfl ?_
      refine s_icmpN (pc' := 99) X630.here hx (hb hby at_96) rfl (flt (by decide)).1 ?_
      refine s_aload (pc' := 101) X630.here hx (hb hby at_99) rfl rfl rfl ?_
      refine s_iconst (pc' := 102) (v := 1) X630.here hx (hb hby at_101) rfl rfl ?_
      refine s_iload (pc' := 104) X630.here hx (hb hby at_102) rfl rfl ?_
      obtain ⟨cl631, Ar631, Aq631, As631, An631, Ah631, Ag631⟩ := id V630
      have in632 := inb_of (j := 1) As631 (by decide)
      obtain ⟨T632, h632, X632, e632, W632, st632⟩ := stZ X630 hx hZ e630 Ar631 (j := 1) in632 (g := (mkF m 104 #[vi p0, vi p1, vi p2, vi p3, vi 4, vi rc, vi 1, vi 0, vi 1, vi 0, vr b628, un, un, un, un, un, un, un, un] [(.int 0), (.int 1), (.ref b628)])) rfl rfl (hb hby at_104)
      have V632 : Arv Z h632 b628 k628 .boolean 4 [(.int 1), (.int 0), (.int 0), (.int 0)] (.int 0) := by
       have q := Arv.set Ar631 Aq631 As631 An631 Ah631 Ag631 (fits_nar_bool _) W632 1 rfl (Nat.le_of_ble_eq_true rfl)
       rw [show nar .boolean 0 = 0 from by decide] at q; exact q
      have K632 : Keep h0 h632 [] := K630.wr W632 (Or.inr sz628)
      have O632 : Old Z n0 h632 := O630.wr W632 ge628
      have N632 := Fr.snoc X632 N630 ge628
      refine Go.st st632 ?_
      show Go p.tables e below Kx _ (mkF m 105 _ [])
      refine s_iload (pc' := 107) X632.here hx (hb hby at_105) rfl rfl ?_
      refine s_iconst (pc' := 108) (v := 3) X632.here hx (hb hby at_107) rfl rfl ?_
      refine s_icmpN (pc' := 111) X632.here hx (hb hby at_108) rfl (flt (by decide)).1 ?_
      refine s_aload (pc' := 113) X632.here hx (hb hby at_111) rfl rfl rfl ?_
      refine s_iconst (pc' := 114) (v := 2) X632.here hx (hb hby at_113) rfl rfl ?_
      refine s_iload (pc' := 116) X632.here hx (hb hby at_114) rfl rfl ?_
      obtain ⟨cl633, Ar633, Aq633, As633, An633, Ah633, Ag633⟩ := id V632
      have in634 := inb_of (j := 2) As633 (by decide)
      obtain ⟨T634, h634, X634, e634, W634, st634⟩ := stZ X632 hx hZ e632 Ar633 (j := 2) in634 (g := (mkF m 116 #[vi p0, vi p1, vi p2, vi p3, vi 4, vi rc, vi 1, vi 0, vi 1, vi 0, vr b628, un, un, un, un, un, un, un, un] [(.int 1), (.int 2), (.ref b628)])) rfl rfl (hb hby at_116)
      have V634 : Arv Z h634 b628 k628 .boolean 4 [(.int 1), (.int 0), (.int 1), (.int 0)] (.int 0) := by
       have q := Arv.set Ar633 Aq633 As633 An633 Ah633 Ag633 (fits_nar_bool _) W634 2 rfl (Nat.le_of_ble_eq_true rfl)
       rw [show nar .boolean 1 = 1 from by decide] at q; exact q
      have K634 : Keep h0 h634 [] := K632.wr W634 (Or.inr sz628)
      have O634 : Old Z n0 h634 := O632.wr W634 ge628
      have N634 := Fr.snoc X634 N632 ge628
      refine Go.st st634 ?_
      show Go p.tables e below Kx _ (mkF m 117 _ [])
      refine s_iload (pc' := 119) X634.here hx (hb hby at_117) rfl rfl ?_
      refine s_iconst (pc' := 120) (v := 4) X634.here hx (hb hby at_119) rfl rfl ?_
      refine s_icmpN (pc' := 123) X634.here hx (hb hby at_120) rfl (flt (by decide)).1 ?_
      refine s_aload (pc' := 125) X634.here hx (hb hby at_123) rfl rfl rfl ?_
      refine s_iconst (pc' := 126) (v := 3) X634.here hx (hb hby at_125) rfl rfl ?_
      refine s_iload (pc' := 128) X634.here hx (hb hby at_126) rfl rfl ?_
      obtain ⟨cl635, Ar635, Aq635, As635, An635, Ah635, Ag635⟩ := id V634
      have in636 := inb_of (j := 3) As635 (by decide)
      obtain ⟨T636, h636, X636, e636, W636, st636⟩ := stZ X634 hx hZ e634 Ar635 (j := 3) in636 (g := (mkF m 128 #[vi p0, vi p1, vi p2, vi p3, vi 4, vi rc, vi 1, vi 0, vi 1, vi 0, vr b628, un, un, un, un, un, un, un, un] [(.int 0), (.int 3), (.ref b628)])) rfl rfl (hb hby at_128)
      have V636 : Arv Z h636 b628 k628 .boolean 4 [(.int 1), (.int 0), (.int 1), (.int 0)] (.int 0) := by
       have q := Arv.set Ar635 Aq635 As635 An635 Ah635 Ag635 (fits_nar_bool _) W636 3 rfl (Nat.le_of_ble_eq_true rfl)
       rw [show nar .boolean 0 = 0 from by decide] at q; exact q
      have K636 : Keep h0 h636 [] := K634.wr W636 (Or.inr sz628)
      have O636 : Old Z n0 h636 := O634.wr W636 ge628
      have N636 := Fr.snoc X636 N634 ge628
      refine Go.st st636 ?_
      show Go p.tables e below Kx _ (mkF m 129 _ [])
      obtain ⟨T637, h637, X637, e637, E637, A637, D637, -, st637⟩ := newO X636 hx hZ hown (hv hw 2 rfl) (hv hw 3 rfl) (hv hw 4 rfl) e636 (g := (mkF m 129 #[vi p0, vi p1, vi p2, vi p3, vi 4, vi rc, vi 1, vi 0, vi 1, vi 0, vr b628, un, un, un, un, un, un, un, un] [])) rfl (hb hby at_129) (by decide) (by decide)
      obtain ⟨b637, g637⟩ : ∃ z, z = h636.size := ⟨_, rfl⟩
      rw [← g637] at A637 D637 st637
      have sz637 : h0.size ≤ b637 := Nat.le_trans K636.1 (Nat.le_of_eq g637.symm)
      have ge637 : n0 ≤ b637 := Nat.le_trans (O636.1 ▸ O636.2.1) (Nat.le_of_eq g637.symm)
      have K637 : Keep h0 h637 [] := K636.ext E637
      have O637 : Old Z n0 h637 := O636.ext E637
      have F637_relevantWithin : Fld Z h637 b637 "com/example/kingfisher/kingfisher/eval/TopicRanking" "relevantWithin" "[I" .null := D637 (Or.inr (hv hw 13 rfl)) (ty := (.array .int)) (by decide)
      have F637_relevantCount : Fld Z h637 b637 "com/example/kingfisher/kingfisher/eval/TopicRanking" "relevantCount" "I" (.int 0) := D637 (Or.inr (hv hw 15 rfl)) (ty := .int) (by decide)
      refine Go.st st637 ?_
      show Go p.tables e below Kx _ (mkF m 132 _ [(.ref b637)])
      refine s_dup (pc' := 133) X637.here hx (hb hby at_132) rfl rfl ?_
      refine s_aload (pc' := 135) X637.here hx (hb hby at_133) rfl rfl rfl ?_
      refine s_iload (pc' := 137) X637.here hx (hb hby at_135) rfl rfl ?_
      have f638 : Arv Z h637 b628 k628 .boolean 4 [(.int 1), (.int 0), (.int 1), (.int 0)] (.int 0) := (V636.ext E637)
      obtain ⟨_, _, ⟨T639, L639, k639, n639⟩, -, X639, ⟨Lc639, hQ639, l639, y639, z639⟩, st639⟩ := X637.specialBack hx (y := yN0) rfl hown (mvT hZ (hv hw 5 rfl)) (mvT hZ (hv hw 6 rfl)) (mvT hZ (hv hw 7 rfl)) (by decide) (backOf (W := 1) (rmN4 l Z a0 hw [] b637 b628 k628 1 0 1 0 1 1 2 2 rc h637 n0 O637 ge637 (Nat.ne_of_lt (Nat.lt_of_lt_of_le (Nat.lt_of_lt_of_le A628.lt (Nat.le_trans (Nat.le_trans (Nat.le_trans (Nat.le_of_eq W630.size.symm) (Nat.le_of_eq W632.size.symm)) (Nat.le_of_eq W634.size.symm)) (Nat.le_of_eq W636.size.symm))) (Nat.le_of_eq g637.symm))) A637 F637_relevantWithin F637_relevantCount f638 (by decide) (by decide) (by decide) (by decide)) hZ (hv hw 7 rfl) (hv hw 4 rfl) (by decide) (by decide)) (g := (mkF m 137 #[vi p0, vi p1, vi p2, vi p3, vi 4, vi rc, vi 1, vi 0, vi 1, vi 0, vr b628, un, un, un, un, un, un, un, un] [(.int rc), (.ref b628), (.ref b637), (.ref b637)])) rfl (by rw [hml]; rfl) (Steps.refl _) (a := b637) (argsL := [(.ref b628), (.int rc)]) (rest := [(.ref b637)]) (lenOf pd_2 rfl) rfl (by exact Nat.le_of_eq rfl) (hb hby at_137) (fun _ _ => ⟨rfl, e637, (by decide : 2 + 1 ≤ _), (by decide : 6 + 5 ≤ _)⟩)
      dsimp only [Pt.U, Pt.locs, Pt.cells, Pt.slots] at X639 l639 y639 z639 st639 hQ639
      rw [l639, y639, z639] at X639
      obtain ⟨rfl, Nq639, Kq639, q1_639, q2_639, t639, kt639, q3_639, q4_639⟩ := hQ639
      have N639 := Fr.app N636 Nq639
      have K639 : Keep h0 T639.heap [] := K637.trans Kq639 (allS (P := fun zz => zz ∈ [] ∨ h0.size ≤ zz) (Or.inr sz637) all0)
      have O639 : Old Z n0 T639.heap := O637.keep Kq639 (allS ge637 all0)
      refine Go.tr st639 ?_
      show Go p.tables e below Kx _ (mkF m 140 _ [(.ref b637)])
      refine s_astore (pc' := 142) (Ls' := #[vi p0, vi p1, vi p2, vi p3, vi 4, vi rc, vi 1, vi 0, vi 1, vi 0, vr b628, vr b637, un, un, un, un, un, un, un]) X639.here hx (hb hby at_140) rfl rfl rfl ?_
      refine s_aload (pc' := 144) X639.here hx (hb hby at_142) rfl rfl rfl ?_
      refine s_iloadN (pc' := 145) X639.here hx (hb hby at_144) rfl rfl ?_
      obtain ⟨cq640, kq640, q640a, q640b, q640c⟩ := isOf hZ rfl q1_639
      obtain ⟨_, _, ⟨T640, L640, k640, n640⟩, -, X640, ⟨Lc640, hQ640, l640, y640, z640⟩, st640⟩ := X639.virtualBack hx (y := yN1) (z := yN1) hown (mvT hZ (hv hw 16 rfl)) (mvT hZ (hv hw 17 rfl)) (notFace_of_selects (args := #[]) (mvT hZ (hv hw 19 rfl))) (mvT hZ (hv hw 19 rfl)) (mvT hZ (hv hw 18 rfl)) (by decide) (backOf (W := 0) (rmA4 l Z a0 hw [] b637 t639 kt639 1 1 2 2 rc p2 T639.heap n0 O639 hrc q1_639 q3_639 q2_639 q4_639) hZ (hv hw 20 rfl) (hv hw 4 rfl) (by decide) (by decide)) q640a q640c (g := (mkF m 145 #[vi p0, vi p1, vi p2, vi p3, vi 4, vi rc, vi 1, vi 0, vi 1, vi 0, vr b628, vr b637, un, un, un, un, un, un, un] [(.int p2), (.ref b637)])) rfl (by rw [hml]; rfl) (Steps.refl _) (argsL := [(.int p2)]) (rest := []) (lenOf pd_3 rfl) rfl (by exact Nat.le_of_eq rfl) (hb hby at_145) (fun _ _ => ⟨rfl, rfl, (by decide : 3 + 0 ≤ _), (by decide : 11 + 0 ≤ _)⟩)
      dsimp only [Pt.U, Pt.locs, Pt.cells, Pt.slots] at X640 l640 y640 z640 st640 hQ640
      rw [l640, y640, z640] at X640
      obtain ⟨rfl, Nq640, hE640⟩ := hQ640
      have N640 := Fr.app N639 Nq640
      refine Go.tr st640 ?_
      show Go p.tables e below Kx _ (mkF m 148 _ [(.double (mst (mst (mst (mst FP.dconst0 1 1 (needd p2 rc)) 1 2 (needd p2 rc)) 2 3 (needd p2 rc)) 2 4 (needd p2 rc)))])
      refine s_dstore (pc' := 150) (Ls' := #[vi p0, vi p1, vi p2, vi p3, vi 4, vi rc, vi 1, vi 0, vi 1, vi 0, vr b628, vr b637, .val (.double (mst (mst (mst (mst FP.dconst0 1 1 (needd p2 rc)) 1 2 (needd p2 rc)) 2 3 (needd p2 rc)) 2 4 (needd p2 rc))), sn, un, un, un, un, un]) X640.here hx (hb hby at_148) rfl  rfl ?_
      refine s_iloadN (pc' := 151) X640.here hx (hb hby at_150) rfl rfl ?_
      refine s_i2d (pc' := 152) X640.here hx (hb hby at_151) rfl rfl ?_
      refine Go.st (X640.ldc2DoubleC hx hown (mvT hZ (hv hw 28 rfl)) (g := (mkF m 152 #[vi p0, vi p1, vi p2, vi p3, vi 4, vi rc, vi 1, vi 0, vi 1, vi 0, vr b628, vr b637, .val (.double (mst (mst (mst (mst FP.dconst0 1 1 (needd p2 rc)) 1 2 (needd p2 rc)) 2 3 (needd p2 rc)) 2 4 (needd p2 rc))), sn, un, un, un, un, un] [(.double (FP.i2d p2))])) rfl (hb hby at_152)) ?_
      show Go p.tables e below Kx _ (mkF m 155 _ [(.double (4621819117588971520 : UInt64)), (.double (FP.i2d p2))])
      refine s_ddiv (pc' := 156) X640.here hx (hb hby at_155) rfl (nn1 p2) rfl ?_
      refine s_iload (pc' := 158) X640.here hx (hb hby at_156) rfl rfl ?_
      refine s_i2d (pc' := 159) X640.here hx (hb hby at_158) rfl rfl ?_
      refine s_dmul (pc' := 160) X640.here hx (hb hby at_159) rfl (nn2 p2 hrc) rfl ?_
      refine Go.st (X640.ldc2DoubleC hx hown (mvT hZ (hv hw 29 rfl)) (g := (mkF m 160 #[vi p0, vi p1, vi p2, vi p3, vi 4, vi rc, vi 1, vi 0, vi 1, vi 0, vr b628, vr b637, .val (.double (mst (mst (mst (mst FP.dconst0 1 1 (needd p2 rc)) 1 2 (needd p2 rc)) 2 3 (needd p2 rc)) 2 4 (needd p2 rc))), sn, un, un, un, un, un] [(.double (FP.dmul (FP.ddiv (FP.i2d p2) (4621819117588971520 : UInt64)) (FP.i2d rc)))])) rfl (hb hby at_160)) ?_
      show Go p.tables e below Kx _ (mkF m 163 _ [(.double (4606281698874543309 : UInt64)), (.double (FP.dmul (FP.ddiv (FP.i2d p2) (4621819117588971520 : UInt64)) (FP.i2d rc)))])
      refine s_dadd (pc' := 164) X640.here hx (hb hby at_163) rfl (nn3 p2 hrc) rfl ?_
      refine s_d2l (pc' := 165) (z := needd p2 rc) X640.here hx (hb hby at_164) rfl rfl ?_
      show Go p.tables e below Kx _ (mkF m 165 _ [(.long (needd p2 rc))])
      generalize (needd p2 rc) = nd
      generalize hmm : (mst (mst (mst (mst FP.dconst0 1 1 nd) 1 2 nd) 2 3 nd) 2 4 nd) = mm
      show Go p.tables e below Kx _ (mkF m 165 _ [(.long nd)])
      refine s_lstore (pc' := 167) (Ls' := #[vi p0, vi p1, vi p2, vi p3, vi 4, vi rc, vi 1, vi 0, vi 1, vi 0, vr b628, vr b637, .val (.double mm), sn, .val (.long nd), sn, un, un, un]) X640.here hx (hb hby at_165) rfl  rfl ?_
      refine s_dconst0 (pc' := 168) X640.here hx (hb hby at_167) rfl rfl ?_
      refine s_dstore (pc' := 170) (Ls' := #[vi p0, vi p1, vi p2, vi p3, vi 4, vi rc, vi 1, vi 0, vi 1, vi 0, vr b628, vr b637, .val (.double mm), sn, .val (.long nd), sn, .val (.double FP.dconst0), sn, un]) X640.here hx (hb hby at_168) rfl  rfl ?_
      refine s_iconst (pc' := 171) (v := 0) X640.here hx (hb hby at_170) rfl rfl ?_
      refine s_istore (pc' := 173) (Ls' := #[vi p0, vi p1, vi p2, vi p3, vi 4, vi rc, vi 1, vi 0, vi 1, vi 0, vr b628, vr b637, .val (.double mm), sn, .val (.long nd), sn, .val (.double FP.dconst0), sn, vi 0]) X640.here hx (hb hby at_171) rfl  rfl ?_
      refine s_iload (pc' := 175) X640.here hx (hb hby at_173) rfl rfl ?_
      refine s_iconst (pc' := 176) (v := 1) X640.here hx (hb hby at_175) rfl rfl ?_
      refine s_icmpN (pc' := 179) X640.here hx (hb hby at_176) rfl (flt (by decide)).1 ?_
      refine s_iload (pc' := 181) X640.here hx (hb hby at_179) rfl rfl ?_
      refine s_ifN (pc' := 184) X640.here hx (hb hby at_181) rfl ((if0 _ _).trans (feq (by decide)).1) ?_
      refine s_iload (pc' := 186) X640.here hx (hb hby at_184) rfl rfl ?_
      refine s_iconst (pc' := 187) (v := 1) X640.here hx (hb hby at_186) rfl rfl ?_
      refine s_iadd (pc' := 188) (z := 1) X640.here hx (hb hby at_187) rfl (by decide) ?_
      refine s_istore (pc' := 190) (Ls' := #[vi p0, vi p1, vi p2, vi p3, vi 4, vi rc, vi 1, vi 0, vi 1, vi 0, vr b628, vr b637, .val (.double mm), sn, .val (.long nd), sn, .val (.double FP.dconst0), sn, vi 1]) X640.here hx (hb hby at_188) rfl  rfl ?_
      refine s_dload (pc' := 192) X640.here hx (hb hby at_190) rfl rfl ?_
      refine s_iload (pc' := 194) X640.here hx (hb hby at_192) rfl rfl ?_
      refine s_iconst (pc' := 195) (v := 1) X640.here hx (hb hby at_194) rfl rfl ?_
      refine s_lload (pc' := 197) X640.here hx (hb hby at_195) rfl rfl ?_
      obtain ⟨_, _, ⟨T641, L641, k641, n641⟩, -, X641, ⟨Lc641, hQ641, l641, y641, z641⟩, st641⟩ := Jvm.LawKit.callS X640 hx (y := yN3) hown (mvT hZ (hv hw 30 rfl)) (mvT hZ (hv hw 31 rfl)) (mvT hZ (hv hw 32 rfl)) (mvT hZ (hv hw 33 rfl)) (by decide) (backOf (W := 0) (rmB l Z a0 hw [] FP.dconst0 1 1 nd T639.heap n0 O639 (by decide)) hZ (hv hw 33 rfl) (hv hw 32 rfl) (by decide) (by decide)) (g := (mkF m 197 #[vi p0, vi p1, vi p2, vi p3, vi 4, vi rc, vi 1, vi 0, vi 1, vi 0, vr b628, vr b637, .val (.double mm), sn, .val (.long nd), sn, .val (.double FP.dconst0), sn, vi 1] [(.long nd), (.int 1), (.int 1), (.double FP.dconst0)])) rfl (by rw [hml]; rfl) (argsL := [(.double FP.dconst0), (.int 1), (.int 1), (.long nd)]) (rest := []) (lenOf pd_4 rfl) rfl (by exact Nat.le_of_eq rfl) (hb hby at_197) (fun _ _ => ⟨rfl, hE640, (by decide : 3 + 0 ≤ _), (by decide : 11 + 0 ≤ _)⟩)
      dsimp only [Pt.U, Pt.locs, Pt.cells, Pt.slots] at X641 l641 y641 z641 st641 hQ641
      rw [l641, y641, z641] at X641
      obtain ⟨rfl, Nq641, hE641⟩ := hQ641
      have N641 := Fr.app N640 Nq641
      refine Go.st st641 ?_
      show Go p.tables e below Kx _ (mkF m 200 _ [(.double (bst FP.dconst0 1 1 nd))])
      refine s_dstore (pc' := 202) (Ls' := #[vi p0, vi p1, vi p2, vi p3, vi 4, vi rc, vi 1, vi 0, vi 1, vi 0, vr b628, vr b637, .val (.double mm), sn, .val (.long nd), sn, .val (.double (bst FP.dconst0 1 1 nd)), sn, vi 1]) X641.here hx (hb hby at_200) rfl  rfl ?_
      refine s_iload (pc' := 204) X641.here hx (hb hby at_202) rfl rfl ?_
      refine s_iconst (pc' := 205) (v := 2) X641.here hx (hb hby at_204) rfl rfl ?_
      refine s_icmpN (pc' := 208) X641.here hx (hb hby at_205) rfl (flt (by decide)).1 ?_
      refine s_iload (pc' := 210) X641.here hx (hb hby at_208) rfl rfl ?_
      refine s_ifY (pc' := 231) X641.here hx (hb hby at_210) ((if0 _ _).trans (teq (by decide)).1) (by decide) (by decide) ?_
      refine s_iload (pc' := 233) X641.here hx (hb hby at_231) rfl rfl ?_
      refine s_iconst (pc' := 234) (v := 3) X641.here hx (hb hby at_233) rfl rfl ?_
      refine s_icmpN (pc' := 237) X641.here hx (hb hby at_234) rfl (flt (by decide)).1 ?_
      refine s_iload (pc' := 239) X641.here hx (hb hby at_237) rfl rfl ?_
      refine s_ifN (pc' := 242) X641.here hx (hb hby at_239) rfl ((if0 _ _).trans (feq (by decide)).1) ?_
      refine s_iload (pc' := 244) X641.here hx (hb hby at_242) rfl rfl ?_
      refine s_iconst (pc' := 245) (v := 1) X641.here hx (hb hby at_244) rfl rfl ?_
      refine s_iadd (pc' := 246) (z := 2) X641.here hx (hb hby at_245) rfl (by decide) ?_
      refine s_istore (pc' := 248) (Ls' := #[vi p0, vi p1, vi p2, vi p3, vi 4, vi rc, vi 1, vi 0, vi 1, vi 0, vr b628, vr b637, .val (.double mm), sn, .val (.long nd), sn, .val (.double (bst FP.dconst0 1 1 nd)), sn, vi 2]) X641.here hx (hb hby at_246) rfl  rfl ?_
      refine s_dload (pc' := 250) X641.here hx (hb hby at_248) rfl rfl ?_
      refine s_iload (pc' := 252) X641.here hx (hb hby at_250) rfl rfl ?_
      refine s_iconst (pc' := 253) (v := 3) X641.here hx (hb hby at_252) rfl rfl ?_
      refine s_lload (pc' := 255) X641.here hx (hb hby at_253) rfl rfl ?_
      obtain ⟨_, _, ⟨T642, L642, k642, n642⟩, -, X642, ⟨Lc642, hQ642, l642, y642, z642⟩, st642⟩ := Jvm.LawKit.callS X641 hx (y := yN3) hown (mvT hZ (hv hw 30 rfl)) (mvT hZ (hv hw 31 rfl)) (mvT hZ (hv hw 32 rfl)) (mvT hZ (hv hw 33 rfl)) (by decide) (backOf (W := 0) (rmB l Z a0 hw [] (bst FP.dconst0 1 1 nd) 2 3 nd T639.heap n0 O639 (by decide)) hZ (hv hw 33 rfl) (hv hw 32 rfl) (by decide) (by decide)) (g := (mkF m 255 #[vi p0, vi p1, vi p2, vi p3, vi 4, vi rc, vi 1, vi 0, vi 1, vi 0, vr b628, vr b637, .val (.double mm), sn, .val (.long nd), sn, .val (.double (bst FP.dconst0 1 1 nd)), sn, vi 2] [(.long nd), (.int 3), (.int 2), (.double (bst FP.dconst0 1 1 nd))])) rfl (by rw [hml]; rfl) (argsL := [(.double (bst FP.dconst0 1 1 nd)), (.int 2), (.int 3), (.long nd)]) (rest := []) (lenOf pd_4 rfl) rfl (by exact Nat.le_of_eq rfl) (hb hby at_255) (fun _ _ => ⟨rfl, hE641, (by decide : 3 + 0 ≤ _), (by decide : 11 + 0 ≤ _)⟩)
      dsimp only [Pt.U, Pt.locs, Pt.cells, Pt.slots] at X642 l642 y642 z642 st642 hQ642
      rw [l642, y642, z642] at X642
      obtain ⟨rfl, Nq642, hE642⟩ := hQ642
      have N642 := Fr.app N641 Nq642
      refine Go.st st642 ?_
      show Go p.tables e below Kx _ (mkF m 258 _ [(.double (bst (bst FP.dconst0 1 1 nd) 2 3 nd))])
      refine s_dstore (pc' := 260) (Ls' := #[vi p0, vi p1, vi p2, vi p3, vi 4, vi rc, vi 1, vi 0, vi 1, vi 0, vr b628, vr b637, .val (.double mm), sn, .val (.long nd), sn, .val (.double (bst (bst FP.dconst0 1 1 nd) 2 3 nd)), sn, vi 2]) X642.here hx (hb hby at_258) rfl  rfl ?_
      refine s_iload (pc' := 262) X642.here hx (hb hby at_260) rfl rfl ?_
      refine s_iconst (pc' := 263) (v := 4) X642.here hx (hb hby at_262) rfl rfl ?_
      refine s_icmpN (pc' := 266) X642.here hx (hb hby at_263) rfl (flt (by decide)).1 ?_
      refine s_iload (pc' := 268) X642.here hx (hb hby at_266) rfl rfl ?_
      refine s_ifY (pc' := 289) X642.here hx (hb hby at_268) ((if0 _ _).trans (teq (by decide)).1) (by decide) (by decide) ?_
      refine s_dload (pc' := 291) X642.here hx (hb hby at_289) rfl rfl ?_
      refine s_dload (pc' := 293) X642.here hx (hb hby at_291) rfl rfl ?_
      refine s_dcmpl (pc' := 294) (z := 0) X642.here hx (hb hby at_293) rfl (by rw [← hmm]; exact fin_41010 nd) ?_
      refine s_ifN (pc' := 297) X642.here hx (hb hby at_294) rfl ((if0 _ _).trans (teq (by decide)).2) ?_
      refine s_iconst (pc' := 298) (v := 1) X642.here hx (hb hby at_297) rfl rfl ?_
      refine s_goto (pc' := 302) X642.here hx (hb hby at_298) (by decide) (by decide) ?_
      obtain ⟨fs, hr, hrun, hended, hW, hsame⟩ := X642.leave (v := (some (.int 1))) (fun h => by rw [Bd.returns] at h; cases h)
      refine Go.fin (retN X642 hx (t := .boolean) Bd.returns (by simp) (hb hby at_302) hr) (hF _ _ hrun hended ⟨_, _, rfl, ?_, ⟨_, rfl⟩, hW, hsame.mono (by decide) (by decide)⟩)
      ·
       show QL Z p0 p1 p2 p3 h0 n0 ((some (.int 1)) : Option Value) T642.heap _
       rw [hE642]
       exact ⟨rfl, N642⟩
     ·
      show Go p.tables e below Kx _ (mkF m 75 _ [])
      refine s_iload (pc' := 77) X0.here hx (hb hby at_75) rfl rfl ?_
      obtain ⟨T643, h643, k643, X643, e643, E643, A643, st643⟩ := newP X0 hx hZ (hv hw 1 rfl) e0 (g := (mkF m 77 #[vi p0, vi p1, vi p2, vi p3, vi 4, vi rc, vi 1, vi 0, vi 1, vi 1, un, un, un, un, un, un, un, un, un] [(.int 4)])) rfl (hb hby at_77) rfl (by decide) (cap := 4) (by decide) (by decide) (by decide) (by decide)
      obtain ⟨b643, g643⟩ : ∃ z, z = h0.size := ⟨_, rfl⟩
      rw [← g643] at A643 st643
      have sz643 : h0.size ≤ b643 := Nat.le_trans K0.1 (Nat.le_of_eq g643.symm)
      have ge643 : n0 ≤ b643 := Nat.le_trans (X00.1 ▸ X00.2.1) (Nat.le_of_eq g643.symm)
      have K643 : Keep h0 h643 [] := K0.ext E643
      have O643 : Old Z n0 h643 := X00.ext E643
      have V643 : Arv Z h643 b643 k643 .boolean 4 [(.int 0), (.int 0), (.int 0), (.int 0)] (.int 0) := (Arv.new A643 (by decide)).pad (pad_rep [] (.int 0) 4)
      refine Go.st st643 ?_
      show Go p.tables e below Kx _ (mkF m 79 _ [(.ref b643)])
      refine s_astore (pc' := 81) (Ls' := #[vi p0, vi p1, vi p2, vi p3, vi 4, vi rc, vi 1, vi 0, vi 1, vi 1, vr b643, un, un, un, un, un, un, un, un]) X643.here hx (hb hby at_79) rfl rfl rfl ?_
      refine s_iload (pc' := 83) X643.here hx (hb hby at_81) rfl rfl ?_
      refine s_iconst (pc' := 84) (v := 1) X643.here hx (hb hby at_83) rfl rfl ?_
      refine s_icmpN (pc' := 87) X643.here hx (hb hby at_84) rfl (flt (by decide)).1 ?_
      refine s_aload (pc' := 89) X643.here hx (hb hby at_87) rfl rfl rfl ?_
      refine s_iconst (pc' := 90) (v := 0) X643.here hx (hb hby at_89) rfl rfl ?_
      refine s_iload (pc' := 92) X643.here hx (hb hby at_90) rfl rfl ?_
      obtain ⟨cl644, Ar644, Aq644, As644, An644, Ah644, Ag644⟩ := id V643
      have in645 := inb_of (j := 0) As644 (by decide)
      obtain ⟨T645, h645, X645, e645, W645, st645⟩ := stZ X643 hx hZ e643 Ar644 (j := 0) in645 (g := (mkF m 92 #[vi p0, vi p1, vi p2, vi p3, vi 4, vi rc, vi 1, vi 0, vi 1, vi 1, vr b643, un, un, un, un, un, un, un, un] [(.int 1), (.int 0), (.ref b643)])) rfl rfl (hb hby at_92)
      have V645 : Arv Z h645 b643 k643 .boolean 4 [(.int 1), (.int 0), (.int 0), (.int 0)] (.int 0) := by
       have q := Arv.set Ar644 Aq644 As644 An644 Ah644 Ag644 (fits_nar_bool _) W645 0 rfl (Nat.le_of_ble_eq_true rfl)
       rw [show nar .boolean 1 = 1 from by decide] at q; exact q
      have K645 : Keep h0 h645 [] := K643.wr W645 (Or.inr sz643)
      have O645 : Old Z n0 h645 := O643.wr W645 ge643
      have N645 := Fr.snoc X645 N0 ge643
      refine Go.st st645 ?_
      show Go p.tables e below Kx _ (mkF m 93 _ [])
      refine s_iload (pc' := 95) X645.here hx (hb hby at_93) rfl rfl ?_
      refine s_iconst (pc' := 96) (v := 2) X645.here hx (hb hby at_95) rfl rfl ?_
      refine s_icmpN (pc' := 99) X645.here hx (hb hby at_96) rfl (flt (by decide)).1 ?_
      refine s_aload (pc' := 101) X645.here hx (hb hby at_99) rfl rfl rfl ?_
      refine s_iconst (pc' := 102) (v := 1) X645.here hx (hb hby at_101) rfl rfl ?_
      refine s_iload (pc' := 104) X645.here hx (hb hby at_102) rfl rfl ?_
      obtain ⟨cl646, Ar646, Aq646, As646, An646, Ah646, Ag646⟩ := id V645
      have in647 := inb_of (j := 1) As646 (by decide)
      obtain ⟨T647, h647, X647, e647, W647, st647⟩ := stZ X645 hx hZ e645 Ar646 (j := 1) in647 (g := (mkF m 104 #[vi p0, vi p1, vi p2, vi p3, vi 4, vi rc, vi 1, vi 0, vi 1, vi 1, vr b643, un, un, un, un, un, un, un, un] [(.int 0), (.int 1), (.ref b643)])) rfl rfl (hb hby at_104)
      have V647 : Arv Z h647 b643 k643 .boolean 4 [(.int 1), (.int 0), (.int 0), (.int 0)] (.int 0) := by
       have q := Arv.set Ar646 Aq646 As646 An646 Ah646 Ag646 (fits_nar_bool _) W647 1 rfl (Nat.le_of_ble_eq_true rfl)
       rw [show nar .boolean 0 = 0 from by decide] at q; exact q
      have K647 : Keep h0 h647 [] := K645.wr W647 (Or.inr sz643)
      have O647 : Old Z n0 h647 := O645.wr W647 ge643
      have N647 := Fr.snoc X647 N645 ge643
      refine Go.st st647 ?_
      show Go p.tables e below Kx _ (mkF m 105 _ [])
      refine s_iload (pc' := 107) X647.here hx (hb hby at_105) rfl rfl ?_
      refine s_iconst (pc' := 108) (v := 3) X647.here hx (hb hby at_107) rfl rfl ?_
      refine s_icmpN (pc' := 111) X647.here hx (hb hby at_108) rfl (flt (by decide)).1 ?_
      refine s_aload (pc' := 113) X647.here hx (hb hby at_111) rfl rfl rfl ?_
      refine s_iconst (pc' := 114) (v := 2) X647.here hx (hb hby at_113) rfl rfl ?_
      refine s_iload (pc' := 116) X647.here hx (hb hby at_114) rfl rfl ?_
      obtain ⟨cl648, Ar648, Aq648, As648, An648, Ah648, Ag648⟩ := id V647
      have in649 := inb_of (j := 2) As648 (by decide)
      obtain ⟨T649, h649, X649, e649, W649, st649⟩ := stZ X647 hx hZ e647 Ar648 (j := 2) in649 (g := (mkF m 116 #[vi p0, vi p1, vi p2, vi p3, vi 4, vi rc, vi 1, vi 0, vi 1, vi 1, vr b643, un, un, un, un, un, un, un, un] [(.int 1), (.int 2), (.ref b643)])) rfl rfl (hb hby at_116)
      have V649 : Arv Z h649 b643 k643 .boolean 4 [(.int 1), (.int 0), (.int 1), (.int 0)] (.int 0) := by
       have q := Arv.set Ar648 Aq648 As648 An648 Ah648 Ag648 (fits_nar_bool _) W649 2 rfl (Nat.le_of_ble_eq_true rfl)
       rw [show nar .boolean 1 = 1 from by decide] at q; exact q
      have K649 : Keep h0 h649 [] := K647.wr W649 (Or.inr sz643)
      have O649 : Old Z n0 h649 := O647.wr W649 ge643
      have N649 := Fr.snoc X649 N647 ge643
      refine Go.st st649 ?_
      show Go p.tables e below Kx _ (mkF m 117 _ [])
      refine s_iload (pc' := 119) X649.here hx (hb hby at_117) rfl rfl ?_
      refine s_iconst (pc' := 120) (v := 4) X649.here hx (hb hby at_119) rfl rfl ?_
      refine s_icmpN (pc' := 123) X649.here hx (hb hby at_120) rfl (flt (by decide)).1 ?_
      refine s_aload (pc' := 125) X649.here hx (hb hby at_123) rfl rfl rfl ?_
      refine s_iconst (pc' := 126) (v := 3) X649.here hx (hb hby at_125) rfl rfl ?_
      refine s_iload (pc' := 128) X649.here hx (hb hby at_126) rfl rfl ?_
      obtain ⟨cl650, Ar650, Aq650, As650, An650, Ah650, Ag650⟩ := id V649
      have in651 := inb_of (j := 3) As650 (by decide)
      obtain ⟨T651, h651, X651, e651, W651, st651⟩ := stZ X649 hx hZ e649 Ar650 (j := 3) in651 (g := (mkF m 128 #[vi p0, vi p1, vi p2, vi p3, vi 4, vi rc, vi 1, vi 0, vi 1, vi 1, vr b643, un, un, un, un, un, un, un, un] [(.int 1), (.int 3), (.ref b643)])) rfl rfl (hb hby at_128)
      have V651 : Arv Z h651 b643 k643 .boolean 4 [(.int 1), (.int 0), (.int 1), (.int 1)] (.int 0) := by
       have q := Arv.set Ar650 Aq650 As650 An650 Ah650 Ag650 (fits_nar_bool _) W651 3 rfl (Nat.le_of_ble_eq_true rfl)
       rw [show nar .boolean 1 = 1 from by decide] at q; exact q
      have K651 : Keep h0 h651 [] := K649.wr W651 (Or.inr sz643)
      have O651 : Old Z n0 h651 := O649.wr W651 ge643
      have N651 := Fr.snoc X651 N649 ge643
      refine Go.st st651 ?_
      show Go p.tables e below Kx _ (mkF m 129 _ [])
      obtain ⟨T652, h652, X652, e652, E652, A652, D652, -, st652⟩ := newO X651 hx hZ hown (hv hw 2 rfl) (hv hw 3 rfl) (hv hw 4 rfl) e651 (g := (mkF m 129 #[vi p0, vi p1, vi p2, vi p3, vi 4, vi rc, vi 1, vi 0, vi 1, vi 1, vr b643, un, un, un, un, un, un, un, un] [])) rfl (hb hby at_129) (by decide) (by decide)
      obtain ⟨b652, g652⟩ : ∃ z, z = h651.size := ⟨_, rfl⟩
      rw [← g652] at A652 D652 st652
      have sz652 : h0.size ≤ b652 := Nat.le_trans K651.1 (Nat.le_of_eq g652.symm)
      have ge652 : n0 ≤ b652 := Nat.le_trans (O651.1 ▸ O651.2.1) (Nat.le_of_eq g652.symm)
      have K652 : Keep h0 h652 [] := K651.ext E652
      have O652 : Old Z n0 h652 := O651.ext E652
      have F652_relevantWithin : Fld Z h652 b652 "com/example/kingfisher/kingfisher/eval/TopicRanking" "relevantWithin" "[I" .null := D652 (Or.inr (hv hw 13 rfl)) (ty := (.array .int)) (by decide)
      have F652_relevantCount : Fld Z h652 b652 "com/example/kingfisher/kingfisher/eval/TopicRanking" "relevantCount" "I" (.int 0) := D652 (Or.inr (hv hw 15 rfl)) (ty := .int) (by decide)
      refine Go.st st652 ?_
      show Go p.tables e below Kx _ (mkF m 132 _ [(.ref b652)])
      refine s_dup (pc' := 133) X652.here hx (hb hby at_132) rfl rfl ?_
      refine s_aload (pc' := 135) X652.here hx (hb hby at_133) rfl rfl rfl ?_
      refine s_iload (pc' := 137) X652.here hx (hb hby at_135) rfl rfl ?_
      have f653 : Arv Z h652 b643 k643 .boolean 4 [(.int 1), (.int 0), (.int 1), (.int 1)] (.int 0) := (V651.ext E652)
      obtain ⟨_, _, ⟨T654, L654, k654, n654⟩, -, X654, ⟨Lc654, hQ654, l654, y654, z654⟩, st654⟩ := X652.specialBack hx (y := yN0) rfl hown (mvT hZ (hv hw 5 rfl)) (mvT hZ (hv hw 6 rfl)) (mvT hZ (hv hw 7 rfl)) (by decide) (backOf (W := 1) (rmN4 l Z a0 hw [] b652 b643 k643 1 0 1 1 1 1 2 3 rc h652 n0 O652 ge652 (Nat.ne_of_lt (Nat.lt_of_lt_of_le (Nat.lt_of_lt_of_le A643.lt (Nat.le_trans (Nat.le_trans (Nat.le_trans (Nat.le_of_eq W645.size.symm) (Nat.le_of_eq W647.size.symm)) (Nat.le_of_eq W649.size.symm)) (Nat.le_of_eq W651.size.symm))) (Nat.le_of_eq g652.symm))) A652 F652_relevantWithin F652_relevantCount f653 (by decide) (by decide) (by decide) (by decide)) hZ (hv hw 7 rfl) (hv hw 4 rfl) (by decide) (by decide)) (g := (mkF m 137 #[vi p0, vi p1, vi p2, vi p3, vi 4, vi rc, vi 1, vi 0, vi 1, vi 1, vr b643, un, un, un, un, un, un, un, un] [(.int rc), (.ref b643), (.ref b652), (.ref b652)])) rfl (by rw [hml]; rfl) (Steps.refl _) (a := b652) (argsL := [(.ref b643), (.int rc)]) (rest := [(.ref b652)]) (lenOf pd_2 rfl) rfl (by exact Nat.le_of_eq rfl) (hb hby at_137) (fun _ _ => ⟨rfl, e652, (by decide : 2 + 1 ≤ _), (by decide : 6 + 5 ≤ _)⟩)
      dsimp only [Pt.U, Pt.locs, Pt.cells, Pt.slots] at X654 l654 y654 z654 st654 hQ654
      rw [l654, y654, z654] at X654
      obtain ⟨rfl, Nq654, Kq654, q1_654, q2_654, t654, kt654, q3_654, q4_654⟩ := hQ654
      have N654 := Fr.app N651 Nq654
      have K654 : Keep h0 T654.heap [] := K652.trans Kq654 (allS (P := fun zz => zz ∈ [] ∨ h0.size ≤ zz) (Or.inr sz652) all0)
      have O654 : Old Z n0 T654.heap := O652.keep Kq654 (allS ge652 all0)
      refine Go.tr st654 ?_
      show Go p.tables e below Kx _ (mkF m 140 _ [(.ref b652)])
      refine s_astore (pc' := 142) (Ls' := #[vi p0, vi p1, vi p2, vi p3, vi 4, vi rc, vi 1, vi 0, vi 1, vi 1, vr b643, vr b652, un, un, un, un, un, un, un]) X654.here hx (hb hby at_140) rfl rfl rfl ?_
      refine s_aload (pc' := 144) X654.here hx (hb hby at_142) rfl rfl rfl ?_
      refine s_iloadN (pc' := 145) X654.here hx (hb hby at_144) rfl rfl ?_
      obtain ⟨cq655, kq655, q655a, q655b, q655c⟩ := isOf hZ rfl q1_654
      obtain ⟨_, _, ⟨T655, L655, k655, n655⟩, -, X655, ⟨Lc655, hQ655, l655, y655, z655⟩, st655⟩ := X654.virtualBack hx (y := yN1) (z := yN1) hown (mvT hZ (hv hw 16 rfl)) (mvT hZ (hv hw 17 rfl)) (notFace_of_selects (args := #[]) (mvT hZ (hv hw 19 rfl))) (mvT hZ (hv hw 19 rfl)) (mvT hZ (hv hw 18 rfl)) (by decide) (backOf (W := 0) (rmA4 l Z a0 hw [] b652 t654 kt654 1 1 2 3 rc p2 T654.heap n0 O654 hrc q1_654 q3_654 q2_654 q4_654) hZ (hv hw 20 rfl) (hv hw 4 rfl) (by decide) (by decide)) q655a q655c (g := (mkF m 145 #[vi p0, vi p1, vi p2, vi p3, vi 4, vi rc, vi 1, vi 0, vi 1, vi 1, vr b643, vr b652, un, un, un, un, un, un, un] [(.int p2), (.ref b652)])) rfl (by rw [hml]; rfl) (Steps.refl _) (argsL := [(.int p2)]) (rest := []) (lenOf pd_3 rfl) rfl (by exact Nat.le_of_eq rfl) (hb hby at_145) (fun _ _ => ⟨rfl, rfl, (by decide : 3 + 0 ≤ _), (by decide : 11 + 0 ≤ _)⟩)
      dsimp only [Pt.U, Pt.locs, Pt.cells, Pt.slots] at X655 l655 y655 z655 st655 hQ655
      rw [l655, y655, z655] at X655
      obtain ⟨rfl, Nq655, hE655⟩ := hQ655
      have N655 := Fr.app N654 Nq655
      refine Go.tr st655 ?_
      show Go p.tables e below Kx _ (mkF m 148 _ [(.double (mst (mst (mst (mst FP.dconst0 1 1 (needd p2 rc)) 1 2 (needd p2 rc)) 2 3 (needd p2 rc)) 3 4 (needd p2 rc)))])
      refine s_dstore (pc' := 150) (Ls' := #[vi p0, vi p1, vi p2, vi p3, vi 4, vi rc, vi 1, vi 0, vi 1, vi 1, vr b643, vr b652, .val (.double (mst (mst (mst (mst FP.dconst0 1 1 (needd p2 rc)) 1 2 (needd p2 rc)) 2 3 (needd p2 rc)) 3 4 (needd p2 rc))), sn, un, un, un, un, un]) X655.here hx (hb hby at_148) rfl  rfl ?_
      refine s_iloadN (pc' := 151) X655.here hx (hb hby at_150) rfl rfl ?_
      refine s_i2d (pc' := 152) X655.here hx (hb hby at_151) rfl rfl ?_
      refine Go.st (X655.ldc2DoubleC hx hown (mvT hZ (hv hw 28 rfl)) (g := (mkF m 152 #[vi p0, vi p1, vi p2, vi p3, vi 4, vi rc, vi 1, vi 0, vi 1, vi 1, vr b643, vr b652, .val (.double (mst (mst (mst (mst FP.dconst0 1 1 (needd p2 rc)) 1 2 (needd p2 rc)) 2 3 (needd p2 rc)) 3 4 (needd p2 rc))), sn, un, un, un, un, un] [(.double (FP.i2d p2))])) rfl (hb hby at_152)) ?_
      show Go p.tables e below Kx _ (mkF m 155 _ [(.double (4621819117588971520 : UInt64)), (.double (FP.i2d p2))])
      refine s_ddiv (pc' := 156) X655.here hx (hb hby at_155) rfl (nn1 p2) rfl ?_
      refine s_iload (pc' := 158) X655.here hx (hb hby at_156) rfl rfl ?_
      refine s_i2d (pc' := 159) X655.here hx (hb hby at_158) rfl rfl ?_
      refine s_dmul (pc' := 160) X655.here hx (hb hby at_159) rfl (nn2 p2 hrc) rfl ?_
      refine Go.st (X655.ldc2DoubleC hx hown (mvT hZ (hv hw 29 rfl)) (g := (mkF m 160 #[vi p0, vi p1, vi p2, vi p3, vi 4, vi rc, vi 1, vi 0, vi 1, vi 1, vr b643, vr b652, .val (.double (mst (mst (mst (mst FP.dconst0 1 1 (needd p2 rc)) 1 2 (needd p2 rc)) 2 3 (needd p2 rc)) 3 4 (needd p2 rc))), sn, un, un, un, un, un] [(.double (FP.dmul (FP.ddiv (FP.i2d p2) (4621819117588971520 : UInt64)) (FP.i2d rc)))])) rfl (hb hby at_160)) ?_
      show Go p.tables e below Kx _ (mkF m 163 _ [(.double (4606281698874543309 : UInt64)), (.double (FP.dmul (FP.ddiv (FP.i2d p2) (4621819117588971520 : UInt64)) (FP.i2d rc)))])
      refine s_dadd (pc' := 164) X655.here hx (hb hby at_163) rfl (nn3 p2 hrc) rfl ?_
      refine s_d2l (pc' := 165) (z := needd p2 rc) X655.here hx (hb hby at_164) rfl rfl ?_
      show Go p.tables e below Kx _ (mkF m 165 _ [(.long (needd p2 rc))])
      generalize (needd p2 rc) = nd
      generalize hmm : (mst (mst (mst (mst FP.dconst0 1 1 nd) 1 2 nd) 2 3 nd) 3 4 nd) = mm
      show Go p.tables e below Kx _ (mkF m 165 _ [(.long nd)])
      refine s_lstore (pc' := 167) (Ls' := #[vi p0, vi p1, vi p2, vi p3, vi 4, vi rc, vi 1, vi 0, vi 1, vi 1, vr b643, vr b652, .val (.double mm), sn, .val (.long nd), sn, un, un, un]) X655.here hx (hb hby at_165) rfl  rfl ?_
      refine s_dconst0 (pc' := 168) X655.here hx (hb hby at_167) rfl rfl ?_
      refine s_dstore (pc' := 170) (Ls' := #[vi p0, vi p1, vi p2, vi p3, vi 4, vi rc, vi 1, vi 0, vi 1, vi 1, vr b643, vr b652, .val (.double mm), sn, .val (.long nd), sn, .val (.double FP.dconst0), sn, un]) X655.here hx (hb hby at_168) rfl  rfl ?_
      refine s_iconst (pc' := 171) (v := 0) X655.here hx (hb hby at_170) rfl rfl ?_
      refine s_istore (pc' := 173) (Ls' := #[vi p0, vi p1, vi p2, vi p3, vi 4, vi rc, vi 1, vi 0, vi 1, vi 1, vr b643, vr b652, .val (.double mm), sn, .val (.long nd), sn, .val (.double FP.dconst0), sn, vi 0]) X655.here hx (hb hby at_171) rfl  rfl ?_
      refine s_iload (pc' := 175) X655.here hx (hb hby at_173) rfl rfl ?_
      refine s_iconst (pc' := 176) (v := 1) X655.here hx (hb hby at_175) rfl rfl ?_
      refine s_icmpN (pc' := 179) X655.here hx (hb hby at_176) rfl (flt (by decide)).1 ?_
      refine s_iload (pc' := 181) X655.here hx (hb hby at_179) rfl rfl ?_
      refine s_ifN (pc' := 184) X655.here hx (hb hby at_181) rfl ((if0 _ _).trans (feq (by decide)).1) ?_
      refine s_iload (pc' := 186) X655.here hx (hb hby at_184) rfl rfl ?_
      refine s_iconst (pc' := 187) (v := 1) X655.here hx (hb hby at_186) rfl rfl ?_
      refine s_iadd (pc' := 188) (z := 1) X655.here hx (hb hby at_187) rfl (by decide) ?_
      refine s_istore (pc' := 190) (Ls' := #[vi p0, vi p1, vi p2, vi p3, vi 4, vi rc, vi 1, vi 0, vi 1, vi 1, vr b643, vr b652, .val (.double mm), sn, .val (.long nd), sn, .val (.double FP.dconst0), sn, vi 1]) X655.here hx (hb hby at_188) rfl  rfl ?_
      refine s_dload (pc' := 192) X655.here hx (hb hby at_190) rfl rfl ?_
      refine s_iload (pc' := 194) X655.here hx (hb hby at_192) rfl rfl ?_
      refine s_iconst (pc' := 195) (v := 1) X655.here hx (hb hby at_194) rfl rfl ?_
      refine s_lload (pc' := 197) X655.here hx (hb hby at_195) rfl rfl ?_
      obtain ⟨_, _, ⟨T656, L656, k656, n656⟩, -, X656, ⟨Lc656, hQ656, l656, y656, z656⟩, st656⟩ := Jvm.LawKit.callS X655 hx (y := yN3) hown (mvT hZ (hv hw 30 rfl)) (mvT hZ (hv hw 31 rfl)) (mvT hZ (hv hw 32 rfl)) (mvT hZ (hv hw 33 rfl)) (by decide) (backOf (W := 0) (rmB l Z a0 hw [] FP.dconst0 1 1 nd T654.heap n0 O654 (by decide)) hZ (hv hw 33 rfl) (hv hw 32 rfl) (by decide) (by decide)) (g := (mkF m 197 #[vi p0, vi p1, vi p2, vi p3, vi 4, vi rc, vi 1, vi 0, vi 1, vi 1, vr b643, vr b652, .val (.double mm), sn, .val (.long nd), sn, .val (.double FP.dconst0), sn, vi 1] [(.long nd), (.int 1), (.int 1), (.double FP.dconst0)])) rfl (by rw [hml]; rfl) (argsL := [(.double FP.dconst0), (.int 1), (.int 1), (.long nd)]) (rest := []) (lenOf pd_4 rfl) rfl (by exact Nat.le_of_eq rfl) (hb hby at_197) (fun _ _ => ⟨rfl, hE655, (by decide : 3 + 0 ≤ _), (by decide : 11 + 0 ≤ _)⟩)
      dsimp only [Pt.U, Pt.locs, Pt.cells, Pt.slots] at X656 l656 y656 z656 st656 hQ656
      rw [l656, y656, z656] at X656
      obtain ⟨rfl, Nq656, hE656⟩ := hQ656
      have N656 := Fr.app N655 Nq656
      refine Go.st st656 ?_
      show Go p.tables e below Kx _ (mkF m 200 _ [(.double (bst FP.dconst0 1 1 nd))])
      refine s_dstore (pc' := 202) (Ls' := #[vi p0, vi p1, vi p2, vi p3, vi 4, vi rc, vi 1, vi 0, vi 1, vi 1, vr b643, vr b652, .val (.double mm), sn, .val (.long nd), sn, .val (.double (bst FP.dconst0 1 1 nd)), sn, vi 1]) X656.here hx (hb hby at_200) rfl  rfl ?_
      refine s_iload (pc' := 204) X656.here hx (hb hby at_202) rfl rfl ?_
      refine s_iconst (pc' := 205) (v := 2) X656.here hx (hb hby at_204) rfl rfl ?_
      refine s_icmpN (pc' := 208) X656.here hx (hb hby at_205) rfl (flt (by decide)).1 ?_
      refine s_iload (pc' := 210) X656.here hx (hb hby at_208) rfl rfl ?_
      refine s_ifY (pc' := 231) X656.here hx (hb hby at_210) ((if0 _ _).trans (teq (by decide)).1) (by decide) (by decide) ?_
      refine s_iload (pc' := 233) X656.here hx (hb hby at_231) rfl rfl ?_
      refine s_iconst (pc' := 234) (v := 3) X656.here hx (hb hby at_233) rfl rfl ?_
      refine s_icmpN (pc' := 237) X656.here hx (hb hby at_234) rfl (flt (by decide)).1 ?_
      refine s_iload (pc' := 239) X656.here hx (hb hby at_237) rfl rfl ?_
      refine s_ifN (pc' := 242) X656.here hx (hb hby at_239) rfl ((if0 _ _).trans (feq (by decide)).1) ?_
      refine s_iload (pc' := 244) X656.here hx (hb hby at_242) rfl rfl ?_
      refine s_iconst (pc' := 245) (v := 1) X656.here hx (hb hby at_244) rfl rfl ?_
      refine s_iadd (pc' := 246) (z := 2) X656.here hx (hb hby at_245) rfl (by decide) ?_
      refine s_istore (pc' := 248) (Ls' := #[vi p0, vi p1, vi p2, vi p3, vi 4, vi rc, vi 1, vi 0, vi 1, vi 1, vr b643, vr b652, .val (.double mm), sn, .val (.long nd), sn, .val (.double (bst FP.dconst0 1 1 nd)), sn, vi 2]) X656.here hx (hb hby at_246) rfl  rfl ?_
      refine s_dload (pc' := 250) X656.here hx (hb hby at_248) rfl rfl ?_
      refine s_iload (pc' := 252) X656.here hx (hb hby at_250) rfl rfl ?_
      refine s_iconst (pc' := 253) (v := 3) X656.here hx (hb hby at_252) rfl rfl ?_
      refine s_lload (pc' := 255) X656.here hx (hb hby at_253) rfl rfl ?_
      obtain ⟨_, _, ⟨T657, L657, k657, n657⟩, -, X657, ⟨Lc657, hQ657, l657, y657, z657⟩, st657⟩ := Jvm.LawKit.callS X656 hx (y := yN3) hown (mvT hZ (hv hw 30 rfl)) (mvT hZ (hv hw 31 rfl)) (mvT hZ (hv hw 32 rfl)) (mvT hZ (hv hw 33 rfl)) (by decide) (backOf (W := 0) (rmB l Z a0 hw [] (bst FP.dconst0 1 1 nd) 2 3 nd T654.heap n0 O654 (by decide)) hZ (hv hw 33 rfl) (hv hw 32 rfl) (by decide) (by decide)) (g := (mkF m 255 #[vi p0, vi p1, vi p2, vi p3, vi 4, vi rc, vi 1, vi 0, vi 1, vi 1, vr b643, vr b652, .val (.double mm), sn, .val (.long nd), sn, .val (.double (bst FP.dconst0 1 1 nd)), sn, vi 2] [(.long nd), (.int 3), (.int 2), (.double (bst FP.dconst0 1 1 nd))])) rfl (by rw [hml]; rfl) (argsL := [(.double (bst FP.dconst0 1 1 nd)), (.int 2), (.int 3), (.long nd)]) (rest := []) (lenOf pd_4 rfl) rfl (by exact Nat.le_of_eq rfl) (hb hby at_255) (fun _ _ => ⟨rfl, hE656, (by decide : 3 + 0 ≤ _), (by decide : 11 + 0 ≤ _)⟩)
      dsimp only [Pt.U, Pt.locs, Pt.cells, Pt.slots] at X657 l657 y657 z657 st657 hQ657
      rw [l657, y657, z657] at X657
      obtain ⟨rfl, Nq657, hE657⟩ := hQ657
      have N657 := Fr.app N656 Nq657
      refine Go.st st657 ?_
      show Go p.tables e below Kx _ (mkF m 258 _ [(.double (bst (bst FP.dconst0 1 1 nd) 2 3 nd))])
      refine s_dstore (pc' := 260) (Ls' := #[vi p0, vi p1, vi p2, vi p3, vi 4, vi rc, vi 1, vi 0, vi 1, vi 1, vr b643, vr b652, .val (.double mm), sn, .val (.long nd), sn, .val (.double (bst (bst FP.dconst0 1 1 nd) 2 3 nd)), sn, vi 2]) X657.here hx (hb hby at_258) rfl  rfl ?_
      refine s_iload (pc' := 262) X657.here hx (hb hby at_260) rfl rfl ?_
      refine s_iconst (pc' := 263) (v := 4) X657.here hx (hb hby at_262) rfl rfl ?_
      refine s_icmpN (pc' := 266) X657.here hx (hb hby at_263) rfl (flt (by decide)).1 ?_
      refine s_iload (pc' := 268) X657.here hx (hb hby at_266) rfl rfl ?_
      refine s_ifN (pc' := 271) X657.here hx (hb hby at_268) rfl ((if0 _ _).trans (feq (by decide)).1) ?_
      refine s_iload (pc' := 273) X657.here hx (hb hby at_271) rfl rfl ?_
      refine s_iconst (pc' := 274) (v := 1) X657.here hx (hb hby at_273) rfl rfl ?_
      refine s_iadd (pc' := 275) (z := 3) X657.here hx (hb hby at_274) rfl (by decide) ?_
      refine s_istore (pc' := 277) (Ls' := #[vi p0, vi p1, vi p2, vi p3, vi 4, vi rc, vi 1, vi 0, vi 1, vi 1, vr b643, vr b652, .val (.double mm), sn, .val (.long nd), sn, .val (.double (bst (bst FP.dconst0 1 1 nd) 2 3 nd)), sn, vi 3]) X657.here hx (hb hby at_275) rfl  rfl ?_
      refine s_dload (pc' := 279) X657.here hx (hb hby at_277) rfl rfl ?_
      refine s_iload (pc' := 281) X657.here hx (hb hby at_279) rfl rfl ?_
      refine s_iconst (pc' := 282) (v := 4) X657.here hx (hb hby at_281) rfl rfl ?_
      refine s_lload (pc' := 284) X657.here hx (hb hby at_282) rfl rfl ?_
      obtain ⟨_, _, ⟨T658, L658, k658, n658⟩, -, X658, ⟨Lc658, hQ658, l658, y658, z658⟩, st658⟩ := Jvm.LawKit.callS X657 hx (y := yN3) hown (mvT hZ (hv hw 30 rfl)) (mvT hZ (hv hw 31 rfl)) (mvT hZ (hv hw 32 rfl)) (mvT hZ (hv hw 33 rfl)) (by decide) (backOf (W := 0) (rmB l Z a0 hw [] (bst (bst FP.dconst0 1 1 nd) 2 3 nd) 3 4 nd T654.heap n0 O654 (by decide)) hZ (hv hw 33 rfl) (hv hw 32 rfl) (by decide) (by decide)) (g := (mkF m 284 #[vi p0, vi p1, vi p2, vi p3, vi 4, vi rc, vi 1, vi 0, vi 1, vi 1, vr b643, vr b652, .val (.double mm), sn, .val (.long nd), sn, .val (.double (bst (bst FP.dconst0 1 1 nd) 2 3 nd)), sn, vi 3] [(.long nd), (.int 4), (.int 3), (.double (bst (bst FP.dconst0 1 1 nd) 2 3 nd))])) rfl (by rw [hml]; rfl) (argsL := [(.double (bst (bst FP.dconst0 1 1 nd) 2 3 nd)), (.int 3), (.int 4), (.long nd)]) (rest := []) (lenOf pd_4 rfl) rfl (by exact Nat.le_of_eq rfl) (hb hby at_284) (fun _ _ => ⟨rfl, hE657, (by decide : 3 + 0 ≤ _), (by decide : 11 + 0 ≤ _)⟩)
      dsimp only [Pt.U, Pt.locs, Pt.cells, Pt.slots] at X658 l658 y658 z658 st658 hQ658
      rw [l658, y658, z658] at X658
      obtain ⟨rfl, Nq658, hE658⟩ := hQ658
      have N658 := Fr.app N657 Nq658
      refine Go.st st658 ?_
      show Go p.tables e below Kx _ (mkF m 287 _ [(.double (bst (bst (bst FP.dconst0 1 1 nd) 2 3 nd) 3 4 nd))])
      refine s_dstore (pc' := 289) (Ls' := #[vi p0, vi p1, vi p2, vi p3, vi 4, vi rc, vi 1, vi 0, vi 1, vi 1, vr b643, vr b652, .val (.double mm), sn, .val (.long nd), sn, .val (.double (bst (bst (bst FP.dconst0 1 1 nd) 2 3 nd) 3 4 nd)), sn, vi 3]) X658.here hx (hb hby at_287) rfl  rfl ?_
      refine s_dload (pc' := 291) X658.here hx (hb hby at_289) rfl rfl ?_
      refine s_dload (pc' := 293) X658.here hx (hb hby at_291) rfl rfl ?_
      refine s_dcmpl (pc' := 294) (z := 0) X658.here hx (hb hby at_293) rfl (by rw [← hmm]; exact fin_41011 nd) ?_
      refine s_ifN (pc' := 297) X658.here hx (hb hby at_294) rfl ((if0 _ _).trans (teq (by decide)).2) ?_
      refine s_iconst (pc' := 298) (v := 1) X658.here hx (hb hby at_297) rfl rfl ?_
      refine s_goto (pc' := 302) X658.here hx (hb hby at_298) (by decide) (by decide) ?_
      obtain ⟨fs, hr, hrun, hended, hW, hsame⟩ := X658.leave (v := (some (.int 1))) (fun h => by rw [Bd.returns] at h; cases h)
      refine Go.fin (retN X658 hx (t := .boolean) Bd.returns (by simp) (hb hby at_302) hr) (hF _ _ hrun hended ⟨_, _, rfl, ?_, ⟨_, rfl⟩, hW, hsame.mono (by decide) (by decide)⟩)
      ·
       show QL Z p0 p1 p2 p3 h0 n0 ((some (.int 1)) : Option Value) T658.heap _
       rw [hE658]
       exact ⟨rfl, N658⟩
   ·
    rcases hx3 with rfl | rfl
    ·
     rcases hx4 with rfl | rfl
     ·
      show Go p.tables e below Kx _ (mkF m 75 _ [])
      refine s_iload (pc' := 77) X0.here hx (hb hby at_75) rfl rfl ?_
      obtain ⟨T659, h659, k659, X659, e659, E659, A659, st659⟩ := newP X0 hx hZ (hv hw 1 rfl) e0 (g := (mkF m 77 #[vi p0, vi p1, vi p2, vi p3, vi 4, vi rc, vi 1, vi 1, vi 0, vi 0, un, un, un, un, un, un, un, un, un] [(.int 4)])) rfl (hb hby at_77) rfl (by decide) (cap := 4) (by decide) (by decide) (by decide) (by decide)
      obtain ⟨b659, g659⟩ : ∃ z, z = h0.size := ⟨_, rfl⟩
      rw [← g659] at A659 st659
      have sz659 : h0.size ≤ b659 := Nat.le_trans K0.1 (Nat.le_of_eq g659.symm)
      have ge659 : n0 ≤ b659 := Nat.le_trans (X00.1 ▸ X00.2.1) (Nat.le_of_eq g659.symm)
      have K659 : Keep h0 h659 [] := K0.ext E659
      have O659 : Old Z n0 h659 := X00.ext E659
      have V659 : Arv Z h659 b659 k659 .boolean 4 [(.int 0), (.int 0), (.int 0), (.int 0)] (.int 0) := (Arv.new A659 (by decide)).pad (pad_rep [] (.int 0) 4)
      refine Go.st st659 ?_
      show Go p.tables e below Kx _ (mkF m 79 _ [(.ref b659)])
      refine s_astore (pc' := 81) (Ls' := #[vi p0, vi p1, vi p2, vi p3, vi 4, vi rc, vi 1, vi 1, vi 0, vi 0, vr b659, un, un, un, un, un, un, un, un]) X659.here hx (hb hby at_79) rfl rfl rfl ?_
      refine s_iload (pc' := 83) X659.here hx (hb hby at_81) rfl rfl ?_
      refine s_iconst (pc' := 84) (v := 1) X659.here hx (hb hby at_83) rfl rfl ?_
      refine s_icmpN (pc' := 87) X659.here hx (hb hby at_84) rfl (flt (by decide)).1 ?_
      refine s_aload (pc' := 89) X659.here hx (hb hby at_87) rfl rfl rfl ?_
      refine s_iconst (pc' := 90) (v := 0) X659.here hx (hb hby at_89) rfl rfl ?_
      refine s_iload (pc' := 92) X659.here hx (hb hby at_90) rfl rfl ?_
      obtain ⟨cl660, Ar660, Aq660, As660, An660, Ah660, Ag660⟩ := id V659
      have in661 := inb_of (j := 0) As660 (by decide)
      obtain ⟨T661, h661, X661, e661, W661, st661⟩ := stZ X659 hx hZ e659 Ar660 (j := 0) in661 (g := (mkF m 92 #[vi p0, vi p1, vi p2, vi p3, vi 4, vi rc, vi 1, vi 1, vi 0, vi 0, vr b659, un, un, un, un, un, un, un, un] [(.int 1), (.int 0), (.ref b659)])) rfl rfl (hb hby at_92)
      have V661 : Arv Z h661 b659 k659 .boolean 4 [(.int 1), (.int 0), (.int 0), (.int 0)] (.int 0) := by
       have q := Arv.set Ar660 Aq660 As660 An660 Ah660 Ag660 (fits_nar_bool _) W661 0 rfl (Nat.le_of_ble_eq_true rfl)
       rw [show nar .boolean 1 = 1 from by decide] at q; exact q
      have K661 : Keep h0 h661 [] := K659.wr W661 (Or.inr sz659)
      have O661 : Old Z n0 h661 := O659.wr W661 ge659
      have N661 := Fr.snoc X661 N0 ge659
      refine Go.st st661 ?_
      show Go p.tables e below Kx _ (mkF m 93 _ [])
      refine s_iload (pc' := 95) X661.here hx (hb hby at_93) rfl rfl ?_
      refine s_iconst (pc' := 96) (v := 2) X661.here hx (hb hby at_95) rfl rfl ?_
      refine s_icmpN (pc' := 99) X661.here hx (hb hby at_96) rfl (flt (by decide)).1 ?_
      refine s_aload (pc' := 101) X661.here hx (hb hby at_99) rfl rfl rfl ?_
      refine s_iconst (pc' := 102) (v := 1) X661.here hx (hb hby at_101) rfl rfl ?_
      refine s_iload (pc' := 104) X661.here hx (hb hby at_102) rfl rfl ?_
      obtain ⟨cl662, Ar662, Aq662, As662, An662, Ah662, Ag662⟩ := id V661
      have in663 := inb_of (j := 1) As662 (by decide)
      obtain ⟨T663, h663, X663, e663, W663, st663⟩ := stZ X661 hx hZ e661 Ar662 (j := 1) in663 (g := (mkF m 104 #[vi p0, vi p1, vi p2, vi p3, vi 4, vi rc, vi 1, vi 1, vi 0, vi 0, vr b659, un, un, un, un, un, un, un, un] [(.int 1), (.int 1), (.ref b659)])) rfl rfl (hb hby at_104)
      have V663 : Arv Z h663 b659 k659 .boolean 4 [(.int 1), (.int 1), (.int 0), (.int 0)] (.int 0) := by
       have q := Arv.set Ar662 Aq662 As662 An662 Ah662 Ag662 (fits_nar_bool _) W663 1 rfl (Nat.le_of_ble_eq_true rfl)
       rw [show nar .boolean 1 = 1 from by decide] at q; exact q
      have K663 : Keep h0 h663 [] := K661.wr W663 (Or.inr sz659)
      have O663 : Old Z n0 h663 := O661.wr W663 ge659
      have N663 := Fr.snoc X663 N661 ge659
      refine Go.st st663 ?_
      show Go p.tables e below Kx _ (mkF m 105 _ [])
      refine s_iload (pc' := 107) X663.here hx (hb hby at_105) rfl rfl ?_
      refine s_iconst (pc' := 108) (v := 3) X663.here hx (hb hby at_107) rfl rfl ?_
      refine s_icmpN (pc' := 111) X663.here hx (hb hby at_108) rfl (flt (by decide)).1 ?_
      refine s_aload (pc' := 113) X663.here hx (hb hby at_111) rfl rfl rfl ?_
      refine s_iconst (pc' := 114) (v := 2) X663.here hx (hb hby at_113) rfl rfl ?_
      refine s_iload (pc' := 116) X663.here hx (hb hby at_114) rfl rfl ?_
      obtain ⟨cl664, Ar664, Aq664, As664, An664, Ah664, Ag664⟩ := id V663
      have in665 := inb_of (j := 2) As664 (by decide)
      obtain ⟨T665, h665, X665, e665, W665, st665⟩ := stZ X663 hx hZ e663 Ar664 (j := 2) in665 (g := (mkF m 116 #[vi p0, vi p1, vi p2, vi p3, vi 4, vi rc, vi 1, vi 1, vi 0, vi 0, vr b659, un, un, un, un, un, un, un, un] [(.int 0), (.int 2), (.ref b659)])) rfl rfl (hb hby at_116)
      have V665 : Arv Z h665 b659 k659 .boolean 4 [(.int 1), (.int 1), (.int 0), (.int 0)] (.int 0) := by
       have q := Arv.set Ar664 Aq664 As664 An664 Ah664 Ag664 (fits_nar_bool _) W665 2 rfl (Nat.le_of_ble_eq_true rfl)
       rw [show nar .boolean 0 = 0 from by decide] at q; exact q
      have K665 : Keep h0 h665 [] := K663.wr W665 (Or.inr sz659)
      have O665 : Old Z n0 h665 := O663.wr W665 ge659
      have N665 := Fr.snoc X665 N663 ge659
      refine Go.st st665 ?_
      show Go p.tables e below Kx _ (mkF m 117 _ [])
      refine s_iload (pc' := 119) X665.here hx (hb hby at_117) rfl rfl ?_
      refine s_iconst (pc' := 120) (v := 4) X665.here hx (hb hby at_119) rfl rfl ?_
      refine s_icmpN (pc' := 123) X665.here hx (hb hby at_120) rfl (flt (by decide)).1 ?_
      refine s_aload (pc' := 125) X665.here hx (hb hby at_123) rfl rfl rfl ?_
      refine s_iconst (pc' := 126) (v := 3) X665.here hx (hb hby at_125) rfl rfl ?_
      refine s_iload (pc' := 128) X665.here hx (hb hby at_126) rfl rfl ?_
      obtain ⟨cl666, Ar666, Aq666, As666, An666, Ah666, Ag666⟩ := id V665
      have in667 := inb_of (j := 3) As666 (by decide)
      obtain ⟨T667, h667, X667, e667, W667, st667⟩ := stZ X665 hx hZ e665 Ar666 (j := 3) in667 (g := (mkF m 128 #[vi p0, vi p1, vi p2, vi p3, vi 4, vi rc, vi 1, vi 1, vi 0, vi 0, vr b659, un, un, un, un, un, un, un, un] [(.int 0), (.int 3), (.ref b659)])) rfl rfl (hb hby at_128)
      have V667 : Arv Z h667 b659 k659 .boolean 4 [(.int 1), (.int 1), (.int 0), (.int 0)] (.int 0) := by
       have q := Arv.set Ar666 Aq666 As666 An666 Ah666 Ag666 (fits_nar_bool _) W667 3 rfl (Nat.le_of_ble_eq_true rfl)
       rw [show nar .boolean 0 = 0 from by decide] at q; exact q
      have K667 : Keep h0 h667 [] := K665.wr W667 (Or.inr sz659)
      have O667 : Old Z n0 h667 := O665.wr W667 ge659
      have N667 := Fr.snoc X667 N665 ge659
      refine Go.st st667 ?_
      show Go p.tables e below Kx _ (mkF m 129 _ [])
      obtain ⟨T668, h668, X668, e668, E668, A668, D668, -, st668⟩ := newO X667 hx hZ hown (hv hw 2 rfl) (hv hw 3 rfl) (hv hw 4 rfl) e667 (g := (mkF m 129 #[vi p0, vi p1, vi p2, vi p3, vi 4, vi rc, vi 1, vi 1, vi 0, vi 0, vr b659, un, un, un, un, un, un, un, un] [])) rfl (hb hby at_129) (by decide) (by decide)
      obtain ⟨b668, g668⟩ : ∃ z, z = h667.size := ⟨_, rfl⟩
      rw [← g668] at A668 D668 st668
      have sz668 : h0.size ≤ b668 := Nat.le_trans K667.1 (Nat.le_of_eq g668.symm)
      have ge668 : n0 ≤ b668 := Nat.le_trans (O667.1 ▸ O667.2.1) (Nat.le_of_eq g668.symm)
      have K668 : Keep h0 h668 [] := K667.ext E668
      have O668 : Old Z n0 h668 := O667.ext E668
      have F668_relevantWithin : Fld Z h668 b668 "com/example/kingfisher/kingfisher/eval/TopicRanking" "relevantWithin" "[I" .null := D668 (Or.inr (hv hw 13 rfl)) (ty := (.array .int)) (by decide)
      have F668_relevantCount : Fld Z h668 b668 "com/example/kingfisher/kingfisher/eval/TopicRanking" "relevantCount" "I" (.int 0) := D668 (Or.inr (hv hw 15 rfl)) (ty := .int) (by decide)
      refine Go.st st668 ?_
      show Go p.tables e below Kx _ (mkF m 132 _ [(.ref b668)])
      refine s_dup (pc' := 133) X668.here hx (hb hby at_132) rfl rfl ?_
      refine s_aload (pc' := 135) X668.here hx (hb hby at_133) rfl rfl rfl ?_
      refine s_iload (pc' := 137) X668.here hx (hb hby at_135) rfl rfl ?_
      have f669 : Arv Z h668 b659 k659 .boolean 4 [(.int 1), (.int 1), (.int 0), (.int 0)] (.int 0) := (V667.ext E668)
      obtain ⟨_, _, ⟨T670, L670, k670, n670⟩, -, X670, ⟨Lc670, hQ670, l670, y670, z670⟩, st670⟩ := X668.specialBack hx (y := yN0) rfl hown (mvT hZ (hv hw 5 rfl)) (mvT hZ (hv hw 6 rfl)) (mvT hZ (hv hw 7 rfl)) (by decide) (backOf (W := 1) (rmN4 l Z a0 hw [] b668 b659 k659 1 1 0 0 1 2 2 2 rc h668 n0 O668 ge668 (Nat.ne_of_lt (Nat.lt_of_lt_of_le (Nat.lt_of_lt_of_le A659.lt (Nat.le_trans (Nat.le_trans (Nat.le_trans (Nat.le_of_eq W661.size.symm) (Nat.le_of_eq W663.size.symm)) (Nat.le_of_eq W665.size.symm)) (Nat.le_of_eq W667.size.symm))) (Nat.le_of_eq g668.symm))) A668 F668_relevantWithin F668_relevantCount f669 (by decide) (by decide) (by decide) (by decide)) hZ (hv hw 7 rfl) (hv hw 4 rfl) (by decide) (by decide)) (g := (mkF m 137 #[vi p0, vi p1, vi p2, vi p3, vi 4, vi rc, vi 1, vi 1, vi 0, vi 0, vr b659, un, un, un, un, un, un, un, un] [(.int rc), (.ref b659), (.ref b668), (.ref b668)])) rfl (by rw [hml]; rfl) (Steps.refl _) (a := b668) (argsL := [(.ref b659), (.int rc)]) (rest := [(.ref b668)]) (lenOf pd_2 rfl) rfl (by exact Nat.le_of_eq rfl) (hb hby at_137) (fun _ _ => ⟨rfl, e668, (by decide : 2 + 1 ≤ _), (by decide : 6 + 5 ≤ _)⟩)
      dsimp only [Pt.U, Pt.locs, Pt.cells, Pt.slots] at X670 l670 y670 z670 st670 hQ670
      rw [l670, y670, z670] at X670
      obtain ⟨rfl, Nq670, Kq670, q1_670, q2_670, t670, kt670, q3_670, q4_670⟩ := hQ670
      have N670 := Fr.app N667 Nq670
      have K670 : Keep h0 T670.heap [] := K668.trans Kq670 (allS (P := fun zz => zz ∈ [] ∨ h0.size ≤ zz) (Or.inr sz668) all0)
      have O670 : Old Z n0 T670.heap := O668.keep Kq670 (allS ge668 all0)
      refine Go.tr st670 ?_
      show Go p.tables e below Kx _ (mkF m 140 _ [(.ref b668)])
      refine s_astore (pc' := 142) (Ls' := #[vi p0, vi p1, vi p2, vi p3, vi 4, vi rc, vi 1, vi 1, vi 0, vi 0, vr b659, vr b668, un, un, un, un, un, un, un]) X670.here hx (hb hby at_140) rfl rfl rfl ?_
      refine s_aload (pc' := 144) X670.here hx (hb hby at_142) rfl rfl rfl ?_
      refine s_iloadN (pc' := 145) X670.here hx (hb hby at_144) rfl rfl ?_
      obtain ⟨cq671, kq671, q671a, q671b, q671c⟩ := isOf hZ rfl q1_670
      obtain ⟨_, _, ⟨T671, L671, k671, n671⟩, -, X671, ⟨Lc671, hQ671, l671, y671, z671⟩, st671⟩ := X670.virtualBack hx (y := yN1) (z := yN1) hown (mvT hZ (hv hw 16 rfl)) (mvT hZ (hv hw 17 rfl)) (notFace_of_selects (args := #[]) (mvT hZ (hv hw 19 rfl))) (mvT hZ (hv hw 19 rfl)) (mvT hZ (hv hw 18 rfl)) (by decide) (backOf (W := 0) (rmA4 l Z a0 hw [] b668 t670 kt670 1 2 2 2 rc p2 T670.heap n0 O670 hrc q1_670 q3_670 q2_670 q4_670) hZ (hv hw 20 rfl) (hv hw 4 rfl) (by decide) (by decide)) q671a q671c (g := (mkF m 145 #[vi p0, vi p1, vi p2, vi p3, vi 4, vi rc, vi 1, vi 1, vi 0, vi 0, vr b659, vr b668, un, un, un, un, un, un, un] [(.int p2), (.ref b668)])) rfl (by rw [hml]; rfl) (Steps.refl _) (argsL := [(.int p2)]) (rest := []) (lenOf pd_3 rfl) rfl (by exact Nat.le_of_eq rfl) (hb hby at_145) (fun _ _ => ⟨rfl, rfl, (by decide : 3 + 0 ≤ _), (by decide : 11 + 0 ≤ _)⟩)
      dsimp only [Pt.U, Pt.locs, Pt.cells, Pt.slots] at X671 l671 y671 z671 st671 hQ671
      rw [l671, y671, z671] at X671
      obtain ⟨rfl, Nq671, hE671⟩ := hQ671
      have N671 := Fr.app N670 Nq671
      refine Go.tr st671 ?_
      show Go p.tables e below Kx _ (mkF m 148 _ [(.double (mst (mst (mst (mst FP.dconst0 1 1 (needd p2 rc)) 2 2 (needd p2 rc)) 2 3 (needd p2 rc)) 2 4 (needd p2 rc)))])
      refine s_dstore (pc' := 150) (Ls' := #[vi p0, vi p1, vi p2, vi p3, vi 4, vi rc, vi 1, vi 1, vi 0, vi 0, vr b659, vr b668, .val (.double (mst (mst (mst (mst FP.dconst0 1 1 (needd p2 rc)) 2 2 (needd p2 rc)) 2 3 (needd p2 rc)) 2 4 (needd p2 rc))), sn, un, un, un, un, un]) X671.here hx (hb hby at_148) rfl  rfl ?_
      refine s_iloadN (pc' := 151) X671.here hx (hb hby at_150) rfl rfl ?_
      refine s_i2d (pc' := 152) X671.here hx (hb hby at_151) rfl rfl ?_
      refine Go.st (X671.ldc2DoubleC hx hown (mvT hZ (hv hw 28 rfl)) (g := (mkF m 152 #[vi p0, vi p1, vi p2, vi p3, vi 4, vi rc, vi 1, vi 1, vi 0, vi 0, vr b659, vr b668, .val (.double (mst (mst (mst (mst FP.dconst0 1 1 (needd p2 rc)) 2 2 (needd p2 rc)) 2 3 (needd p2 rc)) 2 4 (needd p2 rc))), sn, un, un, un, un, un] [(.double (FP.i2d p2))])) rfl (hb hby at_152)) ?_
      show Go p.tables e below Kx _ (mkF m 155 _ [(.double (4621819117588971520 : UInt64)), (.double (FP.i2d p2))])
      refine s_ddiv (pc' := 156) X671.here hx (hb hby at_155) rfl (nn1 p2) rfl ?_
      refine s_iload (pc' := 158) X671.here hx (hb hby at_156) rfl rfl ?_
      refine s_i2d (pc' := 159) X671.here hx (hb hby at_158) rfl rfl ?_
      refine s_dmul (pc' := 160) X671.here hx (hb hby at_159) rfl (nn2 p2 hrc) rfl ?_
      refine Go.st (X671.ldc2DoubleC hx hown (mvT hZ (hv hw 29 rfl)) (g := (mkF m 160 #[vi p0, vi p1, vi p2, vi p3, vi 4, vi rc, vi 1, vi 1, vi 0, vi 0, vr b659, vr b668, .val (.double (mst (mst (mst (mst FP.dconst0 1 1 (needd p2 rc)) 2 2 (needd p2 rc)) 2 3 (needd p2 rc)) 2 4 (needd p2 rc))), sn, un, un, un, un, un] [(.double (FP.dmul (FP.ddiv (FP.i2d p2) (4621819117588971520 : UInt64)) (FP.i2d rc)))])) rfl (hb hby at_160)) ?_
      show Go p.tables e below Kx _ (mkF m 163 _ [(.double (4606281698874543309 : UInt64)), (.double (FP.dmul (FP.ddiv (FP.i2d p2) (4621819117588971520 : UInt64)) (FP.i2d rc)))])
      refine s_dadd (pc' := 164) X671.here hx (hb hby at_163) rfl (nn3 p2 hrc) rfl ?_
      refine s_d2l (pc' := 165) (z := needd p2 rc) X671.here hx (hb hby at_164) rfl rfl ?_
      show Go p.tables e below Kx _ (mkF m 165 _ [(.long (needd p2 rc))])
      generalize (needd p2 rc) = nd
      generalize hmm : (mst (mst (mst (mst FP.dconst0 1 1 nd) 2 2 nd) 2 3 nd) 2 4 nd) = mm
      show Go p.tables e below Kx _ (mkF m 165 _ [(.long nd)])
      refine s_lstore (pc' := 167) (Ls' := #[vi p0, vi p1, vi p2, vi p3, vi 4, vi rc, vi 1, vi 1, vi 0, vi 0, vr b659, vr b668, .val (.double mm), sn, .val (.long nd), sn, un, un, un]) X671.here hx (hb hby at_165) rfl  rfl ?_
      refine s_dconst0 (pc' := 168) X671.here hx (hb hby at_167) rfl rfl ?_
      refine s_dstore (pc' := 170) (Ls' := #[vi p0, vi p1, vi p2, vi p3, vi 4, vi rc, vi 1, vi 1, vi 0, vi 0, vr b659, vr b668, .val (.double mm), sn, .val (.long nd), sn, .val (.double FP.dconst0), sn, un]) X671.here hx (hb hby at_168) rfl  rfl ?_
      refine s_iconst (pc' := 171) (v := 0) X671.here hx (hb hby at_170) rfl rfl ?_
      refine s_istore (pc' := 173) (Ls' := #[vi p0, vi p1, vi p2, vi p3, vi 4, vi rc, vi 1, vi 1, vi 0, vi 0, vr b659, vr b668, .val (.double mm), sn, .val (.long nd), sn, .val (.double FP.dconst0), sn, vi 0]) X671.here hx (hb hby at_171) rfl  rfl ?_
      refine s_iload (pc' := 175) X671.here hx (hb hby at_173) rfl rfl ?_
      refine s_iconst (pc' := 176) (v := 1) X671.here hx (hb hby at_175) rfl rfl ?_
      refine s_icmpN (pc' := 179) X671.here hx (hb hby at_176) rfl (flt (by decide)).1 ?_
      refine s_iload (pc' := 181) X671.here hx (hb hby at_179) rfl rfl ?_
      refine s_ifN (pc' := 184) X671.here hx (hb hby at_181) rfl ((if0 _ _).trans (feq (by decide)).1) ?_
      refine s_iload (pc' := 186) X671.here hx (hb hby at_184) rfl rfl ?_
      refine s_iconst (pc' := 187) (v := 1) X671.here hx (hb hby at_186) rfl rfl ?_
      refine s_iadd (pc' := 188) (z := 1) X671.here hx (hb hby at_187) rfl (by decide) ?_
      refine s_istore (pc' := 190) (Ls' := #[vi p0, vi p1, vi p2, vi p3, vi 4, vi rc, vi 1, vi 1, vi 0, vi 0, vr b659, vr b668, .val (.double mm), sn, .val (.long nd), sn, .val (.double FP.dconst0), sn, vi 1]) X671.here hx (hb hby at_188) rfl  rfl ?_
      refine s_dload (pc' := 192) X671.here hx (hb hby at_190) rfl rfl ?_
      refine s_iload (pc' := 194) X671.here hx (hb hby at_192) rfl rfl ?_
      refine s_iconst (pc' := 195) (v := 1) X671.here hx (hb hby at_194) rfl rfl ?_
      refine s_lload (pc' := 197) X671.here hx (hb hby at_195) rfl rfl ?_
      obtain ⟨_, _, ⟨T672, L672, k672, n672⟩, -, X672, ⟨Lc672, hQ672, l672, y672, z672⟩, st672⟩ := Jvm.LawKit.callS X671 hx (y := yN3) hown (mvT hZ (hv hw 30 rfl)) (mvT hZ (hv hw 31 rfl)) (mvT hZ (hv hw 32 rfl)) (mvT hZ (hv hw 33 rfl)) (by decide) (backOf (W := 0) (rmB l Z a0 hw [] FP.dconst0 1 1 nd T670.heap n0 O670 (by decide)) hZ (hv hw 33 rfl) (hv hw 32 rfl) (by decide) (by decide)) (g := (mkF m 197 #[vi p0, vi p1, vi p2, vi p3, vi 4, vi rc, vi 1, vi 1, vi 0, vi 0, vr b659, vr b668, .val (.double mm), sn, .val (.long nd), sn, .val (.double FP.dconst0), sn, vi 1] [(.long nd), (.int 1), (.int 1), (.double FP.dconst0)])) rfl (by rw [hml]; rfl) (argsL := [(.double FP.dconst0), (.int 1), (.int 1), (.long nd)]) (rest := []) (lenOf pd_4 rfl) rfl (by exact Nat.le_of_eq rfl) (hb hby at_197) (fun _ _ => ⟨rfl, hE671, (by decide : 3 + 0 ≤ _), (by decide : 11 + 0 ≤ _)⟩)
      dsimp only [Pt.U, Pt.locs, Pt.cells, Pt.slots] at X672 l672 y672 z672 st672 hQ672
      rw [l672, y672, z672] at X672
      obtain ⟨rfl, Nq672, hE672⟩ := hQ672
      have N672 := Fr.app N671 Nq672
      refine Go.st st672 ?_
      show Go p.tables e below Kx _ (mkF m 200 _ [(.double (bst FP.dconst0 1 1 nd))])
      refine s_dstore (pc' := 202) (Ls' := #[vi p0, vi p1, vi p2, vi p3, vi 4, vi rc, vi 1, vi 1, vi 0, vi 0, vr b659, vr b668, .val (.double mm), sn, .val (.long nd), sn, .val (.double (bst FP.dconst0 1 1 nd)), sn, vi 1]) X672.here hx (hb hby at_200) rfl  rfl ?_
      refine s_iload (pc' := 204) X672.here hx (hb hby at_202) rfl rfl ?_
      refine s_iconst (pc' := 205) (v := 2) X672.here hx (hb hby at_204) rfl rfl ?_
      refine s_icmpN (pc' := 208) X672.here hx (hb hby at_205) rfl (flt (by decide)).1 ?_
      refine s_iload (pc' := 210) X672.here hx (hb hby at_208) rfl rfl ?_
      refine s_ifN (pc' := 213) X672.here hx (hb hby at_210) rfl ((if0 _ _).trans (feq (by decide)).1) ?_
      refine s_iload (pc' := 215) X672.here hx (hb hby at_213) rfl rfl ?_
      refine s_iconst (pc' := 216) (v := 1) X672.here hx (hb hby at_215) rfl rfl ?_
      refine s_iadd (pc' := 217) (z := 2) X672.here hx (hb hby at_216) rfl (by decide) ?_
      refine s_istore (pc' := 219) (Ls' := #[vi p0, vi p1, vi p2, vi p3, vi 4, vi rc, vi 1, vi 1, vi 0, vi 0, vr b659, vr b668, .val (.double mm), sn, .val (.long nd), sn, .val (.double (bst FP.dconst0 1 1 nd)), sn, vi 2]) X672.here hx (hb hby at_217) rfl  rfl ?_
      refine s_dload (pc' := 221) X672.here hx (hb hby at_219) rfl rfl ?_
      refine s_iload (pc' := 223) X672.here hx (hb hby at_221) rfl rfl ?_
      refine s_iconst (pc' := 224) (v := 2) X672.here hx (hb hby at_223) rfl rfl ?_
      refine s_lload (pc' := 226) X672.here hx (hb hby at_224) rfl rfl ?_
      obtain ⟨_, _, ⟨T673, L673, k673, n673⟩, -, X673, ⟨Lc673, hQ673, l673, y673, z673⟩, st673⟩ := Jvm.LawKit.callS X672 hx (y := yN3) hown (mvT hZ (hv hw 30 rfl)) (mvT hZ (hv hw 31 rfl)) (mvT hZ (hv hw 32 rfl)) (mvT hZ (hv hw 33 rfl)) (by decide) (backOf (W := 0) (rmB l Z a0 hw [] (bst FP.dconst0 1 1 nd) 2 2 nd T670.heap n0 O670 (by decide)) hZ (hv hw 33 rfl) (hv hw 32 rfl) (by decide) (by decide)) (g := (mkF m 226 #[vi p0, vi p1, vi p2, vi p3, vi 4, vi rc, vi 1, vi 1, vi 0, vi 0, vr b659, vr b668, .val (.double mm), sn, .val (.long nd), sn, .val (.double (bst FP.dconst0 1 1 nd)), sn, vi 2] [(.long nd), (.int 2), (.int 2), (.double (bst FP.dconst0 1 1 nd))])) rfl (by rw [hml]; rfl) (argsL := [(.double (bst FP.dconst0 1 1 nd)), (.int 2), (.int 2), (.long nd)]) (rest := []) (lenOf pd_4 rfl) rfl (by exact Nat.le_of_eq rfl) (hb hby at_226) (fun _ _ => ⟨rfl, hE672, (by decide : 3 + 0 ≤ _), (by decide : 11 + 0 ≤ _)⟩)
      dsimp only [Pt.U, Pt.locs, Pt.cells, Pt.slots] at X673 l673 y673 z673 st673 hQ673
      rw [l673, y673, z673] at X673
      obtain ⟨rfl, Nq673, hE673⟩ := hQ673
      have N673 := Fr.app N672 Nq673
      refine Go.st st673 ?_
      show Go p.tables e below Kx _ (mkF m 229 _ [(.double (bst (bst FP.dconst0 1 1 nd) 2 2 nd))])
      refine s_dstore (pc' := 231) (Ls' := #[vi p0, vi p1, vi p2, vi p3, vi 4, vi rc, vi 1, vi 1, vi 0, vi 0, vr b659, vr b668, .val (.double mm), sn, .val (.long nd), sn, .val (.double (bst (bst FP.dconst0 1 1 nd) 2 2 nd)), sn, vi 2]) X673.here hx (hb hby at_229) rfl  rfl ?_
      refine s_iload (pc' := 233) X673.here hx (hb hby at_231) rfl rfl ?_
      refine s_iconst (pc' := 234) (v := 3) X673.here hx (hb hby at_233) rfl rfl ?_
      refine s_icmpN (pc' := 237) X673.here hx (hb hby at_234) rfl (flt (by decide)).1 ?_
      refine s_iload (pc' := 239) X673.here hx (hb hby at_237) rfl rfl ?_
      refine s_ifY (pc' := 260) X673.here hx (hb hby at_239) ((if0 _ _).trans (teq (by decide)).1) (by decide) (by decide) ?_
      refine s_iload (pc' := 262) X673.here hx (hb hby at_260) rfl rfl ?_
      refine s_iconst (pc' := 263) (v := 4) X673.here hx (hb hby at_262) rfl rfl ?_
      refine s_icmpN (pc' := 266) X673.here hx (hb hby at_263) rfl (flt (by decide)).1 ?_
      refine s_iload (pc' := 268) X673.here hx (hb hby at_266) rfl rfl ?_
      refine s_ifY (pc' := 289) X673.here hx (hb hby at_268) ((if0 _ _).trans (teq (by decide)).1) (by decide) (by decide) ?_
      refine s_dload (pc' := 291) X673.here hx (hb hby at_289) rfl rfl ?_
      refine s_dload (pc' := 293) X673.here hx (hb hby at_291) rfl rfl ?_
      refine s_dcmpl (pc' := 294) (z := 0) X673.here hx (hb hby at_293) rfl (by rw [← hmm]; exact fin_41100 nd) ?_
      refine s_ifN (pc' := 297) X673.here hx (hb hby at_294) rfl ((if0 _ _).trans (teq (by decide)).2) ?_
      refine s_iconst (pc' := 298) (v := 1) X673.here hx (hb hby at_297) rfl rfl ?_
      refine s_goto (pc' := 302) X673.here hx (hb hby at_298) (by decide) (by decide) ?_
      obtain ⟨fs, hr, hrun, hended, hW, hsame⟩ := X673.leave (v := (some (.int 1))) (fun h => by rw [Bd.returns] at h; cases h)
      refine Go.fin (retN X673 hx (t := .boolean) Bd.returns (by simp) (hb hby at_302) hr) (hF _ _ hrun hended ⟨_, _, rfl, ?_, ⟨_, rfl⟩, hW, hsame.mono (by decide) (by decide)⟩)
      ·
       show QL Z p0 p1 p2 p3 h0 n0 ((some (.int 1)) : Option Value) T673.heap _
       rw [hE673]
       exact ⟨rfl, N673⟩
     ·
      show Go p.tables e below Kx _ (mkF m 75 _ [])
      refine s_iload (pc' := 77) X0.here hx (hb hby at_75) rfl rfl ?_
      obtain ⟨T674, h674, k674, X674, e674, E674, A674, st674⟩ := newP X0 hx hZ (hv hw 1 rfl) e0 (g := (mkF m 77 #[vi p0, vi p1, vi p2, vi p3, vi 4, vi rc, vi 1, vi 1, vi 0, vi 1, un, un, un, un, un, un, un, un, un] [(.int 4)])) rfl (hb hby at_77) rfl (by decide) (cap := 4) (by decide) (by decide) (by decide) (by decide)
      obtain ⟨b674, g674⟩ : ∃ z, z = h0.size := ⟨_, rfl⟩
      rw [← g674] at A674 st674
      have sz674 : h0.size ≤ b674 := Nat.le_trans K0.1 (Nat.le_of_eq g674.symm)
      have ge674 : n0 ≤ b674 := Nat.le_trans (X00.1 ▸ X00.2.1) (Nat.le_of_eq g674.symm)
      have K674 : Keep h0 h674 [] := K0.ext E674
      have O674 : Old Z n0 h674 := X00.ext E674
      have V674 : Arv Z h674 b674 k674 .boolean 4 [(.int 0), (.int 0), (.int 0), (.int 0)] (.int 0) := (Arv.new A674 (by decide)).pad (pad_rep [] (.int 0) 4)
      refine Go.st st674 ?_
      show Go p.tables e below Kx _ (mkF m 79 _ [(.ref b674)])
      refine s_astore (pc' := 81) (Ls' := #[vi p0, vi p1, vi p2, vi p3, vi 4, vi rc, vi 1, vi 1, vi 0, vi 1, vr b674, un, un, un, un, un, un, un, un]) X674.here hx (hb hby at_79) rfl rfl rfl ?_
      refine s_iload (pc' := 83) X674.here hx (hb hby at_81) rfl rfl ?_
      refine s_iconst (pc' := 84) (v := 1) X674.here hx (hb hby at_83) rfl rfl ?_
      refine s_icmpN (pc' := 87) X674.here hx (hb hby at_84) rfl (flt (by decide)).1 ?_
      refine s_aload (pc' := 89) X674.here hx (hb hby at_87) rfl rfl rfl ?_
      refine s_iconst (pc' := 90) (v := 0) X674.here hx (hb hby at_89) rfl rfl ?_
      refine s_iload (pc' := 92) X674.here hx (hb hby at_90) rfl rfl ?_
      obtain ⟨cl675, Ar675, Aq675, As675, An675, Ah675, Ag675⟩ := id V674
      have in676 := inb_of (j := 0) As675 (by decide)
      obtain ⟨T676, h676, X676, e676, W676, st676⟩ := stZ X674 hx hZ e674 Ar675 (j := 0) in676 (g := (mkF m 92 #[vi p0, vi p1, vi p2, vi p3, vi 4, vi rc, vi 1, vi 1, vi 0, vi 1, vr b674, un, un, un, un, un, un, un, un] [(.int 1), (.int 0), (.ref b674)])) rfl rfl (hb hby at_92)
      have V676 : Arv Z h676 b674 k674 .boolean 4 [(.int 1), (.int 0), (.int 0), (.int 0)] (.int 0) := by
       have q := Arv.set Ar675 Aq675 As675 An675 Ah675 Ag675 (fits_nar_bool _) W676 0 rfl (Nat.le_of_ble_eq_true rfl)
       rw [show nar .boolean 1 = 1 from by decide] at q; exact q
      have K676 : Keep h0 h676 [] := K674.wr W676 (Or.inr sz674)
      have O676 : Old Z n0 h676 := O674.wr W676 ge674
      have N676 := Fr.snoc X676 N0 ge674
      refine Go.st st676 ?_
      show Go p.tables e below Kx _ (mkF m 93 _ [])
      refine s_iload (pc' := 95) X676.here hx (hb hby at_93) rfl rfl ?_
      refine s_iconst (pc' := 96) (v := 2) X676.here hx (hb hby at_95) rfl rfl ?_
      refine s_icmpN (pc' := 99) X676.here hx (hb hby at_96) rfl (flt (by decide)).1 ?_
      refine s_aload (pc' := 101) X676.here hx (hb hby at_99) rfl rfl rfl ?_
      refine s_iconst (pc' := 102) (v := 1) X676.here hx (hb hby at_101) rfl rfl ?_
      refine s_iload (pc' := 104) X676.here hx (hb hby at_102) rfl rfl ?_
      obtain ⟨cl677, Ar677, Aq677, As677, An677, Ah677, Ag677⟩ := id V676
      have in678 := inb_of (j := 1) As677 (by decide)
      obtain ⟨T678, h678, X678, e678, W678, st678⟩ := stZ X676 hx hZ e676 Ar677 (j := 1) in678 (g := (mkF m 104 #[vi p0, vi p1, vi p2, vi p3, vi 4, vi rc, vi 1, vi 1, vi 0, vi 1, vr b674, un, un, un, un, un, un, un, un] [(.int 1), (.int 1), (.ref b674)])) rfl rfl (hb hby at_104)
      have V678 : Arv Z h678 b674 k674 .boolean 4 [(.int 1), (.int 1), (.int 0), (.int 0)] (.int 0) := by
       have q := Arv.set Ar677 Aq677 As677 An677 Ah677 Ag677 (fits_nar_bool _) W678 1 rfl (Nat.le_of_ble_eq_true rfl)
       rw [show nar .boolean 1 = 1 from by decide] at q; exact q
      have K678 : Keep h0 h678 [] := K676.wr W678 (Or.inr sz674)
      have O678 : Old Z n0 h678 := O676.wr W678 ge674
      have N678 := Fr.snoc X678 N676 ge674
      refine Go.st st678 ?_
      show Go p.tables e below Kx _ (mkF m 105 _ [])
      refine s_iload (pc' := 107) X678.here hx (hb hby at_105) rfl rfl ?_
      refine s_iconst (pc' := 108) (v := 3) X678.here hx (hb hby at_107) rfl rfl ?_
      refine s_icmpN (pc' := 111) X678.here hx (hb hby at_108) rfl (flt (by decide)).1 ?_
      refine s_aload (pc' := 113) X678.here hx (hb hby at_111) rfl rfl rfl ?_
      refine s_iconst (pc' := 114) (v := 2) X678.here hx (hb hby at_113) rfl rfl ?_
      refine s_iload (pc' := 116) X678.here hx (hb hby at_114) rfl rfl ?_
      obtain ⟨cl679, Ar679, Aq679, As679, An679, Ah679, Ag679⟩ := id V678
      have in680 := inb_of (j := 2) As679 (by decide)
      obtain ⟨T680, h680, X680, e680, W680, st680⟩ := stZ X678 hx hZ e678 Ar679 (j := 2) in680 (g := (mkF m 116 #[vi p0, vi p1, vi p2, vi p3, vi 4, vi rc, vi 1, vi 1, vi 0, vi 1, vr b674, un, un, un, un, un, un, un, un] [(.int 0), (.int 2), (.ref b674)])) rfl rfl (hb hby at_116)
      have V680 : Arv Z h680 b674 k674 .boolean 4 [(.int 1), (.int 1), (.int 0), (.int 0)] (.int 0) := by
       have q := Arv.set Ar679 Aq679 As679 An679 Ah679 Ag679 (fits_nar_bool _) W680 2 rfl (Nat.le_of_ble_eq_true rfl)
       rw [show nar .boolean 0 = 0 from by decide] at q; exact q
      have K680 : Keep h0 h680 [] := K678.wr W680 (Or.inr sz674)
      have O680 : Old Z n0 h680 := O678.wr W680 ge674
      have N680 := Fr.snoc X680 N678 ge674
      refine Go.st st680 ?_
      show Go p.tables e below Kx _ (mkF m 117 _ [])
      refine s_iload (pc' := 119) X680.here hx (hb hby at_117) rfl rfl ?_
      refine s_iconst (pc' := 120) (v := 4) X680.here hx (hb hby at_119) rfl rfl ?_
      refine s_icmpN (pc' := 123) X680.here hx (hb hby at_120) rfl (flt (by decide)).1 ?_
      refine s_aload (pc' := 125) X680.here hx (hb hby at_123) rfl rfl rfl ?_
      refine s_iconst (pc' := 126) (v := 3) X680.here hx (hb hby at_125) rfl rfl ?_
      refine s_iload (pc' := 128) X680.here hx (hb hby at_126) rfl rfl ?_
      obtain ⟨cl681, Ar681, Aq681, As681, An681, Ah681, Ag681⟩ := id V680
      have in682 := inb_of (j := 3) As681 (by decide)
      obtain ⟨T682, h682, X682, e682, W682, st682⟩ := stZ X680 hx hZ e680 Ar681 (j := 3) in682 (g := (mkF m 128 #[vi p0, vi p1, vi p2, vi p3, vi 4, vi rc, vi 1, vi 1, vi 0, vi 1, vr b674, un, un, un, un, un, un, un, un] [(.int 1), (.int 3), (.ref b674)])) rfl rfl (hb hby at_128)
      have V682 : Arv Z h682 b674 k674 .boolean 4 [(.int 1), (.int 1), (.int 0), (.int 1)] (.int 0) := by
       have q := Arv.set Ar681 Aq681 As681 An681 Ah681 Ag681 (fits_nar_bool _) W682 3 rfl (Nat.le_of_ble_eq_true rfl)
       rw [show nar .boolean 1 = 1 from by decide] at q; exact q
      have K682 : Keep h0 h682 [] := K680.wr W682 (Or.inr sz674)
      have O682 : Old Z n0 h682 := O680.wr W682 ge674
      have N682 := Fr.snoc X682 N680 ge674
      refine Go.st st682 ?_
      show Go p.tables e below Kx _ (mkF m 129 _ [])
      obtain ⟨T683, h683, X683, e683, E683, A683, D683, -, st683⟩ := newO X682 hx hZ hown (hv hw 2 rfl) (hv hw 3 rfl) (hv hw 4 rfl) e682 (g := (mkF m 129 #[vi p0, vi p1, vi p2, vi p3, vi 4, vi rc, vi 1, vi 1, vi 0, vi 1, vr b674, un, un, un, un, un, un, un, un] [])) rfl (hb hby at_129) (by decide) (by decide)
      obtain ⟨b683, g683⟩ : ∃ z, z = h682.size := ⟨_, rfl⟩
      rw [← g683] at A683 D683 st683
      have sz683 : h0.size ≤ b683 := Nat.le_trans K682.1 (Nat.le_of_eq g683.symm)
      have ge683 : n0 ≤ b683 := Nat.le_trans (O682.1 ▸ O682.2.1) (Nat.le_of_eq g683.symm)
      have K683 : Keep h0 h683 [] := K682.ext E683
      have O683 : Old Z n0 h683 := O682.ext E683
      have F683_relevantWithin : Fld Z h683 b683 "com/example/kingfisher/kingfisher/eval/TopicRanking" "relevantWithin" "[I" .null := D683 (Or.inr (hv hw 13 rfl)) (ty := (.array .int)) (by decide)
      have F683_relevantCount : Fld Z h683 b683 "com/example/kingfisher/kingfisher/eval/TopicRanking" "relevantCount" "I" (.int 0) := D683 (Or.inr (hv hw 15 rfl)) (ty := .int) (by decide)
      refine Go.st st683 ?_
      show Go p.tables e below Kx _ (mkF m 132 _ [(.ref b683)])
      refine s_dup (pc' := 133) X683.here hx (hb hby at_132) rfl rfl ?_
      refine s_aload (pc' := 135) X683.here hx (hb hby at_133) rfl rfl rfl ?_
      refine s_iload (pc' := 137) X683.here hx (hb hby at_135) rfl rfl ?_
      have f684 : Arv Z h683 b674 k674 .boolean 4 [(.int 1), (.int 1), (.int 0), (.int 1)] (.int 0) := (V682.ext E683)
      obtain ⟨_, _, ⟨T685, L685, k685, n685⟩, -, X685, ⟨Lc685, hQ685, l685, y685, z685⟩, st685⟩ := X683.specialBack hx (y := yN0) rfl hown (mvT hZ (hv hw 5 rfl)) (mvT hZ (hv hw 6 rfl)) (mvT hZ (hv hw 7 rfl)) (by decide) (backOf (W := 1) (rmN4 l Z a0 hw [] b683 b674 k674 1 1 0 1 1 2 2 3 rc h683 n0 O683 ge683 (Nat.ne_of_lt (Nat.lt_of_lt_of_le (Nat.lt_of_lt_of_le A674.lt (Nat.le_trans (Nat.le_trans (Nat.le_trans (Nat.le_of_eq W676.size.symm) (Nat.le_of_eq W678.size.symm)) (Nat.le_of_eq W680.size.symm)) (Nat.le_of_eq W682.size.symm))) (Nat.le_of_eq g683.symm))) A683 F683_relevantWithin F683_relevantCount f684 (by decide) (by decide) (by decide) (by decide)) hZ (hv hw 7 rfl) (hv hw 4 rfl) (by decide) (by decide)) (g := (mkF m 137 #[vi p0, vi p1, vi p2, vi p3, vi 4, vi rc, vi 1, vi 1, vi 0, vi 1, vr b674, un, un, un, un, un, un, un, un] [(.int rc), (.ref b674), (.ref b683), (.ref b683)])) rfl (by rw [hml]; rfl) (Steps.refl _) (a := b683) (argsL := [(.ref b674), (.int rc)]) (rest := [(.ref b683)]) (lenOf pd_2 rfl) rfl (by exact Nat.le_of_eq rfl) (hb hby at_137) (fun _ _ => ⟨rfl, e683, (by decide : 2 + 1 ≤ _), (by decide : 6 + 5 ≤ _)⟩)
      dsimp only [Pt.U, Pt.locs, Pt.cells, Pt.slots] at X685 l685 y685 z685 st685 hQ685
      rw [l685, y685, z685] at X685
      obtain ⟨rfl, Nq685, Kq685, q1_685, q2_685, t685, kt685, q3_685, q4_685⟩ := hQ685
      have N685 := Fr.app N682 Nq685
      have K685 : Keep h0 T685.heap [] := K683.trans Kq685 (allS (P := fun zz => zz ∈ [] ∨ h0.size ≤ zz) (Or.inr sz683) all0)
      have O685 : Old Z n0 T685.heap := O683.keep Kq685 (allS ge683 all0)
      refine Go.tr st685 ?_
      show Go p.tables e below Kx _ (mkF m 140 _ [(.ref b683)])
      refine s_astore (pc' := 142) (Ls' := #[vi p0, vi p1, vi p2, vi p3, vi 4, vi rc, vi 1, vi 1, vi 0, vi 1, vr b674, vr b683, un, un, un, un, un, un, un]) X685.here hx (hb hby at_140) rfl rfl rfl ?_
      refine s_aload (pc' := 144) X685.here hx (hb hby at_142) rfl rfl rfl ?_
      refine s_iloadN (pc' := 145) X685.here hx (hb hby at_144) rfl rfl ?_
      obtain ⟨cq686, kq686, q686a, q686b, q686c⟩ := isOf hZ rfl q1_685
      obtain ⟨_, _, ⟨T686, L686, k686, n686⟩, -, X686, ⟨Lc686, hQ686, l686, y686, z686⟩, st686⟩ := X685.virtualBack hx (y := yN1) (z := yN1) hown (mvT hZ (hv hw 16 rfl)) (mvT hZ (hv hw 17 rfl)) (notFace_of_selects (args := #[]) (mvT hZ (hv hw 19 rfl))) (mvT hZ (hv hw 19 rfl)) (mvT hZ (hv hw 18 rfl)) (by decide) (backOf (W := 0) (rmA4 l Z a0 hw [] b683 t685 kt685 1 2 2 3 rc p2 T685.heap n0 O685 hrc q1_685 q3_685 q2_685 q4_685) hZ (hv hw 20 rfl) (hv hw 4 rfl) (by decide) (by decide)) q686a q686c (g := (mkF m 145 #[vi p0, vi p1, vi p2, vi p3, vi 4, vi rc, vi 1, vi 1, vi 0, vi 1, vr b674, vr b683, un, un, un, un, un, un, un] [(.int p2), (.ref b683)])) rfl (by rw [hml]; rfl) (Steps.refl _) (argsL := [(.int p2)]) (rest := []) (lenOf pd_3 rfl) rfl (by exact Nat.le_of_eq rfl) (hb hby at_145) (fun _ _ => ⟨rfl, rfl, (by decide : 3 + 0 ≤ _), (by decide : 11 + 0 ≤ _)⟩)
      dsimp only [Pt.U, Pt.locs, Pt.cells, Pt.slots] at X686 l686 y686 z686 st686 hQ686
      rw [l686, y686, z686] at X686
      obtain ⟨rfl, Nq686, hE686⟩ := hQ686
      have N686 := Fr.app N685 Nq686
      refine Go.tr st686 ?_
      show Go p.tables e below Kx _ (mkF m 148 _ [(.double (mst (mst (mst (mst FP.dconst0 1 1 (needd p2 rc)) 2 2 (needd p2 rc)) 2 3 (needd p2 rc)) 3 4 (needd p2 rc)))])
      refine s_dstore (pc' := 150) (Ls' := #[vi p0, vi p1, vi p2, vi p3, vi 4, vi rc, vi 1, vi 1, vi 0, vi 1, vr b674, vr b683, .val (.double (mst (mst (mst (mst FP.dconst0 1 1 (needd p2 rc)) 2 2 (needd p2 rc)) 2 3 (needd p2 rc)) 3 4 (needd p2 rc))), sn, un, un, un, un, un]) X686.here hx (hb hby at_148) rfl  rfl ?_
      refine s_iloadN (pc' := 151) X686.here hx (hb hby at_150) rfl rfl ?_
      refine s_i2d (pc' := 152) X686.here hx (hb hby at_151) rfl rfl ?_
      refine Go.st (X686.ldc2DoubleC hx hown (mvT hZ (hv hw 28 rfl)) (g := (mkF m 152 #[vi p0, vi p1, vi p2, vi p3, vi 4, vi rc, vi 1, vi 1, vi 0, vi 1, vr b674, vr b683, .val (.double (mst (mst (mst (mst FP.dconst0 1 1 (needd p2 rc)) 2 2 (needd p2 rc)) 2 3 (needd p2 rc)) 3 4 (needd p2 rc))), sn, un, un, un, un, un] [(.double (FP.i2d p2))])) rfl (hb hby at_152)) ?_
      show Go p.tables e below Kx _ (mkF m 155 _ [(.double (4621819117588971520 : UInt64)), (.double (FP.i2d p2))])
      refine s_ddiv (pc' := 156) X686.here hx (hb hby at_155) rfl (nn1 p2) rfl ?_
      refine s_iload (pc' := 158) X686.here hx (hb hby at_156) rfl rfl ?_
      refine s_i2d (pc' := 159) X686.here hx (hb hby at_158) rfl rfl ?_
      refine s_dmul (pc' := 160) X686.here hx (hb hby at_159) rfl (nn2 p2 hrc) rfl ?_
      refine Go.st (X686.ldc2DoubleC hx hown (mvT hZ (hv hw 29 rfl)) (g := (mkF m 160 #[vi p0, vi p1, vi p2, vi p3, vi 4, vi rc, vi 1, vi 1, vi 0, vi 1, vr b674, vr b683, .val (.double (mst (mst (mst (mst FP.dconst0 1 1 (needd p2 rc)) 2 2 (needd p2 rc)) 2 3 (needd p2 rc)) 3 4 (needd p2 rc))), sn, un, un, un, un, un] [(.double (FP.dmul (FP.ddiv (FP.i2d p2) (4621819117588971520 : UInt64)) (FP.i2d rc)))])) rfl (hb hby at_160)) ?_
      show Go p.tables e below Kx _ (mkF m 163 _ [(.double (4606281698874543309 : UInt64)), (.double (FP.dmul (FP.ddiv (FP.i2d p2) (4621819117588971520 : UInt64)) (FP.i2d rc)))])
      refine s_dadd (pc' := 164) X686.here hx (hb hby at_163) rfl (nn3 p2 hrc) rfl ?_
      refine s_d2l (pc' := 165) (z := needd p2 rc) X686.here hx (hb hby at_164) rfl rfl ?_
      show Go p.tables e below Kx _ (mkF m 165 _ [(.long (needd p2 rc))])
      generalize (needd p2 rc) = nd
      generalize hmm : (mst (mst (mst (mst FP.dconst0 1 1 nd) 2 2 nd) 2 3 nd) 3 4 nd) = mm
      show Go p.tables e below Kx _ (mkF m 165 _ [(.long nd)])
      refine s_lstore (pc' := 167) (Ls' := #[vi p0, vi p1, vi p2, vi p3, vi 4, vi rc, vi 1, vi 1, vi 0, vi 1, vr b674, vr b683, .val (.double mm), sn, .val (.long nd), sn, un, un, un]) X686.here hx (hb hby at_165) rfl  rfl ?_
      refine s_dconst0 (pc' := 168) X686.here hx (hb hby at_167) rfl rfl ?_
      refine s_dstore (pc' := 170) (Ls' := #[vi p0, vi p1, vi p2, vi p3, vi 4, vi rc, vi 1, vi 1, vi 0, vi 1, vr b674, vr b683, .val (.double mm), sn, .val (.long nd), sn, .val (.double FP.dconst0), sn, un]) X686.here hx (hb hby at_168) rfl  rfl ?_
      refine s_iconst (pc' := 171) (v := 0) X686.here hx (hb hby at_170) rfl rfl ?_
      refine s_istore (pc' := 173) (Ls' := #[vi p0, vi p1, vi p2, vi p3, vi 4, vi rc, vi 1, vi 1, vi 0, vi 1, vr b674, vr b683, .val (.double mm), sn, .val (.long nd), sn, .val (.double FP.dconst0), sn, vi 0]) X686.here hx (hb hby at_171) rfl  rfl ?_
      refine s_iload (pc' := 175) X686.here hx (hb hby at_173) rfl rfl ?_
      refine s_iconst (pc' := 176) (v := 1) X686.here hx (hb hby at_175) rfl rfl ?_
      refine s_icmpN (pc' := 179) X686.here hx (hb hby at_176) rfl (flt (by decide)).1 ?_
      refine s_iload (pc' := 181) X686.here hx (hb hby at_179) rfl rfl ?_
      refine s_ifN (pc' := 184) X686.here hx (hb hby at_181) rfl ((if0 _ _).trans (feq (by decide)).1) ?_
      refine s_iload (pc' := 186) X686.here hx (hb hby at_184) rfl rfl ?_
      refine s_iconst (pc' := 187) (v := 1) X686.here hx (hb hby at_186) rfl rfl ?_
      refine s_iadd (pc' := 188) (z := 1) X686.here hx (hb hby at_187) rfl (by decide) ?_
      refine s_istore (pc' := 190) (Ls' := #[vi p0, vi p1, vi p2, vi p3, vi 4, vi rc, vi 1, vi 1, vi 0, vi 1, vr b674, vr b683, .val (.double mm), sn, .val (.long nd), sn, .val (.double FP.dconst0), sn, vi 1]) X686.here hx (hb hby at_188) rfl  rfl ?_
      refine s_dload (pc' := 192) X686.here hx (hb hby at_190) rfl rfl ?_
      refine s_iload (pc' := 194) X686.here hx (hb hby at_192) rfl rfl ?_
      refine s_iconst (pc' := 195) (v := 1) X686.here hx (hb hby at_194) rfl rfl ?_
      refine s_lload (pc' := 197) X686.here hx (hb hby at_195) rfl rfl ?_
      obtain ⟨_, _, ⟨T687, L687, k687, n687⟩, -, X687, ⟨Lc687, hQ687, l687, y687, z687⟩, st687⟩ := Jvm.LawKit.callS X686 hx (y := yN3) hown (mvT hZ (hv hw 30 rfl)) (mvT hZ (hv hw 31 rfl)) (mvT hZ (hv hw 32 rfl)) (mvT hZ (hv hw 33 rfl)) (by decide) (backOf (W := 0) (rmB l Z a0 hw [] FP.dconst0 1 1 nd T685.heap n0 O685 (by decide)) hZ (hv hw 33 rfl) (hv hw 32 rfl) (by decide) (by decide)) (g := (mkF m 197 #[vi p0, vi p1, vi p2, vi p3, vi 4, vi rc, vi 1, vi 1, vi 0, vi 1, vr b674, vr b683, .val (.double mm), sn, .val (.long nd), sn, .val (.double FP.dconst0), sn, vi 1] [(.long nd), (.int 1), (.int 1), (.double FP.dconst0)])) rfl (by rw [hml]; rfl) (argsL := [(.double FP.dconst0), (.int 1), (.int 1), (.long nd)]) (rest := []) (lenOf pd_4 rfl) rfl (by exact Nat.le_of_eq rfl) (hb hby at_197) (fun _ _ => ⟨rfl, hE686, (by decide : 3 + 0 ≤ _), (by decide : 11 + 0 ≤ _)⟩)
      dsimp only [Pt.U, Pt.locs, Pt.cells, Pt.slots] at X687 l687 y687 z687 st687 hQ687
      rw [l687, y687, z687] at X687
      obtain ⟨rfl, Nq687, hE687⟩ := hQ687
      have N687 := Fr.app N686 Nq687
      refine Go.st st687 ?_
      show Go p.tables e below Kx _ (mkF m 200 _ [(.double (bst FP.dconst0 1 1 nd))])
      refine s_dstore (pc' := 202) (Ls' := #[vi p0, vi p1, vi p2, vi p3, vi 4, vi rc, vi 1, vi 1, vi 0, vi 1, vr b674, vr b683, .val (.double mm), sn, .val (.long nd), sn, .val (.double (bst FP.dconst0 1 1 nd)), sn, vi 1]) X687.here hx (hb hby at_200) rfl  rfl ?_
      refine s_iload (pc' := 204) X687.here hx (hb hby at_202) rfl rfl ?_
      refine s_iconst (pc' := 205) (v := 2) X687.here hx (hb hby at_204) rfl rfl ?_
      refine s_icmpN (pc' := 208) X687.here hx (hb hby at_205) rfl (flt (by decide)).1 ?_
      refine s_iload (pc' := 210) X687.here hx (hb hby at_208) rfl rfl ?_
      refine s_ifN (pc' := 213) X687.here hx (hb hby at_210) rfl ((if0 _ _).trans (feq (by decide)).1) ?_
      refine s_iload (pc' := 215) X687.here hx (hb hby at_213) rfl rfl ?_
      refine s_iconst (pc' := 216) (v := 1) X687.here hx (hb hby at_215) rfl rfl ?_
      refine s_iadd (pc' := 217) (z := 2) X687.here hx (hb hby at_216) rfl (by decide) ?_
      refine s_istore (pc' := 219) (Ls' := #[vi p0, vi p1, vi p2, vi p3, vi 4, vi rc, vi 1, vi 1, vi 0, vi 1, vr b674, vr b683, .val (.double mm), sn, .val (.long nd), sn, .val (.double (bst FP.dconst0 1 1 nd)), sn, vi 2]) X687.here hx (hb hby at_217) rfl  rfl ?_
      refine s_dload (pc' := 221) X687.here hx (hb hby at_219) rfl rfl ?_
      refine s_iload (pc' := 223) X687.here hx (hb hby at_221) rfl rfl ?_
      refine s_iconst (pc' := 224) (v := 2) X687.here hx (hb hby at_223) rfl rfl ?_
      refine s_lload (pc' := 226) X687.here hx (hb hby at_224) rfl rfl ?_
      obtain ⟨_, _, ⟨T688, L688, k688, n688⟩, -, X688, ⟨Lc688, hQ688, l688, y688, z688⟩, st688⟩ := Jvm.LawKit.callS X687 hx (y := yN3) hown (mvT hZ (hv hw 30 rfl)) (mvT hZ (hv hw 31 rfl)) (mvT hZ (hv hw 32 rfl)) (mvT hZ (hv hw 33 rfl)) (by decide) (backOf (W := 0) (rmB l Z a0 hw [] (bst FP.dconst0 1 1 nd) 2 2 nd T685.heap n0 O685 (by decide)) hZ (hv hw 33 rfl) (hv hw 32 rfl) (by decide) (by decide)) (g := (mkF m 226 #[vi p0, vi p1, vi p2, vi p3, vi 4, vi rc, vi 1, vi 1, vi 0, vi 1, vr b674, vr b683, .val (.double mm), sn, .val (.long nd), sn, .val (.double (bst FP.dconst0 1 1 nd)), sn, vi 2] [(.long nd), (.int 2), (.int 2), (.double (bst FP.dconst0 1 1 nd))])) rfl (by rw [hml]; rfl) (argsL := [(.double (bst FP.dconst0 1 1 nd)), (.int 2), (.int 2), (.long nd)]) (rest := []) (lenOf pd_4 rfl) rfl (by exact Nat.le_of_eq rfl) (hb hby at_226) (fun _ _ => ⟨rfl, hE687, (by decide : 3 + 0 ≤ _), (by decide : 11 + 0 ≤ _)⟩)
      dsimp only [Pt.U, Pt.locs, Pt.cells, Pt.slots] at X688 l688 y688 z688 st688 hQ688
      rw [l688, y688, z688] at X688
      obtain ⟨rfl, Nq688, hE688⟩ := hQ688
      have N688 := Fr.app N687 Nq688
      refine Go.st st688 ?_
      show Go p.tables e below Kx _ (mkF m 229 _ [(.double (bst (bst FP.dconst0 1 1 nd) 2 2 nd))])
      refine s_dstore (pc' := 231) (Ls' := #[vi p0, vi p1, vi p2, vi p3, vi 4, vi rc, vi 1, vi 1, vi 0, vi 1, vr b674, vr b683, .val (.double mm), sn, .val (.long nd), sn, .val (.double (bst (bst FP.dconst0 1 1 nd) 2 2 nd)), sn, vi 2]) X688.here hx (hb hby at_229) rfl  rfl ?_
      refine s_iload (pc' := 233) X688.here hx (hb hby at_231) rfl rfl ?_
      refine s_iconst (pc' := 234) (v := 3) X688.here hx (hb hby at_233) rfl rfl ?_
      refine s_icmpN (pc' := 237) X688.here hx (hb hby at_234) rfl (flt (by decide)).1 ?_
      refine s_iload (pc' := 239) X688.here hx (hb hby at_237) rfl rfl ?_
      refine s_ifY (pc' := 260) X688.here hx (hb hby at_239) ((if0 _ _).trans (teq (by decide)).1) (by decide) (by decide) ?_
      refine s_iload (pc' := 262) X688.here hx (hb hby at_260) rfl rfl ?_
      refine s_iconst (pc' := 263) (v := 4) X688.here hx (hb hby at_262) rfl rfl ?_
      refine s_icmpN (pc' := 266) X688.here hx (hb hby at_263) rfl (flt (by decide)).1 ?_
      refine s_iload (pc' := 268) X688.here hx (hb hby at_266) rfl rfl ?_
      refine s_ifN (pc' := 271) X688.here hx (hb hby at_268) rfl ((if0 _ _).trans (feq (by decide)).1) ?_
      refine s_iload (pc' := 273) X688.here hx (hb hby at_271) rfl rfl ?_
      refine s_iconst (pc' := 274) (v := 1) X688.here hx (hb hby at_273) rfl rfl ?_
      refine s_iadd (pc' := 275) (z := 3) X688.here hx (hb hby at_274) rfl (by decide) ?_
      refine s_istore (pc' := 277) (Ls' := #[vi p0, vi p1, vi p2, vi p3, vi 4, vi rc, vi 1, vi 1, vi 0, vi 1, vr b674, vr b683, .val (.double mm), sn, .val (.long nd), sn, .val (.double (bst (bst FP.dconst0 1 1 nd) 2 2 nd)), sn, vi 3]) X688.here hx (hb hby at_275) rfl  rfl ?_
      refine s_dload (pc' := 279) X688.here hx (hb hby at_277) rfl rfl ?_
      refine s_iload (pc' := 281) X688.here hx (hb hby at_279) rfl rfl ?_
      refine s_iconst (pc' := 282) (v := 4) X688.here hx (hb hby at_281) rfl rfl ?_
      refine s_lload (pc' := 284) X688.here hx (hb hby at_282) rfl rfl ?_
      obtain ⟨_, _, ⟨T689, L689, k689, n689⟩, -, X689, ⟨Lc689, hQ689, l689, y689, z689⟩, st689⟩ := Jvm.LawKit.callS X688 hx (y := yN3) hown (mvT hZ (hv hw 30 rfl)) (mvT hZ (hv hw 31 rfl)) (mvT hZ (hv hw 32 rfl)) (mvT hZ (hv hw 33 rfl)) (by decide) (backOf (W := 0) (rmB l Z a0 hw [] (bst (bst FP.dconst0 1 1 nd) 2 2 nd) 3 4 nd T685.heap n0 O685 (by decide)) hZ (hv hw 33 rfl) (hv hw 32 rfl) (by decide) (by decide)) (g := (mkF m 284 #[vi p0, vi p1, vi p2, vi p3, vi 4, vi rc, vi 1, vi 1, vi 0, vi 1, vr b674, vr b683, .val (.double mm), sn, .val (.long nd), sn, .val (.double (bst (bst FP.dconst0 1 1 nd) 2 2 nd)), sn, vi 3] [(.long nd), (.int 4), (.int 3), (.double (bst (bst FP.dconst0 1 1 nd) 2 2 nd))])) rfl (by rw [hml]; rfl) (argsL := [(.double (bst (bst FP.dconst0 1 1 nd) 2 2 nd)), (.int 3), (.int 4), (.long nd)]) (rest := []) (lenOf pd_4 rfl) rfl (by exact Nat.le_of_eq rfl) (hb hby at_284) (fun _ _ => ⟨rfl, hE688, (by decide : 3 + 0 ≤ _), (by decide : 11 + 0 ≤ _)⟩)
      dsimp only [Pt.U, Pt.locs, Pt.cells, Pt.slots] at X689 l689 y689 z689 st689 hQ689
      rw [l689, y689, z689] at X689
      obtain ⟨rfl, Nq689, hE689⟩ := hQ689
      have N689 := Fr.app N688 Nq689
      refine Go.st st689 ?_
      show Go p.tables e below Kx _ (mkF m 287 _ [(.double (bst (bst (bst FP.dconst0 1 1 nd) 2 2 nd) 3 4 nd))])
      refine s_dstore (pc' := 289) (Ls' := #[vi p0, vi p1, vi p2, vi p3, vi 4, vi rc, vi 1, vi 1, vi 0, vi 1, vr b674, vr b683, .val (.double mm), sn, .val (.long nd), sn, .val (.double (bst (bst (bst FP.dconst0 1 1 nd) 2 2 nd) 3 4 nd)), sn, vi 3]) X689.here hx (hb hby at_287) rfl  rfl ?_
      refine s_dload (pc' := 291) X689.here hx (hb hby at_289) rfl rfl ?_
      refine s_dload (pc' := 293) X689.here hx (hb hby at_291) rfl rfl ?_
      refine s_dcmpl (pc' := 294) (z := 0) X689.here hx (hb hby at_293) rfl (by rw [← hmm]; exact fin_41101 nd) ?_
      refine s_ifN (pc' := 297) X689.here hx (hb hby at_294) rfl ((if0 _ _).trans (teq (by decide)).2) ?_
      refine s_iconst (pc' := 298) (v := 1) X689.here hx (hb hby at_297) rfl rfl ?_
      refine s_goto (pc' := 302) X689.here hx (hb hby at_298) (by decide) (by decide) ?_
      obtain ⟨fs, hr, hrun, hended, hW, hsame⟩ := X689.leave (v := (some (.int 1))) (fun h => by rw [Bd.returns] at h; cases h)
      refine Go.fin (retN X689 hx (t := .boolean) Bd.returns (by simp) (hb hby at_302) hr) (hF _ _ hrun hended ⟨_, _, rfl, ?_, ⟨_, rfl⟩, hW, hsame.mono (by decide) (by decide)⟩)
      ·
       show QL Z p0 p1 p2 p3 h0 n0 ((some (.int 1)) : Option Value) T689.heap _
       rw [hE689]
       exact ⟨rfl, N689⟩
    ·
     rcases hx4 with rfl | rfl
     ·
      show Go p.tables e below Kx _ (mkF m 75 _ [])
      refine s_iload (pc' := 77) X0.here hx (hb hby at_75) rfl rfl ?_
      obtain ⟨T690, h690, k690, X690, e690, E690, A690, st690⟩ := newP X0 hx hZ (hv hw 1 rfl) e0 (g := (mkF m 77 #[vi p0, vi p1, vi p2, vi p3, vi 4, vi rc, vi 1, vi 1, vi 1, vi 0, un, un, un, un, un, un, un, un, un] [(.int 4)])) rfl (hb hby at_77) rfl (by decide) (cap := 4) (by decide) (by decide) (by decide) (by decide)
      obtain ⟨b690, g690⟩ : ∃ z, z = h0.size := ⟨_, rfl⟩
      rw [← g690] at A690 st690
      have sz690 : h0.size ≤ b690 := Nat.le_trans K0.1 (Nat.le_of_eq g690.symm)
      have ge690 : n0 ≤ b690 := Nat.le_trans (X00.1 ▸ X00.2.1) (Nat.le_of_eq g690.symm)
      have K690 : Keep h0 h690 [] := K0.ext E690
      have O690 : Old Z n0 h690 := X00.ext E690
      have V690 : Arv Z h690 b690 k690 .boolean 4 [(.int 0), (.int 0), (.int 0), (.int 0)] (.int 0) := (Arv.new A690 (by decide)).pad (pad_rep [] (.int 0) 4)
      refine Go.st st690 ?_
      show Go p.tables e below Kx _ (mkF m 79 _ [(.ref b690)])
      refine s_astore (pc' := 81) (Ls' := #[vi p0, vi p1, vi p2, vi p3, vi 4, vi rc, vi 1, vi 1, vi 1, vi 0, vr b690, un, un, un, un, un, un, un, un]) X690.here hx (hb hby at_79) rfl rfl rfl ?_
      refine s_iload (pc' := 83) X690.here hx (hb hby at_81) rfl rfl ?_
      refine s_iconst (pc' := 84) (v := 1) X690.here hx (hb hby at_83) rfl rfl ?_
      refine s_icmpN (pc' := 87) X690.here hx (hb hby at_84) rfl (flt (by decide)).1 ?_
      refine s_aload (pc' := 89) X690.here hx (hb hby at_87) rfl rfl rfl ?_
      refine s_iconst (pc' := 90) (v := 0) X690.here hx (hb hby at_89) rfl rfl ?_
      refine s_iload (pc' := 92) X690.here hx (hb hby at_90) rfl rfl ?_
      obtain ⟨cl691, Ar691, Aq691, As691, An691, Ah691, Ag691⟩ := id V690
      have in692 := inb_of (j := 0) As691 (by decide)
      obtain ⟨T692, h692, X692, e692, W692, st692⟩ := stZ X690 hx hZ e690 Ar691 (j := 0) in692 (g := (mkF m 92 #[vi p0, vi p1, vi p2, vi p3, vi 4, vi rc, vi 1, vi 1, vi 1, vi 0, vr b690, un, un, un, un, un, un, un, un] [(.int 1), (.int 0), (.ref b690)])) rfl rfl (hb hby at_92)
      have V692 : Arv Z h692 b690 k690 .boolean 4 [(.int 1), (.int 0), (.int 0), (.int 0)] (.int 0) := by
       have q := Arv.set Ar691 Aq691 As691 An691 Ah691 Ag691 (fits_nar_bool _) W692 0 rfl (Nat.le_of_ble_eq_true rfl)
       rw [show nar .boolean 1 = 1 from by decide] at q; exact q
      have K692 : Keep h0 h692 [] := K690.wr W692 (Or.inr sz690)
      have O692 : Old Z n0 h692 := O690.wr W692 ge690
      have N692 := Fr.snoc X692 N0 ge690
      refine Go.st st692 ?_
      show Go p.tables e below Kx _ (mkF m 93 _ [])
      refine s_iload (pc' := 95) X692.here hx (hb hby at_93) rfl rfl ?_
      refine s_iconst (pc' := 96) (v := 2) X692.here hx (hb hby at_95) rfl rfl ?_
      refine s_icmpN (pc' := 99) X692.here hx (hb hby at_96) rfl (flt (by decide)).1 ?_
      refine s_aload (pc' := 101) X692.here hx (hb hby at_99) rfl rfl rfl ?_
      refine s_iconst (pc' := 102) (v := 1) X692.here hx (hb hby at_101) rfl rfl ?_
      refine s_iload (pc' := 104) X692.here hx (hb hby at_102) rfl rfl ?_
      obtain ⟨cl693, Ar693, Aq693, As693, An693, Ah693, Ag693⟩ := id V692
      have in694 := inb_of (j := 1) As693 (by decide)
      obtain ⟨T694, h694, X694, e694, W694, st694⟩ := stZ X692 hx hZ e692 Ar693 (j := 1) in694 (g := (mkF m 104 #[vi p0, vi p1, vi p2, vi p3, vi 4, vi rc, vi 1, vi 1, vi 1, vi 0, vr b690, un, un, un, un, un, un, un, un] [(.int 1), (.int 1), (.ref b690)])) rfl rfl (hb hby at_104)
      have V694 : Arv Z h694 b690 k690 .boolean 4 [(.int 1), (.int 1), (.int 0), (.int 0)] (.int 0) := by
       have q := Arv.set Ar693 Aq693 As693 An693 Ah693 Ag693 (fits_nar_bool _) W694 1 rfl (Nat.le_of_ble_eq_true rfl)
       rw [show nar .boolean 1 = 1 from by decide] at q; exact q
      have K694 : Keep h0 h694 [] := K692.wr W694 (Or.inr sz690)
      have O694 : Old Z n0 h694 := O692.wr W694 ge690
      have N694 := Fr.snoc X694 N692 ge690
      refine Go.st st694 ?_
      show Go p.tables e below Kx _ (mkF m 105 _ [])
      refine s_iload (pc' := 107) X694.here hx (hb hby at_105) rfl rfl ?_
      refine s_iconst (pc' := 108) (v := 3) X694.here hx (hb hby at_107) rfl rfl ?_
      refine s_icmpN (pc' := 111) X694.here hx (hb hby at_108) rfl (flt (by decide)).1 ?_
      refine s_aload (pc' := 113) X694.here hx (hb hby at_111) rfl rfl rfl ?_
      refine s_iconst (pc' := 114) (v := 2) X694.here hx (hb hby at_113) rfl rfl ?_
      refine s_iload (pc' := 116) X694.here hx (hb hby at_114) rfl rfl ?_
      obtain ⟨cl695, Ar695, Aq695, As695, An695, Ah695, Ag695⟩ := id V694
      have in696 := inb_of (j := 2) As695 (by decide)
      obtain ⟨T696, h696, X696, e696, W696, st696⟩ := stZ X694 hx hZ e694 Ar695 (j := 2) in696 (g := (mkF m 116 #[vi p0, vi p1, vi p2, vi p3, vi 4, vi rc, vi 1, vi 1, vi 1, vi 0, vr b690, un, un, un, un, un, un, un, un] [(.int 1), (.int 2), (.ref b690)])) rfl rfl (hb hby at_116)
      have V696 : Arv Z h696 b690 k690 .boolean 4 [(.int 1), (.int 1), (.int 1), (.int 0)] (.int 0) := by
       have q := Arv.set Ar695 Aq695 As695 An695 Ah695 Ag695 (fits_nar_bool _) W696 2 rfl (Nat.le_of_ble_eq_true rfl)
       rw [show nar .boolean 1 = 1 from by decide] at q; exact q
      have K696 : Keep h0 h696 [] := K694.wr W696 (Or.inr sz690)
      have O696 : Old Z n0 h696 := O694.wr W696 ge690
      have N696 := Fr.snoc X696 N694 ge690
      refine Go.st st696 ?_
      show Go p.tables e below Kx _ (mkF m 117 _ [])
      refine s_iload (pc' := 119) X696.here hx (hb hby at_117) rfl rfl ?_
      refine s_iconst (pc' := 120) (v := 4) X696.here hx (hb hby at_119) rfl rfl ?_
      refine s_icmpN (pc' := 123) X696.here hx (hb hby at_120) rfl (flt (by decide)).1 ?_
      refine s_aload (pc' := 125) X696.here hx (hb hby at_123) rfl rfl rfl ?_
      refine s_iconst (pc' := 126) (v := 3) X696.here hx (hb hby at_125) rfl rfl ?_
      refine s_iload (pc' := 128) X696.here hx (hb hby at_126) rfl rfl ?_
      obtain ⟨cl697, Ar697, Aq697, As697, An697, Ah697, Ag697⟩ := id V696
      have in698 := inb_of (j := 3) As697 (by decide)
      obtain ⟨T698, h698, X698, e698, W698, st698⟩ := stZ X696 hx hZ e696 Ar697 (j := 3) in698 (g := (mkF m 128 #[vi p0, vi p1, vi p2, vi p3, vi 4, vi rc, vi 1, vi 1, vi 1, vi 0, vr b690, un, un, un, un, un, un, un, un] [(.int 0), (.int 3), (.ref b690)])) rfl rfl (hb hby at_128)
      have V698 : Arv Z h698 b690 k690 .boolean 4 [(.int 1), (.int 1), (.int 1), (.int 0)] (.int 0) := by
       have q := Arv.set Ar697 Aq697 As697 An697 Ah697 Ag697 (fits_nar_bool _) W698 3 rfl (Nat.le_of_ble_eq_true rfl)
       rw [show nar .boolean 0 = 0 from by decide] at q; exact q
      have K698 : Keep h0 h698 [] := K696.wr W698 (Or.inr sz690)
      have O698 : Old Z n0 h698 := O696.wr W698 ge690
      have N698 := Fr.snoc X698 N696 ge690
      refine Go.st st698 ?_
      show Go p.tables e below Kx _ (mkF m 129 _ [])
      obtain ⟨T699, h699, X699, e699, E699, A699, D699, -, st699⟩ := newO X698 hx hZ hown (hv hw 2 rfl) (hv hw 3 rfl) (hv hw 4 rfl) e698 (g := (mkF m 129 #[vi p0, vi p1, vi p2, vi p3, vi 4, vi rc, vi 1, vi 1, vi 1, vi 0, vr b690, un, un, un, un, un, un, un, un] [])) rfl (hb hby at_129) (by decide) (by decide)
      obtain ⟨b699, g699⟩ : ∃ z, z = h698.size := ⟨_, rfl⟩
      rw [← g699] at A699 D699 st699
      have sz699 : h0.size ≤ b699 := Nat.le_trans K698.1 (Nat.le_of_eq g699.symm)
      have ge699 : n0 ≤ b699 := Nat.le_trans (O698.1 ▸ O698.2.1) (Nat.le_of_eq g699.symm)
      have K699 : Keep h0 h699 [] := K698.ext E699
      have O699 : Old Z n0 h699 := O698.ext E699
      have F699_relevantWithin : Fld Z h699 b699 "com/example/kingfisher/kingfisher/eval/TopicRanking" "relevantWithin" "[I" .null := D699 (Or.inr (hv hw 13 rfl)) (ty := (.array .int)) (by decide)
      have F699_relevantCount : Fld Z h699 b699 "com/example/kingfisher/kingfisher/eval/TopicRanking" "relevantCount" "I" (.int 0) := D699 (Or.inr (hv hw 15 rfl)) (ty := .int) (by decide)
      refine Go.st st699 ?_
      show Go p.tables e below Kx _ (mkF m 132 _ [(.ref b699)])
      refine s_dup (pc' := 133) X699.here hx (hb hby at_132) rfl rfl ?_
      refine s_aload (pc' := 135) X699.here hx (hb hby at_133) rfl rfl rfl ?_
      refine s_iload (pc' := 137) X699.here hx (hb hby at_135) rfl rfl ?_
      have f700 : Arv Z h699 b690 k690 .boolean 4 [(.int 1), (.int 1), (.int 1), (.int 0)] (.int 0) := (V698.ext E699)
      obtain ⟨_, _, ⟨T701, L701, k701, n701⟩, -, X701, ⟨Lc701, hQ701, l701, y701, z701⟩, st701⟩ := X699.specialBack hx (y := yN0) rfl hown (mvT hZ (hv hw 5 rfl)) (mvT hZ (hv hw 6 rfl)) (mvT hZ (hv hw 7 rfl)) (by decide) (backOf (W := 1) (rmN4 l Z a0 hw [] b699 b690 k690 1 1 1 0 1 2 3 3 rc h699 n0 O699 ge699 (Nat.ne_of_lt (Nat.lt_of_lt_of_le (Nat.lt_of_lt_of_le A690.lt (Nat.le_trans (Nat.le_trans (Nat.le_trans (Nat.le_of_eq W692.size.symm) (Nat.le_of_eq W694.size.symm)) (Nat.le_of_eq W696.size.symm)) (Nat.le_of_eq W698.size.symm))) (Nat.le_of_eq g699.symm))) A699 F699_relevantWithin F699_relevantCount f700 (by decide) (by decide) (by decide) (by decide)) hZ (hv hw 7 rfl) (hv hw 4 rfl) (by decide) (by decide)) (g := (mkF m 137 #[vi p0, vi p1, vi p2, vi p3, vi 4, vi rc, vi 1, vi 1, vi 1, vi 0, vr b690, un, un, un, un, un, un, un, un] [(.int rc), (.ref b690), (.ref b699), (.ref b699)])) rfl (by rw [hml]; rfl) (Steps.refl _) (a := b699) (argsL := [(.ref b690), (.int rc)]) (rest := [(.ref b699)]) (lenOf pd_2 rfl) rfl (by exact Nat.le_of_eq rfl) (hb hby at_137) (fun _ _ => ⟨rfl, e699, (by decide : 2 + 1 ≤ _), (by decide : 6 + 5 ≤ _)⟩)
      dsimp only [Pt.U, Pt.locs, Pt.cells, Pt.slots] at X701 l701 y701 z701 st701 hQ701
      rw [l701, y701, z701] at X701
      obtain ⟨rfl, Nq701, Kq701, q1_701, q2_701, t701, kt701, q3_701, q4_701⟩ := hQ701
      have N701 := Fr.app N698 Nq701
      have K701 : Keep h0 T701.heap [] := K699.trans Kq701 (allS (P := fun zz => zz ∈ [] ∨ h0.size ≤ zz) (Or.inr sz699) all0)
      have O701 : Old Z n0 T701.heap := O699.keep Kq701 (allS ge699 all0)
      refine Go.tr st701 ?_
      show Go p.tables e below Kx _ (mkF m 140 _ [(.ref b699)])
      refine s_astore (pc' := 142) (Ls' := #[vi p0, vi p1, vi p2, vi p3, vi 4, vi rc, vi 1, vi 1, vi 1, vi 0, vr b690, vr b699, un, un, un, un, un, un, un]) X701.here hx (hb hby at_140) rfl rfl rfl ?_
      refine s_aload (pc' := 144) X701.here hx (hb hby at_142) rfl rfl rfl ?_
      refine s_iloadN (pc' := 145) X701.here hx (hb hby at_144) rfl rfl ?_
      obtain ⟨cq702, kq702, q702a, q702b, q702c⟩ := isOf hZ rfl q1_701
      obtain ⟨_, _, ⟨T702, L702, k702, n702⟩, -, X702, ⟨Lc702, hQ702, l702, y702, z702⟩, st702⟩ := X701.virtualBack hx (y := yN1) (z := yN1) hown (mvT hZ (hv hw 16 rfl)) (mvT hZ (hv hw 17 rfl)) (notFace_of_selects (args := #[]) (mvT hZ (hv hw 19 rfl))) (mvT hZ (hv hw 19 rfl)) (mvT hZ (hv hw 18 rfl)) (by decide) (backOf (W := 0) (rmA4 l Z a0 hw [] b699 t701 kt701 1 2 3 3 rc p2 T701.heap n0 O701 hrc q1_701 q3_701 q2_701 q4_701) hZ (hv hw 20 rfl) (hv hw 4 rfl) (by decide) (by decide)) q702a q702c (g := (mkF m 145 #[vi p0, vi p1, vi p2, vi p3, vi 4, vi rc, vi 1, vi 1, vi 1, vi 0, vr b690, vr b699, un, un, un, un, un, un, un] [(.int p2), (.ref b699)])) rfl (by rw [hml]; rfl) (Steps.refl _) (argsL := [(.int p2)]) (rest := []) (lenOf pd_3 rfl) rfl (by exact Nat.le_of_eq rfl) (hb hby at_145) (fun _ _ => ⟨rfl, rfl, (by decide : 3 + 0 ≤ _), (by decide : 11 + 0 ≤ _)⟩)
      dsimp only [Pt.U, Pt.locs, Pt.cells, Pt.slots] at X702 l702 y702 z702 st702 hQ702
      rw [l702, y702, z702] at X702
      obtain ⟨rfl, Nq702, hE702⟩ := hQ702
      have N702 := Fr.app N701 Nq702
      refine Go.tr st702 ?_
      show Go p.tables e below Kx _ (mkF m 148 _ [(.double (mst (mst (mst (mst FP.dconst0 1 1 (needd p2 rc)) 2 2 (needd p2 rc)) 3 3 (needd p2 rc)) 3 4 (needd p2 rc)))])
      refine s_dstore (pc' := 150) (Ls' := #[vi p0, vi p1, vi p2, vi p3, vi 4, vi rc, vi 1, vi 1, vi 1, vi 0, vr b690, vr b699, .val (.double (mst (mst (mst (mst FP.dconst0 1 1 (needd p2 rc)) 2 2 (needd p2 rc)) 3 3 (needd p2 rc)) 3 4 (needd p2 rc))), sn, un, un, un, un, un]) X702.here hx (hb hby at_148) rfl  rfl ?_
      refine s_iloadN (pc' := 151) X702.here hx (hb hby at_150) rfl rfl ?_
      refine s_i2d (pc' := 152) X702.here hx (hb hby at_151) rfl rfl ?_
      refine Go.st (X702.ldc2DoubleC hx hown (mvT hZ (hv hw 28 rfl)) (g := (mkF m 152 #[vi p0, vi p1, vi p2, vi p3, vi 4, vi rc, vi 1, vi 1, vi 1, vi 0, vr b690, vr b699, .val (.double (mst (mst (mst (mst FP.dconst0 1 1 (needd p2 rc)) 2 2 (needd p2 rc)) 3 3 (needd p2 rc)) 3 4 (needd p2 rc))), sn, un, un, un, un, un] [(.double (FP.i2d p2))])) rfl (hb hby at_152)) ?_
      show Go p.tables e below Kx _ (mkF m 155 _ [(.double (4621819117588971520 : UInt64)), (.double (FP.i2d p2))])
      refine s_ddiv (pc' := 156) X702.here hx (hb hby at_155) rfl (nn1 p2) rfl ?_
      refine s_iload (pc' := 158) X702.here hx (hb hby at_156) rfl rfl ?_
      refine s_i2d (pc' := 159) X702.here hx (hb hby at_158) rfl rfl ?_
      refine s_dmul (pc' := 160) X702.here hx (hb hby at_159) rfl (nn2 p2 hrc) rfl ?_
      refine Go.st (X702.ldc2DoubleC hx hown (mvT hZ (hv hw 29 rfl)) (g := (mkF m 160 #[vi p0, vi p1, vi p2, vi p3, vi 4, vi rc, vi 1, vi 1, vi 1, vi 0, vr b690, vr b699, .val (.double (mst (mst (mst (mst FP.dconst0 1 1 (needd p2 rc)) 2 2 (needd p2 rc)) 3 3 (needd p2 rc)) 3 4 (needd p2 rc))), sn, un, un, un, un, un] [(.double (FP.dmul (FP.ddiv (FP.i2d p2) (4621819117588971520 : UInt64)) (FP.i2d rc)))])) rfl (hb hby at_160)) ?_
      show Go p.tables e below Kx _ (mkF m 163 _ [(.double (4606281698874543309 : UInt64)), (.double (FP.dmul (FP.ddiv (FP.i2d p2) (4621819117588971520 : UInt64)) (FP.i2d rc)))])
      refine s_dadd (pc' := 164) X702.here hx (hb hby at_163) rfl (nn3 p2 hrc) rfl ?_
      refine s_d2l (pc' := 165) (z := needd p2 rc) X702.here hx (hb hby at_164) rfl rfl ?_
      show Go p.tables e below Kx _ (mkF m 165 _ [(.long (needd p2 rc))])
      generalize (needd p2 rc) = nd
      generalize hmm : (mst (mst (mst (mst FP.dconst0 1 1 nd) 2 2 nd) 3 3 nd) 3 4 nd) = mm
      show Go p.tables e below Kx _ (mkF m 165 _ [(.long nd)])
      refine s_lstore (pc' := 167) (Ls' := #[vi p0, vi p1, vi p2, vi p3, vi 4, vi rc, vi 1, vi 1, vi 1, vi 0, vr b690, vr b699, .val (.double mm), sn, .val (.long nd), sn, un, un, un]) X702.here hx (hb hby at_165) rfl  rfl ?_
      refine s_dconst0 (pc' := 168) X702.here hx (hb hby at_167) rfl rfl ?_
      refine s_dstore (pc' := 170) (Ls' := #[vi p0, vi p1, vi p2, vi p3, vi 4, vi rc, vi 1, vi 1, vi 1, vi 0, vr b690, vr b699, .val (.double mm), sn, .val (.long nd), sn, .val (.double FP.dconst0), sn, un]) X702.here hx (hb hby at_168) rfl  rfl ?_
      refine s_iconst (pc' := 171) (v := 0) X702.here hx (hb hby at_170) rfl rfl ?_
      refine s_istore (pc' := 173) (Ls' := #[vi p0, vi p1, vi p2, vi p3, vi 4, vi rc, vi 1, vi 1, vi 1, vi 0, vr b690, vr b699, .val (.double mm), sn, .val (.long nd), sn, .val (.double FP.dconst0), sn, vi 0]) X702.here hx (hb hby at_171) rfl  rfl ?_
      refine s_iload (pc' := 175) X702.here hx (hb hby at_173) rfl rfl ?_
      refine s_iconst (pc' := 176) (v := 1) X702.here hx (hb hby at_175) rfl rfl ?_
      refine s_icmpN (pc' := 179) X702.here hx (hb hby at_176) rfl (flt (by decide)).1 ?_
      refine s_iload (pc' := 181) X702.here hx (hb hby at_179) rfl rfl ?_
      refine s_ifN (pc' := 184) X702.here hx (hb hby at_181) rfl ((if0 _ _).trans (feq (by decide)).1) ?_
      refine s_iload (pc' := 186) X702.here hx (hb hby at_184) rfl rfl ?_
      refine s_iconst (pc' := 187) (v := 1) X702.here hx (hb hby at_186) rfl rfl ?_
      refine s_iadd (pc' := 188) (z := 1) X702.here hx (hb hby at_187) rfl (by decide) ?_
      refine s_istore (pc' := 190) (Ls' := #[vi p0, vi p1, vi p2, vi p3, vi 4, vi rc, vi 1, vi 1, vi 1, vi 0, vr b690, vr b699, .val (.double mm), sn, .val (.long nd), sn, .val (.double FP.dconst0), sn, vi 1]) X702.here hx (hb hby at_188) rfl  rfl ?_
      refine s_dload (pc' := 192) X702.here hx (hb hby at_190) rfl rfl ?_
      refine s_iload (pc' := 194) X702.here hx (hb hby at_192) rfl rfl ?_
      refine s_iconst (pc' := 195) (v := 1) X702.here hx (hb hby at_194) rfl rfl ?_
      refine s_lload (pc' := 197) X702.here hx (hb hby at_195) rfl rfl ?_
      obtain ⟨_, _, ⟨T703, L703, k703, n703⟩, -, X703, ⟨Lc703, hQ703, l703, y703, z703⟩, st703⟩ := Jvm.LawKit.callS X702 hx (y := yN3) hown (mvT hZ (hv hw 30 rfl)) (mvT hZ (hv hw 31 rfl)) (mvT hZ (hv hw 32 rfl)) (mvT hZ (hv hw 33 rfl)) (by decide) (backOf (W := 0) (rmB l Z a0 hw [] FP.dconst0 1 1 nd T701.heap n0 O701 (by decide)) hZ (hv hw 33 rfl) (hv hw 32 rfl) (by decide) (by decide)) (g := (mkF m 197 #[vi p0, vi p1, vi p2, vi p3, vi 4, vi rc, vi 1, vi 1, vi 1, vi 0, vr b690, vr b699, .val (.double mm), sn, .val (.long nd), sn, .val (.double FP.dconst0), sn, vi 1] [(.long nd), (.int 1), (.int 1), (.double FP.dconst0)])) rfl (by rw [hml]; rfl) (argsL := [(.double FP.dconst0), (.int 1), (.int 1), (.long nd)]) (rest := []) (lenOf pd_4 rfl) rfl (by exact Nat.le_of_eq rfl) (hb hby at_197) (fun _ _ => ⟨rfl, hE702, (by decide : 3 + 0 ≤ _), (by decide : 11 + 0 ≤ _)⟩)
      dsimp only [Pt.U, Pt.locs, Pt.cells, Pt.slots] at X703 l703 y703 z703 st703 hQ703
      rw [l703, y703, z703] at X703
      obtain ⟨rfl, Nq703, hE703⟩ := hQ703
      have N703 := Fr.app N702 Nq703
      refine Go.st st703 ?_
      show Go p.tables e below Kx _ (mkF m 200 _ [(.double (bst FP.dconst0 1 1 nd))])
      refine s_dstore (pc' := 202) (Ls' := #[vi p0, vi p1, vi p2, vi p3, vi 4, vi rc, vi 1, vi 1, vi 1, vi 0, vr b690, vr b699, .val (.double mm), sn, .val (.long nd), sn, .val (.double (bst FP.dconst0 1 1 nd)), sn, vi 1]) X703.here hx (hb hby at_200) rfl  rfl ?_
      refine s_iload (pc' := 204) X703.here hx (hb hby at_202) rfl rfl ?_
      refine s_iconst (pc' := 205) (v := 2) X703.here hx (hb hby at_204) rfl rfl ?_
      refine s_icmpN (pc' := 208) X703.here hx (hb hby at_205) rfl (flt (by decide)).1 ?_
      refine s_iload (pc' := 210) X703.here hx (hb hby at_208) rfl rfl ?_
      refine s_ifN (pc' := 213) X703.here hx (hb hby at_210) rfl ((if0 _ _).trans (feq (by decide)).1) ?_
      refine s_iload (pc' := 215) X703.here hx (hb hby at_213) rfl rfl ?_
      refine s_iconst (pc' := 216) (v := 1) X703.here hx (hb hby at_215) rfl rfl ?_
      refine s_iadd (pc' := 217) (z := 2) X703.here hx (hb hby at_216) rfl (by decide) ?_
      refine s_istore (pc' := 219) (Ls' := #[vi p0, vi p1, vi p2, vi p3, vi 4, vi rc, vi 1, vi 1, vi 1, vi 0, vr b690, vr b699, .val (.double mm), sn, .val (.long nd), sn, .val (.double (bst FP.dconst0 1 1 nd)), sn, vi 2]) X703.here hx (hb hby at_217) rfl  rfl ?_
      refine s_dload (pc' := 221) X703.here hx (hb hby at_219) rfl rfl ?_
      refine s_iload (pc' := 223) X703.here hx (hb hby at_221) rfl rfl ?_
      refine s_iconst (pc' := 224) (v := 2) X703.here hx (hb hby at_223) rfl rfl ?_
      refine s_lload (pc' := 226) X703.here hx (hb hby at_224) rfl rfl ?_
      obtain ⟨_, _, ⟨T704, L704, k704, n704⟩, -, X704, ⟨Lc704, hQ704, l704, y704, z704⟩, st704⟩ := Jvm.LawKit.callS X703 hx (y := yN3) hown (mvT hZ (hv hw 30 rfl)) (mvT hZ (hv hw 31 rfl)) (mvT hZ (hv hw 32 rfl)) (mvT hZ (hv hw 33 rfl)) (by decide) (backOf (W := 0) (rmB l Z a0 hw [] (bst FP.dconst0 1 1 nd) 2 2 nd T701.heap n0 O701 (by decide)) hZ (hv hw 33 rfl) (hv hw 32 rfl) (by decide) (by decide)) (g := (mkF m 226 #[vi p0, vi p1, vi p2, vi p3, vi 4, vi rc, vi 1, vi 1, vi 1, vi 0, vr b690, vr b699, .val (.double mm), sn, .val (.long nd), sn, .val (.double (bst FP.dconst0 1 1 nd)), sn, vi 2] [(.long nd), (.int 2), (.int 2), (.double (bst FP.dconst0 1 1 nd))])) rfl (by rw [hml]; rfl) (argsL := [(.double (bst FP.dconst0 1 1 nd)), (.int 2), (.int 2), (.long nd)]) (rest := []) (lenOf pd_4 rfl) rfl (by exact Nat.le_of_eq rfl) (hb hby at_226) (fun _ _ => ⟨rfl, hE703, (by decide : 3 + 0 ≤ _), (by decide : 11 + 0 ≤ _)⟩)
      dsimp only [Pt.U, Pt.locs, Pt.cells, Pt.slots] at X704 l704 y704 z704 st704 hQ704
      rw [l704, y704, z704] at X704
      obtain ⟨rfl, Nq704, hE704⟩ := hQ704
      have N704 := Fr.app N703 Nq704
      refine Go.st st704 ?_
      show Go p.tables e below Kx _ (mkF m 229 _ [(.double (bst (bst FP.dconst0 1 1 nd) 2 2 nd))])
      refine s_dstore (pc' := 231) (Ls' := #[vi p0, vi p1, vi p2, vi p3, vi 4, vi rc, vi 1, vi 1, vi 1, vi 0, vr b690, vr b699, .val (.double mm), sn, .val (.long nd), sn, .val (.double (bst (bst FP.dconst0 1 1 nd) 2 2 nd)), sn, vi 2]) X704.here hx (hb hby at_229) rfl  rfl ?_
      refine s_iload (pc' := 233) X704.here hx (hb hby at_231) rfl rfl ?_
      refine s_iconst (pc' := 234) (v := 3) X704.here hx (hb hby at_233) rfl rfl ?_
      refine s_icmpN (pc' := 237) X704.here hx (hb hby at_234) rfl (flt (by decide)).1 ?_
      refine s_iload (pc' := 239) X704.here hx (hb hby at_237) rfl rfl ?_
      refine s_ifN (pc' := 242) X704.here hx (hb hby at_239) rfl ((if0 _ _).trans (feq (by decide)).1) ?_
      refine s_iload (pc' := 244) X704.here hx (hb hby at_242) rfl rfl ?_
      refine s_iconst (pc' := 245) (v := 1) X704.here hx (hb hby at_244) rfl rfl ?_
      refine s_iadd (pc' := 246) (z := 3) X704.here hx (hb hby at_245) rfl (by decide) ?_
      refine s_istore (pc' := 248) (Ls' := #[vi p0, vi p1, vi p2, vi p3, vi 4, vi rc, vi 1, vi 1, vi 1, vi 0, vr b690, vr b699, .val (.double mm), sn, .val (.long nd), sn, .val (.double (bst (bst FP.dconst0 1 1 nd) 2 2 nd)), sn, vi 3]) X704.here hx (hb hby at_246) rfl  rfl ?_
      refine s_dload (pc' := 250) X704.here hx (hb hby at_248) rfl rfl ?_
      refine s_iload (pc' := 252) X704.here hx (hb hby at_250) rfl rfl ?_
      refine s_iconst (pc' := 253) (v := 3) X704.here hx (hb hby at_252) rfl rfl ?_
      refine s_lload (pc' := 255) X704.here hx (hb hby at_253) rfl rfl ?_
      obtain ⟨_, _, ⟨T705, L705, k705, n705⟩, -, X705, ⟨Lc705, hQ705, l705, y705, z705⟩, st705⟩ := Jvm.LawKit.callS X704 hx (y := yN3) hown (mvT hZ (hv hw 30 rfl)) (mvT hZ (hv hw 31 rfl)) (mvT hZ (hv hw 32 rfl)) (mvT hZ (hv hw 33 rfl)) (by decide) (backOf (W := 0) (rmB l Z a0 hw [] (bst (bst FP.dconst0 1 1 nd) 2 2 nd) 3 3 nd T701.heap n0 O701 (by decide)) hZ (hv hw 33 rfl) (hv hw 32 rfl) (by decide) (by decide)) (g := (mkF m 255 #[vi p0, vi p1, vi p2, vi p3, vi 4, vi rc, vi 1, vi 1, vi 1, vi 0, vr b690, vr b699, .val (.double mm), sn, .val (.long nd), sn, .val (.double (bst (bst FP.dconst0 1 1 nd) 2 2 nd)), sn, vi 3] [(.long nd), (.int 3), (.int 3), (.double (bst (bst FP.dconst0 1 1 nd) 2 2 nd))])) rfl (by rw [hml]; rfl) (argsL := [(.double (bst (bst FP.dconst0 1 1 nd) 2 2 nd)), (.int 3), (.int 3), (.long nd)]) (rest := []) (lenOf pd_4 rfl) rfl (by exact Nat.le_of_eq rfl) (hb hby at_255) (fun _ _ => ⟨rfl, hE704, (by decide : 3 + 0 ≤ _), (by decide : 11 + 0 ≤ _)⟩)
      dsimp only [Pt.U, Pt.locs, Pt.cells, Pt.slots] at X705 l705 y705 z705 st705 hQ705
      rw [l705, y705, z705] at X705
      obtain ⟨rfl, Nq705, hE705⟩ := hQ705
      have N705 := Fr.app N704 Nq705
      refine Go.st st705 ?_
      show Go p.tables e below Kx _ (mkF m 258 _ [(.double (bst (bst (bst FP.dconst0 1 1 nd) 2 2 nd) 3 3 nd))])
      refine s_dstore (pc' := 260) (Ls' := #[vi p0, vi p1, vi p2, vi p3, vi 4, vi rc, vi 1, vi 1, vi 1, vi 0, vr b690, vr b699, .val (.double mm), sn, .val (.long nd), sn, .val (.double (bst (bst (bst FP.dconst0 1 1 nd) 2 2 nd) 3 3 nd)), sn, vi 3]) X705.here hx (hb hby at_258) rfl  rfl ?_
      refine s_iload (pc' := 262) X705.here hx (hb hby at_260) rfl rfl ?_
      refine s_iconst (pc' := 263) (v := 4) X705.here hx (hb hby at_262) rfl rfl ?_
      refine s_icmpN (pc' := 266) X705.here hx (hb hby at_263) rfl (flt (by decide)).1 ?_
      refine s_iload (pc' := 268) X705.here hx (hb hby at_266) rfl rfl ?_
      refine s_ifY (pc' := 289) X705.here hx (hb hby at_268) ((if0 _ _).trans (teq (by decide)).1) (by decide) (by decide) ?_
      refine s_dload (pc' := 291) X705.here hx (hb hby at_289) rfl rfl ?_
      refine s_dload (pc' := 293) X705.here hx (hb hby at_291) rfl rfl ?_
      refine s_dcmpl (pc' := 294) (z := 0) X705.here hx (hb hby at_293) rfl (by rw [← hmm]; exact fin_41110 nd) ?_
      refine s_ifN (pc' := 297) X705.here hx (hb hby at_294) rfl ((if0 _ _).trans (teq (by decide)).2) ?_
      refine s_iconst (pc' := 298) (v := 1) X705.here hx (hb hby at_297) rfl rfl ?_
      refine s_goto (pc' := 302) X705.here hx (hb hby at_298) (by decide) (by decide) ?_
      obtain ⟨fs, hr, hrun, hended, hW, hsame⟩ := X705.leave (v := (some (.int 1))) (fun h => by rw [Bd.returns] at h; cases h)
      refine Go.fin (retN X705 hx (t := .boolean) Bd.returns (by simp) (hb hby at_302) hr) (hF _ _ hrun hended ⟨_, _, rfl, ?_, ⟨_, rfl⟩, hW, hsame.mono (by decide) (by decide)⟩)
      ·
       show QL Z p0 p1 p2 p3 h0 n0 ((some (.int 1)) : Option Value) T705.heap _
       rw [hE705]
       exact ⟨rfl, N705⟩
     ·
      show Go p.tables e below Kx _ (mkF m 75 _ [])
      refine s_iload (pc' := 77) X0.here hx (hb hby at_75) rfl rfl ?_
      obtain ⟨T706, h706, k706, X706, e706, E706, A706, st706⟩ := newP X0 hx hZ (hv hw 1 rfl) e0 (g := (mkF m 77 #[vi p0, vi p1, vi p2, vi p3, vi 4, vi rc, vi 1, vi 1, vi 1, vi 1, un, un, un, un, un, un, un, un, un] [(.int 4)])) rfl (hb hby at_77) rfl (by decide) (cap := 4) (by decide) (by decide) (by decide) (by decide)
      obtain ⟨b706, g706⟩ : ∃ z, z = h0.size := ⟨_, rfl⟩
      rw [← g706] at A706 st706
      have sz706 : h0.size ≤ b706 := Nat.le_trans K0.1 (Nat.le_of_eq g706.symm)
      have ge706 : n0 ≤ b706 := Nat.le_trans (X00.1 ▸ X00.2.1) (Nat.le_of_eq g706.symm)
      have K706 : Keep h0 h706 [] := K0.ext E706
      have O706 : Old Z n0 h706 := X00.ext E706
      have V706 : Arv Z h706 b706 k706 .boolean 4 [(.int 0), (.int 0), (.int 0), (.int 0)] (.int 0) := (Arv.new A706 (by decide)).pad (pad_rep [] (.int 0) 4)
      refine Go.st st706 ?_
      show Go p.tables e below Kx _ (mkF m 79 _ [(.ref b706)])
      refine s_astore (pc' := 81) (Ls' := #[vi p0, vi p1, vi p2, vi p3, vi 4, vi rc, vi 1, vi 1, vi 1, vi 1, vr b706, un, un, un, un, un, un, un, un]) X706.here hx (hb hby at_79) rfl rfl rfl ?_
      refine s_iload (pc' := 83) X706.here hx (hb hby at_81) rfl rfl ?_
      refine s_iconst (pc' := 84) (v := 1) X706.here hx (hb hby at_83) rfl rfl ?_
      refine s_icmpN (pc' := 87) X706.here hx (hb hby at_84) rfl (flt (by decide)).1 ?_
      refine s_aload (pc' := 89) X706.here hx (hb hby at_87) rfl rfl rfl ?_
      refine s_iconst (pc' := 90) (v := 0) X706.here hx (hb hby at_89) rfl rfl ?_
      refine s_iload (pc' := 92) X706.here hx (hb hby at_90) rfl rfl ?_
      obtain ⟨cl707, Ar707, Aq707, As707, An707, Ah707, Ag707⟩ := id V706
      have in708 := inb_of (j := 0) As707 (by decide)
      obtain ⟨T708, h708, X708, e708, W708, st708⟩ := stZ X706 hx hZ e706 Ar707 (j := 0) in708 (g := (mkF m 92 #[vi p0, vi p1, vi p2, vi p3, vi 4, vi rc, vi 1, vi 1, vi 1, vi 1, vr b706, un, un, un, un, un, un, un, un] [(.int 1), (.int 0), (.ref b706)])) rfl rfl (hb hby at_92)
      have V708 : Arv Z h708 b706 k706 .boolean 4 [(.int 1), (.int 0), (.int 0), (.int 0)] (.int 0) := by
       have q := Arv.set Ar707 Aq707 As707 An707 Ah707 Ag707 (fits_nar_bool _) W708 0 rfl (Nat.le_of_ble_eq_true rfl)
       rw [show nar .boolean 1 = 1 from by decide] at q; exact q
      have K708 : Keep h0 h708 [] := K706.wr W708 (Or.inr sz706)
      have O708 : Old Z n0 h708 := O706.wr W708 ge706
      have N708 := Fr.snoc X708 N0 ge706
      refine Go.st st708 ?_
      show Go p.tables e below Kx _ (mkF m 93 _ [])
      refine s_iload (pc' := 95) X708.here hx (hb hby at_93) rfl rfl ?_
      refine s_iconst (pc' := 96) (v := 2) X708.here hx (hb hby at_95) rfl rfl ?_
      refine s_icmpN (pc' := 99) X708.here hx (hb hby at_96) rfl (flt (by decide)).1 ?_
      refine s_aload (pc' := 101) X708.here hx (hb hby at_99) rfl rfl rfl ?_
      refine s_iconst (pc' := 102) (v := 1) X708.here hx (hb hby at_101) rfl rfl ?_
      refine s_iload (pc' := 104) X708.here hx (hb hby at_102) rfl rfl ?_
      obtain ⟨cl709, Ar709, Aq709, As709, An709, Ah709, Ag709⟩ := id V708
      have in710 := inb_of (j := 1) As709 (by decide)
      obtain ⟨T710, h710, X710, e710, W710, st710⟩ := stZ X708 hx hZ e708 Ar709 (j := 1) in710 (g := (mkF m 104 #[vi p0, vi p1, vi p2, vi p3, vi 4, vi rc, vi 1, vi 1, vi 1, vi 1, vr b706, un, un, un, un, un, un, un, un] [(.int 1), (.int 1), (.ref b706)])) rfl rfl (hb hby at_104)
      have V710 : Arv Z h710 b706 k706 .boolean 4 [(.int 1), (.int 1), (.int 0), (.int 0)] (.int 0) := by
       have q := Arv.set Ar709 Aq709 As709 An709 Ah709 Ag709 (fits_nar_bool _) W710 1 rfl (Nat.le_of_ble_eq_true rfl)
       rw [show nar .boolean 1 = 1 from by decide] at q; exact q
      have K710 : Keep h0 h710 [] := K708.wr W710 (Or.inr sz706)
      have O710 : Old Z n0 h710 := O708.wr W710 ge706
      have N710 := Fr.snoc X710 N708 ge706
      refine Go.st st710 ?_
      show Go p.tables e below Kx _ (mkF m 105 _ [])
      refine s_iload (pc' := 107) X710.here hx (hb hby at_105) rfl rfl ?_
      refine s_iconst (pc' := 108) (v := 3) X710.here hx (hb hby at_107) rfl rfl ?_
      refine s_icmpN (pc' := 111) X710.here hx (hb hby at_108) rfl (flt (by decide)).1 ?_
      refine s_aload (pc' := 113) X710.here hx (hb hby at_111) rfl rfl rfl ?_
      refine s_iconst (pc' := 114) (v := 2) X710.here hx (hb hby at_113) rfl rfl ?_
      refine s_iload (pc' := 116) X710.here hx (hb hby at_114) rfl rfl ?_
      obtain ⟨cl711, Ar711, Aq711, As711, An711, Ah711, Ag711⟩ := id V710
      have in712 := inb_of (j := 2) As711 (by decide)
      obtain ⟨T712, h712, X712, e712, W712, st712⟩ := stZ X710 hx hZ e710 Ar711 (j := 2) in712 (g := (mkF m 116 #[vi p0, vi p1, vi p2, vi p3, vi 4, vi rc, vi 1, vi 1, vi 1, vi 1, vr b706, un, un, un, un, un, un, un, un] [(.int 1), (.int 2), (.ref b706)])) rfl rfl (hb hby at_116)
      have V712 : Arv Z h712 b706 k706 .boolean 4 [(.int 1), (.int 1), (.int 1), (.int 0)] (.int 0) := by
       have q := Arv.set Ar711 Aq711 As711 An711 Ah711 Ag711 (fits_nar_bool _) W712 2 rfl (Nat.le_of_ble_eq_true rfl)
       rw [show nar .boolean 1 = 1 from by decide] at q; exact q
      have K712 : Keep h0 h712 [] := K710.wr W712 (Or.inr sz706)
      have O712 : Old Z n0 h712 := O710.wr W712 ge706
      have N712 := Fr.snoc X712 N710 ge706
      refine Go.st st712 ?_
      show Go p.tables e below Kx _ (mkF m 117 _ [])
      refine s_iload (pc' := 119) X712.here hx (hb hby at_117) rfl rfl ?_
      refine s_iconst (pc' := 120) (v := 4) X712.here hx (hb hby at_119) rfl rfl ?_
      refine s_icmpN (pc' := 123) X712.here hx (hb hby at_120) rfl (flt (by decide)).1 ?_
      refine s_aload (pc' := 125) X712.here hx (hb hby at_123) rfl rfl rfl ?_
      refine s_iconst (pc' := 126) (v := 3) X712.here hx (hb hby at_125) rfl rfl ?_
      refine s_iload (pc' := 128) X712.here hx (hb hby at_126) rfl rfl ?_
      obtain ⟨cl713, Ar713, Aq713, As713, An713, Ah713, Ag713⟩ := id V712
      have in714 := inb_of (j := 3) As713 (by decide)
      obtain ⟨T714, h714, X714, e714, W714, st714⟩ := stZ X712 hx hZ e712 Ar713 (j := 3) in714 (g := (mkF m 128 #[vi p0, vi p1, vi p2, vi p3, vi 4, vi rc, vi 1, vi 1, vi 1, vi 1, vr b706, un, un, un, un, un, un, un, un] [(.int 1), (.int 3), (.ref b706)])) rfl rfl (hb hby at_128)
      have V714 : Arv Z h714 b706 k706 .boolean 4 [(.int 1), (.int 1), (.int 1), (.int 1)] (.int 0) := by
       have q := Arv.set Ar713 Aq713 As713 An713 Ah713 Ag713 (fits_nar_bool _) W714 3 rfl (Nat.le_of_ble_eq_true rfl)
       rw [show nar .boolean 1 = 1 from by decide] at q; exact q
      have K714 : Keep h0 h714 [] := K712.wr W714 (Or.inr sz706)
      have O714 : Old Z n0 h714 := O712.wr W714 ge706
      have N714 := Fr.snoc X714 N712 ge706
      refine Go.st st714 ?_
      show Go p.tables e below Kx _ (mkF m 129 _ [])
      obtain ⟨T715, h715, X715, e715, E715, A715, D715, -, st715⟩ := newO X714 hx hZ hown (hv hw 2 rfl) (hv hw 3 rfl) (hv hw 4 rfl) e714 (g := (mkF m 129 #[vi p0, vi p1, vi p2, vi p3, vi 4, vi rc, vi 1, vi 1, vi 1, vi 1, vr b706, un, un, un, un, un, un, un, un] [])) rfl (hb hby at_129) (by decide) (by decide)
      obtain ⟨b715, g715⟩ : ∃ z, z = h714.size := ⟨_, rfl⟩
      rw [← g715] at A715 D715 st715
      have sz715 : h0.size ≤ b715 := Nat.le_trans K714.1 (Nat.le_of_eq g715.symm)
      have ge715 : n0 ≤ b715 := Nat.le_trans (O714.1 ▸ O714.2.1) (Nat.le_of_eq g715.symm)
      have K715 : Keep h0 h715 [] := K714.ext E715
      have O715 : Old Z n0 h715 := O714.ext E715
      have F715_relevantWithin : Fld Z h715 b715 "com/example/kingfisher/kingfisher/eval/TopicRanking" "relevantWithin" "[I" .null := D715 (Or.inr (hv hw 13 rfl)) (ty := (.array .int)) (by decide)
      have F715_relevantCount : Fld Z h715 b715 "com/example/kingfisher/kingfisher/eval/TopicRanking" "relevantCount" "I" (.int 0) := D715 (Or.inr (hv hw 15 rfl)) (ty := .int) (by decide)
      refine Go.st st715 ?_
      show Go p.tables e below Kx _ (mkF m 132 _ [(.ref b715)])
      refine s_dup (pc' := 133) X715.here hx (hb hby at_132) rfl rfl ?_
      refine s_aload (pc' := 135) X715.here hx (hb hby at_133) rfl rfl rfl ?_
      refine s_iload (pc' := 137) X715.here hx (hb hby at_135) rfl rfl ?_
      have f716 : Arv Z h715 b706 k706 .boolean 4 [(.int 1), (.int 1), (.int 1), (.int 1)] (.int 0) := (V714.ext E715)
      obtain ⟨_, _, ⟨T717, L717, k717, n717⟩, -, X717, ⟨Lc717, hQ717, l717, y717, z717⟩, st717⟩ := X715.specialBack hx (y := yN0) rfl hown (mvT hZ (hv hw 5 rfl)) (mvT hZ (hv hw 6 rfl)) (mvT hZ (hv hw 7 rfl)) (by decide) (backOf (W := 1) (rmN4 l Z a0 hw [] b715 b706 k706 1 1 1 1 1 2 3 4 rc h715 n0 O715 ge715 (Nat.ne_of_lt (Nat.lt_of_lt_of_le (Nat.lt_of_lt_of_le A706.lt (Nat.le_trans (Nat.le_trans (Nat.le_trans (Nat.le_of_eq W708.size.symm) (Nat.le_of_eq W710.size.symm)) (Nat.le_of_eq W712.size.symm)) (Nat.le_of_eq W714.size.symm))) (Nat.le_of_eq g715.symm))) A715 F715_relevantWithin F715_relevantCount f716 (by decide) (by decide) (by decide) (by decide)) hZ (hv hw 7 rfl) (hv hw 4 rfl) (by decide) (by decide)) (g := (mkF m 137 #[vi p0, vi p1, vi p2, vi p3, vi 4, vi rc, vi 1, vi 1, vi 1, vi 1, vr b706, un, un, un, un, un, un, un, un] [(.int rc), (.ref b706), (.ref b715), (.ref b715)])) rfl (by rw [hml]; rfl) (Steps.refl _) (a := b715) (argsL := [(.ref b706), (.int rc)]) (rest := [(.ref b715)]) (lenOf pd_2 rfl) rfl (by exact Nat.le_of_eq rfl) (hb hby at_137) (fun _ _ => ⟨rfl, e715, (by decide : 2 + 1 ≤ _), (by decide : 6 + 5 ≤ _)⟩)
      dsimp only [Pt.U, Pt.locs, Pt.cells, Pt.slots] at X717 l717 y717 z717 st717 hQ717
      rw [l717, y717, z717] at X717
      obtain ⟨rfl, Nq717, Kq717, q1_717, q2_717, t717, kt717, q3_717, q4_717⟩ := hQ717
      have N717 := Fr.app N714 Nq717
      have K717 : Keep h0 T717.heap [] := K715.trans Kq717 (allS (P := fun zz => zz ∈ [] ∨ h0.size ≤ zz) (Or.inr sz715) all0)
      have O717 : Old Z n0 T717.heap := O715.keep Kq717 (allS ge715 all0)
      refine Go.tr st717 ?_
      show Go p.tables e below Kx _ (mkF m 140 _ [(.ref b715)])
      refine s_astore (pc' := 142) (Ls' := #[vi p0, vi p1, vi p2, vi p3, vi 4, vi rc, vi 1, vi 1, vi 1, vi 1, vr b706, vr b715, un, un, un, un, un, un, un]) X717.here hx (hb hby at_140) rfl rfl rfl ?_
      refine s_aload (pc' := 144) X717.here hx (hb hby at_142) rfl rfl rfl ?_
      refine s_iloadN (pc' := 145) X717.here hx (hb hby at_144) rfl rfl ?_
      obtain ⟨cq718, kq718, q718a, q718b, q718c⟩ := isOf hZ rfl q1_717
      obtain ⟨_, _, ⟨T718, L718, k718, n718⟩, -, X718, ⟨Lc718, hQ718, l718, y718, z718⟩, st718⟩ := X717.virtualBack hx (y := yN1) (z := yN1) hown (mvT hZ (hv hw 16 rfl)) (mvT hZ (hv hw 17 rfl)) (notFace_of_selects (args := #[]) (mvT hZ (hv hw 19 rfl))) (mvT hZ (hv hw 19 rfl)) (mvT hZ (hv hw 18 rfl)) (by decide) (backOf (W := 0) (rmA4 l Z a0 hw [] b715 t717 kt717 1 2 3 4 rc p2 T717.heap n0 O717 hrc q1_717 q3_717 q2_717 q4_717) hZ (hv hw 20 rfl) (hv hw 4 rfl) (by decide) (by decide)) q718a q718c (g := (mkF m 145 #[vi p0, vi p1, vi p2, vi p3, vi 4, vi rc, vi 1, vi 1, vi 1, vi 1, vr b706, vr b715, un, un, un, un, un, un, un] [(.int p2), (.ref b715)])) rfl (by rw [hml]; rfl) (Steps.refl _) (argsL := [(.int p2)]) (rest := []) (lenOf pd_3 rfl) rfl (by exact Nat.le_of_eq rfl) (hb hby at_145) (fun _ _ => ⟨rfl, rfl, (by decide : 3 + 0 ≤ _), (by decide : 11 + 0 ≤ _)⟩)
      dsimp only [Pt.U, Pt.locs, Pt.cells, Pt.slots] at X718 l718 y718 z718 st718 hQ718
      rw [l718, y718, z718] at X718
      obtain ⟨rfl, Nq718, hE718⟩ := hQ718
      have N718 := Fr.app N717 Nq718
      refine Go.tr st718 ?_
      show Go p.tables e below Kx _ (mkF m 148 _ [(.double (mst (mst (mst (mst FP.dconst0 1 1 (needd p2 rc)) 2 2 (needd p2 rc)) 3 3 (needd p2 rc)) 4 4 (needd p2 rc)))])
      refine s_dstore (pc' := 150) (Ls' := #[vi p0, vi p1, vi p2, vi p3, vi 4, vi rc, vi 1, vi 1, vi 1, vi 1, vr b706, vr b715, .val (.double (mst (mst (mst (mst FP.dconst0 1 1 (needd p2 rc)) 2 2 (needd p2 rc)) 3 3 (needd p2 rc)) 4 4 (needd p2 rc))), sn, un, un, un, un, un]) X718.here hx (hb hby at_148) rfl  rfl ?_
      refine s_iloadN (pc' := 151) X718.here hx (hb hby at_150) rfl rfl ?_
      refine s_i2d (pc' := 152) X718.here hx (hb hby at_151) rfl rfl ?_
      refine Go.st (X718.ldc2DoubleC hx hown (mvT hZ (hv hw 28 rfl)) (g := (mkF m 152 #[vi p0, vi p1, vi p2, vi p3, vi 4, vi rc, vi 1, vi 1, vi 1, vi 1, vr b706, vr b715, .val (.double (mst (mst (mst (mst FP.dconst0 1 1 (needd p2 rc)) 2 2 (needd p2 rc)) 3 3 (needd p2 rc)) 4 4 (needd p2 rc))), sn, un, un, un, un, un] [(.double (FP.i2d p2))])) rfl (hb hby at_152)) ?_
      show Go p.tables e below Kx _ (mkF m 155 _ [(.double (4621819117588971520 : UInt64)), (.double (FP.i2d p2))])
      refine s_ddiv (pc' := 156) X718.here hx (hb hby at_155) rfl (nn1 p2) rfl ?_
      refine s_iload (pc' := 158) X718.here hx (hb hby at_156) rfl rfl ?_
      refine s_i2d (pc' := 159) X718.here hx (hb hby at_158) rfl rfl ?_
      refine s_dmul (pc' := 160) X718.here hx (hb hby at_159) rfl (nn2 p2 hrc) rfl ?_
      refine Go.st (X718.ldc2DoubleC hx hown (mvT hZ (hv hw 29 rfl)) (g := (mkF m 160 #[vi p0, vi p1, vi p2, vi p3, vi 4, vi rc, vi 1, vi 1, vi 1, vi 1, vr b706, vr b715, .val (.double (mst (mst (mst (mst FP.dconst0 1 1 (needd p2 rc)) 2 2 (needd p2 rc)) 3 3 (needd p2 rc)) 4 4 (needd p2 rc))), sn, un, un, un, un, un] [(.double (FP.dmul (FP.ddiv (FP.i2d p2) (4621819117588971520 : UInt64)) (FP.i2d rc)))])) rfl (hb hby at_160)) ?_
      show Go p.tables e below Kx _ (mkF m 163 _ [(.double (4606281698874543309 : UInt64)), (.double (FP.dmul (FP.ddiv (FP.i2d p2) (4621819117588971520 : UInt64)) (FP.i2d rc)))])
      refine s_dadd (pc' := 164) X718.here hx (hb hby at_163) rfl (nn3 p2 hrc) rfl ?_
      refine s_d2l (pc' := 165) (z := needd p2 rc) X718.here hx (hb hby at_164) rfl rfl ?_
      show Go p.tables e below Kx _ (mkF m 165 _ [(.long (needd p2 rc))])
      generalize (needd p2 rc) = nd
      generalize hmm : (mst (mst (mst (mst FP.dconst0 1 1 nd) 2 2 nd) 3 3 nd) 4 4 nd) = mm
      show Go p.tables e below Kx _ (mkF m 165 _ [(.long nd)])
      refine s_lstore (pc' := 167) (Ls' := #[vi p0, vi p1, vi p2, vi p3, vi 4, vi rc, vi 1, vi 1, vi 1, vi 1, vr b706, vr b715, .val (.double mm), sn, .val (.long nd), sn, un, un, un]) X718.here hx (hb hby at_165) rfl  rfl ?_
      refine s_dconst0 (pc' := 168) X718.here hx (hb hby at_167) rfl rfl ?_
      refine s_dstore (pc' := 170) (Ls' := #[vi p0, vi p1, vi p2, vi p3, vi 4, vi rc, vi 1, vi 1, vi 1, vi 1, vr b706, vr b715, .val (.double mm), sn, .val (.long nd), sn, .val (.double FP.dconst0), sn, un]) X718.here hx (hb hby at_168) rfl  rfl ?_
      refine s_iconst (pc' := 171) (v := 0) X718.here hx (hb hby at_170) rfl rfl ?_
      refine s_istore (pc' := 173) (Ls' := #[vi p0, vi p1, vi p2, vi p3, vi 4, vi rc, vi 1, vi 1, vi 1, vi 1, vr b706, vr b715, .val (.double mm), sn, .val (.long nd), sn, .val (.double FP.dconst0), sn, vi 0]) X718.here hx (hb hby at_171) rfl  rfl ?_
      refine s_iload (pc' := 175) X718.here hx (hb hby at_173) rfl rfl ?_
      refine s_iconst (pc' := 176) (v := 1) X718.here hx (hb hby at_175) rfl rfl ?_
      refine s_icmpN (pc' := 179) X718.here hx (hb hby at_176) rfl (flt (by decide)).1 ?_
      refine s_iload (pc' := 181) X718.here hx (hb hby at_179) rfl rfl ?_
      refine s_ifN (pc' := 184) X718.here hx (hb hby at_181) rfl ((if0 _ _).trans (feq (by decide)).1) ?_
      refine s_iload (pc' := 186) X718.here hx (hb hby at_184) rfl rfl ?_
      refine s_iconst (pc' := 187) (v := 1) X718.here hx (hb hby at_186) rfl rfl ?_
      refine s_iadd (pc' := 188) (z := 1) X718.here hx (hb hby at_187) rfl (by decide) ?_
      refine s_istore (pc' := 190) (Ls' := #[vi p0, vi p1, vi p2, vi p3, vi 4, vi rc, vi 1, vi 1, vi 1, vi 1, vr b706, vr b715, .val (.double mm), sn, .val (.long nd), sn, .val (.double FP.dconst0), sn, vi 1]) X718.here hx (hb hby at_188) rfl  rfl ?_
      refine s_dload (pc' := 192) X718.here hx (hb hby at_190) rfl rfl ?_
      refine s_iload (pc' := 194) X718.here hx (hb hby at_192) rfl rfl ?_
      refine s_iconst (pc' := 195) (v := 1) X718.here hx (hb hby at_194) rfl rfl ?_
      refine s_lload (pc' := 197) X718.here hx (hb hby at_195) rfl rfl ?_
      obtain ⟨_, _, ⟨T719, L719, k719, n719⟩, -, X719, ⟨Lc719, hQ719, l719, y719, z719⟩, st719⟩ := Jvm.LawKit.callS X718 hx (y := yN3) hown (mvT hZ (hv hw 30 rfl)) (mvT hZ (hv hw 31 rfl)) (mvT hZ (hv hw 32 rfl)) (mvT hZ (hv hw 33 rfl)) (by decide) (backOf (W := 0) (rmB l Z a0 hw [] FP.dconst0 1 1 nd T717.heap n0 O717 (by decide)) hZ (hv hw 33 rfl) (hv hw 32 rfl) (by decide) (by decide)) (g := (mkF m 197 #[vi p0, vi p1, vi p2, vi p3, vi 4, vi rc, vi 1, vi 1, vi 1, vi 1, vr b706, vr b715, .val (.double mm), sn, .val (.long nd), sn, .val (.double FP.dconst0), sn, vi 1] [(.long nd), (.int 1), (.int 1), (.double FP.dconst0)])) rfl (by rw [hml]; rfl) (argsL := [(.double FP.dconst0), (.int 1), (.int 1), (.long nd)]) (rest := []) (lenOf pd_4 rfl) rfl (by exact Nat.le_of_eq rfl) (hb hby at_197) (fun _ _ => ⟨rfl, hE718, (by decide : 3 + 0 ≤ _), (by decide : 11 + 0 ≤ _)⟩)
      dsimp only [Pt.U, Pt.locs, Pt.cells, Pt.slots] at X719 l719 y719 z719 st719 hQ719
      rw [l719, y719, z719] at X719
      obtain ⟨rfl, Nq719, hE719⟩ := hQ719
      have N719 := Fr.app N718 Nq719
      refine Go.st st719 ?_
      show Go p.tables e below Kx _ (mkF m 200 _ [(.double (bst FP.dconst0 1 1 nd))])
      refine s_dstore (pc' := 202) (Ls' := #[vi p0, vi p1, vi p2, vi p3, vi 4, vi rc, vi 1, vi 1, vi 1, vi 1, vr b706, vr b715, .val (.double mm), sn, .val (.long nd), sn, .val (.double (bst FP.dconst0 1 1 nd)), sn, vi 1]) X719.here hx (hb hby at_200) rfl  rfl ?_
      refine s_iload (pc' := 204) X719.here hx (hb hby at_202) rfl rfl ?_
      refine s_iconst (pc' := 205) (v := 2) X719.here hx (hb hby at_204) rfl rfl ?_
      refine s_icmpN (pc' := 208) X719.here hx (hb hby at_205) rfl (flt (by decide)).1 ?_
      refine s_iload (pc' := 210) X719.here hx (hb hby at_208) rfl rfl ?_
      refine s_ifN (pc' := 213) X719.here hx (hb hby at_210) rfl ((if0 _ _).trans (feq (by decide)).1) ?_
      refine s_iload (pc' := 215) X719.here hx (hb hby at_213) rfl rfl ?_
      refine s_iconst (pc' := 216) (v := 1) X719.here hx (hb hby at_215) rfl rfl ?_
      refine s_iadd (pc' := 217) (z := 2) X719.here hx (hb hby at_216) rfl (by decide) ?_
      refine s_istore (pc' := 219) (Ls' := #[vi p0, vi p1, vi p2, vi p3, vi 4, vi rc, vi 1, vi 1, vi 1, vi 1, vr b706, vr b715, .val (.double mm), sn, .val (.long nd), sn, .val (.double (bst FP.dconst0 1 1 nd)), sn, vi 2]) X719.here hx (hb hby at_217) rfl  rfl ?_
      refine s_dload (pc' := 221) X719.here hx (hb hby at_219) rfl rfl ?_
      refine s_iload (pc' := 223) X719.here hx (hb hby at_221) rfl rfl ?_
      refine s_iconst (pc' := 224) (v := 2) X719.here hx (hb hby at_223) rfl rfl ?_
      refine s_lload (pc' := 226) X719.here hx (hb hby at_224) rfl rfl ?_
      obtain ⟨_, _, ⟨T720, L720, k720, n720⟩, -, X720, ⟨Lc720, hQ720, l720, y720, z720⟩, st720⟩ := Jvm.LawKit.callS X719 hx (y := yN3) hown (mvT hZ (hv hw 30 rfl)) (mvT hZ (hv hw 31 rfl)) (mvT hZ (hv hw 32 rfl)) (mvT hZ (hv hw 33 rfl)) (by decide) (backOf (W := 0) (rmB l Z a0 hw [] (bst FP.dconst0 1 1 nd) 2 2 nd T717.heap n0 O717 (by decide)) hZ (hv hw 33 rfl) (hv hw 32 rfl) (by decide) (by decide)) (g := (mkF m 226 #[vi p0, vi p1, vi p2, vi p3, vi 4, vi rc, vi 1, vi 1, vi 1, vi 1, vr b706, vr b715, .val (.double mm), sn, .val (.long nd), sn, .val (.double (bst FP.dconst0 1 1 nd)), sn, vi 2] [(.long nd), (.int 2), (.int 2), (.double (bst FP.dconst0 1 1 nd))])) rfl (by rw [hml]; rfl) (argsL := [(.double (bst FP.dconst0 1 1 nd)), (.int 2), (.int 2), (.long nd)]) (rest := []) (lenOf pd_4 rfl) rfl (by exact Nat.le_of_eq rfl) (hb hby at_226) (fun _ _ => ⟨rfl, hE719, (by decide : 3 + 0 ≤ _), (by decide : 11 + 0 ≤ _)⟩)
      dsimp only [Pt.U, Pt.locs, Pt.cells, Pt.slots] at X720 l720 y720 z720 st720 hQ720
      rw [l720, y720, z720] at X720
      obtain ⟨rfl, Nq720, hE720⟩ := hQ720
      have N720 := Fr.app N719 Nq720
      refine Go.st st720 ?_
      show Go p.tables e below Kx _ (mkF m 229 _ [(.double (bst (bst FP.dconst0 1 1 nd) 2 2 nd))])
      refine s_dstore (pc' := 231) (Ls' := #[vi p0, vi p1, vi p2, vi p3, vi 4, vi rc, vi 1, vi 1, vi 1, vi 1, vr b706, vr b715, .val (.double mm), sn, .val (.long nd), sn, .val (.double (bst (bst FP.dconst0 1 1 nd) 2 2 nd)), sn, vi 2]) X720.here hx (hb hby at_229) rfl  rfl ?_
      refine s_iload (pc' := 233) X720.here hx (hb hby at_231) rfl rfl ?_
      refine s_iconst (pc' := 234) (v := 3) X720.here hx (hb hby at_233) rfl rfl ?_
      refine s_icmpN (pc' := 237) X720.here hx (hb hby at_234) rfl (flt (by decide)).1 ?_
      refine s_iload (pc' := 239) X720.here hx (hb hby at_237) rfl rfl ?_
      refine s_ifN (pc' := 242) X720.here hx (hb hby at_239) rfl ((if0 _ _).trans (feq (by decide)).1) ?_
      refine s_iload (pc' := 244) X720.here hx (hb hby at_242) rfl rfl ?_
      refine s_iconst (pc' := 245) (v := 1) X720.here hx (hb hby at_244) rfl rfl ?_
      refine s_iadd (pc' := 246) (z := 3) X720.here hx (hb hby at_245) rfl (by decide) ?_
      refine s_istore (pc' := 248) (Ls' := #[vi p0, vi p1, vi p2, vi p3, vi 4, vi rc, vi 1, vi 1, vi 1, vi 1, vr b706, vr b715, .val (.double mm), sn, .val (.long nd), sn, .val (.double (bst (bst FP.dconst0 1 1 nd) 2 2 nd)), sn, vi 3]) X720.here hx (hb hby at_246) rfl  rfl ?_
      refine s_dload (pc' := 250) X720.here hx (hb hby at_248) rfl rfl ?_
      refine s_iload (pc' := 252) X720.here hx (hb hby at_250) rfl rfl ?_
      refine s_iconst (pc' := 253) (v := 3) X720.here hx (hb hby at_252) rfl rfl ?_
      refine s_lload (pc' := 255) X720.here hx (hb hby at_253) rfl rfl ?_
      obtain ⟨_, _, ⟨T721, L721, k721, n721⟩, -, X721, ⟨Lc721, hQ721, l721, y721, z721⟩, st721⟩ := Jvm.LawKit.callS X720 hx (y := yN3) hown (mvT hZ (hv hw 30 rfl)) (mvT hZ (hv hw 31 rfl)) (mvT hZ (hv hw 32 rfl)) (mvT hZ (hv hw 33 rfl)) (by decide) (backOf (W := 0) (rmB l Z a0 hw [] (bst (bst FP.dconst0 1 1 nd) 2 2 nd) 3 3 nd T717.heap n0 O717 (by decide)) hZ (hv hw 33 rfl) (hv hw 32 rfl) (by decide) (by decide)) (g := (mkF m 255 #[vi p0, vi p1, vi p2, vi p3, vi 4, vi rc, vi 1, vi 1, vi 1, vi 1, vr b706, vr b715, .val (.double mm), sn, .val (.long nd), sn, .val (.double (bst (bst FP.dconst0 1 1 nd) 2 2 nd)), sn, vi 3] [(.long nd), (.int 3), (.int 3), (.double (bst (bst FP.dconst0 1 1 nd) 2 2 nd))])) rfl (by rw [hml]; rfl) (argsL := [(.double (bst (bst FP.dconst0 1 1 nd) 2 2 nd)), (.int 3), (.int 3), (.long nd)]) (rest := []) (lenOf pd_4 rfl) rfl (by exact Nat.le_of_eq rfl) (hb hby at_255) (fun _ _ => ⟨rfl, hE720, (by decide : 3 + 0 ≤ _), (by decide : 11 + 0 ≤ _)⟩)
      dsimp only [Pt.U, Pt.locs, Pt.cells, Pt.slots] at X721 l721 y721 z721 st721 hQ721
      rw [l721, y721, z721] at X721
      obtain ⟨rfl, Nq721, hE721⟩ := hQ721
      have N721 := Fr.app N720 Nq721
      refine Go.st st721 ?_
      show Go p.tables e below Kx _ (mkF m 258 _ [(.double (bst (bst (bst FP.dconst0 1 1 nd) 2 2 nd) 3 3 nd))])
      refine s_dstore (pc' := 260) (Ls' := #[vi p0, vi p1, vi p2, vi p3, vi 4, vi rc, vi 1, vi 1, vi 1, vi 1, vr b706, vr b715, .val (.double mm), sn, .val (.long nd), sn, .val (.double (bst (bst (bst FP.dconst0 1 1 nd) 2 2 nd) 3 3 nd)), sn, vi 3]) X721.here hx (hb hby at_258) rfl  rfl ?_
      refine s_iload (pc' := 262) X721.here hx (hb hby at_260) rfl rfl ?_
      refine s_iconst (pc' := 263) (v := 4) X721.here hx (hb hby at_262) rfl rfl ?_
      refine s_icmpN (pc' := 266) X721.here hx (hb hby at_263) rfl (flt (by decide)).1 ?_
      refine s_iload (pc' := 268) X721.here hx (hb hby at_266) rfl rfl ?_
      refine s_ifN (pc' := 271) X721.here hx (hb hby at_268) rfl ((if0 _ _).trans (feq (by decide)).1) ?_
      refine s_iload (pc' := 273) X721.here hx (hb hby at_271) rfl rfl ?_
      refine s_iconst (pc' := 274) (v := 1) X721.here hx (hb hby at_273) rfl rfl ?_
      refine s_iadd (pc' := 275) (z := 4) X721.here hx (hb hby at_274) rfl (by decide) ?_
      refine s_istore (pc' := 277) (Ls' := #[vi p0, vi p1, vi p2, vi p3, vi 4, vi rc, vi 1, vi 1, vi 1, vi 1, vr b706, vr b715, .val (.double mm), sn, .val (.long nd), sn, .val (.double (bst (bst (bst FP.dconst0 1 1 nd) 2 2 nd) 3 3 nd)), sn, vi 4]) X721.here hx (hb hby at_275) rfl  rfl ?_
      refine s_dload (pc' := 279) X721.here hx (hb hby at_277) rfl rfl ?_
      refine s_iload (pc' := 281) X721.here hx (hb hby at_279) rfl rfl ?_
      refine s_iconst (pc' := 282) (v := 4) X721.here hx (hb hby at_281) rfl rfl ?_
      refine s_lload (pc' := 284) X721.here hx (hb hby at_282) rfl rfl ?_
      obtain ⟨_, _, ⟨T722, L722, k722, n722⟩, -, X722, ⟨Lc722, hQ722, l722, y722, z722⟩, st722⟩ := Jvm.LawKit.callS X721 hx (y := yN3) hown (mvT hZ (hv hw 30 rfl)) (mvT hZ (hv hw 31 rfl)) (mvT hZ (hv hw 32 rfl)) (mvT hZ (hv hw 33 rfl)) (by decide) (backOf (W := 0) (rmB l Z a0 hw [] (bst (bst (bst FP.dconst0 1 1 nd) 2 2 nd) 3 3 nd) 4 4 nd T717.heap n0 O717 (by decide)) hZ (hv hw 33 rfl) (hv hw 32 rfl) (by decide) (by decide)) (g := (mkF m 284 #[vi p0, vi p1, vi p2, vi p3, vi 4, vi rc, vi 1, vi 1, vi 1, vi 1, vr b706, vr b715, .val (.double mm), sn, .val (.long nd), sn, .val (.double (bst (bst (bst FP.dconst0 1 1 nd) 2 2 nd) 3 3 nd)), sn, vi 4] [(.long nd), (.int 4), (.int 4), (.double (bst (bst (bst FP.dconst0 1 1 nd) 2 2 nd) 3 3 nd))])) rfl (by rw [hml]; rfl) (argsL := [(.double (bst (bst (bst FP.dconst0 1 1 nd) 2 2 nd) 3 3 nd)), (.int 4), (.int 4), (.long nd)]) (rest := []) (lenOf pd_4 rfl) rfl (by exact Nat.le_of_eq rfl) (hb hby at_284) (fun _ _ => ⟨rfl, hE721, (by decide : 3 + 0 ≤ _), (by decide : 11 + 0 ≤ _)⟩)
      dsimp only [Pt.U, Pt.locs, Pt.cells, Pt.slots] at X722 l722 y722 z722 st722 hQ722
      rw [l722, y722, z722] at X722
      obtain ⟨rfl, Nq722, hE722⟩ := hQ722
      have N722 := Fr.app N721 Nq722
      refine Go.st st722 ?_
      show Go p.tables e below Kx _ (mkF m 287 _ [(.double (bst (bst (bst (bst FP.dconst0 1 1 nd) 2 2 nd) 3 3 nd) 4 4 nd))])
      refine s_dstore (pc' := 289) (Ls' := #[vi p0, vi p1, vi p2, vi p3, vi 4, vi rc, vi 1, vi 1, vi 1, vi 1, vr b706, vr b715, .val (.double mm), sn, .val (.long nd), sn, .val (.double (bst (bst (bst (bst FP.dconst0 1 1 nd) 2 2 nd) 3 3 nd) 4 4 nd)), sn, vi 4]) X722.here hx (hb hby at_287) rfl  rfl ?_
      refine s_dload (pc' := 291) X722.here hx (hb hby at_289) rfl rfl ?_
      refine s_dload (pc' := 293) X722.here hx (hb hby at_291) rfl rfl ?_
      refine s_dcmpl (pc' := 294) (z := 0) X722.here hx (hb hby at_293) rfl (by rw [← hmm]; exact fin_41111 nd) ?_
      refine s_ifN (pc' := 297) X722.here hx (hb hby at_294) rfl ((if0 _ _).trans (teq (by decide)).2) ?_
      refine s_iconst (pc' := 298) (v := 1) X722.here hx (hb hby at_297) rfl rfl ?_
      refine s_goto (pc' := 302) X722.here hx (hb hby at_298) (by decide) (by decide) ?_
      obtain ⟨fs, hr, hrun, hended, hW, hsame⟩ := X722.leave (v := (some (.int 1))) (fun h => by rw [Bd.returns] at h; cases h)
      refine Go.fin (retN X722 hx (t := .boolean) Bd.returns (by simp) (hb hby at_302) hr) (hF _ _ hrun hended ⟨_, _, rfl, ?_, ⟨_, rfl⟩, hW, hsame.mono (by decide) (by decide)⟩)
      ·
       show QL Z p0 p1 p2 p3 h0 n0 ((some (.int 1)) : Option Value) T722.heap _
       rw [hE722]
       exact ⟨rfl, N722⟩
set_option maxRecDepth 65536 in
set_option maxHeartbeats 40000000 in
theorem comes_1 {Post : Tables → Env → Array Value → State → Outcome → State → Prop} (hpost : ∀ tb e args s v u, (limb_1_1.after args s (.returned v) u = true ∧ limb_1_2.after args s (.returned v) u = true ∧ True) → FrameEnd s (.returned v) u (Jvm.fieldLocs frame_1_writes args s ++ Jvm.arrayLocs frame_1_arrays args s ++ Jvm.staticLocs frame_1_statics s) 16 128 → Post tb e args s (.returned v) u) :
    ArmFor flags0 classFile x code maxLocals ret World_1 tables_1 room_1 Calls_1 rest_1 Pre_1 Post := by
  intro l hfl _ _ p e ha hc hk s m args below hf hA hF happ hP
  obtain ⟨hcalls, hrest, hpre⟩ := hP
  obtain ⟨-, -, -, hnamed, -, -, -, hat⟩ := (Spec.applies_iff hf).mp happ
  obtain ⟨hg, hn⟩ := and_e (Cond.before_iff.mp (show (Jvm.Cond.and given_1 narrow_1).before args s = true from hpre))
  obtain ⟨hcount, hgs⟩ := and_e hg
  obtain ⟨hi0, hgs'⟩ := and_e hgs
  obtain ⟨hi1, hgs''⟩ := and_e hgs'
  obtain ⟨hi2, hgs'''⟩ := and_e hgs''
  have hi3 := hgs'''
  obtain ⟨w0, w1, w2, w3, rfl⟩ : ∃ w0 w1 w2 w3 : Value, args = #[w0, w1, w2, w3] := by
    have hs : args.size = 4 := by simpa [Cond.value, given_1] using hcount
    obtain ⟨L⟩ := args
    match L, hs with
    | [w0, w1, w2, w3], _ => exact ⟨w0, w1, w2, w3, rfl⟩
  have hw := fun d (hd : d ∈ tables_1) => atoms_spec (ws := Jvm.Cond.code x code maxLocals ret :: tables_1) hat d (List.mem_cons_of_mem _ hd)
  have hfit : Fit s := fun {y c} hc i hi => by
    obtain ⟨ha, rfl⟩ := Array.getElem?_eq_some_iff.mp hc
    have q := List.all_eq_true.mp ((Array.all_eq_true_iff_forall_mem.mp hF) _ (Array.getElem_mem ha)) i (List.mem_range.mpr hi)
    simpa [Array.getElem?_eq_getElem hi] using q
  obtain ⟨i0, ei0⟩ := is_v hi0
  obtain rfl : w0 = (.int i0) := Option.some.inj ei0
  obtain ⟨i1, ei1⟩ := is_v hi1
  obtain rfl : w1 = (.int i1) := Option.some.inj ei1
  obtain ⟨i2, ei2⟩ := is_v hi2
  obtain rfl : w2 = (.int i2) := Option.some.inj ei2
  obtain ⟨i3, ei3⟩ := is_v hi3
  obtain rfl : w3 = (.int i3) := Option.some.inj ei3
  obtain ⟨n, o, h1, h2, h3, _, L, rfl, ⟨rfl, N⟩, hq⟩ := rmL l s _ hw tables_1 i0 i1 i2 i3 s.heap s.heap.size (Old.start s) p e ha hc hk s m _ below hf ((Spec.applies_iff_loose hf).mp happ).1 ⟨rfl, State.Warmed39.refl s, rfl⟩ trivial
  refine ⟨n, _, h1, h2, h3, hpost _ _ _ _ _ _ ⟨Cond.after_iff.mpr rfl, Cond.after_iff.mpr (eq_i res_at (Term.int_eval (1)) rfl), trivial⟩ ⟨hq.1, hq.2.1, (hq.2.2.sift fun y hy => Or.inr (N y hy)).mono (by decide) (by decide)⟩⟩
theorem main_1_1 : Claimed_1_1 := comes_1 fun _ _ _ _ _ _ h hF => ⟨h.1, hF⟩
theorem main_1_2 : Claimed_1_2 := comes_1 fun _ _ _ _ _ _ h hF => ⟨h.2.1, hF⟩
end Jvm.Pilot.@@N@@
namespace Jvm.Pilot.@@N@@
open Jvm Jvm.ClassFile Sem Op Lib Jvm.Free Jvm.Stand Jvm.Pilot.@@N@@.Jvm.D
/-! MADE BY PROGRAM (witnessworld.py) out of the Statement's table words and the real class files: 12 classes; the members and pool entries that the words name. The judged class is class 1, her method 1. -/
namespace start1
open Jvm.ClassFile
def u (s : String) : CpInfo := .utf8 (stringToUtf16 s)
/-- a pool by its gaps: so many unusable entries, then the entry; so many at the end -/
def gap : Nat → List CpInfo → List CpInfo
  | 0, r => r
  | n + 1, r => .unusable :: gap n r
def poolList (es : List (Nat × CpInfo)) (last : Nat) : List CpInfo := es.foldr (fun e r => gap e.1 (e.2 :: r)) (gap last [])
def pool (es : List (Nat × CpInfo)) (last : Nat) : Array CpInfo := ⟨poolList es last⟩
def fileOf (pool : Array CpInfo) (this : Nat) (attrs : Array Attribute := #[]) (ms : Array MethodInfo := #[]) (fl : Nat := 33) (sup : Nat := 0) (ifs : Array Nat := #[]) (fds : Array FieldInfo := #[]) : ClassFile where
  minorVersion := 0
  majorVersion := 65
  constantPool := pool
  accessFlags := fl
  thisClass := this
  superClass := sup
  interfaces := ifs
  fields := fds
  methods := ms
  attributes := attrs
def plain (name : String) (sup : Option ClassId) : Class where
  name := name
  kind := .ordinary
  loader := none
  accessFlags := 33
  super := sup
  interfaces := #[]
  cf := none
  fields := #[]
  methods := #[]
  instanceTypes := #[]
  staticTypes := #[]
  resolved := #[]
  callSites := []
  init := .initialized
  statics := none
  mirror := none

def pool0 : Array CpInfo := pool [(5, u "<init>"), (0, u "()V"), (1, .class_ 10), (1, u "java/lang/Object")] 113

def k0c0 : Code := { maxStack := 0, maxLocals := 1, code := object_method_1_code, exceptionTable := #[], attributes := #[] }
def k0m0 : Method := { name := "<init>", desc := "()V", sig := { parameters := [], returnType := none }, accessFlags := 1, code := some k0c0 }
/-- java/lang/Object -/
def k0 : Class := { plain "java/lang/Object" none with
  accessFlags := 33
  interfaces := #[]
  cf := some (fileOf pool0 8 #[] #[{ accessFlags := 1, nameIndex := 5, descriptorIndex := 6, attributes := #[] }] 33 0 #[] #[])
  fields := #[]
  methods := #[k0m0]
  instanceTypes := #[]
  staticTypes := #[]
  resolved := Array.replicate 124 none
  statics := none }

def pool1 : Array CpInfo := pool [(2, .class_ 4), (1, u "java/lang/Object"), (0, u "<init>"), (0, u "()V"), (0, .integer 2147483647), (0, .class_ 9), (0, u "com/example/kingfisher/kingfisher/eval/TopicRanking"), (0, .methodref 8 11), (0, .nameAndType 5 12), (0, u "([ZI)V"), (0, .methodref 8 14), (0, .nameAndType 15 16), (0, u "interpolatedPrecision"), (0, u "(I)D"), (0, .double 4621819117588971520), (1, .double 4606281698874543309), (1, .methodref 22 23), (0, .class_ 24), (0, .nameAndType 25 26), (0, u "com/example/kingfisher/kingfisher/eval/TopicRankingInterpolatedPrecisionPinLaw"), (0, u "better"), (0, u "(DIIJ)D"), (2, u "law"), (0, u "(IIII)Z")] 5

def k1m0 : Method := { name := "<init>", desc := "()V", sig := { parameters := [], returnType := none }, accessFlags := 1, code := none }
def k1c1 : Code := { maxStack := 6, maxLocals := 19, code := code, exceptionTable := #[], attributes := #[] }
def k1m1 : Method := { name := "law", desc := "(IIII)Z", sig := { parameters := [.int, .int, .int, .int], returnType := some .boolean }, accessFlags := 9, code := some k1c1 }
def k1c2 : Code := { maxStack := 4, maxLocals := 8, code := method_3_code, exceptionTable := #[], attributes := #[] }
def k1m2 : Method := { name := "better", desc := "(DIIJ)D", sig := { parameters := [.double, .int, .int, .long], returnType := some .double }, accessFlags := 10, code := some k1c2 }
/-- com/example/kingfisher/kingfisher/eval/TopicRankingInterpolatedPrecisionPinLaw -/
def k1 : Class := { plain "com/example/kingfisher/kingfisher/eval/TopicRankingInterpolatedPrecisionPinLaw" (some 0) with
  accessFlags := 49
  interfaces := #[]
  cf := some (fileOf pool1 22 #[] #[{ accessFlags := 1, nameIndex := 5, descriptorIndex := 6, attributes := #[] }, { accessFlags := 9, nameIndex := 29, descriptorIndex := 30, attributes := #[] }, { accessFlags := 10, nameIndex := 25, descriptorIndex := 26, attributes := #[] }] 49 2 #[] #[])
  fields := #[]
  methods := #[k1m0, k1m1, k1m2]
  instanceTypes := #[]
  staticTypes := #[]
  resolved := Array.replicate 36 none
  statics := none }

def pool2 : Array CpInfo := pool [(1, .methodref 2 3), (0, .class_ 4), (0, .nameAndType 5 6), (0, u "java/lang/Object"), (0, u "<init>"), (0, u "()V"), (0, .fieldref 8 9), (0, .class_ 10), (0, .nameAndType 11 12), (0, u "com/example/kingfisher/kingfisher/eval/TopicRanking"), (0, u "relevantWithin"), (0, u "[I"), (0, .fieldref 8 14), (0, .nameAndType 15 16), (0, u "relevantCount"), (0, u "I"), (0, .methodref 8 18), (0, .nameAndType 19 20), (0, u "retrieved"), (0, u "()I"), (1, .class_ 24), (1, u "java/lang/Math"), (2, .double 4621819117588971520), (1, .double 4606281698874543309), (1, .methodref 22 32), (0, .nameAndType 33 34), (0, u "max"), (0, u "(DD)D"), (0, u "([ZI)V"), (11, u "(I)D"), (1, u "interpolatedPrecision")] 2

def k2c0 : Code := { maxStack := 6, maxLocals := 4, code := prog_21_method_1_code, exceptionTable := #[], attributes := #[] }
def k2m0 : Method := { name := "<init>", desc := "([ZI)V", sig := { parameters := [(.array .boolean), .int], returnType := none }, accessFlags := 0, code := some k2c0 }
def k2c1 : Code := { maxStack := 2, maxLocals := 1, code := prog_21_method_2_code, exceptionTable := #[], attributes := #[] }
def k2m1 : Method := { name := "retrieved", desc := "()I", sig := { parameters := [], returnType := some .int }, accessFlags := 0, code := some k2c1 }
def k2c2 : Code := { maxStack := 6, maxLocals := 7, code := prog_21_method_8_code, exceptionTable := #[], attributes := #[] }
def k2m2 : Method := { name := "interpolatedPrecision", desc := "(I)D", sig := { parameters := [.int], returnType := some .double }, accessFlags := 0, code := some k2c2 }
/-- com/example/kingfisher/kingfisher/eval/TopicRanking -/
def k2 : Class := { plain "com/example/kingfisher/kingfisher/eval/TopicRanking" (some 0) with
  accessFlags := 32
  interfaces := #[]
  cf := some (fileOf pool2 8 #[] #[{ accessFlags := 0, nameIndex := 5, descriptorIndex := 35, attributes := #[] }, { accessFlags := 0, nameIndex := 19, descriptorIndex := 20, attributes := #[] }, { accessFlags := 0, nameIndex := 49, descriptorIndex := 47, attributes := #[] }] 32 2 #[] #[{ accessFlags := 18, nameIndex := 11, descriptorIndex := 12, attributes := #[] }, { accessFlags := 18, nameIndex := 15, descriptorIndex := 16, attributes := #[] }])
  fields := #[{ name := "relevantWithin", type := (.array .int), accessFlags := 18, slot := 0, constantValue := 0 }, { name := "relevantCount", type := .int, accessFlags := 18, slot := 1, constantValue := 0 }]
  methods := #[k2m0, k2m1, k2m2]
  instanceTypes := #[(.array .int), .int]
  staticTypes := #[]
  resolved := Array.replicate 52 none
  statics := none }

def pool3 : Array CpInfo := pool [(1, .class_ 2), (0, u "java/lang/Math"), (1, .class_ 6), (1, u "java/lang/Object"), (0, u "<init>"), (0, u "()V"), (43, u "(DD)D"), (45, .class_ 100), (1, u "java/lang/Math$RandomNumberGeneratorHolder"), (71, u "negativeZeroFloatBits"), (0, u "J"), (2, u "negativeZeroDoubleBits"), (21, u "max"), (46, u "$assertionsDisabled"), (0, u "Z"), (91, u "twoToTheDoubleScaleDown"), (0, u "D"), (4, u "twoToTheDoubleScaleUp"), (9, u "E"), (3, u "PI"), (2, u "TAU"), (2, u "DEGREES_TO_RADIANS"), (0, u "RADIANS_TO_DEGREES")] 94

def k3m0 : Method := { name := "<init>", desc := "()V", sig := { parameters := [], returnType := none }, accessFlags := 2, code := none }
def k3c1 : Code := { maxStack := 4, maxLocals := 4, code := jdk_29_method_68_code, exceptionTable := #[], attributes := #[] }
def k3m1 : Method := { name := "max", desc := "(DD)D", sig := { parameters := [.double, .double], returnType := some .double }, accessFlags := 9, code := some k3c1 }
/-- java/lang/Math -/
def k3 : Class := { plain "java/lang/Math" (some 0) with
  accessFlags := 49
  interfaces := #[]
  cf := some (fileOf pool3 1 #[.nestMembers #[98]] #[{ accessFlags := 2, nameIndex := 7, descriptorIndex := 8, attributes := #[] }, { accessFlags := 9, nameIndex := 198, descriptorIndex := 52, attributes := #[] }] 49 4 #[] #[{ accessFlags := 25, nameIndex := 354, descriptorIndex := 339, attributes := #[] }, { accessFlags := 25, nameIndex := 358, descriptorIndex := 339, attributes := #[] }, { accessFlags := 25, nameIndex := 361, descriptorIndex := 339, attributes := #[] }, { accessFlags := 26, nameIndex := 364, descriptorIndex := 339, attributes := #[] }, { accessFlags := 26, nameIndex := 365, descriptorIndex := 339, attributes := #[] }, { accessFlags := 26, nameIndex := 172, descriptorIndex := 173, attributes := #[] }, { accessFlags := 26, nameIndex := 176, descriptorIndex := 173, attributes := #[] }, { accessFlags := 8, nameIndex := 344, descriptorIndex := 339, attributes := #[] }, { accessFlags := 8, nameIndex := 338, descriptorIndex := 339, attributes := #[] }, { accessFlags := 4120, nameIndex := 245, descriptorIndex := 246, attributes := #[] }])
  fields := #[{ name := "E", type := .double, accessFlags := 25, slot := 0, constantValue := 0 }, { name := "PI", type := .double, accessFlags := 25, slot := 1, constantValue := 0 }, { name := "TAU", type := .double, accessFlags := 25, slot := 2, constantValue := 0 }, { name := "DEGREES_TO_RADIANS", type := .double, accessFlags := 26, slot := 3, constantValue := 0 }, { name := "RADIANS_TO_DEGREES", type := .double, accessFlags := 26, slot := 4, constantValue := 0 }, { name := "negativeZeroFloatBits", type := .long, accessFlags := 26, slot := 5, constantValue := 0 }, { name := "negativeZeroDoubleBits", type := .long, accessFlags := 26, slot := 6, constantValue := 0 }, { name := "twoToTheDoubleScaleUp", type := .double, accessFlags := 8, slot := 7, constantValue := 0 }, { name := "twoToTheDoubleScaleDown", type := .double, accessFlags := 8, slot := 8, constantValue := 0 }, { name := "$assertionsDisabled", type := .boolean, accessFlags := 4120, slot := 9, constantValue := 0 }]
  methods := #[k3m0, k3m1]
  instanceTypes := #[]
  staticTypes := #[.double, .double, .double, .double, .double, .long, .long, .double, .double, .boolean]
  resolved := Array.replicate 460 none
  statics := none }

def pool4 : Array CpInfo := pool [(1, u "java/lang/Cloneable"), (0, .class_ 1), (0, u "java/lang/Object"), (0, .class_ 3)] 3

/-- java/lang/Cloneable -/
def k4 : Class := { plain "java/lang/Cloneable" (some 0) with
  accessFlags := 1537
  interfaces := #[]
  cf := some (fileOf pool4 2 #[] #[] 1537 4 #[] #[])
  fields := #[]
  methods := #[]
  instanceTypes := #[]
  staticTypes := #[]
  resolved := Array.replicate 8 none
  statics := none }

def pool5 : Array CpInfo := pool [(1, u "java/io/Serializable"), (0, .class_ 1), (0, u "java/lang/Object"), (0, .class_ 3)] 3

/-- java/io/Serializable -/
def k5 : Class := { plain "java/io/Serializable" (some 0) with
  accessFlags := 1537
  interfaces := #[]
  cf := some (fileOf pool5 2 #[] #[] 1537 4 #[] #[])
  fields := #[]
  methods := #[]
  instanceTypes := #[]
  staticTypes := #[]
  resolved := Array.replicate 8 none
  statics := none }

/-- the primitive boolean -/
def k6 : Class := { plain "boolean" none with kind := .primitive 'Z', accessFlags := 0x411 }
/-- [Z -/
def k7 : Class := { plain "[Z" (some 0) with kind := .array 6 .boolean, interfaces := #[4, 5], accessFlags := 1041 }

/-- the primitive byte -/
def k8 : Class := { plain "byte" none with kind := .primitive 'B', accessFlags := 0x411 }
/-- [B -/
def k9 : Class := { plain "[B" (some 0) with kind := .array 8 .byte, interfaces := #[4, 5], accessFlags := 1041 }

/-- the primitive int -/
def k10 : Class := { plain "int" none with kind := .primitive 'I', accessFlags := 0x411 }
/-- [I -/
def k11 : Class := { plain "[I" (some 0) with kind := .array 10 .int, interfaces := #[4, 5], accessFlags := 1041 }

def heap : Heap := #[]
def classes : Array Class := #[k0, k1, k2, k3, k4, k5, k6, k7, k8, k9, k10, k11]
def interned : List (Array UInt16 × Addr) := []
def slotsUsed : Nat := 0
def theMethod : MethodId := ⟨1, 1⟩
def args0 : Array Value := #[.int 5, .int 7, .int 3, .int 2]
def aboutOver (below : List Frame) : State where
  vm := { classes := classes, interned := interned.toArray }
  heap := heap
  slotsUsed := slotsUsed
  threads := #[{ frames := .invoking theMethod args0 :: below }]
def below0 : List Frame := [.native { method := ⟨0, 0⟩, args := #[] }]
def about1 : State := aboutOver below0
def p0 : Program := .bare "" "" ""
def e0 : Env := launch0.env 0 0 0
theorem w_frames : about1.frames = Frame.invoking theMethod args0 :: below0 := rfl
set_option maxRecDepth 65536 in
theorem w_args : argsFit about1.vm theMethod args0 = true := by decide +kernel
set_option maxRecDepth 65536 in
theorem w_heap : heapFits about1 = true := by decide +kernel
set_option maxRecDepth 65536 in
theorem w_runnable : about1.curStatus? = some .runnable := by decide +kernel
set_option maxRecDepth 65536 in
theorem w_alone : about1.alone = true := by decide +kernel
set_option maxRecDepth 65536 in
theorem w_named : about1.methodNamed? x = some theMethod := by decide +kernel
set_option maxRecDepth 65536 in
theorem w_hears : about1.hears theMethod below0 = true := by decide +kernel
set_option maxRecDepth 65536 in
theorem w_ripe : about1.ripe theMethod args0 below0 = true := by decide +kernel
theorem w_running : about1.status = .running := rfl
set_option maxRecDepth 65536 in
theorem w_room : about1.hasRoom e0.platform room_1 = true :=
  launch0.hasRoom_least _ room_1 (by decide +kernel) (by decide +kernel) (by decide +kernel) (by decide +kernel) (by decide +kernel) (by decide +kernel)
theorem allAtoms_all (ts : List Jvm.Cond) (a : Array Jvm.Value) (st : Jvm.State) : (allAtoms ts).before a st = ts.all (fun c => c.before a st) := by
  induction ts with
  | nil => rfl
  | cons c t ih =>
    show (Jvm.Cond.and c (allAtoms t)).before a st = _
    rw [Jvm.Cond.before_and, ih, List.all_cons]
def words1 : List Jvm.Cond := Jvm.Cond.code x code maxLocals ret :: tables_1
/-- a 'code' word, met by the world's own term for the bytes: nothing is compared byte by byte -/
theorem code_word {y : MethodName} {bytes : ByteArray} {mx : Nat} {rt : Option FieldType} {a : Array Value} {s : State} {m : MethodId} {meth : Method} {c : Code} (h1 : s.methodNamed? y = some m) (h2 : s.vm.method? m = some meth) (h3 : meth.code = some c) (h4 : c.code = bytes)
    (h5 : (c.maxLocals == mx && c.exceptionTable.isEmpty && decide (c.maxStack ≤ mostOperands) && decide (meth.sig.returnType = rt) && !meth.locks && decide (parseMethodDescriptor y.desc = some meth.sig)) = true) : (Jvm.Cond.code y bytes mx rt).before a s = true := by
  simp only [Bool.and_eq_true, beq_iff_eq, Bool.not_eq_true', decide_eq_true_eq] at h5
  obtain ⟨⟨⟨⟨⟨g1, g2⟩, g3⟩, g4⟩, g5⟩, g6⟩ := h5
  simp [Cond.before, Cond.holds, Cond.value, h1, h2, h3, h4, g1, g2, g3, g4, g5, g6]
def isCode : Jvm.Cond → Bool
  | .code _ _ _ _ => true
  | _ => false
theorem all_split {L : List Jvm.Cond} {P : Jvm.Cond → Bool} (h1 : L.all (fun c => isCode c || P c) = true) (h2 : ∀ c ∈ L.filter isCode, P c = true) : L.all P = true := by
  refine List.all_eq_true.mpr fun c hc => ?_
  have h := List.all_eq_true.mp h1 c hc
  rcases Bool.eq_false_or_eq_true (isCode c) with hi | hi
  · exact h2 c (List.mem_filter.mpr ⟨hc, hi⟩)
  · simpa [hi] using h
set_option maxRecDepth 65536 in
theorem w_c0 : (Jvm.Cond.code x code maxLocals ret).before args0 about1 = true := code_word (m := ⟨1, 1⟩) (meth := k1m1) (c := k1c1) (by decide +kernel) rfl rfl rfl (by decide +kernel)
set_option maxRecDepth 65536 in
theorem w_c1 : (Jvm.Cond.code ({ cls := "com/example/kingfisher/kingfisher/eval/TopicRanking", name := "<init>", desc := "([ZI)V" } : Jvm.MethodName) prog_21_method_1_code (4 : Nat) (Option.none : Option Jvm.ClassFile.FieldType)).before args0 about1 = true := code_word (m := ⟨2, 0⟩) (meth := k2m0) (c := k2c0) (by decide +kernel) rfl rfl rfl (by decide +kernel)
set_option maxRecDepth 65536 in
theorem w_c2 : (Jvm.Cond.code ({ cls := "java/lang/Object", name := "<init>", desc := "()V" } : Jvm.MethodName) object_method_1_code (1 : Nat) (Option.none : Option Jvm.ClassFile.FieldType)).before args0 about1 = true := code_word (m := ⟨0, 0⟩) (meth := k0m0) (c := k0c0) (by decide +kernel) rfl rfl rfl (by decide +kernel)
set_option maxRecDepth 65536 in
theorem w_c3 : (Jvm.Cond.code ({ cls := "com/example/kingfisher/kingfisher/eval/TopicRanking", name := "interpolatedPrecision", desc := "(I)D" } : Jvm.MethodName) prog_21_method_8_code (7 : Nat) (Option.some Jvm.ClassFile.FieldType.double)).before args0 about1 = true := code_word (m := ⟨2, 2⟩) (meth := k2m2) (c := k2c2) (by decide +kernel) rfl rfl rfl (by decide +kernel)
set_option maxRecDepth 65536 in
theorem w_c4 : (Jvm.Cond.code ({ cls := "com/example/kingfisher/kingfisher/eval/TopicRanking", name := "retrieved", desc := "()I" } : Jvm.MethodName) prog_21_method_2_code (1 : Nat) (Option.some Jvm.ClassFile.FieldType.int)).before args0 about1 = true := code_word (m := ⟨2, 1⟩) (meth := k2m1) (c := k2c1) (by decide +kernel) rfl rfl rfl (by decide +kernel)
set_option maxRecDepth 65536 in
theorem w_c5 : (Jvm.Cond.code ({ cls := "com/example/kingfisher/kingfisher/eval/TopicRankingInterpolatedPrecisionPinLaw", name := "better", desc := "(DIIJ)D" } : Jvm.MethodName) method_3_code (8 : Nat) (Option.some Jvm.ClassFile.FieldType.double)).before args0 about1 = true := code_word (m := ⟨1, 2⟩) (meth := k1m2) (c := k1c2) (by decide +kernel) rfl rfl rfl (by decide +kernel)
set_option maxRecDepth 65536 in
theorem w_c6 : (Jvm.Cond.code ({ cls := "java/lang/Math", name := "max", desc := "(DD)D" } : Jvm.MethodName) jdk_29_method_68_code (4 : Nat) (Option.some Jvm.ClassFile.FieldType.double)).before args0 about1 = true := code_word (m := ⟨3, 1⟩) (meth := k3m1) (c := k3c1) (by decide +kernel) rfl rfl rfl (by decide +kernel)
def codes1 : List Jvm.Cond := [Jvm.Cond.code x code maxLocals ret, Jvm.Cond.code ({ cls := "com/example/kingfisher/kingfisher/eval/TopicRanking", name := "<init>", desc := "([ZI)V" } : Jvm.MethodName) prog_21_method_1_code (4 : Nat) (Option.none : Option Jvm.ClassFile.FieldType), Jvm.Cond.code ({ cls := "java/lang/Object", name := "<init>", desc := "()V" } : Jvm.MethodName) object_method_1_code (1 : Nat) (Option.none : Option Jvm.ClassFile.FieldType), Jvm.Cond.code ({ cls := "com/example/kingfisher/kingfisher/eval/TopicRanking", name := "interpolatedPrecision", desc := "(I)D" } : Jvm.MethodName) prog_21_method_8_code (7 : Nat) (Option.some Jvm.ClassFile.FieldType.double), Jvm.Cond.code ({ cls := "com/example/kingfisher/kingfisher/eval/TopicRanking", name := "retrieved", desc := "()I" } : Jvm.MethodName) prog_21_method_2_code (1 : Nat) (Option.some Jvm.ClassFile.FieldType.int), Jvm.Cond.code ({ cls := "com/example/kingfisher/kingfisher/eval/TopicRankingInterpolatedPrecisionPinLaw", name := "better", desc := "(DIIJ)D" } : Jvm.MethodName) method_3_code (8 : Nat) (Option.some Jvm.ClassFile.FieldType.double), Jvm.Cond.code ({ cls := "java/lang/Math", name := "max", desc := "(DD)D" } : Jvm.MethodName) jdk_29_method_68_code (4 : Nat) (Option.some Jvm.ClassFile.FieldType.double)]
set_option maxRecDepth 65536 in
theorem codes_eq : words1.filter isCode = codes1 := rfl
theorem w_codes : ∀ c ∈ words1.filter isCode, c.before args0 about1 = true := by
  rw [codes_eq]
  intro c hc
  simp only [codes1, List.mem_cons, List.not_mem_nil, or_false] at hc
  rcases hc with rfl | rfl | rfl | rfl | rfl | rfl | rfl
  · exact w_c0
  · exact w_c1
  · exact w_c2
  · exact w_c3
  · exact w_c4
  · exact w_c5
  · exact w_c6
set_option maxRecDepth 65536 in
theorem w_t1 : (words1.take 24).all (fun c => isCode c || c.before args0 about1) = true := by decide +kernel
set_option maxRecDepth 65536 in
theorem w_t2 : (words1.drop 24).all (fun c => isCode c || c.before args0 about1) = true := by decide +kernel
theorem w_tables : (allAtoms (Jvm.Cond.code x code maxLocals ret :: tables_1)).before args0 about1 = true := by
  rw [allAtoms_all]
  show words1.all (fun c => c.before args0 about1) = true
  refine all_split ?_ w_codes
  rw [← List.take_append_drop 24 words1, List.all_append, w_t1, w_t2]
  rfl
set_option maxRecDepth 65536 in
theorem w_case : (Jvm.Cond.and given_1 narrow_1).before args0 about1 = true := by decide +kernel
theorem w_applies : (headSpec (Jvm.Cond.code x code maxLocals ret :: tables_1) room_1).applies x e0.platform about1 = true :=
  (Spec.applies_iff w_frames).mpr ⟨w_running, w_runnable, w_alone, w_named, w_hears, w_ripe, w_room, w_tables⟩
theorem atStart : AtStart classFile x code maxLocals ret World_1 tables_1 room_1 Calls_1 rest_1 Pre_1 launch0 p0 e0 about1 theMethod args0 below0 :=
  ⟨lists_1, trivial, launch0.admits_env _ _ _, launch0.least_env, fairChoices_fair.cas, fairChoices_fair.clock, w_frames, w_args, w_heap, w_applies, trivial, trivial, w_case⟩
end start1
theorem witness_1 : WitnessClaimed_1 := ⟨start1.p0, start1.e0, start1.about1, start1.theMethod, start1.args0, start1.below0, start1.atStart⟩
end Jvm.Pilot.@@N@@

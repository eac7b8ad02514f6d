import JvmDerived
import JvmDerived.Pilot.@@N@@Statement
import JvmDerived.Pilot.@@N@@Code
set_option linter.unusedVariables false
set_option linter.unusedSimpArgs false
namespace Jvm.RoadKit
open Sem ClassFile Op Lib Jvm.Stand Jvm.Free Jvm.LawKit
section New
variable {p : Program} {l : Launch} {e : Env} {R : Room} {s : State} {m : MethodId} {args : Array Value} {below : List Frame} {meth : Method} {c : Code} {T : State} {locs : List Loc} {cells slots : Nat}
theorem retI (X : Stand p l e R s m args below meth c T locs cells slots) (hx : p.tables.exec = Jvm.exec) {pc : Nat} {Ls : Array Slot} {z : Int32} {rest : List Value} (hret : meth.sig.returnType = some .int) (hd : decode c.code pc = .ok (.ireturn, 1)) {fs : List Frame}
    (hl : ∀ (f : JFrame) (acts : List Action), f.method = m → f.locked = none → f.entered = [] → (doReturn e (T.setTop f) acts (some (.int z))).1 = T.setFrames fs) : Steps p.tables e below (T.setTop (mkF m pc Ls (.int z :: rest))) (T.setFrames fs) :=
  retOut X hx hret rfl (Or.inl ⟨rfl, Or.inl rfl, _, rfl⟩) hd hl
end New
end Jvm.RoadKit
namespace Jvm.Own
open Sem ClassFile Op Lib Jvm.Stand Jvm.Free Jvm.LawKit Jvm.RoadKit
/-- from here the run comes to a state that meets F -/
def Go (tb : Tables) (e : Env) (below : List Frame) (F : State → Prop) (T : State) (g : JFrame) : Prop := ∃ t, Steps tb e below (T.setTop g) t ∧ F t
section Steps0
variable {tb : Tables} {e : Env} {below : List Frame} {F : State → Prop} {T T' : State} {g g' : JFrame}
theorem Go.st (q : ∀ t, Steps tb e below (T'.setTop g') t → Steps tb e below (T.setTop g) t) (k : Go tb e below F T' g') : Go tb e below F T g := by
  obtain ⟨t, h1, h2⟩ := k
  exact ⟨t, q t h1, h2⟩
theorem Go.tr (q : Steps tb e below (T.setTop g) (T'.setTop g')) (k : Go tb e below F T' g') : Go tb e below F T g := by
  obtain ⟨t, h1, h2⟩ := k
  exact ⟨t, q.trans h1, h2⟩
end Steps0
section Steps
variable {tb : Tables} [Ours tb] {e : Env} {below : List Frame} {F : State → Prop} {T T' : State} {m : MethodId} {c : Code} {pc pc' : Nat} {Ls Ls' : Array Slot} {sk : List Value}
theorem s_iload (h : At T m c below) (hx : tb.exec = Jvm.exec) {k : Nat} {v : Int32} (hd : decode c.code pc = .ok (.iload k, 2)) (hp : pc + 2 = pc') (hl : Ls[k]? = some (.val (.int v)))  (q : Go tb e below F T (mkF m pc' Ls ((.int v) :: sk))) : Go tb e below F T (mkF m pc Ls (sk)) := by
  subst hp; exact Go.st (fun _ r => XS.iload (g := mkF m pc Ls (sk)) h hx rfl hd hl  r) q
theorem s_iloadN (h : At T m c below) (hx : tb.exec = Jvm.exec) {k : Fin 4} {v : Int32} (hd : decode c.code pc = .ok (.iload_n k, 1)) (hp : pc + 1 = pc') (hl : Ls[k.val]? = some (.val (.int v)))  (q : Go tb e below F T (mkF m pc' Ls ((.int v) :: sk))) : Go tb e below F T (mkF m pc Ls (sk)) := by
  subst hp; exact Go.st (fun _ r => XS.iloadN (g := mkF m pc Ls (sk)) h hx rfl hd hl  r) q
theorem s_istore (h : At T m c below) (hx : tb.exec = Jvm.exec) {k : Nat} {v : Int32} (hd : decode c.code pc = .ok (.istore k, 2)) (hp : pc + 2 = pc')  (hl : storeLocals Ls k (.int v) = some Ls') (q : Go tb e below F T (mkF m pc' Ls' (sk))) : Go tb e below F T (mkF m pc Ls ((.int v) :: sk)) := by
  subst hp; exact Go.st (fun _ r => XS.istore (g := mkF m pc Ls ((.int v) :: sk)) h hx rfl hd rfl  hl r) q
theorem s_istoreN (h : At T m c below) (hx : tb.exec = Jvm.exec) {k : Fin 4} {v : Int32} (hd : decode c.code pc = .ok (.istore_n k, 1)) (hp : pc + 1 = pc')  (hl : storeLocals Ls k.val (.int v) = some Ls') (q : Go tb e below F T (mkF m pc' Ls' (sk))) : Go tb e below F T (mkF m pc Ls ((.int v) :: sk)) := by
  subst hp; exact Go.st (fun _ r => XS.istoreN (g := mkF m pc Ls ((.int v) :: sk)) h hx rfl hd rfl  hl r) q
theorem s_lload (h : At T m c below) (hx : tb.exec = Jvm.exec) {k : Nat} {v : Int64} (hd : decode c.code pc = .ok (.lload k, 2)) (hp : pc + 2 = pc') (hl : Ls[k]? = some (.val (.long v)))  (q : Go tb e below F T (mkF m pc' Ls ((.long v) :: sk))) : Go tb e below F T (mkF m pc Ls (sk)) := by
  subst hp; exact Go.st (fun _ r => XS.lload (g := mkF m pc Ls (sk)) h hx rfl hd hl  r) q
theorem s_lloadN (h : At T m c below) (hx : tb.exec = Jvm.exec) {k : Fin 4} {v : Int64} (hd : decode c.code pc = .ok (.lload_n k, 1)) (hp : pc + 1 = pc') (hl : Ls[k.val]? = some (.val (.long v)))  (q : Go tb e below F T (mkF m pc' Ls ((.long v) :: sk))) : Go tb e below F T (mkF m pc Ls (sk)) := by
  subst hp; exact Go.st (fun _ r => XS.lloadN (g := mkF m pc Ls (sk)) h hx rfl hd hl  r) q
theorem s_lstore (h : At T m c below) (hx : tb.exec = Jvm.exec) {k : Nat} {v : Int64} (hd : decode c.code pc = .ok (.lstore k, 2)) (hp : pc + 2 = pc')  (hl : storeLocals Ls k (.long v) = some Ls') (q : Go tb e below F T (mkF m pc' Ls' (sk))) : Go tb e below F T (mkF m pc Ls ((.long v) :: sk)) := by
  subst hp; exact Go.st (fun _ r => XS.lstore (g := mkF m pc Ls ((.long v) :: sk)) h hx rfl hd rfl  hl r) q
theorem s_lstoreN (h : At T m c below) (hx : tb.exec = Jvm.exec) {k : Fin 4} {v : Int64} (hd : decode c.code pc = .ok (.lstore_n k, 1)) (hp : pc + 1 = pc')  (hl : storeLocals Ls k.val (.long v) = some Ls') (q : Go tb e below F T (mkF m pc' Ls' (sk))) : Go tb e below F T (mkF m pc Ls ((.long v) :: sk)) := by
  subst hp; exact Go.st (fun _ r => XS.lstoreN (g := mkF m pc Ls ((.long v) :: sk)) h hx rfl hd rfl  hl r) q
theorem s_dload (h : At T m c below) (hx : tb.exec = Jvm.exec) {k : Nat} {v : UInt64} (hd : decode c.code pc = .ok (.dload k, 2)) (hp : pc + 2 = pc') (hl : Ls[k]? = some (.val (.double v)))  (q : Go tb e below F T (mkF m pc' Ls ((.double v) :: sk))) : Go tb e below F T (mkF m pc Ls (sk)) := by
  subst hp; exact Go.st (fun _ r => XS.dload (g := mkF m pc Ls (sk)) h hx rfl hd hl  r) q
theorem s_dloadN (h : At T m c below) (hx : tb.exec = Jvm.exec) {k : Fin 4} {v : UInt64} (hd : decode c.code pc = .ok (.dload_n k, 1)) (hp : pc + 1 = pc') (hl : Ls[k.val]? = some (.val (.double v)))  (q : Go tb e below F T (mkF m pc' Ls ((.double v) :: sk))) : Go tb e below F T (mkF m pc Ls (sk)) := by
  subst hp; exact Go.st (fun _ r => XS.dloadN (g := mkF m pc Ls (sk)) h hx rfl hd hl  r) q
theorem s_dstore (h : At T m c below) (hx : tb.exec = Jvm.exec) {k : Nat} {v : UInt64} (hd : decode c.code pc = .ok (.dstore k, 2)) (hp : pc + 2 = pc')  (hl : storeLocals Ls k (.double v) = some Ls') (q : Go tb e below F T (mkF m pc' Ls' (sk))) : Go tb e below F T (mkF m pc Ls ((.double v) :: sk)) := by
  subst hp; exact Go.st (fun _ r => XS.dstore (g := mkF m pc Ls ((.double v) :: sk)) h hx rfl hd rfl  hl r) q
theorem s_dstoreN (h : At T m c below) (hx : tb.exec = Jvm.exec) {k : Fin 4} {v : UInt64} (hd : decode c.code pc = .ok (.dstore_n k, 1)) (hp : pc + 1 = pc')  (hl : storeLocals Ls k.val (.double v) = some Ls') (q : Go tb e below F T (mkF m pc' Ls' (sk))) : Go tb e below F T (mkF m pc Ls ((.double v) :: sk)) := by
  subst hp; exact Go.st (fun _ r => XS.dstoreN (g := mkF m pc Ls ((.double v) :: sk)) h hx rfl hd rfl  hl r) q
theorem s_aload (h : At T m c below) (hx : tb.exec = Jvm.exec) {k : Nat} {v : Value} (hd : decode c.code pc = .ok (.aload k, 2)) (hp : pc + 2 = pc') (hl : Ls[k]? = some (.val (v))) (hv : v.isRef = true) (q : Go tb e below F T (mkF m pc' Ls ((v) :: sk))) : Go tb e below F T (mkF m pc Ls (sk)) := by
  subst hp; exact Go.st (fun _ r => XS.aload (g := mkF m pc Ls (sk)) h hx rfl hd hl hv r) q
theorem s_aloadN (h : At T m c below) (hx : tb.exec = Jvm.exec) {k : Fin 4} {v : Value} (hd : decode c.code pc = .ok (.aload_n k, 1)) (hp : pc + 1 = pc') (hl : Ls[k.val]? = some (.val (v))) (hv : v.isRef = true) (q : Go tb e below F T (mkF m pc' Ls ((v) :: sk))) : Go tb e below F T (mkF m pc Ls (sk)) := by
  subst hp; exact Go.st (fun _ r => XS.aloadN (g := mkF m pc Ls (sk)) h hx rfl hd hl hv r) q
theorem s_astore (h : At T m c below) (hx : tb.exec = Jvm.exec) {k : Nat} {v : Value} (hd : decode c.code pc = .ok (.astore k, 2)) (hp : pc + 2 = pc') (hv : v.isRef = true) (hl : storeLocals Ls k (v) = some Ls') (q : Go tb e below F T (mkF m pc' Ls' (sk))) : Go tb e below F T (mkF m pc Ls ((v) :: sk)) := by
  subst hp; exact Go.st (fun _ r => XS.astore (g := mkF m pc Ls ((v) :: sk)) h hx rfl hd rfl hv hl r) q
theorem s_astoreN (h : At T m c below) (hx : tb.exec = Jvm.exec) {k : Fin 4} {v : Value} (hd : decode c.code pc = .ok (.astore_n k, 1)) (hp : pc + 1 = pc') (hv : v.isRef = true) (hl : storeLocals Ls k.val (v) = some Ls') (q : Go tb e below F T (mkF m pc' Ls' (sk))) : Go tb e below F T (mkF m pc Ls ((v) :: sk)) := by
  subst hp; exact Go.st (fun _ r => XS.astoreN (g := mkF m pc Ls ((v) :: sk)) h hx rfl hd rfl hv hl r) q
theorem s_iconst (h : At T m c below) (hx : tb.exec = Jvm.exec) {i : Int} {v : Int32} (hd : decode c.code pc = .ok (.iconst i, 1)) (hp : pc + 1 = pc') (hv : Int32.ofInt i = v) (q : Go tb e below F T (mkF m pc' Ls ((.int v) :: sk))) : Go tb e below F T (mkF m pc Ls sk) := by
  subst hp hv; exact Go.st (fun _ r => XS.iconst (g := mkF m pc Ls sk) h hx rfl hd r) q
theorem s_bipush (h : At T m c below) (hx : tb.exec = Jvm.exec) {i : Int} {v : Int32} (hd : decode c.code pc = .ok (.bipush i, 2)) (hp : pc + 2 = pc') (hv : (Int8.ofInt i).toInt32 = v) (q : Go tb e below F T (mkF m pc' Ls ((.int v) :: sk))) : Go tb e below F T (mkF m pc Ls sk) := by
  subst hp hv; exact Go.st (fun _ r => XS.bipush (g := mkF m pc Ls sk) h hx rfl hd r) q
theorem s_sipush (h : At T m c below) (hx : tb.exec = Jvm.exec) {i : Int} {v : Int32} (hd : decode c.code pc = .ok (.sipush i, 3)) (hp : pc + 3 = pc') (hv : (Int16.ofInt i).toInt32 = v) (q : Go tb e below F T (mkF m pc' Ls ((.int v) :: sk))) : Go tb e below F T (mkF m pc Ls sk) := by
  subst hp hv; exact Go.st (fun _ r => XS.sipush (g := mkF m pc Ls sk) h hx rfl hd r) q
theorem s_aconst_null (h : At T m c below) (hx : tb.exec = Jvm.exec) (hd : decode c.code pc = .ok (.aconst_null, 1)) (hp : pc + 1 = pc') (q : Go tb e below F T (mkF m pc' Ls (.null :: sk))) : Go tb e below F T (mkF m pc Ls sk) := by
  subst hp; exact Go.st (fun _ r => XS.aconstNull (g := mkF m pc Ls sk) h hx rfl hd r) q
theorem s_iadd (h : At T m c below) (hx : tb.exec = Jvm.exec) {x y z : Int32} (hd : decode c.code pc = .ok (.iadd, 1)) (hp : pc + 1 = pc') (hv : x + y = z) (q : Go tb e below F T (mkF m pc' Ls (.int z :: sk))) : Go tb e below F T (mkF m pc Ls (.int y :: .int x :: sk)) := by
  subst hp hv; exact Go.st (fun _ r => XS.iadd (g := mkF m pc Ls (.int y :: .int x :: sk)) h hx rfl hd rfl r) q
theorem s_isub (h : At T m c below) (hx : tb.exec = Jvm.exec) {x y z : Int32} (hd : decode c.code pc = .ok (.isub, 1)) (hp : pc + 1 = pc') (hv : x - y = z) (q : Go tb e below F T (mkF m pc' Ls (.int z :: sk))) : Go tb e below F T (mkF m pc Ls (.int y :: .int x :: sk)) := by
  subst hp hv; exact Go.st (fun _ r => XS.isub (g := mkF m pc Ls (.int y :: .int x :: sk)) h hx rfl hd rfl r) q
theorem s_imul (h : At T m c below) (hx : tb.exec = Jvm.exec) {x y z : Int32} (hd : decode c.code pc = .ok (.imul, 1)) (hp : pc + 1 = pc') (hv : x * y = z) (q : Go tb e below F T (mkF m pc' Ls (.int z :: sk))) : Go tb e below F T (mkF m pc Ls (.int y :: .int x :: sk)) := by
  subst hp hv; exact Go.st (fun _ r => XS.imul (g := mkF m pc Ls (.int y :: .int x :: sk)) h hx rfl hd rfl r) q
theorem s_iand (h : At T m c below) (hx : tb.exec = Jvm.exec) {x y z : Int32} (hd : decode c.code pc = .ok (.iand, 1)) (hp : pc + 1 = pc') (hv : x &&& y = z) (q : Go tb e below F T (mkF m pc' Ls (.int z :: sk))) : Go tb e below F T (mkF m pc Ls (.int y :: .int x :: sk)) := by
  subst hp hv; exact Go.st (fun _ r => XS.iand (g := mkF m pc Ls (.int y :: .int x :: sk)) h hx rfl hd rfl r) q
theorem s_ior (h : At T m c below) (hx : tb.exec = Jvm.exec) {x y z : Int32} (hd : decode c.code pc = .ok (.ior, 1)) (hp : pc + 1 = pc') (hv : x ||| y = z) (q : Go tb e below F T (mkF m pc' Ls (.int z :: sk))) : Go tb e below F T (mkF m pc Ls (.int y :: .int x :: sk)) := by
  subst hp hv; exact Go.st (fun _ r => XS.ior (g := mkF m pc Ls (.int y :: .int x :: sk)) h hx rfl hd rfl r) q
theorem s_ixor (h : At T m c below) (hx : tb.exec = Jvm.exec) {x y z : Int32} (hd : decode c.code pc = .ok (.ixor, 1)) (hp : pc + 1 = pc') (hv : x ^^^ y = z) (q : Go tb e below F T (mkF m pc' Ls (.int z :: sk))) : Go tb e below F T (mkF m pc Ls (.int y :: .int x :: sk)) := by
  subst hp hv; exact Go.st (fun _ r => XS.ixor (g := mkF m pc Ls (.int y :: .int x :: sk)) h hx rfl hd rfl r) q
theorem s_ishl (h : At T m c below) (hx : tb.exec = Jvm.exec) {x y z : Int32} (hd : decode c.code pc = .ok (.ishl, 1)) (hp : pc + 1 = pc') (hv : x <<< (y &&& 31) = z) (q : Go tb e below F T (mkF m pc' Ls (.int z :: sk))) : Go tb e below F T (mkF m pc Ls (.int y :: .int x :: sk)) := by
  subst hp hv; exact Go.st (fun _ r => XS.ishl (g := mkF m pc Ls (.int y :: .int x :: sk)) h hx rfl hd rfl r) q
theorem s_ishr (h : At T m c below) (hx : tb.exec = Jvm.exec) {x y z : Int32} (hd : decode c.code pc = .ok (.ishr, 1)) (hp : pc + 1 = pc') (hv : x >>> (y &&& 31) = z) (q : Go tb e below F T (mkF m pc' Ls (.int z :: sk))) : Go tb e below F T (mkF m pc Ls (.int y :: .int x :: sk)) := by
  subst hp hv; exact Go.st (fun _ r => XS.ishr (g := mkF m pc Ls (.int y :: .int x :: sk)) h hx rfl hd rfl r) q
theorem s_iushr (h : At T m c below) (hx : tb.exec = Jvm.exec) {x y z : Int32} (hd : decode c.code pc = .ok (.iushr, 1)) (hp : pc + 1 = pc') (hv : (x.toUInt32 >>> (y &&& 31).toUInt32).toInt32 = z) (q : Go tb e below F T (mkF m pc' Ls (.int z :: sk))) : Go tb e below F T (mkF m pc Ls (.int y :: .int x :: sk)) := by
  subst hp hv; exact Go.st (fun _ r => XS.iushr (g := mkF m pc Ls (.int y :: .int x :: sk)) h hx rfl hd rfl r) q
theorem s_ladd (h : At T m c below) (hx : tb.exec = Jvm.exec) {x y z : Int64} (hd : decode c.code pc = .ok (.ladd, 1)) (hp : pc + 1 = pc') (hv : x + y = z) (q : Go tb e below F T (mkF m pc' Ls (.long z :: sk))) : Go tb e below F T (mkF m pc Ls (.long y :: .long x :: sk)) := by
  subst hp hv; exact Go.st (fun _ r => XS.ladd (g := mkF m pc Ls (.long y :: .long x :: sk)) h hx rfl hd rfl r) q
theorem s_lsub (h : At T m c below) (hx : tb.exec = Jvm.exec) {x y z : Int64} (hd : decode c.code pc = .ok (.lsub, 1)) (hp : pc + 1 = pc') (hv : x - y = z) (q : Go tb e below F T (mkF m pc' Ls (.long z :: sk))) : Go tb e below F T (mkF m pc Ls (.long y :: .long x :: sk)) := by
  subst hp hv; exact Go.st (fun _ r => XS.lsub (g := mkF m pc Ls (.long y :: .long x :: sk)) h hx rfl hd rfl r) q
theorem s_lmul (h : At T m c below) (hx : tb.exec = Jvm.exec) {x y z : Int64} (hd : decode c.code pc = .ok (.lmul, 1)) (hp : pc + 1 = pc') (hv : x * y = z) (q : Go tb e below F T (mkF m pc' Ls (.long z :: sk))) : Go tb e below F T (mkF m pc Ls (.long y :: .long x :: sk)) := by
  subst hp hv; exact Go.st (fun _ r => XS.lmul (g := mkF m pc Ls (.long y :: .long x :: sk)) h hx rfl hd rfl r) q
theorem s_land (h : At T m c below) (hx : tb.exec = Jvm.exec) {x y z : Int64} (hd : decode c.code pc = .ok (.land, 1)) (hp : pc + 1 = pc') (hv : x &&& y = z) (q : Go tb e below F T (mkF m pc' Ls (.long z :: sk))) : Go tb e below F T (mkF m pc Ls (.long y :: .long x :: sk)) := by
  subst hp hv; exact Go.st (fun _ r => XS.land (g := mkF m pc Ls (.long y :: .long x :: sk)) h hx rfl hd rfl r) q
theorem s_lor (h : At T m c below) (hx : tb.exec = Jvm.exec) {x y z : Int64} (hd : decode c.code pc = .ok (.lor, 1)) (hp : pc + 1 = pc') (hv : x ||| y = z) (q : Go tb e below F T (mkF m pc' Ls (.long z :: sk))) : Go tb e below F T (mkF m pc Ls (.long y :: .long x :: sk)) := by
  subst hp hv; exact Go.st (fun _ r => XS.lor (g := mkF m pc Ls (.long y :: .long x :: sk)) h hx rfl hd rfl r) q
theorem s_lxor (h : At T m c below) (hx : tb.exec = Jvm.exec) {x y z : Int64} (hd : decode c.code pc = .ok (.lxor, 1)) (hp : pc + 1 = pc') (hv : x ^^^ y = z) (q : Go tb e below F T (mkF m pc' Ls (.long z :: sk))) : Go tb e below F T (mkF m pc Ls (.long y :: .long x :: sk)) := by
  subst hp hv; exact Go.st (fun _ r => XS.lxor (g := mkF m pc Ls (.long y :: .long x :: sk)) h hx rfl hd rfl r) q
theorem s_lshl (h : At T m c below) (hx : tb.exec = Jvm.exec) {x z : Int64} {y : Int32} (hd : decode c.code pc = .ok (.lshl, 1)) (hp : pc + 1 = pc') (hv : x <<< (y &&& 0x3f).toInt64 = z) (q : Go tb e below F T (mkF m pc' Ls (.long z :: sk))) : Go tb e below F T (mkF m pc Ls (.int y :: .long x :: sk)) := by
  subst hp hv; exact Go.st (fun _ r => XS.lshl (g := mkF m pc Ls (.int y :: .long x :: sk)) h hx rfl hd rfl r) q
theorem s_lshr (h : At T m c below) (hx : tb.exec = Jvm.exec) {x z : Int64} {y : Int32} (hd : decode c.code pc = .ok (.lshr, 1)) (hp : pc + 1 = pc') (hv : x >>> (y &&& 0x3f).toInt64 = z) (q : Go tb e below F T (mkF m pc' Ls (.long z :: sk))) : Go tb e below F T (mkF m pc Ls (.int y :: .long x :: sk)) := by
  subst hp hv; exact Go.st (fun _ r => XS.lshr (g := mkF m pc Ls (.int y :: .long x :: sk)) h hx rfl hd rfl r) q
theorem s_lushr (h : At T m c below) (hx : tb.exec = Jvm.exec) {x z : Int64} {y : Int32} (hd : decode c.code pc = .ok (.lushr, 1)) (hp : pc + 1 = pc') (hv : (x.toUInt64 >>> (y &&& 0x3f).toInt64.toUInt64).toInt64 = z) (q : Go tb e below F T (mkF m pc' Ls (.long z :: sk))) : Go tb e below F T (mkF m pc Ls (.int y :: .long x :: sk)) := by
  subst hp hv; exact Go.st (fun _ r => XS.lushr (g := mkF m pc Ls (.int y :: .long x :: sk)) h hx rfl hd rfl r) q
theorem s_ineg (h : At T m c below) (hx : tb.exec = Jvm.exec) {x : Int32} {z : Int32} (hd : decode c.code pc = .ok (.ineg, 1)) (hp : pc + 1 = pc') (hv : -x = z) (q : Go tb e below F T (mkF m pc' Ls (.int z :: sk))) : Go tb e below F T (mkF m pc Ls (.int x :: sk)) := by
  subst hp hv; exact Go.st (fun _ r => XS.ineg (g := mkF m pc Ls (.int x :: sk)) h hx rfl hd rfl r) q
theorem s_lneg (h : At T m c below) (hx : tb.exec = Jvm.exec) {x : Int64} {z : Int64} (hd : decode c.code pc = .ok (.lneg, 1)) (hp : pc + 1 = pc') (hv : -x = z) (q : Go tb e below F T (mkF m pc' Ls (.long z :: sk))) : Go tb e below F T (mkF m pc Ls (.long x :: sk)) := by
  subst hp hv; exact Go.st (fun _ r => XS.lneg (g := mkF m pc Ls (.long x :: sk)) h hx rfl hd rfl r) q
theorem s_i2l (h : At T m c below) (hx : tb.exec = Jvm.exec) {x : Int32} {z : Int64} (hd : decode c.code pc = .ok (.i2l, 1)) (hp : pc + 1 = pc') (hv : x.toInt64 = z) (q : Go tb e below F T (mkF m pc' Ls (.long z :: sk))) : Go tb e below F T (mkF m pc Ls (.int x :: sk)) := by
  subst hp hv; exact Go.st (fun _ r => XS.i2l (g := mkF m pc Ls (.int x :: sk)) h hx rfl hd rfl r) q
theorem s_l2i (h : At T m c below) (hx : tb.exec = Jvm.exec) {x : Int64} {z : Int32} (hd : decode c.code pc = .ok (.l2i, 1)) (hp : pc + 1 = pc') (hv : x.toInt32 = z) (q : Go tb e below F T (mkF m pc' Ls (.int z :: sk))) : Go tb e below F T (mkF m pc Ls (.long x :: sk)) := by
  subst hp hv; exact Go.st (fun _ r => XS.l2i (g := mkF m pc Ls (.long x :: sk)) h hx rfl hd rfl r) q
theorem s_i2b (h : At T m c below) (hx : tb.exec = Jvm.exec) {x : Int32} {z : Int32} (hd : decode c.code pc = .ok (.i2b, 1)) (hp : pc + 1 = pc') (hv : x.toInt8.toInt32 = z) (q : Go tb e below F T (mkF m pc' Ls (.int z :: sk))) : Go tb e below F T (mkF m pc Ls (.int x :: sk)) := by
  subst hp hv; exact Go.st (fun _ r => XS.i2b (g := mkF m pc Ls (.int x :: sk)) h hx rfl hd rfl r) q
theorem s_i2s (h : At T m c below) (hx : tb.exec = Jvm.exec) {x : Int32} {z : Int32} (hd : decode c.code pc = .ok (.i2s, 1)) (hp : pc + 1 = pc') (hv : x.toInt16.toInt32 = z) (q : Go tb e below F T (mkF m pc' Ls (.int z :: sk))) : Go tb e below F T (mkF m pc Ls (.int x :: sk)) := by
  subst hp hv; exact Go.st (fun _ r => XS.i2s (g := mkF m pc Ls (.int x :: sk)) h hx rfl hd rfl r) q
theorem s_i2c (h : At T m c below) (hx : tb.exec = Jvm.exec) {x : Int32} {z : Int32} (hd : decode c.code pc = .ok (.i2c, 1)) (hp : pc + 1 = pc') (hv : x.toUInt32.toUInt16.toUInt32.toInt32 = z) (q : Go tb e below F T (mkF m pc' Ls (.int z :: sk))) : Go tb e below F T (mkF m pc Ls (.int x :: sk)) := by
  subst hp hv; exact Go.st (fun _ r => XS.i2c (g := mkF m pc Ls (.int x :: sk)) h hx rfl hd rfl r) q
theorem s_lcmp (h : At T m c below) (hx : tb.exec = Jvm.exec) {x y : Int64} {z : Int32} (hd : decode c.code pc = .ok (.lcmp, 1)) (hp : pc + 1 = pc') (hv : lcmpW x y = z) (q : Go tb e below F T (mkF m pc' Ls (.int z :: sk))) : Go tb e below F T (mkF m pc Ls (.long y :: .long x :: sk)) := by
  subst hp hv; exact Go.st (fun _ r => XS.lcmp (g := mkF m pc Ls (.long y :: .long x :: sk)) h hx rfl hd rfl r) q
theorem s_idiv (h : At T m c below) (hx : tb.exec = Jvm.exec) {x y z : Int32} (hd : decode c.code pc = .ok (.idiv, 1)) (hp : pc + 1 = pc') (hy : ¬ y = 0) (hv : x / y = z) (q : Go tb e below F T (mkF m pc' Ls (.int z :: sk))) : Go tb e below F T (mkF m pc Ls (.int y :: .int x :: sk)) := by
  subst hp hv; exact Go.st (fun _ r => XS.idiv (g := mkF m pc Ls (.int y :: .int x :: sk)) h hx rfl hd rfl hy r) q
theorem s_irem (h : At T m c below) (hx : tb.exec = Jvm.exec) {x y z : Int32} (hd : decode c.code pc = .ok (.irem, 1)) (hp : pc + 1 = pc') (hy : ¬ y = 0) (hv : x % y = z) (q : Go tb e below F T (mkF m pc' Ls (.int z :: sk))) : Go tb e below F T (mkF m pc Ls (.int y :: .int x :: sk)) := by
  subst hp; rw [← irem_eq_mod x y] at hv; subst hv; exact Go.st (fun _ r => XS.irem (g := mkF m pc Ls (.int y :: .int x :: sk)) h hx rfl hd rfl hy r) q
theorem s_ldiv (h : At T m c below) (hx : tb.exec = Jvm.exec) {x y z : Int64} (hd : decode c.code pc = .ok (.ldiv, 1)) (hp : pc + 1 = pc') (hy : ¬ y = 0) (hv : x / y = z) (q : Go tb e below F T (mkF m pc' Ls (.long z :: sk))) : Go tb e below F T (mkF m pc Ls (.long y :: .long x :: sk)) := by
  subst hp hv; exact Go.st (fun _ r => XS.ldiv (g := mkF m pc Ls (.long y :: .long x :: sk)) h hx rfl hd rfl hy r) q
theorem s_lrem (h : At T m c below) (hx : tb.exec = Jvm.exec) {x y z : Int64} (hd : decode c.code pc = .ok (.lrem, 1)) (hp : pc + 1 = pc') (hy : ¬ y = 0) (hv : x % y = z) (q : Go tb e below F T (mkF m pc' Ls (.long z :: sk))) : Go tb e below F T (mkF m pc Ls (.long y :: .long x :: sk)) := by
  subst hp; rw [← lrem_mod x y] at hv; subst hv; exact Go.st (fun _ r => XS.lrem (g := mkF m pc Ls (.long y :: .long x :: sk)) h hx rfl hd rfl hy r) q
theorem s_dup (h : At T m c below) (hx : tb.exec = Jvm.exec) {v : Value} (hd : decode c.code pc = .ok (.dup, 1)) (hp : pc + 1 = pc') (hc : v.category = 1) (q : Go tb e below F T (mkF m pc' Ls (v :: v :: sk))) : Go tb e below F T (mkF m pc Ls (v :: sk)) := by
  subst hp; exact Go.st (fun _ r => XS.dup (g := mkF m pc Ls (v :: sk)) h hx rfl hd rfl hc r) q
theorem s_pop (h : At T m c below) (hx : tb.exec = Jvm.exec) {v : Value} (hd : decode c.code pc = .ok (.pop, 1)) (hp : pc + 1 = pc') (hc : v.category = 1) (q : Go tb e below F T (mkF m pc' Ls (sk))) : Go tb e below F T (mkF m pc Ls (v :: sk)) := by
  subst hp; exact Go.st (fun _ r => XS.pop (g := mkF m pc Ls (v :: sk)) h hx rfl hd rfl hc r) q
theorem s_dup_x1 (h : At T m c below) (hx : tb.exec = Jvm.exec) {v w : Value} (hd : decode c.code pc = .ok (.dup_x1, 1)) (hp : pc + 1 = pc') (hc : v.category = 1) (hc' : w.category = 1) (q : Go tb e below F T (mkF m pc' Ls (v :: w :: v :: sk))) : Go tb e below F T (mkF m pc Ls (v :: w :: sk)) := by
  subst hp; exact Go.st (fun _ r => XS.dupX1 (g := mkF m pc Ls (v :: w :: sk)) h hx rfl hd rfl hc hc' r) q
theorem s_iinc (h : At T m c below) (hx : tb.exec = Jvm.exec) {k : Nat} {i : Int} (hd : decode c.code pc = .ok (.iinc k i, 3)) (hp : pc + 3 = pc') {x z : Int32} (hl : Ls[k]? = some (.val (.int x))) (hv : x + Int32.ofInt i = z) (hs : storeLocals Ls k (.int z) = some Ls') (q : Go tb e below F T (mkF m pc' Ls' (sk))) : Go tb e below F T (mkF m pc Ls (sk)) := by
  subst hp hv; exact Go.st (fun _ r => XS.iinc (g := mkF m pc Ls (sk)) h hx rfl hd hl hs r) q
theorem s_lconst (h : At T m c below) (hx : tb.exec = Jvm.exec) {i : Fin 2} {v : Int64} (hd : decode c.code pc = .ok (.lconst i, 1)) (hp : pc + 1 = pc') (hv : Int64.ofNat i = v) (q : Go tb e below F T (mkF m pc' Ls (.long v :: sk))) : Go tb e below F T (mkF m pc Ls (sk)) := by
  subst hp hv; exact Go.st (fun _ r => XS.lconst (g := mkF m pc Ls (sk)) h hx rfl hd  r) q
theorem s_i2d (h : At T m c below) (hx : tb.exec = Jvm.exec) {x : Int32} {z : UInt64} (hd : decode c.code pc = .ok (.i2d, 1)) (hp : pc + 1 = pc') (hv : FP.i2d x = z) (q : Go tb e below F T (mkF m pc' Ls (.double z :: sk))) : Go tb e below F T (mkF m pc Ls (.int x :: sk)) := by
  subst hp; exact Go.st (fun _ r => XS.i2dS (g := mkF m pc Ls (.int x :: sk)) h hx rfl hd rfl hv r) q
theorem s_l2d (h : At T m c below) (hx : tb.exec = Jvm.exec) {x : Int64} {z : UInt64} (hd : decode c.code pc = .ok (.l2d, 1)) (hp : pc + 1 = pc') (hv : FP.l2d x = z) (q : Go tb e below F T (mkF m pc' Ls (.double z :: sk))) : Go tb e below F T (mkF m pc Ls (.long x :: sk)) := by
  subst hp; exact Go.st (fun _ r => XS.l2dS (g := mkF m pc Ls (.long x :: sk)) h hx rfl hd rfl hv r) q
theorem s_d2i (h : At T m c below) (hx : tb.exec = Jvm.exec) {x : UInt64} {z : Int32} (hd : decode c.code pc = .ok (.d2i, 1)) (hp : pc + 1 = pc') (hv : FP.d2i x = z) (q : Go tb e below F T (mkF m pc' Ls (.int z :: sk))) : Go tb e below F T (mkF m pc Ls (.double x :: sk)) := by
  subst hp; exact Go.st (fun _ r => XS.d2iS (g := mkF m pc Ls (.double x :: sk)) h hx rfl hd rfl hv r) q
theorem s_d2l (h : At T m c below) (hx : tb.exec = Jvm.exec) {x : UInt64} {z : Int64} (hd : decode c.code pc = .ok (.d2l, 1)) (hp : pc + 1 = pc') (hv : FP.d2l x = z) (q : Go tb e below F T (mkF m pc' Ls (.long z :: sk))) : Go tb e below F T (mkF m pc Ls (.double x :: sk)) := by
  subst hp; exact Go.st (fun _ r => XS.d2lS (g := mkF m pc Ls (.double x :: sk)) h hx rfl hd rfl hv r) q
theorem s_dneg (h : At T m c below) (hx : tb.exec = Jvm.exec) {x z : UInt64} (hd : decode c.code pc = .ok (.dneg, 1)) (hp : pc + 1 = pc') (hv : FP.dneg x = z) (q : Go tb e below F T (mkF m pc' Ls (.double z :: sk))) : Go tb e below F T (mkF m pc Ls (.double x :: sk)) := by
  subst hp; exact Go.st (fun _ r => XS.dnegS (g := mkF m pc Ls (.double x :: sk)) h hx rfl hd rfl hv r) q
theorem s_dcmpl (h : At T m c below) (hx : tb.exec = Jvm.exec) {x y : UInt64} {z : Int32} (hd : decode c.code pc = .ok (.dcmp .l, 1)) (hp : pc + 1 = pc') (hv : cmpValue (FP.dcmp x y) .l = z) (q : Go tb e below F T (mkF m pc' Ls (.int z :: sk))) : Go tb e below F T (mkF m pc Ls (.double y :: .double x :: sk)) := by
  subst hp; exact Go.st (fun _ r => XS.dcmpS (g := mkF m pc Ls (.double y :: .double x :: sk)) h hx rfl hd rfl hv r) q
theorem s_dcmpg (h : At T m c below) (hx : tb.exec = Jvm.exec) {x y : UInt64} {z : Int32} (hd : decode c.code pc = .ok (.dcmp .g, 1)) (hp : pc + 1 = pc') (hv : cmpValue (FP.dcmp x y) .g = z) (q : Go tb e below F T (mkF m pc' Ls (.int z :: sk))) : Go tb e below F T (mkF m pc Ls (.double y :: .double x :: sk)) := by
  subst hp; exact Go.st (fun _ r => XS.dcmpS (g := mkF m pc Ls (.double y :: .double x :: sk)) h hx rfl hd rfl hv r) q
theorem s_dadd (h : At T m c below) (hx : tb.exec = Jvm.exec) {x y z : UInt64} (hd : decode c.code pc = .ok (.dadd, 1)) (hp : pc + 1 = pc') (hn : Jvm.Free.Fl.NoNaN64 (FP.dadd x y)) (hv : FP.dadd x y = z) (q : Go tb e below F T (mkF m pc' Ls (.double z :: sk))) : Go tb e below F T (mkF m pc Ls (.double y :: .double x :: sk)) := by
  subst hp; exact Go.st (fun _ r => XS.daddS (g := mkF m pc Ls (.double y :: .double x :: sk)) h hx rfl hd rfl hn hv r) q
theorem s_dsub (h : At T m c below) (hx : tb.exec = Jvm.exec) {x y z : UInt64} (hd : decode c.code pc = .ok (.dsub, 1)) (hp : pc + 1 = pc') (hn : Jvm.Free.Fl.NoNaN64 (FP.dsub x y)) (hv : FP.dsub x y = z) (q : Go tb e below F T (mkF m pc' Ls (.double z :: sk))) : Go tb e below F T (mkF m pc Ls (.double y :: .double x :: sk)) := by
  subst hp; exact Go.st (fun _ r => XS.dsubS (g := mkF m pc Ls (.double y :: .double x :: sk)) h hx rfl hd rfl hn hv r) q
theorem s_dmul (h : At T m c below) (hx : tb.exec = Jvm.exec) {x y z : UInt64} (hd : decode c.code pc = .ok (.dmul, 1)) (hp : pc + 1 = pc') (hn : Jvm.Free.Fl.NoNaN64 (FP.dmul x y)) (hv : FP.dmul x y = z) (q : Go tb e below F T (mkF m pc' Ls (.double z :: sk))) : Go tb e below F T (mkF m pc Ls (.double y :: .double x :: sk)) := by
  subst hp; exact Go.st (fun _ r => XS.dmulS (g := mkF m pc Ls (.double y :: .double x :: sk)) h hx rfl hd rfl hn hv r) q
theorem s_ddiv (h : At T m c below) (hx : tb.exec = Jvm.exec) {x y z : UInt64} (hd : decode c.code pc = .ok (.ddiv, 1)) (hp : pc + 1 = pc') (hn : Jvm.Free.Fl.NoNaN64 (FP.ddiv x y)) (hv : FP.ddiv x y = z) (q : Go tb e below F T (mkF m pc' Ls (.double z :: sk))) : Go tb e below F T (mkF m pc Ls (.double y :: .double x :: sk)) := by
  subst hp; exact Go.st (fun _ r => XS.ddivS (g := mkF m pc Ls (.double y :: .double x :: sk)) h hx rfl hd rfl hn hv r) q
theorem s_dconst0 (h : At T m c below) (hx : tb.exec = Jvm.exec) {v : UInt64} (hd : decode c.code pc = .ok (.dconst 0, 1)) (hp : pc + 1 = pc') (hv : FP.dconst0 = v) (q : Go tb e below F T (mkF m pc' Ls (.double v :: sk))) : Go tb e below F T (mkF m pc Ls (sk)) := by
  subst hp; exact Go.st (fun _ r => XS.dconst0 (g := mkF m pc Ls (sk)) h hx rfl hd hv r) q
theorem s_dconst1 (h : At T m c below) (hx : tb.exec = Jvm.exec) {v : UInt64} (hd : decode c.code pc = .ok (.dconst 1, 1)) (hp : pc + 1 = pc') (hv : FP.dconst1 = v) (q : Go tb e below F T (mkF m pc' Ls (.double v :: sk))) : Go tb e below F T (mkF m pc Ls (sk)) := by
  subst hp; exact Go.st (fun _ r => XS.dconst1 (g := mkF m pc Ls (sk)) h hx rfl hd hv r) q
theorem s_goto (h : At T m c below) (hx : tb.exec = Jvm.exec) {o : Int} (hd : decode c.code pc = .ok (.goto o, 3)) (ho : 0 ≤ (pc : Int) + o) (hp : ((pc : Int) + o).toNat = pc') (q : Go tb e below F T (mkF m pc' Ls sk)) : Go tb e below F T (mkF m pc Ls sk) :=
  Go.st (fun _ r => XS.goto (g := mkF m pc Ls sk) h hx rfl (pc0 := pc) (pc' := pc') rfl hd ho hp r) q
theorem s_ifY (h : At T m c below) (hx : tb.exec = Jvm.exec) {cd : ClassFile.Cond} {o : Int} {x : Int32} (hd : decode c.code pc = .ok (.ifCond cd o, 3)) (hc : ifCond.holds cd x = true) (ho : 0 ≤ (pc : Int) + o) (hp : ((pc : Int) + o).toNat = pc') (q : Go tb e below F T (mkF m pc' Ls sk)) : Go tb e below F T (mkF m pc Ls (.int x :: sk)) :=
  Go.st (fun _ r => XS.ifYes (g := mkF m pc Ls (.int x :: sk)) h hx rfl (pc0 := pc) (pc' := pc') rfl hd rfl hc ho hp r) q
theorem s_ifN (h : At T m c below) (hx : tb.exec = Jvm.exec) {cd : ClassFile.Cond} {o : Int} {x : Int32} (hd : decode c.code pc = .ok (.ifCond cd o, 3)) (hp : pc + 3 = pc') (hc : ifCond.holds cd x = false) (q : Go tb e below F T (mkF m pc' Ls sk)) : Go tb e below F T (mkF m pc Ls (.int x :: sk)) := by
  subst hp; exact Go.st (fun _ r => XS.ifNo (g := mkF m pc Ls (.int x :: sk)) h hx rfl hd rfl hc r) q
theorem s_icmpY (h : At T m c below) (hx : tb.exec = Jvm.exec) {cd : ClassFile.Cond} {o : Int} {x y : Int32} (hd : decode c.code pc = .ok (.if_icmp cd o, 3)) (hc : if_icmp.holds cd x y = true) (ho : 0 ≤ (pc : Int) + o) (hp : ((pc : Int) + o).toNat = pc') (q : Go tb e below F T (mkF m pc' Ls sk)) : Go tb e below F T (mkF m pc Ls (.int y :: .int x :: sk)) :=
  Go.st (fun _ r => XS.icmpYes (g := mkF m pc Ls (.int y :: .int x :: sk)) h hx rfl (pc0 := pc) (pc' := pc') rfl hd rfl hc ho hp r) q
theorem s_icmpN (h : At T m c below) (hx : tb.exec = Jvm.exec) {cd : ClassFile.Cond} {o : Int} {x y : Int32} (hd : decode c.code pc = .ok (.if_icmp cd o, 3)) (hp : pc + 3 = pc') (hc : if_icmp.holds cd x y = false) (q : Go tb e below F T (mkF m pc' Ls sk)) : Go tb e below F T (mkF m pc Ls (.int y :: .int x :: sk)) := by
  subst hp; exact Go.st (fun _ r => XS.icmpNo (g := mkF m pc Ls (.int y :: .int x :: sk)) h hx rfl hd rfl hc r) q
theorem s_ifnullY (h : At T m c below) (hx : tb.exec = Jvm.exec) {o : Int} (hd : decode c.code pc = .ok (.ifnull o, 3)) (ho : 0 ≤ (pc : Int) + o) (hp : ((pc : Int) + o).toNat = pc') (q : Go tb e below F T (mkF m pc' Ls sk)) : Go tb e below F T (mkF m pc Ls (.null :: sk)) :=
  Go.st (fun _ r => XS.ifnullYes (g := mkF m pc Ls (.null :: sk)) h hx rfl (pc0 := pc) (pc' := pc') rfl hd rfl ho hp r) q
theorem s_ifnullN (h : At T m c below) (hx : tb.exec = Jvm.exec) {o : Int} {b : Addr} (hd : decode c.code pc = .ok (.ifnull o, 3)) (hp : pc + 3 = pc') (q : Go tb e below F T (mkF m pc' Ls sk)) : Go tb e below F T (mkF m pc Ls ((.ref b) :: sk)) := by
  subst hp; exact Go.st (fun _ r => XS.ifnullNo (g := mkF m pc Ls ((.ref b) :: sk)) h hx rfl hd rfl r) q
theorem s_ifnonnullY (h : At T m c below) (hx : tb.exec = Jvm.exec) {o : Int} {b : Addr} (hd : decode c.code pc = .ok (.ifnonnull o, 3)) (ho : 0 ≤ (pc : Int) + o) (hp : ((pc : Int) + o).toNat = pc') (q : Go tb e below F T (mkF m pc' Ls sk)) : Go tb e below F T (mkF m pc Ls ((.ref b) :: sk)) :=
  Go.st (fun _ r => XS.ifnonnullYes (g := mkF m pc Ls ((.ref b) :: sk)) h hx rfl (pc0 := pc) (pc' := pc') rfl hd rfl ho hp r) q
theorem s_ifnonnullN (h : At T m c below) (hx : tb.exec = Jvm.exec) {o : Int} (hd : decode c.code pc = .ok (.ifnonnull o, 3)) (hp : pc + 3 = pc') (q : Go tb e below F T (mkF m pc' Ls sk)) : Go tb e below F T (mkF m pc Ls (.null :: sk)) := by
  subst hp; exact Go.st (fun _ r => XS.ifnonnullNo (g := mkF m pc Ls (.null :: sk)) h hx rfl hd rfl r) q
end Steps
end Jvm.Own
namespace Jvm.Own
open Sem ClassFile Op Lib Bundle Jvm.Stand Jvm.Free Jvm.LawKit Jvm.RoadKit
section Ends
variable {tb : Tables} {e : Env} {below : List Frame} {F : State → Prop} {T t : State} {g : JFrame}
theorem Go.fin (h : Steps tb e below (T.setTop g) t) (k : F t) : Go tb e below F T g := ⟨t, h, k⟩
theorem fin_of {P : State → Outcome → Prop} (k : ∀ F : State → Prop, (∀ t o, t.status = .running → Ended t below o → P t o → F t) → Go tb e below F T g) : ∃ s₂ o, Steps tb e below (T.setTop g) s₂ ∧ s₂.status = .running ∧ Ended s₂ below o ∧ P s₂ o := by
  obtain ⟨t, h1, o, h2, h3, h4⟩ := k (fun t => ∃ o, t.status = .running ∧ Ended t below o ∧ P t o) fun t o h2 h3 h4 => ⟨o, h2, h3, h4⟩
  exact ⟨t, o, h1, h2, h3, h4⟩
end Ends
theorem cat_of_ref {v : Value} (h : v.isRef = true) : v.category = 1 := by rcases ref_cases h with rfl | ⟨a, rfl⟩ <;> rfl
theorem own_fits_ref {v : Value} {t : FieldType} (ht : t.isReference = true) (h : v.isRef = true) : fits t v = true := by rcases ref_cases h with rfl | ⟨a, rfl⟩ <;> cases t <;> first | rfl | (cases ht)
theorem own_narrow_ref {v : Value} {t : FieldType} (h : v.isRef = true) : narrow t v = v := by rcases ref_cases h with rfl | ⟨a, rfl⟩ <;> cases t <;> rfl
theorem wideOn {Z s : State} {vm0 vm1 : Vm} {n : Nat} {own : String} {k : ClassId} (hZ : Z.Warmed39 vm0) (hS : (s.setVm vm0).Since vm1 n) (hown : vm0.findClass own = some k) : Z.Warmed39 vm1 ∧ vm1.findClass own = some k :=
  ⟨State.Warmed39.trans (t := s.setVm vm0) hZ hS.1, by rw [hS.1.alike.findClass]; exact hown⟩
section BackX
variable {p : Program} {l : Launch} {e : Env} {R : Room} {s : State} {args : Array Value} {below : List Frame} {Z : State} {a0 : Array Value} {EL : List (String × Nat)} {h : Heap} {vm0 : Vm}
/-- what pays a call of a body that may load literals, whose objects xs are no literal's -/
theorem backX {y : MethodName} {bytes : ByteArray} {maxL : Nat} {ret : Option FieldType} {rm : Room} {len W : Nat} {as' : Array Value} {Q : Option Value → Heap → List Loc → Prop} {xs : List Addr}
    (hM : MetFree l y (head1 [Cond.code y bytes maxL ret] rm) (fun a U => a = as' ∧ Z.Warmed39 U.vm ∧ U.heap = h ∧ CHv Z EL U.vm h ∧ ∀ x ∈ xs, Safe Z EL U.vm h x) (fun _ _ _ _ _ => True) (fun _ U o U' => ∃ v L, o = .returned v ∧ Q v U'.heap L ∧ CHr Z EL U.vm U.heap U'.vm U'.heap ∧ ReturnedEndW U o U' L rm.cells rm.slots))
    (hZ : Z.Warmed39 vm0) (wc : (Cond.code y bytes maxL ret).before a0 Z = true) (wz : (Cond.initialized y.cls).before a0 Z = true) (hf : rm.frames + 1 ≤ R.frames) (hl : W + (maxL + 11) + rm.locals ≤ R.locals) (hEL : EW Z a0 EL) (H : CHv Z EL vm0 h) (hs : ∀ x ∈ xs, x < h.size ∧ Safe Z EL vm0 h x) :
    BackS l R p e below (s.setVm vm0) args y len W (fun A a => a = as' ∧ A.U.heap = h ∧ A.cells + rm.cells ≤ R.cells ∧ A.slots + rm.slots ≤ R.slots)
      (fun A _ v B => ∃ L, Q v B.U.heap L ∧ B.locs = A.locs ++ L ∧ B.cells = A.cells + rm.cells ∧ B.slots = A.slots + rm.slots ∧ CHr Z EL vm0 h B.U.vm B.U.heap) := by
  refine BackS.of_freeW (bytes := bytes) (maxL := maxL) (ret := ret) (E := fun _ first o t L k n => k = rm.cells ∧ n = rm.slots ∧ (∃ v, o = .returned v ∧ Q v t.heap L) ∧ CHr Z EL first.vm first.heap t.vm t.heap) hM hf hl ?_ ?_ (fun _ _ _ _ _ _ _ _ _ => trivial) ?_ ?_
  · intro m meth c A a Y hp
    have hU : Z.Warmed39 A.U.vm := wtrans (s := s.setVm vm0) hZ Y.warmed
    exact ⟨by show (Cond.and _ .tt).before a A.U = true; rw [Cond.before_and, mv hU wc]; rfl, mv hU wc, mv hU wz, hp.2.2.1, hp.2.2.2⟩
  · intro m meth c A a g mk Y hp
    have K := CHv.at Y hZ hEL H
    exact ⟨hp.1, wtrans (s := s.setVm vm0) hZ Y.warmed, hp.2.1, K.1, fun x hx => K.safe (hs x hx).1 (hs x hx).2⟩
  · intro _ _ _ _ ⟨v, L, h1, h2, h3, h4⟩
    exact ⟨L, _, _, h4, rfl, rfl, ⟨v, h1, h2⟩, h3⟩
  · intro m meth c A a g mk v t L k n Y hp _ _ ⟨e1, e2, ⟨v', e3, e4⟩, e5⟩
    cases e3; subst e1 e2
    refine ⟨L, e4, rfl, rfl, rfl, (CHv.at Y hZ hEL H).trans ?_⟩
    rw [← hp.2.1]; exact e5
end BackX
/-! small numbers -/
theorem eq32 {a b : Int32} (h : a.toInt = b.toInt) : a = b := Int32.toInt_inj.mp h
theorem chr_nar {c : Int32} (h : ¬ c < 0 ∧ ¬ (255 : Int32) < c) : nar .char c = c := by
  have q := c_i2c c
  have e1 : (255 : Int32).toInt = 255 := rfl
  have e0 : (0 : Int32).toInt = 0 := rfl
  have h1 := h.1; have h2 := h.2
  rw [Int32.lt_iff_toInt_lt] at h1 h2
  exact eq32 (by show c.toUInt32.toUInt16.toUInt32.toInt32.toInt = _; omega)
theorem chr_i2c {c : Int32} (h : ¬ c < 0 ∧ ¬ (255 : Int32) < c) : c.toUInt32.toUInt16.toUInt32.toInt32 = c := chr_nar h
theorem chr_mask (x : Int32) : ¬ (x &&& 255) < 0 ∧ ¬ (255 : Int32) < (x &&& 255) := by
  have q := c_mask x 255 8 (by decide) (by decide)
  have e1 : (255 : Int32).toInt = 255 := rfl
  have e0 : (0 : Int32).toInt = 0 := rfl
  rw [Int32.lt_iff_toInt_lt, Int32.lt_iff_toInt_lt]
  omega
theorem chr_lit {k : Nat} (h : k < 256) : ¬ (Int32.ofNat k) < 0 ∧ ¬ (255 : Int32) < (Int32.ofNat k) := by
  have q : (Int32.ofNat k).toInt = k := Int32.toInt_ofNat_small (by omega)
  have e1 : (255 : Int32).toInt = 255 := rfl
  have e0 : (0 : Int32).toInt = 0 := rfl
  rw [Int32.lt_iff_toInt_lt, Int32.lt_iff_toInt_lt]
  omega
theorem chr_up {cs : List Int32} (h : ∀ c ∈ cs, ¬ c < 0 ∧ ¬ (255 : Int32) < c) : ∀ c ∈ cs, ¬ c < 0 ∧ ¬ (65535 : Int32) < c := fun c hc => ⟨(h c hc).1, fun q => (h c hc).2 (by rw [Int32.lt_iff_toInt_lt] at q ⊢; have e1 : (65535 : Int32).toInt = 65535 := rfl; have e2 : (255 : Int32).toInt = 255 := rfl; omega)⟩
theorem bit01 (P : Prop) [Decidable P] : (if P then (0 : Int32) else 1) = 0 ∨ (if P then (0 : Int32) else 1) = 1 := by by_cases h : P <;> simp [h]
theorem nar_b {x : Int32} (h : x = 0 ∨ x = 1) : nar .boolean x = x := by rcases h with rfl | rfl <;> decide
theorem narZ {k : Int32} (h : k = 0 ∨ k = 1) : narrow .boolean (.int k) = .int k := by rcases h with rfl | rfl <;> decide
theorem fitZ {k : Int32} (h : k = 0 ∨ k = 1) : fits .boolean (.int k) = true := by rcases h with rfl | rfl <;> decide
end Jvm.Own
/- laws to paste: Road.backV, Road.codOf (cut by pick.py; bodies as the Statement names them) -/
namespace Jvm.Pilot.@@N@@
namespace StrChars
open Jvm Sem ClassFile Op Lib Jvm.Stand Jvm.Free.XT Jvm.Free.ALB Jvm.Free.JM Jvm.Free
open Jvm.Lib.Cold (StaticIs)
/-- a char array whose places are chars -/
def Ch (a : Addr) (A : Cell) (U : State) : Prop := Arr .char a A U ∧ Typed .char A
theorem Ch.mv {a : Addr} {A : Cell} {U U' : State} (h : Ch a A U) (hal : U.vm.Alike U'.vm) (hh : U'.heap = U.heap) : Ch a A U' := ⟨h.1.mv hal hh, h.2⟩
theorem Ch.keep {a : Addr} {A : Cell} {U U' : State} (h : Ch a A U) (hal : U.vm.Alike U'.vm) (hk : U'.heap[a]? = some A) : Ch a A U' := ⟨h.1.keep hal hk, h.2⟩
/-- what place i of a char[]'s cell holds -/
def cv (A : Cell) (i : Nat) : Int32 := match A.slots[i]? with | some (.int x) => x | _ => 0
theorem Ch.get {a : Addr} {A : Cell} {U : State} (h : Ch a A U) {i : Nat} (hi : i < A.slots.size) : A.slots[i]? = some (.int (cv A i)) := by
  have e := Array.getElem?_eq_getElem hi
  have f := h.2 i _ e
  unfold cv; rw [e]
  generalize A.slots[i] = v at f
  cases v <;> simp [fits] at f ⊢
/-- the byte that i2b leaves of a char -/
def lo8 (x : Int32) : Int32 := x.toInt8.toInt32
theorem fits_lo8 (y : Int32) : fits .byte (.int (lo8 y)) = true := by
  have h1 := y.toInt8.le_toInt
  have h2 := y.toInt8.toInt_lt
  simp only [lo8, fits, Bool.and_eq_true, decide_eq_true_eq, Int32.le_iff_toInt_le, Int8.toInt_toInt32, show (-128 : Int32).toInt = -128 from by decide, show (127 : Int32).toInt = 127 from by decide]
  omega
/-- A' is A but that each place j of lo .. hi - 1 holds f j -/
def Laid (A A' : Cell) (lo hi : Nat) (f : Nat → Value) : Prop := A'.cls = A.cls ∧ A'.vm = A.vm ∧ A'.slots.size = A.slots.size ∧ ∀ i, A'.slots[i]? = if lo ≤ i ∧ i < hi then some (f i) else A.slots[i]?
theorem Laid.zero (A : Cell) (lo : Nat) (f : Nat → Value) : Laid A A lo (lo + 0) f := ⟨rfl, rfl, rfl, fun i => by rw [if_neg (by omega)]⟩
theorem Laid.step {A Ak : Cell} {lo k : Nat} {f : Nat → Value} {v : Value} (h : Laid A Ak lo k f) (hlo : lo ≤ k) (hk : k < Ak.slots.size) (hv : v = f k) : Laid A (Ak.setSlot k v) lo (k + 1) f := by
  refine ⟨h.1, h.2.1, by simpa [Cell.setSlot] using h.2.2.1, fun i => ?_⟩
  by_cases e : k = i
  · subst e; rw [Cell.slots_setSlot_self v hk, if_pos (by omega), hv]
  · rw [Cell.slots_setSlot_ne v e, h.2.2.2 i]
    by_cases q : lo ≤ i ∧ i < k
    · rw [if_pos q, if_pos (by omega)]
    · rw [if_neg q, if_neg (by omega)]
def U16 : String := "java/lang/StringUTF16"
namespace Cmp5
def yN : MethodName := ⟨"java/lang/StringUTF16", "compress", "([CI[BII)I"⟩
abbrev yB : ByteArray := jdk_52_method_21_code
theorem d0 : decode yB 0 = .ok (.iconst 0, 1) := by decide +kernel
theorem d1 : decode yB 1 = .ok (.istore 5, 2) := by decide +kernel
theorem d3 : decode yB 3 = .ok (.iload 5, 2) := by decide +kernel
theorem d5 : decode yB 5 = .ok (.iload 4, 2) := by decide +kernel
theorem d7 : decode yB 7 = .ok (.if_icmp (.ge) 37, 3) := by decide +kernel
theorem d10 : decode yB 10 = .ok (.aload_n 0, 1) := by decide +kernel
theorem d11 : decode yB 11 = .ok (.iload_n 1, 1) := by decide +kernel
theorem d12 : decode yB 12 = .ok (.caload, 1) := by decide +kernel
theorem d13 : decode yB 13 = .ok (.istore 6, 2) := by decide +kernel
theorem d15 : decode yB 15 = .ok (.iload 6, 2) := by decide +kernel
theorem d17 : decode yB 17 = .ok (.sipush 255, 3) := by decide +kernel
theorem d20 : decode yB 20 = .ok (.if_icmp (.le) 6, 3) := by decide +kernel
theorem d26 : decode yB 26 = .ok (.aload_n 2, 1) := by decide +kernel
theorem d27 : decode yB 27 = .ok (.iload_n 3, 1) := by decide +kernel
theorem d28 : decode yB 28 = .ok (.iload 6, 2) := by decide +kernel
theorem d30 : decode yB 30 = .ok (.i2b, 1) := by decide +kernel
theorem d31 : decode yB 31 = .ok (.bastore, 1) := by decide +kernel
theorem d32 : decode yB 32 = .ok (.iinc 1 1, 3) := by decide +kernel
theorem d35 : decode yB 35 = .ok (.iinc 3 1, 3) := by decide +kernel
theorem d38 : decode yB 38 = .ok (.iinc 5 1, 3) := by decide +kernel
theorem d41 : decode yB 41 = .ok (.goto (-38), 3) := by decide +kernel
theorem d44 : decode yB 44 = .ok (.iload 4, 2) := by decide +kernel
theorem d46 : decode yB 46 = .ok (.ireturn, 1) := by decide +kernel
def site : List Cond := []
def tab : Cond := tabOf yN yB 7 (some .int) site
def P (b : Addr) (A : Cell) (d : Addr) (B : Cell) (o q len : Nat) (args : Array Value) (s : State) : Prop := args = #[.ref b, .int (Int32.ofNat o), .ref d, .int (Int32.ofNat q), .int (Int32.ofNat len)] ∧ Ch b A s ∧ Arr .byte d B s ∧ b ≠ d ∧ o + len ≤ A.slots.size ∧ q + len ≤ B.slots.size ∧ ∀ i, i < len → ¬ 255 < cv A (o + i)
def E (b : Addr) (A : Cell) (d : Addr) (B : Cell) (o q len : Nat) (r : Option Value) (s u : State) : Prop := r = some (.int (Int32.ofNat len)) ∧ ∃ B', Put d B' s u ∧ Laid B B' q (q + len) (fun j => Value.int (lo8 (cv A (o + (j - q)))))
/-- no char of the range above 255: len; the places written hold each char's low byte -/
theorem law (l : Launch) (b : Addr) (A : Cell) (d : Addr) (B : Cell) (o q len : Nat) : Law l yN 5 5 0 0 yB 7 (some .int) site (P b A d B o q len) (E b A d B o q len) (copyLocs d q len) 0 0 := by
  refine Law.of_walk (plainFor_of_name (by decide +kernel)) (by decide +kernel) (by decide +kernel) (by decide) (fun _ _ h => by rw [h.1]; rfl) (fun _ U U' hal hh h => ⟨h.1, h.2.1.mv hal hh, h.2.2.1.mv hal hh, h.2.2.2⟩) (fun r U U' V V' h1 hal h2 h => ⟨h.1, h.2.elim fun B' q => ⟨B', q.1.mv h1 h2, q.2⟩⟩) ?_
  intro p e s m args below meth c s₁ X0 hexec hbytes hml hret hlk hnm hown hh0 W hP
  obtain ⟨rfl, hA, hB, hne, l1, l2, hp⟩ := hP
  have c1 : Steps p.tables e below (s₁.setTop (entryFrame m #[.ref b, .int (Int32.ofNat o), .ref d, .int (Int32.ofNat q), .int (Int32.ofNat len)] 7)) (s₁.setTop (mkF m 0 #[.val (.ref b), .val (.int (Int32.ofNat o)), .val (.ref d), .val (.int (Int32.ofNat q)), .val (.int (Int32.ofNat len)), .unset, .unset] [])) := entry rfl
  have hA0 := hA.1.mv X0.warmed.alike hh0
  have hB0 := hB.mv X0.warmed.alike hh0
  have a31 := hA.1.2.2.2
  have c2 : Steps p.tables e below (s₁.setTop (entryFrame m #[.ref b, .int (Int32.ofNat o), .ref d, .int (Int32.ofNat q), .int (Int32.ofNat len)] 7)) (s₁.setTop (mkF m 3 #[.val (.ref b), .val (.int (Int32.ofNat o)), .val (.ref d), .val (.int (Int32.ofNat q)), .val (.int (Int32.ofNat len)), .val (.int 0), .unset] [])) := c1.trans (by
    refine iconstV X0.here hexec rfl 0 (hb hbytes d0) (by decide) ?_
    refine XS.istore X0.here hexec rfl (hb hbytes d1) rfl rfl ?_
    exact Steps.refl _)
  have loop : ∀ (r i : Nat), i + r = len → ∀ (z : Slot), (z = .unset ∨ ∃ w, z = .val w ∧ w.category = 1) → ∀ (Tl : State) (Bk : Cell), Stand p l e { frames := 0, locals := 0, cells := 0, slots := 0 } s m #[.ref b, .int (Int32.ofNat o), .ref d, .int (Int32.ofNat q), .int (Int32.ofNat len)] below meth c Tl ([] ++ copyLocs d q i) 0 0 → Put d Bk s₁ Tl → Laid B Bk q (q + i) (fun j => Value.int (lo8 (cv A (o + (j - q))))) →
      Steps p.tables e below (s₁.setTop (entryFrame m #[.ref b, .int (Int32.ofNat o), .ref d, .int (Int32.ofNat q), .int (Int32.ofNat len)] 7)) (Tl.setTop (mkF m 3 #[.val (.ref b), .val (.int (Int32.ofNat (o + i))), .val (.ref d), .val (.int (Int32.ofNat (q + i))), .val (.int (Int32.ofNat len)), .val (.int (Int32.ofNat i)), z] [])) → ∃ (T' : State) (B' : Cell) (z' : Slot), Stand p l e { frames := 0, locals := 0, cells := 0, slots := 0 } s m #[.ref b, .int (Int32.ofNat o), .ref d, .int (Int32.ofNat q), .int (Int32.ofNat len)] below meth c T' ([] ++ copyLocs d q len) 0 0 ∧ Put d B' s₁ T' ∧ Laid B B' q (q + len) (fun j => Value.int (lo8 (cv A (o + (j - q))))) ∧
      Steps p.tables e below (s₁.setTop (entryFrame m #[.ref b, .int (Int32.ofNat o), .ref d, .int (Int32.ofNat q), .int (Int32.ofNat len)] 7)) (T'.setTop (mkF m 3 #[.val (.ref b), .val (.int (Int32.ofNat (o + len))), .val (.ref d), .val (.int (Int32.ofNat (q + len))), .val (.int (Int32.ofNat len)), .val (.int (Int32.ofNat len)), z'] [])) := by
    intro r
    induction r with
    | zero =>
      intro i hi z hz Tl Bk Xl pl fl cl
      have hil : i = len := by omega
      rw [hil] at Xl fl cl
      exact ⟨Tl, Bk, z, Xl, pl, fl, cl⟩
    | succ r ih =>
      intro i hi z hz Tl Bk Xl pl fl cl
      have all := X0.warmed.alike.symm.trans Xl.warmed.alike
      have hAl := hA0.keep all (pl.other hne hA0.1)
      have hBk := hB0.like all pl.1 fl.1 fl.2.1 fl.2.2.1
      have hlt : q + i < Bk.slots.size := by rw [fl.2.2.1]; omega
      have c3 : Steps p.tables e below (s₁.setTop (entryFrame m #[.ref b, .int (Int32.ofNat o), .ref d, .int (Int32.ofNat q), .int (Int32.ofNat len)] 7)) (Tl.setTop (mkF m 12 #[.val (.ref b), .val (.int (Int32.ofNat (o + i))), .val (.ref d), .val (.int (Int32.ofNat (q + i))), .val (.int (Int32.ofNat len)), .val (.int (Int32.ofNat i)), z] [.int (Int32.ofNat (o + i)), .ref b])) := cl.trans (by
        refine XS.iload Xl.here hexec rfl (hb hbytes d3) rfl ?_
        refine XS.iload Xl.here hexec rfl (hb hbytes d5) rfl ?_
        refine XS.icmpNo Xl.here hexec rfl (hb hbytes d7) rfl (ii_ge_f (lt32 (by omega) (by omega))) ?_
        refine XS.aloadN Xl.here hexec rfl (hb hbytes d10) rfl rfl ?_
        refine XS.iloadN Xl.here hexec rfl (hb hbytes d11) rfl ?_
        exact Steps.refl _)
      have c4 : Steps p.tables e below (s₁.setTop (entryFrame m #[.ref b, .int (Int32.ofNat o), .ref d, .int (Int32.ofNat q), .int (Int32.ofNat len)] 7)) (Tl.setTop (mkF m 13 #[.val (.ref b), .val (.int (Int32.ofNat (o + i))), .val (.ref d), .val (.int (Int32.ofNat (q + i))), .val (.int (Int32.ofNat len)), .val (.int (Int32.ofNat i)), z] [.int (cv A (o + i))])) := c3.trans (by
        refine Xl.aget hexec hAl rfl (hA.get (i := o + i) (by omega)) rfl rfl (hb hbytes d12) ?_
        exact Steps.refl _)
      have c5 : Steps p.tables e below (s₁.setTop (entryFrame m #[.ref b, .int (Int32.ofNat o), .ref d, .int (Int32.ofNat q), .int (Int32.ofNat len)] 7)) (Tl.setTop (mkF m 15 #[.val (.ref b), .val (.int (Int32.ofNat (o + i))), .val (.ref d), .val (.int (Int32.ofNat (q + i))), .val (.int (Int32.ofNat len)), .val (.int (Int32.ofNat i)), .val (.int (cv A (o + i)))] [])) := c4.trans (by
        refine XS.istoreS Xl.here hexec rfl (hb hbytes d13) rfl rfl hz ?_
        exact Steps.refl _)
      have c6 : Steps p.tables e below (s₁.setTop (entryFrame m #[.ref b, .int (Int32.ofNat o), .ref d, .int (Int32.ofNat q), .int (Int32.ofNat len)] 7)) (Tl.setTop (mkF m 31 #[.val (.ref b), .val (.int (Int32.ofNat (o + i))), .val (.ref d), .val (.int (Int32.ofNat (q + i))), .val (.int (Int32.ofNat len)), .val (.int (Int32.ofNat i)), .val (.int (cv A (o + i)))] [.int (lo8 (cv A (o + i))), .int (Int32.ofNat (q + i)), .ref d])) := c5.trans (by
        refine XS.iload Xl.here hexec rfl (hb hbytes d15) rfl ?_
        refine sipushV Xl.here hexec rfl 255 (hb hbytes d17) (by decide) ?_
        refine XS.icmpYes Xl.here hexec rfl (pc0 := 20) rfl (hb hbytes d20) rfl (ii_le_t (hp i (by omega))) (by decide) rfl ?_
        refine XS.aloadN Xl.here hexec rfl (hb hbytes d26) rfl rfl ?_
        refine XS.iloadN Xl.here hexec rfl (hb hbytes d27) rfl ?_
        refine XS.iload Xl.here hexec rfl (hb hbytes d28) rfl ?_
        refine i2b Xl.here hexec rfl (hb hbytes d30) rfl ?_
        exact Steps.refl _)
      obtain ⟨T7, X7, p7, st7⟩ := Xl.aput hexec hBk rfl hlt rfl (fits_lo8 (cv A (o + i))) (g := (mkF m 31 #[.val (.ref b), .val (.int (Int32.ofNat (o + i))), .val (.ref d), .val (.int (Int32.ofNat (q + i))), .val (.int (Int32.ofNat len)), .val (.int (Int32.ofNat i)), .val (.int (cv A (o + i)))] [.int (lo8 (cv A (o + i))), .int (Int32.ofNat (q + i)), .ref d])) rfl (rest := []) rfl (hb hbytes d31)
      have c8 : Steps p.tables e below (s₁.setTop (entryFrame m #[.ref b, .int (Int32.ofNat o), .ref d, .int (Int32.ofNat q), .int (Int32.ofNat len)] 7)) (T7.setTop (mkF m 32 #[.val (.ref b), .val (.int (Int32.ofNat (o + i))), .val (.ref d), .val (.int (Int32.ofNat (q + i))), .val (.int (Int32.ofNat len)), .val (.int (Int32.ofNat i)), .val (.int (cv A (o + i)))] [])) := c6.trans (st7 _ (Steps.refl _))
      have c9 : Steps p.tables e below (s₁.setTop (entryFrame m #[.ref b, .int (Int32.ofNat o), .ref d, .int (Int32.ofNat q), .int (Int32.ofNat len)] 7)) (T7.setTop (mkF m 3 #[.val (.ref b), .val (.int (Int32.ofNat (o + i) + 1)), .val (.ref d), .val (.int (Int32.ofNat (q + i) + 1)), .val (.int (Int32.ofNat len)), .val (.int (Int32.ofNat i + 1)), .val (.int (cv A (o + i)))] [])) := c8.trans (by
        refine iincV X7.here hexec rfl 1 (hb hbytes d32) (by decide) rfl rfl ?_
        refine iincV X7.here hexec rfl 1 (hb hbytes d35) (by decide) rfl rfl ?_
        refine iincV X7.here hexec rfl 1 (hb hbytes d38) (by decide) rfl rfl ?_
        refine XS.goto X7.here hexec rfl (pc0 := 41) rfl (hb hbytes d41) (by decide) rfl ?_
        exact Steps.refl _)
      have c10 : Steps p.tables e below (s₁.setTop (entryFrame m #[.ref b, .int (Int32.ofNat o), .ref d, .int (Int32.ofNat q), .int (Int32.ofNat len)] 7)) (T7.setTop (mkF m 3 #[.val (.ref b), .val (.int (Int32.ofNat (o + (i + 1)))), .val (.ref d), .val (.int (Int32.ofNat (q + (i + 1)))), .val (.int (Int32.ofNat len)), .val (.int (Int32.ofNat (i + 1))), .val (.int (cv A (o + i)))] [])) := by
        have := c9
        rw [succ32, succ32, succ32] at this
        exact this
      exact ih (i + 1) (by omega) _ (Or.inr ⟨_, rfl, rfl⟩) T7 _ (by rw [copyLocs_step, ← List.append_assoc]; exact X7) (pl.trans p7) (fl.step (by omega) hlt (by simp)) c10
  obtain ⟨T9, B9, z9, X9, p9, f9, g9⟩ := loop len 0 (by omega) .unset (Or.inl rfl) s₁ B (by simpa [copyLocs] using X0) ⟨hB0.1, fun _ _ => rfl, rfl⟩ (Laid.zero _ _ _) c2
  have c11 : Steps p.tables e below (s₁.setTop (entryFrame m #[.ref b, .int (Int32.ofNat o), .ref d, .int (Int32.ofNat q), .int (Int32.ofNat len)] 7)) (T9.setTop (mkF m 46 #[.val (.ref b), .val (.int (Int32.ofNat (o + len))), .val (.ref d), .val (.int (Int32.ofNat (q + len))), .val (.int (Int32.ofNat len)), .val (.int (Int32.ofNat len)), z9] [.int (Int32.ofNat len)])) := g9.trans (by
    refine XS.iload X9.here hexec rfl (hb hbytes d3) rfl ?_
    refine XS.iload X9.here hexec rfl (hb hbytes d5) rfl ?_
    refine XS.icmpYes X9.here hexec rfl (pc0 := 7) rfl (hb hbytes d7) rfl (ii_ge_t (nlt32 (by omega) (Nat.le_refl _))) (by decide) rfl ?_
    refine XS.iload X9.here hexec rfl (hb hbytes d44) rfl ?_
    exact Steps.refl _)
  exact ⟨T9, some (.int (Int32.ofNat len)), _, _, _, X9, by simp, rfl, rfl, (fun h => by cases h), ⟨rfl, B9, p9.from hh0, f9⟩, fun fs hl => c11.trans (X9.ireturnOut hexec hret rfl (Or.inl rfl) (hb hbytes d46) hl)⟩
end Cmp5
namespace Cmp3
def yN : MethodName := ⟨"java/lang/StringUTF16", "compress", "([CII)[B"⟩
abbrev yB : ByteArray := jdk_52_method_16_code
theorem d0 : decode yB 0 = .ok (.iload_n 2, 1) := by decide +kernel
theorem d1 : decode yB 1 = .ok (.newarray .byte, 2) := by decide +kernel
theorem d3 : decode yB 3 = .ok (.astore_n 3, 1) := by decide +kernel
theorem d4 : decode yB 4 = .ok (.aload_n 0, 1) := by decide +kernel
theorem d5 : decode yB 5 = .ok (.iload_n 1, 1) := by decide +kernel
theorem d6 : decode yB 6 = .ok (.aload_n 3, 1) := by decide +kernel
theorem d7 : decode yB 7 = .ok (.iconst 0, 1) := by decide +kernel
theorem d8 : decode yB 8 = .ok (.iload_n 2, 1) := by decide +kernel
theorem d9 : decode yB 9 = .ok (.invokestatic 115, 3) := by decide +kernel
theorem d12 : decode yB 12 = .ok (.istore 4, 2) := by decide +kernel
theorem d14 : decode yB 14 = .ok (.iload 4, 2) := by decide +kernel
theorem d16 : decode yB 16 = .ok (.iload_n 2, 1) := by decide +kernel
theorem d17 : decode yB 17 = .ok (.if_icmp (.eq) 40, 3) := by decide +kernel
theorem d57 : decode yB 57 = .ok (.aload_n 3, 1) := by decide +kernel
theorem d58 : decode yB 58 = .ok (.areturn, 1) := by decide +kernel
def site : List Cond := [.arrayClass .byte, Cmp5.tab] ++ staticW U16 115 Cmp5.yN
def tab : Cond := tabOf yN yB 6 (some (.array .byte)) site
def P (b : Addr) (A : Cell) (o len : Nat) (args : Array Value) (s : State) : Prop := args = #[.ref b, .int (Int32.ofNat o), .int (Int32.ofNat len)] ∧ Ch b A s ∧ o + len ≤ A.slots.size ∧ len ≤ 536870912 ∧ ∀ i, i < len → ¬ 255 < cv A (o + i)
def E (b : Addr) (A : Cell) (o len : Nat) (r : Option Value) (s u : State) : Prop := NewArr .byte "[B" len (fun j => .int (lo8 (cv A (o + j)))) r s u ∧ u.heap.size = s.heap.size + 1
/-- no char of the range above 255: a new byte[] of their low bytes -/
theorem law (l : Launch) (b : Addr) (A : Cell) (o len : Nat) : Law l yN 3 3 1 18 yB 6 (some (.array .byte)) site (P b A o len) (E b A o len) [] 1 len := by
  refine Law.of_walk (plainFor_of_name (by decide +kernel)) (by decide +kernel) (by decide +kernel) (by decide) (fun _ _ h => by rw [h.1]; rfl) (fun _ U U' hal hh h => ⟨h.1, h.2.1.mv hal hh, h.2.2⟩) (fun r U U' V V' h1 hal h2 h => ⟨NewArr.mv r U U' V V' h1 hal h2 h.1, by rw [h1, h2]; exact h.2⟩) ?_
  intro p e s m args below meth c s₁ X0 hexec hbytes hml hret hlk hnm hown hh0 W hP
  obtain ⟨rfl, hA, l1, l2, hp⟩ := hP
  have a31 := hA.1.2.2.2
  have c1 : Steps p.tables e below (s₁.setTop (entryFrame m #[.ref b, .int (Int32.ofNat o), .int (Int32.ofNat len)] 6)) (s₁.setTop (mkF m 0 #[.val (.ref b), .val (.int (Int32.ofNat o)), .val (.int (Int32.ofNat len)), .unset, .unset, .unset] [])) := entry rfl
  have c2 : Steps p.tables e below (s₁.setTop (entryFrame m #[.ref b, .int (Int32.ofNat o), .int (Int32.ofNat len)] 6)) (s₁.setTop (mkF m 1 #[.val (.ref b), .val (.int (Int32.ofNat o)), .val (.int (Int32.ofNat len)), .unset, .unset, .unset] [.int (Int32.ofNat len)])) := c1.trans (by
    refine XS.iloadN X0.here hexec rfl (hb hbytes d0) rfl ?_
    exact Steps.refl _)
  obtain ⟨T3, B3, X3, ba3, bs3, bv3, bh3, bf3, st3⟩ := X0.anew hexec (atype := .byte) (wk W (.arrayClass .byte)) rfl (by show len * 1 ≤ _; omega) (by omega) (g := (mkF m 1 #[.val (.ref b), .val (.int (Int32.ofNat o)), .val (.int (Int32.ofNat len)), .unset, .unset, .unset] [.int (Int32.ofNat len)])) rfl (hb hbytes d1) (rest := []) rfl (Nat.le_refl _) (by show 0 + len ≤ len; omega)
  rw [hh0] at ba3 st3
  have kp3 : XT.Kept s T3 := (XT.Kept.of_eq hh0).push bh3
  have hA3 := hA.keep X3.warmed.alike (kp3 _ _ hA.1.1)
  have hne : b ≠ s.heap.size := hA.1.ne
  have c4 : Steps p.tables e below (s₁.setTop (entryFrame m #[.ref b, .int (Int32.ofNat o), .int (Int32.ofNat len)] 6)) (T3.setTop (mkF m 3 #[.val (.ref b), .val (.int (Int32.ofNat o)), .val (.int (Int32.ofNat len)), .unset, .unset, .unset] [.ref s.heap.size])) := c2.trans (st3 _ (Steps.refl _))
  have c5 : Steps p.tables e below (s₁.setTop (entryFrame m #[.ref b, .int (Int32.ofNat o), .int (Int32.ofNat len)] 6)) (T3.setTop (mkF m 9 #[.val (.ref b), .val (.int (Int32.ofNat o)), .val (.int (Int32.ofNat len)), .val (.ref s.heap.size), .unset, .unset] [.int (Int32.ofNat len), .int 0, .ref s.heap.size, .int (Int32.ofNat o), .ref b])) := c4.trans (by
    refine XS.astoreN X3.here hexec rfl (hb hbytes d3) rfl rfl rfl ?_
    refine XS.aloadN X3.here hexec rfl (hb hbytes d4) rfl rfl ?_
    refine XS.iloadN X3.here hexec rfl (hb hbytes d5) rfl ?_
    refine XS.aloadN X3.here hexec rfl (hb hbytes d6) rfl rfl ?_
    refine iconstV X3.here hexec rfl 0 (hb hbytes d7) (by decide) ?_
    refine XS.iloadN X3.here hexec rfl (hb hbytes d8) rfl ?_
    exact Steps.refl _)
  obtain ⟨v6, T6, X6, E6, g6⟩ := X3.callS hexec (Cmp5.law l b A s.heap.size B3 o 0 len) hown (wks W (staticW U16 115 Cmp5.yN)) (wk W Cmp5.tab) (W := 0) (Nat.le_of_ble_eq_true rfl) (Nat.le_of_ble_eq_true rfl) (Nat.le_refl _) (by show 0 + len + 0 ≤ len; omega) (g := (mkF m 9 #[.val (.ref b), .val (.int (Int32.ofNat o)), .val (.int (Int32.ofNat len)), .val (.ref s.heap.size), .unset, .unset] [.int (Int32.ofNat len), .int (Int32.ofNat 0), .ref s.heap.size, .int (Int32.ofNat o), .ref b])) rfl (by rw [hml]; rfl) c5 (argsL := [.ref b, .int (Int32.ofNat o), .ref s.heap.size, .int (Int32.ofNat 0), .int (Int32.ofNat len)]) (rest := []) rfl rfl (by show 2 * 0 + 0 ≤ _; decide) (hb hbytes d9) (⟨rfl, hA3, ba3, hne, l1, by rw [bs3]; simp, hp⟩)
  obtain ⟨rfl, B6, p6, f6⟩ := E6
  have c7 : Steps p.tables e below (s₁.setTop (entryFrame m #[.ref b, .int (Int32.ofNat o), .int (Int32.ofNat len)] 6)) (T6.setTop (mkF m 12 #[.val (.ref b), .val (.int (Int32.ofNat o)), .val (.int (Int32.ofNat len)), .val (.ref s.heap.size), .unset, .unset] [.int (Int32.ofNat len)])) := g6
  have c8 : Steps p.tables e below (s₁.setTop (entryFrame m #[.ref b, .int (Int32.ofNat o), .int (Int32.ofNat len)] 6)) (T6.setTop (mkF m 58 #[.val (.ref b), .val (.int (Int32.ofNat o)), .val (.int (Int32.ofNat len)), .val (.ref s.heap.size), .val (.int (Int32.ofNat len)), .unset] [.ref s.heap.size])) := c7.trans (by
    refine XS.istore X6.here hexec rfl (hb hbytes d12) rfl rfl ?_
    refine XS.iload X6.here hexec rfl (hb hbytes d14) rfl ?_
    refine XS.iloadN X6.here hexec rfl (hb hbytes d16) rfl ?_
    refine XS.icmpYes X6.here hexec rfl (pc0 := 17) rfl (hb hbytes d17) rfl (ii_eq_t rfl) (by decide) rfl ?_
    refine XS.aloadN X6.here hexec rfl (hb hbytes d57) rfl rfl ?_
    exact Steps.refl _)
  have X8 := X6.wide (L' := []) (cells' := 1) (slots' := len) (fun x hx hlt => by
    simp only [List.nil_append, copyLocs, List.mem_map, List.mem_range] at hx
    obtain ⟨i, -, rfl⟩ := hx
    exact absurd hlt (Nat.lt_irrefl _)) (Nat.le_refl _) (by omega)
  exact ⟨T6, some (.ref s.heap.size), _, _, _, X8, rfl, rfl, rfl, (fun h => by cases h), ⟨⟨rfl, B6, ba3.like (X3.warmed.alike.symm.trans X6.warmed.alike) p6.1 f6.1 f6.2.1 f6.2.2.1, f6.2.1.trans bv3, by rw [X6.warmed.alike.findClass, f6.1]; exact bf3, by rw [f6.2.2.1, bs3]; simp, fun j hj => by rw [f6.2.2.2 j, if_pos (by omega)]; rfl, kp3.put p6 (Nat.le_refl _)⟩, by rw [p6.2.2, bh3, hh0]; simp⟩, fun fs hl => c8.trans (X8.areturnOut hexec rfl hret rfl (hb hbytes d58) hl)⟩
end Cmp3
namespace CodL
def yN : MethodName := ⟨"java/lang/StringUTF16", "coderFromArrayLen", "([BI)B"⟩
abbrev yB : ByteArray := jdk_52_method_15_code
theorem d0 : decode yB 0 = .ok (.iload_n 1, 1) := by decide +kernel
theorem d1 : decode yB 1 = .ok (.aload_n 0, 1) := by decide +kernel
theorem d2 : decode yB 2 = .ok (.arraylength, 1) := by decide +kernel
theorem d3 : decode yB 3 = .ok (.isub, 1) := by decide +kernel
theorem d4 : decode yB 4 = .ok (.bipush 31, 2) := by decide +kernel
theorem d6 : decode yB 6 = .ok (.iushr, 1) := by decide +kernel
theorem d7 : decode yB 7 = .ok (.i2b, 1) := by decide +kernel
theorem d8 : decode yB 8 = .ok (.ireturn, 1) := by decide +kernel
def site : List Cond := []
def tab : Cond := tabOf yN yB 2 (some .byte) site
def P (d : Addr) (B : Cell) (args : Array Value) (s : State) : Prop := args = #[.ref d, .int (Int32.ofNat B.slots.size)] ∧ Arr .byte d B s
def E (r : Option Value) (s u : State) : Prop := XT.PureE (some (.int 0)) r s u
/-- an array as long as the number of chars: LATIN1 -/
theorem law (l : Launch) (d : Addr) (B : Cell) : Law l yN 2 2 0 0 yB 2 (some .byte) site (P d B) E [] 0 0 := by
  refine Law.of_walk (plainFor_of_name (by decide +kernel)) (by decide +kernel) (by decide +kernel) (by decide) (fun _ _ h => by rw [h.1]; rfl) (fun _ U U' hal hh h => ⟨h.1, h.2.mv hal hh⟩) (fun r U U' V V' h1 hal h2 h => XT.PureE.mv r U U' V V' h1 hal h2 h) ?_
  intro p e s m args below meth c s₁ X0 hexec hbytes hml hret hlk hnm hown hh0 W hP
  obtain ⟨rfl, hB⟩ := hP
  have hB0 := hB.mv X0.warmed.alike hh0
  have c1 : Steps p.tables e below (s₁.setTop (entryFrame m #[.ref d, .int (Int32.ofNat B.slots.size)] 2)) (s₁.setTop (mkF m 0 #[.val (.ref d), .val (.int (Int32.ofNat B.slots.size))] [])) := entry rfl
  have c2 : Steps p.tables e below (s₁.setTop (entryFrame m #[.ref d, .int (Int32.ofNat B.slots.size)] 2)) (s₁.setTop (mkF m 2 #[.val (.ref d), .val (.int (Int32.ofNat B.slots.size))] [.ref d, .int (Int32.ofNat B.slots.size)])) := c1.trans (by
    refine XS.iloadN X0.here hexec rfl (hb hbytes d0) rfl ?_
    refine XS.aloadN X0.here hexec rfl (hb hbytes d1) rfl rfl ?_
    exact Steps.refl _)
  have c3 : Steps p.tables e below (s₁.setTop (entryFrame m #[.ref d, .int (Int32.ofNat B.slots.size)] 2)) (s₁.setTop (mkF m 8 #[.val (.ref d), .val (.int (Int32.ofNat B.slots.size))] [.int (lo8 (ushr (Int32.ofNat B.slots.size - Int32.ofNat B.slots.size) 31))])) := c2.trans (by
    refine X0.alen hexec hB0 rfl rfl (hb hbytes d2) ?_
    refine XS.isub X0.here hexec rfl (hb hbytes d3) rfl ?_
    refine bipushV X0.here hexec rfl 31 (hb hbytes d4) (by decide) ?_
    refine iushr X0.here hexec rfl (hb hbytes d6) rfl ?_
    refine i2b X0.here hexec rfl (hb hbytes d7) rfl ?_
    exact Steps.refl _)
  have e0 : lo8 (ushr (Int32.ofNat B.slots.size - Int32.ofNat B.slots.size) 31) = 0 := by rw [Int32.sub_self]; decide
  rw [e0] at c3
  exact ⟨s₁, some (.int 0), _, _, _, X0, rfl, rfl, rfl, (fun h => by cases h), ⟨rfl, hh0⟩, fun fs hl => c3.trans (X0.ireturnOut hexec hret rfl (Or.inr (Or.inr (Or.inl rfl))) (hb hbytes d8) hl)⟩
end CodL
/-- the String at a is Latin-1 over a new byte[] (the heap's one new cell): the low bytes of the len chars of A from o on; every cell but a is kept -/
def Got (a : Addr) (D : Cell) (fV fC : Field) (A : Cell) (o len : Nat) (r : Option Value) (s u : State) : Prop := r = none ∧ ∃ D' V : Cell, Blank "java/lang/String" a D' u ∧ Same D D' [fV.slot, fC.slot] ∧ D'.slots[fV.slot]? = some (.ref s.heap.size) ∧ D'.slots[fC.slot]? = some (.int 0) ∧ Arr .byte s.heap.size V u ∧ V.vm = .none ∧ u.vm.findClass "[B" = some V.cls ∧ V.slots.size = len ∧ (∀ j, j < len → V.slots[j]? = some (.int (lo8 (cv A (o + j))))) ∧ (∀ (y : Addr) (c : Cell), y ≠ a → s.heap[y]? = some c → u.heap[y]? = some c) ∧ u.heap.size = s.heap.size + 1
theorem Got.mv {a : Addr} {D A : Cell} {fV fC : Field} {o len : Nat} : ∀ r (U U' V V' : State), U'.heap = U.heap → V.vm.Alike V'.vm → V'.heap = V.heap → Got a D fV fC A o len r U V → Got a D fV fC A o len r U' V' :=
  fun r U U' V V' h1 hal h2 ⟨e0, D', X, a1, a2, a3, a4, a5, a6, a7, a8, a9, a10, a11⟩ => ⟨e0, D', X, a1.mv hal h2, a2, by rw [h1]; exact a3, a4, by rw [h1]; exact a5.mv hal h2, a6, by rw [hal.findClass]; exact a7, a8, a9, by rw [h1, h2]; exact a10, by rw [h1, h2]; exact a11⟩
namespace New4
def yN : MethodName := ⟨"java/lang/String", "<init>", "([CIILjava/lang/Void;)V"⟩
abbrev yB : ByteArray := jdk_42_method_149_code
theorem d0 : decode yB 0 = .ok (.aload_n 0, 1) := by decide +kernel
theorem d1 : decode yB 1 = .ok (.invokespecial 1, 3) := by decide +kernel
theorem d4 : decode yB 4 = .ok (.iload_n 3, 1) := by decide +kernel
theorem d5 : decode yB 5 = .ok (.ifCond (.ne) 22, 3) := by decide +kernel
theorem d27 : decode yB 27 = .ok (.getstatic 38, 3) := by decide +kernel
theorem d30 : decode yB 30 = .ok (.ifCond (.eq) 28, 3) := by decide +kernel
theorem d33 : decode yB 33 = .ok (.aload_n 1, 1) := by decide +kernel
theorem d34 : decode yB 34 = .ok (.iload_n 2, 1) := by decide +kernel
theorem d35 : decode yB 35 = .ok (.iload_n 3, 1) := by decide +kernel
theorem d36 : decode yB 36 = .ok (.invokestatic 177, 3) := by decide +kernel
theorem d39 : decode yB 39 = .ok (.astore 5, 2) := by decide +kernel
theorem d41 : decode yB 41 = .ok (.aload_n 0, 1) := by decide +kernel
theorem d42 : decode yB 42 = .ok (.aload 5, 2) := by decide +kernel
theorem d44 : decode yB 44 = .ok (.iload_n 3, 1) := by decide +kernel
theorem d45 : decode yB 45 = .ok (.invokestatic 47, 3) := by decide +kernel
theorem d48 : decode yB 48 = .ok (.putfield 15, 3) := by decide +kernel
theorem d51 : decode yB 51 = .ok (.aload_n 0, 1) := by decide +kernel
theorem d52 : decode yB 52 = .ok (.aload 5, 2) := by decide +kernel
theorem d54 : decode yB 54 = .ok (.putfield 9, 3) := by decide +kernel
theorem d57 : decode yB 57 = .ok (.return_, 1) := by decide +kernel
def site : List Cond := [.fieldLink "java/lang/String" 38 "java/lang/String" "COMPACT_STRINGS" "Z", Cmp3.tab, CodL.tab, .laysFinal "java/lang/String" "java/lang/String" "value" "[B", .fieldLink "java/lang/String" 9 "java/lang/String" "value" "[B", .laysFinal "java/lang/String" "java/lang/String" "coder" "B", .fieldLink "java/lang/String" 15 "java/lang/String" "coder" "B"] ++ objW "java/lang/String" 1 ++ staticW "java/lang/String" 177 Cmp3.yN ++ staticW "java/lang/String" 47 CodL.yN
def tab : Cond := tabOf yN yB 6 none site
def P (a : Addr) (D : Cell) (fV fC : Field) (b : Addr) (A : Cell) (z : Int32) (o len : Nat) (args : Array Value) (s : State) : Prop := args = #[.ref a, .ref b, .int (Int32.ofNat o), .int (Int32.ofNat len), .null] ∧ Blank "java/lang/String" a D s ∧ Found "java/lang/String" "value" "[B" fV s ∧ Found "java/lang/String" "coder" "B" fC s ∧ Ch b A s ∧ StaticIs s "java/lang/String" "COMPACT_STRINGS" "Z" (.int z) ∧ ¬ z = 0 ∧ 0 < len ∧ o + len ≤ A.slots.size ∧ len ≤ 536870912 ∧ ∀ i, i < len → ¬ 255 < cv A (o + i)
def E (a : Addr) (D : Cell) (fV fC : Field) (A : Cell) (o len : Nat) (r : Option Value) (s u : State) : Prop := Got a D fV fC A o len r s u
/-- len > 0, no char of the range above 255: a Latin-1 String of their low bytes -/
theorem law (l : Launch) (a : Addr) (D : Cell) (fV fC : Field) (b : Addr) (A : Cell) (z : Int32) (o len : Nat) : Law l yN 5 4 2 35 yB 6 none site (P a D fV fC b A z o len) (E a D fV fC A o len) [⟨a, fC.slot⟩, ⟨a, fV.slot⟩] 1 len := by
  refine Law.of_walk (plainFor_of_name (by decide +kernel)) (by decide +kernel) (by decide +kernel) (by decide) (fun _ _ h => by rw [h.1]; rfl) (fun _ U U' hal hh h => ⟨h.1, h.2.1.mv hal hh, h.2.2.1.al hal, h.2.2.2.1.al hal, h.2.2.2.2.1.mv hal hh, h.2.2.2.2.2.1.there hal hh, h.2.2.2.2.2.2⟩) (fun r U U' V V' h1 hal h2 h => Got.mv r U U' V V' h1 hal h2 h) ?_
  intro p e s m args below meth c s₁ X0 hexec hbytes hml hret hlk hnm hown hh0 W hP
  obtain ⟨rfl, hB, f1, f2, hA, s1, hz, l0, l1, l2, hp⟩ := hP
  have a31 := hA.1.2.2.2
  have c1 : Steps p.tables e below (s₁.setTop (entryFrame m #[.ref a, .ref b, .int (Int32.ofNat o), .int (Int32.ofNat len), .null] 6)) (s₁.setTop (mkF m 0 #[.val (.ref a), .val (.ref b), .val (.int (Int32.ofNat o)), .val (.int (Int32.ofNat len)), .val .null, .unset] [])) := entry rfl
  have c2 : Steps p.tables e below (s₁.setTop (entryFrame m #[.ref a, .ref b, .int (Int32.ofNat o), .int (Int32.ofNat len), .null] 6)) (s₁.setTop (mkF m 1 #[.val (.ref a), .val (.ref b), .val (.int (Int32.ofNat o)), .val (.int (Int32.ofNat len)), .val .null, .unset] [.ref a])) := c1.trans (by
    refine XS.aloadN X0.here hexec rfl (hb hbytes d0) rfl rfl ?_
    exact Steps.refl _)
  obtain ⟨T3, X3, q3, st3⟩ := X0.oinit hexec hown (wks W (objW "java/lang/String" 1)) (g := (mkF m 1 #[.val (.ref a), .val (.ref b), .val (.int (Int32.ofNat o)), .val (.int (Int32.ofNat len)), .val .null, .unset] [.ref a])) rfl (by rw [hml]; rfl) (rest := []) rfl (hb hbytes d1) (W := 0) (by show 2 * 0 + 0 ≤ _; decide) (Nat.le_of_ble_eq_true rfl) (Nat.le_of_ble_eq_true rfl)
  have hh3 := q3.trans hh0
  have c4 : Steps p.tables e below (s₁.setTop (entryFrame m #[.ref a, .ref b, .int (Int32.ofNat o), .int (Int32.ofNat len), .null] 6)) (T3.setTop (mkF m 27 #[.val (.ref a), .val (.ref b), .val (.int (Int32.ofNat o)), .val (.int (Int32.ofNat len)), .val .null, .unset] [])) := (c2.trans (st3 _ (Steps.refl _))).trans (by
    refine XS.iloadN X3.here hexec rfl (hb hbytes d4) rfl ?_
    refine XS.ifYes X3.here hexec rfl (pc0 := 5) rfl (hb hbytes d5) rfl (i0_ne_t (nz32 (by omega) l0)) (by decide) rfl ?_
    exact Steps.refl _)
  obtain ⟨T5, X5, q5, st5⟩ := X3.sget hexec hown (wk W (.fieldLink "java/lang/String" 38 "java/lang/String" "COMPACT_STRINGS" "Z")) s1 (fun _ _ h => by rw [hh3]; exact h) (g := (mkF m 27 #[.val (.ref a), .val (.ref b), .val (.int (Int32.ofNat o)), .val (.int (Int32.ofNat len)), .val .null, .unset] [])) rfl (hb hbytes d27)
  have hh5 := q5.trans hh3
  have c6 : Steps p.tables e below (s₁.setTop (entryFrame m #[.ref a, .ref b, .int (Int32.ofNat o), .int (Int32.ofNat len), .null] 6)) (T5.setTop (mkF m 30 #[.val (.ref a), .val (.ref b), .val (.int (Int32.ofNat o)), .val (.int (Int32.ofNat len)), .val .null, .unset] [.int z])) := c4.trans (st5 _ (Steps.refl _))
  have c7 : Steps p.tables e below (s₁.setTop (entryFrame m #[.ref a, .ref b, .int (Int32.ofNat o), .int (Int32.ofNat len), .null] 6)) (T5.setTop (mkF m 36 #[.val (.ref a), .val (.ref b), .val (.int (Int32.ofNat o)), .val (.int (Int32.ofNat len)), .val .null, .unset] [.int (Int32.ofNat len), .int (Int32.ofNat o), .ref b])) := c6.trans (by
    refine XS.ifNo X5.here hexec rfl (hb hbytes d30) rfl (i0_eq_f hz) ?_
    refine XS.aloadN X5.here hexec rfl (hb hbytes d33) rfl rfl ?_
    refine XS.iloadN X5.here hexec rfl (hb hbytes d34) rfl ?_
    refine XS.iloadN X5.here hexec rfl (hb hbytes d35) rfl ?_
    exact Steps.refl _)
  obtain ⟨v8, T8, X8, E8, g8⟩ := X5.callS hexec (Cmp3.law l b A o len) hown (wks W (staticW "java/lang/String" 177 Cmp3.yN)) (wk W Cmp3.tab) (W := 0) (Nat.le_of_ble_eq_true rfl) (Nat.le_of_ble_eq_true rfl) (Nat.le_refl _) (by show 0 + len ≤ len; omega) (g := (mkF m 36 #[.val (.ref a), .val (.ref b), .val (.int (Int32.ofNat o)), .val (.int (Int32.ofNat len)), .val .null, .unset] [.int (Int32.ofNat len), .int (Int32.ofNat o), .ref b])) rfl (by rw [hml]; rfl) c7 (argsL := [.ref b, .int (Int32.ofNat o), .int (Int32.ofNat len)]) (rest := []) rfl rfl (by show 2 * 0 + 0 ≤ _; decide) (hb hbytes d36) (⟨rfl, hA.mv X5.warmed.alike hh5, l1, l2, hp⟩)
  obtain ⟨e8, z8⟩ := E8
  obtain ⟨rfl, N, n1, n2, n3, n4, n5, n6⟩ := NewArr.mv _ T5 s _ _ hh5.symm (Vm.Alike.refl _) rfl e8
  rw [hh5] at z8
  have hB1 := hB.keep X8.warmed.alike (n6 _ _ hB.1)
  have hne : s.heap.size ≠ a := (Nat.ne_of_lt (Array.getElem?_eq_some_iff.mp hB.1).1).symm
  have c9 : Steps p.tables e below (s₁.setTop (entryFrame m #[.ref a, .ref b, .int (Int32.ofNat o), .int (Int32.ofNat len), .null] 6)) (T8.setTop (mkF m 39 #[.val (.ref a), .val (.ref b), .val (.int (Int32.ofNat o)), .val (.int (Int32.ofNat len)), .val .null, .unset] [.ref s.heap.size])) := g8
  have c10 : Steps p.tables e below (s₁.setTop (entryFrame m #[.ref a, .ref b, .int (Int32.ofNat o), .int (Int32.ofNat len), .null] 6)) (T8.setTop (mkF m 45 #[.val (.ref a), .val (.ref b), .val (.int (Int32.ofNat o)), .val (.int (Int32.ofNat len)), .val .null, .val (.ref s.heap.size)] [.int (Int32.ofNat N.slots.size), .ref s.heap.size, .ref a])) := by
    have hc : Steps p.tables e below (s₁.setTop (entryFrame m #[.ref a, .ref b, .int (Int32.ofNat o), .int (Int32.ofNat len), .null] 6)) (T8.setTop (mkF m 45 #[.val (.ref a), .val (.ref b), .val (.int (Int32.ofNat o)), .val (.int (Int32.ofNat len)), .val .null, .val (.ref s.heap.size)] [.int (Int32.ofNat len), .ref s.heap.size, .ref a])) := c9.trans (by
      refine XS.astore X8.here hexec rfl (hb hbytes d39) rfl rfl rfl ?_
      refine XS.aloadN X8.here hexec rfl (hb hbytes d41) rfl rfl ?_
      refine XS.aload X8.here hexec rfl (hb hbytes d42) rfl rfl ?_
      refine XS.iloadN X8.here hexec rfl (hb hbytes d44) rfl ?_
      exact Steps.refl _)
    rw [n4]; exact hc
  obtain ⟨v11, T11, X11, E11, g11⟩ := X8.callS hexec (CodL.law l s.heap.size N) hown (wks W (staticW "java/lang/String" 47 CodL.yN)) (wk W CodL.tab) (W := 1) (Nat.le_of_ble_eq_true rfl) (Nat.le_of_ble_eq_true rfl) (Nat.le_refl _) (by show 0 + len + 0 ≤ len; omega) (g := (mkF m 45 #[.val (.ref a), .val (.ref b), .val (.int (Int32.ofNat o)), .val (.int (Int32.ofNat len)), .val .null, .val (.ref s.heap.size)] [.int (Int32.ofNat N.slots.size), .ref s.heap.size, .ref a])) rfl (by rw [hml]; rfl) c10 (argsL := [.ref s.heap.size, .int (Int32.ofNat N.slots.size)]) (rest := [.ref a]) rfl rfl (by show 2 * 0 + (1 + 0) ≤ _; decide) (hb hbytes d45) (⟨rfl, n1⟩)
  obtain ⟨rfl, q11⟩ := E11
  have hB11 := hB1.mv (X8.warmed.alike.symm.trans X11.warmed.alike) q11
  have c12 : Steps p.tables e below (s₁.setTop (entryFrame m #[.ref a, .ref b, .int (Int32.ofNat o), .int (Int32.ofNat len), .null] 6)) (T11.setTop (mkF m 48 #[.val (.ref a), .val (.ref b), .val (.int (Int32.ofNat o)), .val (.int (Int32.ofNat len)), .val .null, .val (.ref s.heap.size)] [.int 0, .ref a])) := g11
  obtain ⟨T13, X13, p13, bl13, sl13, st13⟩ := X11.finit hexec hown (wk W (.fieldLink "java/lang/String" 15 "java/lang/String" "coder" "B")) (Or.inr ⟨_, (wk W (.laysFinal "java/lang/String" "java/lang/String" "coder" "B"))⟩) (Or.inl ⟨rfl, hnm⟩) f2 (Or.inl rfl) hB11 (t := .byte) (by decide +kernel) rfl (g := (mkF m 48 #[.val (.ref a), .val (.ref b), .val (.int (Int32.ofNat o)), .val (.int (Int32.ofNat len)), .val .null, .val (.ref s.heap.size)] [.int 0, .ref a])) rfl (rest := []) rfl (hb hbytes d48)
  have c14 : Steps p.tables e below (s₁.setTop (entryFrame m #[.ref a, .ref b, .int (Int32.ofNat o), .int (Int32.ofNat len), .null] 6)) (T13.setTop (mkF m 54 #[.val (.ref a), .val (.ref b), .val (.int (Int32.ofNat o)), .val (.int (Int32.ofNat len)), .val .null, .val (.ref s.heap.size)] [.ref s.heap.size, .ref a])) := (c12.trans (st13 _ (Steps.refl _))).trans (by
    refine XS.aloadN X13.here hexec rfl (hb hbytes d51) rfl rfl ?_
    refine XS.aload X13.here hexec rfl (hb hbytes d52) rfl rfl ?_
    exact Steps.refl _)
  obtain ⟨T15, X15, p15, bl15, sl15, st15⟩ := X13.finit hexec hown (wk W (.fieldLink "java/lang/String" 9 "java/lang/String" "value" "[B")) (Or.inr ⟨_, (wk W (.laysFinal "java/lang/String" "java/lang/String" "value" "[B"))⟩) (Or.inl ⟨rfl, hnm⟩) f1 (Or.inl rfl) bl13 (t := (.array .byte)) (by decide +kernel) rfl (g := (mkF m 54 #[.val (.ref a), .val (.ref b), .val (.int (Int32.ofNat o)), .val (.int (Int32.ofNat len)), .val .null, .val (.ref s.heap.size)] [.ref s.heap.size, .ref a])) rfl (rest := []) rfl (hb hbytes d54)
  have c16 : Steps p.tables e below (s₁.setTop (entryFrame m #[.ref a, .ref b, .int (Int32.ofNat o), .int (Int32.ofNat len), .null] 6)) (T15.setTop (mkF m 57 #[.val (.ref a), .val (.ref b), .val (.int (Int32.ofNat o)), .val (.int (Int32.ofNat len)), .val .null, .val (.ref s.heap.size)] [])) := c14.trans (st15 _ (Steps.refl _))
  have ap := apart (Or.inr ⟨_, (wk W (.laysFinal "java/lang/String" "java/lang/String" "value" "[B"))⟩) (Or.inr ⟨_, (wk W (.laysFinal "java/lang/String" "java/lang/String" "coder" "B"))⟩) f1 f2 (t₁ := .array .byte) (t₂ := .byte) (by decide +kernel) (by decide +kernel) (by decide)
  have al := X8.warmed.alike.symm.trans X15.warmed.alike
  have n7 : T11.heap[s.heap.size]? = some N := by rw [q11]; exact n1.1
  exact ⟨T15, none, _, _, _, X15, by simp, rfl, by omega, (fun _ => rfl), ⟨rfl, _, N, bl15, ((Same.refl D _).set _ (by simp)).set _ (by simp), sl15, (Cell.slots_setSlot_ne _ ap).trans sl13, n1.keep al (p15.other hne (p13.other hne n7)), n2, by rw [al.findClass]; exact n3, n4, n5, fun y c h1 h2 => p15.other h1 (p13.other h1 (by rw [q11]; exact n6 y c h2)), by rw [p15.2.2, p13.2.2, q11]; exact z8⟩, fun fs hl => c16.trans (X15.returnOut hexec hret (hb hbytes d57) hl)⟩
end New4
namespace New1
def yN : MethodName := ⟨"java/lang/String", "<init>", "([C)V"⟩
abbrev yB : ByteArray := jdk_42_method_3_code
theorem d0 : decode yB 0 = .ok (.aload_n 0, 1) := by decide +kernel
theorem d1 : decode yB 1 = .ok (.aload_n 1, 1) := by decide +kernel
theorem d2 : decode yB 2 = .ok (.iconst 0, 1) := by decide +kernel
theorem d3 : decode yB 3 = .ok (.aload_n 1, 1) := by decide +kernel
theorem d4 : decode yB 4 = .ok (.arraylength, 1) := by decide +kernel
theorem d5 : decode yB 5 = .ok (.aconst_null, 1) := by decide +kernel
theorem d6 : decode yB 6 = .ok (.invokespecial 27, 3) := by decide +kernel
theorem d9 : decode yB 9 = .ok (.return_, 1) := by decide +kernel
def site : List Cond := [New4.tab] ++ initW "java/lang/String" 27 New4.yN
def tab : Cond := tabOf yN yB 2 none site
def P (a : Addr) (D : Cell) (fV fC : Field) (b : Addr) (A : Cell) (z : Int32) (args : Array Value) (s : State) : Prop := args = #[.ref a, .ref b] ∧ Blank "java/lang/String" a D s ∧ Found "java/lang/String" "value" "[B" fV s ∧ Found "java/lang/String" "coder" "B" fC s ∧ Ch b A s ∧ StaticIs s "java/lang/String" "COMPACT_STRINGS" "Z" (.int z) ∧ ¬ z = 0 ∧ 0 < A.slots.size ∧ A.slots.size ≤ 536870912 ∧ ∀ i, i < A.slots.size → ¬ 255 < cv A i
def E (a : Addr) (D : Cell) (fV fC : Field) (A : Cell) (r : Option Value) (s u : State) : Prop := Got a D fV fC A 0 A.slots.size r s u
/-- new String(chars), not empty, no char above 255: a Latin-1 String of their low bytes -/
theorem law (l : Launch) (a : Addr) (D : Cell) (fV fC : Field) (b : Addr) (A : Cell) (z : Int32) : Law l yN 2 1 3 52 yB 2 none site (P a D fV fC b A z) (E a D fV fC A) [⟨a, fC.slot⟩, ⟨a, fV.slot⟩] 1 A.slots.size := by
  refine Law.of_walk (plainFor_of_name (by decide +kernel)) (by decide +kernel) (by decide +kernel) (by decide) (fun _ _ h => by rw [h.1]; rfl) (fun _ U U' hal hh h => ⟨h.1, h.2.1.mv hal hh, h.2.2.1.al hal, h.2.2.2.1.al hal, h.2.2.2.2.1.mv hal hh, h.2.2.2.2.2.1.there hal hh, h.2.2.2.2.2.2⟩) (fun r U U' V V' h1 hal h2 h => Got.mv r U U' V V' h1 hal h2 h) ?_
  intro p e s m args below meth c s₁ X0 hexec hbytes hml hret hlk hnm hown hh0 W hP
  obtain ⟨rfl, hB, f1, f2, hA, s1, hz, l0, l2, hp⟩ := hP
  have c1 : Steps p.tables e below (s₁.setTop (entryFrame m #[.ref a, .ref b] 2)) (s₁.setTop (mkF m 0 #[.val (.ref a), .val (.ref b)] [])) := entry rfl
  have c2 : Steps p.tables e below (s₁.setTop (entryFrame m #[.ref a, .ref b] 2)) (s₁.setTop (mkF m 6 #[.val (.ref a), .val (.ref b)] [.null, .int (Int32.ofNat A.slots.size), .int 0, .ref b, .ref a])) := c1.trans (by
    refine XS.aloadN X0.here hexec rfl (hb hbytes d0) rfl rfl ?_
    refine XS.aloadN X0.here hexec rfl (hb hbytes d1) rfl rfl ?_
    refine iconstV X0.here hexec rfl 0 (hb hbytes d2) (by decide) ?_
    refine XS.aloadN X0.here hexec rfl (hb hbytes d3) rfl rfl ?_
    refine X0.alen hexec (hA.1.mv X0.warmed.alike hh0) rfl rfl (hb hbytes d4) ?_
    refine XS.aconstNull X0.here hexec rfl (hb hbytes d5) ?_
    exact Steps.refl _)
  obtain ⟨v3, T3, X3, E3, g3⟩ := X0.callN hexec (New4.law l a D fV fC b A z 0 A.slots.size) rfl hown (wks W (initW "java/lang/String" 27 New4.yN)) (W New4.tab (by simp only [site, List.mem_cons, List.mem_append, true_or, or_true])) (W := 0) (Nat.le_of_ble_eq_true rfl) (Nat.le_of_ble_eq_true rfl) (Nat.le_refl _) (by show 0 + A.slots.size ≤ A.slots.size; omega) (g := (mkF m 6 #[.val (.ref a), .val (.ref b)] [.null, .int (Int32.ofNat A.slots.size), .int (Int32.ofNat 0), .ref b, .ref a])) rfl (by rw [hml]; rfl) c2 (argsL := [.ref b, .int (Int32.ofNat 0), .int (Int32.ofNat A.slots.size), .null]) (rest := []) rfl rfl (by show 2 * 0 + 0 ≤ _; decide) (hb hbytes d6) (⟨rfl, hB.mv X0.warmed.alike hh0, f1.al X0.warmed.alike, f2.al X0.warmed.alike, hA.mv X0.warmed.alike hh0, s1.there X0.warmed.alike hh0, hz, l0, by omega, l2, fun i hi => by rw [Nat.zero_add]; exact hp i hi⟩)
  have e0 := Got.mv _ s₁ s _ _ hh0.symm (Vm.Alike.refl _) rfl E3
  obtain rfl := e0.1
  have c4 : Steps p.tables e below (s₁.setTop (entryFrame m #[.ref a, .ref b] 2)) (T3.setTop (mkF m 9 #[.val (.ref a), .val (.ref b)] [])) := g3
  exact ⟨T3, none, _, _, _, X3, by simp, rfl, by omega, (fun _ => rfl), e0, fun fs hl => c4.trans (X3.returnOut hexec hret (hb hbytes d9) hl)⟩
theorem pays {l : Launch} {R : Room} {p : Program} {e : Env} {below : List Frame} {s : State} {sargs : Array Value} {len W : Nat} (a : Addr) (D : Cell) (fV fC : Field) (b : Addr) (A : Cell) (z : Int32) (htab : tab.before sargs s = true) (hfr : 4 ≤ R.frames) (hlo : W + 65 ≤ R.locals) :
    Back l R p e below s sargs yN len W (fun A₁ a₁ => A₁.cells + 1 ≤ R.cells ∧ A₁.slots + A.slots.size ≤ R.slots ∧ P a D fV fC b A z a₁ A₁.U) (fun A₁ _ v₁ B₁ => E a D fV fC A v₁ A₁.U B₁.U ∧ B₁.locs = A₁.locs ++ [⟨a, fC.slot⟩, ⟨a, fV.slot⟩] ∧ B₁.cells = A₁.cells + 1 ∧ B₁.slots = A₁.slots + A.slots.size) :=
  (law l a D fV fC b A z).pays htab hfr (by omega)
end New1
end StrChars
namespace StrChars.Road
open Jvm Sem ClassFile Op Lib Jvm.Stand Jvm.Free Jvm.Free.XT
open Jvm.Lib.Cold (StaticIs)
abbrev ST : String := "java/lang/String"
/-- every table word that New1's law asks, flat -/
abbrev words : List Jvm.Cond := [.code New1.yN New1.yB 2 none, .initialized ST, .methodLink ST 27 New4.yN, .instanceMethod New4.yN,
  .code New4.yN New4.yB 6 none, .fieldLink ST 38 ST "COMPACT_STRINGS" "Z", .laysFinal ST ST "value" "[B", .fieldLink ST 9 ST "value" "[B", .laysFinal ST ST "coder" "B", .fieldLink ST 15 ST "coder" "B",
  .methodLink ST 1 Lib.objectInit, .instanceMethod Lib.objectInit, .code Lib.objectInit ⟨#[0xb1]⟩ 1 none, .methodLink ST 177 Cmp3.yN, .static Cmp3.yN, .methodLink ST 47 CodL.yN, .static CodL.yN,
  .code Cmp3.yN Cmp3.yB 6 (some (.array .byte)), .initialized U16, .arrayClass .byte, .methodLink U16 115 Cmp5.yN, .static Cmp5.yN, .code Cmp5.yN Cmp5.yB 7 (some .int), .code CodL.yN CodL.yB 2 (some .byte)]
theorem tab_of {a : Array Value} {s : State} (h : ∀ w ∈ words, w.before a s = true) : New1.tab.before a s = true := by
  have h5 : Cmp5.tab.before a s = true := unparts (wk h (.code Cmp5.yN Cmp5.yB 7 (some .int))) (wks h (.initialized Cmp5.yN.cls :: Cmp5.site))
  have hc : CodL.tab.before a s = true := unparts (wk h (.code CodL.yN CodL.yB 2 (some .byte))) (wks h (.initialized CodL.yN.cls :: CodL.site))
  have q5 : ∀ w ∈ Cmp5.tab :: words, w.before a s = true := fun w hw => (List.mem_cons.mp hw).elim (fun e => e ▸ h5) (h w)
  have h3 : Cmp3.tab.before a s = true := unparts (wk q5 (.code Cmp3.yN Cmp3.yB 6 (some (.array .byte)))) (wks q5 (.initialized Cmp3.yN.cls :: Cmp3.site))
  have q3 : ∀ w ∈ Cmp3.tab :: CodL.tab :: words, w.before a s = true := fun w hw => (List.mem_cons.mp hw).elim (fun e => e ▸ h3) fun hw => (List.mem_cons.mp hw).elim (fun e => e ▸ hc) (h w)
  have h4 : New4.tab.before a s = true := unparts (wk q3 (.code New4.yN New4.yB 6 none)) (wks q3 (.initialized New4.yN.cls :: New4.site))
  have q4 : ∀ w ∈ New4.tab :: words, w.before a s = true := fun w hw => (List.mem_cons.mp hw).elim (fun e => e ▸ h4) (h w)
  exact unparts (wk q4 (.code New1.yN New1.yB 2 none)) (wks q4 (.initialized New1.yN.cls :: New1.site))
/-- the words ride from the start Z to the walk's own state -/
theorem moved {Z s : State} {a0 args : Array Value} (hZ : Z.Warmed39 s.vm) (hw : ∀ d ∈ words, d.before a0 Z = true) : ∀ d ∈ words, d.before args s = true := fun d hd => by
  have q := hw d hd
  have t : ∀ d ∈ words, d = .arrayClass .byte ∨ (d.onTables && d.keepsFace) = true := by decide +kernel
  rcases t d hd with rfl | t
  · exact RoadKit.mvA hZ q
  · exact RoadKit.mv hZ q t
/-- WHAT COMES BACK, over the tables of the start Z: h the heap at the call, h' behind it -/
def Q (Z : State) (x : Addr) (A : Cell) (h : Heap) (v : Option Value) (h' : Heap) (L : List Loc) : Prop := v = none ∧ (∀ y ∈ L, y.base = x) ∧ RoadKit.Keep h h' [x] ∧ h'.size = h.size + 1 ∧ RoadKit.Exa Z h' x ST ∧ RoadKit.Fld Z h' x ST "value" "[B" (.ref h.size) ∧ RoadKit.Fld Z h' x ST "coder" "B" (.int 0) ∧
  (∃ V : Cell, RoadKit.Arr Z h' h.size V .byte ∧ V.vm = .none ∧ Z.vm.findClass "[B" = some V.cls ∧ V.slots.size = A.slots.size ∧ ∀ j, j < A.slots.size → V.slots[j]? = some (.int (lo8 (cv A j)))) ∧
  ∀ (O n d : String) (w : Value), RoadKit.Fld Z h x O n d w → RoadKit.slotOf Z O n d ≠ RoadKit.slotOf Z ST "value" "[B" → RoadKit.slotOf Z O n d ≠ RoadKit.slotOf Z ST "coder" "B" → RoadKit.Fld Z h' x O n d w
/-- **new String(chars) AT A CALL, IN THE ROAD'S FORM**: for specialBack behind newO: x the fresh String, b the char[] with the cell A -/
theorem back {p : Program} {l : Launch} {e : Env} {R : Room} {s : State} {args : Array Value} {below : List Frame} {len W : Nat} {Z : State} {a0 : Array Value} {h : Heap} (hZ : Z.Warmed39 s.vm) (hw : ∀ d ∈ words, d.before a0 Z = true) {kI : Nat} (wi : (Jvm.Cond.instantiable ST kI).before a0 Z = true)
    {x b : Addr} {A : Cell} {z : Int32} {v0 c0 : Value} (E : RoadKit.Exa Z h x ST) (V : RoadKit.Fld Z h x ST "value" "[B" v0) (C : RoadKit.Fld Z h x ST "coder" "B" c0) (K : RoadKit.Arr Z h b A .char) (hty : Typed .char A) (S : RoadKit.Sta Z h ST "COMPACT_STRINGS" "Z" (.int z)) (hz : ¬ z = 0)
    (l0 : 0 < A.slots.size) (l2 : A.slots.size ≤ 536870912) (hp : ∀ i, i < A.slots.size → ¬ 255 < cv A i) (hfr : 4 ≤ R.frames) (hlo : W + 65 ≤ R.locals) :
    Back l R p e below s args New1.yN len W (fun P a => a = #[.ref x, .ref b] ∧ P.U.heap = h ∧ P.cells + 1 ≤ R.cells ∧ P.slots + A.slots.size ≤ R.slots)
      (fun P _ v B => ∃ L, Q Z x A h v B.U.heap L ∧ B.locs = P.locs ++ L ∧ B.cells = P.cells + 1 ∧ B.slots = P.slots + A.slots.size) := by
  intro m meth c P g ig mk a X hg hsize hdg hW hn hp'
  obtain ⟨rfl, rfl, r1, r2⟩ := hp'
  have al : Z.vm.Alike P.U.vm := hZ.alike.trans X.warmed.alike
  obtain ⟨D, cfV, kV, iV, fV, hD, gV, stV, knV, obV, asV, slV⟩ := id V
  obtain ⟨D', cfC, kC, iC, fC, hD', gC, stC, -, -, asC, slC⟩ := id C
  cases hD.symm.trans hD'
  obtain ⟨D2, kD, e1, e2, e3, e4, e5⟩ := id E
  cases hD.symm.trans e1
  obtain ⟨c2, k2, i1, i2, i3, -⟩ := Cond.instantiable_spec wi
  cases e2.symm.trans i1
  cases e3.symm.trans i2
  obtain ⟨kU, u1, u2⟩ := al.2.2 _ _ e3
  have hB : Blank ST x D P.U := ⟨hD, ⟨knV, fun q hq => by rw [hq] at obV; cases obV⟩, by rw [al.findClass]; exact e2, kU, u1, by rw [u2]; exact i3, by rw [u2]; exact e5 i3⟩
  have F1 : Found ST "value" "[B" fV P.U := ⟨SBG.found_only al ⟨cfV, kV, iV, gV⟩, stV⟩
  have F2 : Found ST "coder" "B" fC P.U := ⟨SBG.found_only al ⟨cfC, kC, iC, gC⟩, stC⟩
  have hA : Ch b A P.U := ⟨⟨K.1, State.isArrayOf_alike al K.2.1, K.2.2, by omega⟩, hty⟩
  have hS : StaticIs P.U ST "COMPACT_STRINGS" "Z" (.int z) := by
    obtain ⟨cfS, iS, kS, fS, st, cS, t1, t2, t3, t4, t5, t6, t7⟩ := S
    exact StaticIs.there (s := { Z with heap := P.U.heap }) ⟨cfS, iS, kS, fS, st, cS, t1, t2, t3, t4, t5, (fun q => by rw [q] at t6; cases t6), t7⟩ al rfl
  obtain ⟨v, B, X', ⟨⟨hv, E', V', q1, q2, q3, q4, q5, q6, q7, q8, q9, q10, q11⟩, hl, hc, hs⟩, st⟩ := New1.pays x D fV fC b A z (tab_of (moved hZ hw)) hfr hlo m meth c P g ig mk _ X hg hsize hdg hW hn ⟨r1, r2, rfl, hB, F1, F2, hA, hS, hz, l0, l2, hp⟩
  have al' : Z.vm.Alike B.U.vm := hZ.alike.trans X'.warmed.alike
  have hsz : E'.slots.size = D.slots.size := by
    obtain ⟨-, -, -, kB, w1, w2, w3⟩ := q1
    obtain ⟨kB', y1, y2⟩ := al'.2.2 _ _ e3
    rw [q2.2.1] at w1
    cases w1.symm.trans y1
    rw [w3, e5 i3, y2]
  refine ⟨v, B, X', ⟨_, ⟨hv, ?_, ⟨by omega, fun y cy hy hn' => q10 y cy (by simpa using hn') hy, fun y cy hy => ?_⟩, q11, ⟨E', _, q1.1, by rw [q2.2.1]; exact e2, by rw [q2.2.1]; exact e3, by rw [q2.1]; exact obV, fun _ => by rw [hsz]; exact e5 i3⟩,
    ⟨E', cfV, kV, iV, fV, q1.1, gV, stV, by rw [q2.1]; exact knV, by rw [q2.1]; exact obV, by rw [q2.2.1]; exact asV, q3⟩, ⟨E', cfC, kC, iC, fC, q1.1, gC, stC, by rw [q2.1]; exact knV, by rw [q2.1]; exact obV, by rw [q2.2.1]; exact asC, q4⟩,
    ⟨V', ⟨q5.1, State.isArrayOf_alike al'.symm q5.2.1, q5.2.2.1⟩, q6, by rw [← al'.findClass]; exact q7, q8, fun j hj => by have := q9 j hj; rwa [Nat.zero_add] at this⟩, fun O n d w F n1 n2 => ?_⟩, hl, hc, hs⟩, st⟩
  · intro y hy
    simp only [List.mem_cons, List.not_mem_nil, or_false] at hy
    rcases hy with rfl | rfl <;> rfl
  · by_cases q : y = x
    · subst q
      cases hD.symm.trans hy
      exact ⟨E', q1.1, q2.2.1, q2.1, hsz⟩
    · exact ⟨cy, q10 y cy q hy, rfl, rfl, rfl⟩
  · obtain ⟨D3, cf, k, i, f, g1, g2, g3, g4, g5, g6, g7⟩ := F
    cases hD.symm.trans g1
    simp only [RoadKit.slotOf, g2, gV, gC, Option.map_some, Option.getD_some] at n1 n2
    exact ⟨E', cf, k, i, f, q1.1, g2, g3, by rw [q2.1]; exact g4, by rw [q2.1]; exact g5, by rw [q2.2.1]; exact g6, by rw [q2.2.2 f.slot (by simp [n1, n2])]; exact g7⟩
end StrChars.Road
namespace StrChars.Road
open Jvm Sem ClassFile Op Lib Jvm.Stand Jvm.Free Jvm.Free.XT
/-- WHAT COMES BACK, the byte[] as a list of values -/
def QA (Z : State) (x : Addr) (zn : Int32) (cs : List Int32) (h : Heap) (v : Option Value) (h' : Heap) (L : List Loc) : Prop := v = none ∧ (∀ y ∈ L, y.base = x) ∧ RoadKit.Keep h h' [x] ∧ h'.size = h.size + 1 ∧ RoadKit.Exa Z h' x ST ∧ RoadKit.Fld Z h' x ST "value" "[B" (.ref h.size) ∧ RoadKit.Fld Z h' x ST "coder" "B" (.int 0) ∧
  (∃ kb, Z.vm.findClass "[B" = some kb ∧ RoadKit.Arv Z h' h.size kb .byte zn (cs.map fun c => .int (lo8 c)) (.int 0)) ∧
  ∀ (O n d : String) (w : Value), RoadKit.Fld Z h x O n d w → RoadKit.slotOf Z O n d ≠ RoadKit.slotOf Z ST "value" "[B" → RoadKit.slotOf Z O n d ≠ RoadKit.slotOf Z ST "coder" "B" → RoadKit.Fld Z h' x O n d w
/-- **new String(chars) AT A CALL, THE ARRAYS AS LISTS**: the char[] at b holds cs, not empty, no char above 255 -/
theorem backArv {p : Program} {l : Launch} {e : Env} {R : Room} {s : State} {args : Array Value} {below : List Frame} {len W : Nat} {Z : State} {a0 : Array Value} {h : Heap} (hZ : Z.Warmed39 s.vm) (hw : ∀ d ∈ words, d.before a0 Z = true) {kI : Nat} (wi : (Jvm.Cond.instantiable ST kI).before a0 Z = true)
    {x b : Addr} {k : ClassId} {zn z : Int32} {cs : List Int32} {dv v0 c0 : Value} (E : RoadKit.Exa Z h x ST) (V : RoadKit.Fld Z h x ST "value" "[B" v0) (C : RoadKit.Fld Z h x ST "coder" "B" c0) (K : RoadKit.Arv Z h b k .char zn (cs.map Value.int) dv) (S : RoadKit.Sta Z h ST "COMPACT_STRINGS" "Z" (.int z)) (hz : ¬ z = 0)
    (hlen : zn.toNatClampNeg = cs.length) (h0 : 0 < cs.length) (hbig : cs.length ≤ 536870912) (hall : ∀ c ∈ cs, ¬ 255 < c) (hfr : 4 ≤ R.frames) (hlo : W + 65 ≤ R.locals) :
    Back l R p e below s args New1.yN len W (fun P a => a = #[.ref x, .ref b] ∧ P.U.heap = h ∧ P.cells + 1 ≤ R.cells ∧ P.slots + cs.length ≤ R.slots)
      (fun P _ v B => ∃ L, QA Z x zn cs h v B.U.heap L ∧ B.locs = P.locs ++ L ∧ B.cells = P.cells + 1 ∧ B.slots = P.slots + cs.length) := by
  obtain ⟨A, K1, K2, K3, K4, K5, K6⟩ := K
  have e : A.slots.size = cs.length := K3.trans hlen
  have hat : ∀ (i : Nat) (hi : i < cs.length), A.slots[i]? = some (.int cs[i]) := fun i hi => by rw [K5 i (by omega)]; simp [List.getD_eq_getElem?_getD, hi]
  have hcv : ∀ (i : Nat) (hi : i < cs.length), cv A i = cs[i] := fun i hi => by unfold cv; rw [hat i hi]
  have hty : Typed .char A := fun i v hv => by
    have hi : i < A.slots.size := (Array.getElem?_eq_some_iff.mp hv).1
    have q := K5 i hi
    rw [hv] at q
    rw [Option.some.inj q]
    exact K6 i hi
  refine Back.mono (back hZ hw wi E V C K1 hty S hz (by omega) (by omega) (fun i hi => by rw [hcv i (by omega)]; exact hall _ (List.getElem_mem _)) hfr hlo) (fun P a hp => ⟨hp.1, hp.2.1, hp.2.2.1, by rw [e]; exact hp.2.2.2⟩) (fun P a v B hp hq => ?_)
  obtain ⟨L, ⟨q1, q2, q3, q4, q5, q6, q7, ⟨V', v1, v2, v3, v4, v5⟩, q9⟩, hl, hc, hs⟩ := hq
  refine ⟨L, ⟨q1, q2, q3, q4, q5, q6, q7, ⟨V'.cls, v3, V', v1, rfl, by rw [v4, e, hlen], K4, fun i hi => ?_, fun i hi => ?_⟩, q9⟩, hl, hc, by rw [hs, e]⟩
  · have hi' : i < cs.length := by omega
    rw [v5 i (by omega), hcv i hi']; simp [List.getD_eq_getElem?_getD, hi']
  · have hi' : i < cs.length := by omega
    simp only [List.getD_eq_getElem?_getD, List.getElem?_map, List.getElem?_eq_getElem hi', Option.map_some, Option.getD_some]
    exact fits_lo8 _
end StrChars.Road
namespace StrChars.Road
open Jvm Sem ClassFile Op Lib Jvm.Stand Jvm.Free Jvm.Free.XT
/-- WHAT COMES BACK, in the writer's own shape -/
def QV (Z : State) (x : Addr) (N : Int32) (bs : List Int32) (h : Heap) (n0 : Nat) (v : Option Value) (h' : Heap) (L : List Loc) : Prop := v = none ∧ RoadKit.Fr n0 L ∧ RoadKit.Keep h h' [x] ∧ RoadKit.Exa Z h' x ST ∧ RoadKit.Fld Z h' x ST "coder" "B" (.int 0) ∧
  ∃ (t : Addr) (kb : ClassId), n0 ≤ t ∧ h.size ≤ t ∧ ¬ t = x ∧ RoadKit.Fld Z h' x ST "value" "[B" (.ref t) ∧ RoadKit.Arv Z h' t kb .byte N (bs.map Value.int) (.int 0)
/-- **new String(chars) AT A CALL, FOR THE WRITER**: a char[] of n known ints, each 0 to 255 -/
theorem backV {p : Program} {l : Launch} {e : Env} {R : Room} {s : State} {args : Array Value} {below : List Frame} {len W : Nat} {Z : State} {a0 : Array Value} {h : Heap} (hZ : Z.Warmed39 s.vm) (hw : ∀ d ∈ words, d.before a0 Z = true) {kI : Nat} (wi : (Jvm.Cond.instantiable ST kI).before a0 Z = true)
    {x b : Addr} {kC : ClassId} {cs bs : List Int32} {d v0 c0 : Value} {z N : Int32} {n n0 : Nat} (hx0 : n0 ≤ x) (hh0 : n0 ≤ h.size) (E : RoadKit.Exa Z h x ST) (V : RoadKit.Fld Z h x ST "value" "[B" v0) (C : RoadKit.Fld Z h x ST "coder" "B" c0) (K : RoadKit.Arv Z h b kC .char N (cs.map Value.int) d) (S : RoadKit.Sta Z h ST "COMPACT_STRINGS" "Z" (.int z)) (hz : ¬ z = 0)
    (hn : cs.length = n) (hN : N = Int32.ofNat n) (l0 : 0 < n) (l2 : n ≤ 4000) (hp : ∀ c ∈ cs, ¬ c < 0 ∧ ¬ (255 : Int32) < c) (hb : bs = cs.map (fun c => c.toInt8.toInt32)) (hfr : 4 ≤ R.frames) (hlo : W + 65 ≤ R.locals) :
    Back l R p e below s args (⟨"java/lang/String", "<init>", "([C)V"⟩ : MethodName) len W (fun P a => a = #[.ref x, .ref b] ∧ P.U.heap = h ∧ P.cells + 1 ≤ R.cells ∧ P.slots + n ≤ R.slots)
      (fun P _ v B => ∃ L, QV Z x N bs h n0 v B.U.heap L ∧ B.locs = P.locs ++ L ∧ B.cells = P.cells + 1 ∧ B.slots = P.slots + n) := by
  subst hn hN hb
  refine Back.mono (backArv hZ hw wi E V C K S hz (n32 (by omega)) l0 (by omega) (fun c hc => (hp c hc).2) hfr hlo) (fun P a hp => hp) (fun P a v B hp hq => ?_)
  obtain ⟨L, ⟨q1, q2, q3, q4, q5, q6, q7, ⟨kb, v1, v2⟩, q9⟩, hl, hc, hs⟩ := hq
  exact ⟨L, ⟨q1, fun y hy => by rw [q2 y hy]; exact hx0, q3, q5, q7, h.size, kb, hh0, Nat.le_refl _, Nat.ne_of_gt E.lt, q6, by rw [List.map_map]; exact v2⟩, hl, hc, hs⟩
end StrChars.Road
namespace StrChars
open Jvm Sem ClassFile Op Lib Jvm.Stand Jvm.Free.XT Jvm.Free.ALB Jvm.Free.JM Jvm.Free
open Jvm.Lib.Cold (StaticIs)
def hi8 (x : Int32) : Int32 := lo8 (x >>> ((8 : Int32) &&& 31))
end StrChars
namespace StrChars.Road
open Jvm Sem ClassFile Op Lib Jvm.Stand Jvm.Free Jvm.Free.XT
open Jvm.Lib.Cold (StaticIs)
/-- the bytes of the chars cs, low before high -/
def wideBytes : List Int32 → List Value
  | [] => []
  | c :: cs => .int (lo8 c) :: .int (hi8 c) :: wideBytes cs
/-- an array of N2 bytes vs codes the chars cs by the coder cd -/
def CodA (cs : List Int32) (cd N2 : Int32) (vs : List Value) : Prop := (cd = 0 ∧ N2 = Int32.ofNat cs.length ∧ vs = (cs.map fun c => Value.int (lo8 c)) ∧ ∀ c ∈ cs, ¬ 255 < c) ∨ (cd = 1 ∧ N2 = Int32.ofNat (2 * cs.length) ∧ vs = wideBytes cs ∧ ∃ c ∈ cs, 255 < c)
end StrChars.Road
namespace StrChars.Road
open Jvm Sem ClassFile Op Lib Jvm.Stand Jvm.Free Jvm.Free.XT
open Jvm.Lib.Cold (StaticIs)
/-- what backV says of its String, as the contracts of this text ask it: cs's low bytes, coder 0 -/
theorem codOf {cs : List Int32} {n : Nat} (hn : cs.length = n) (hb : ∀ c ∈ cs, ¬ 255 < c) : CodA cs 0 (Int32.ofNat n) ((cs.map lo8).map Value.int) := Or.inl ⟨rfl, by rw [hn], by simp [List.map_map, Function.comp_def], hb⟩
end StrChars.Road
end Jvm.Pilot.@@N@@
namespace Jvm.Own
open Jvm Jvm.ClassFile Sem Op Lib Jvm.Free Jvm.Stand Jvm.LawKit Jvm.RoadKit
theorem i8i8 (x : Int32) : (x.toInt8.toInt32).toInt8.toInt32 = x.toInt8.toInt32 := by simp
section More
variable {Z s : State} {a0 args : Array Value} {y z : MethodName} {C : String}
theorem decl_of {bytes : ByteArray} {n : Nat} {r : Option FieldType} (hi : (Cond.instanceMethod y).before a0 Z = true) (hc : (Cond.code y bytes n r).before a0 Z = true) : (Cond.declares y).before a0 Z = true := by
  obtain ⟨mk, me, hn, hm, hs, -⟩ := Cond.instanceMethod_spec hi
  obtain ⟨m2, cM, q1, -, -, -, -, -, -, hsig⟩ := Cond.code_spec hn hc
  cases hm.symm.trans q1
  simp [Cond.before, Cond.holds, Cond.value, hn, hm, hs, hsig]
theorem nf_of (h : z.cls = y.cls) (hs : (Cond.selects C z z).before args s = true) : NotFace s y := fun r0 h0 => by
  obtain ⟨c2, r2, m2, -, -, q3, -, kP, hkP, hkPi⟩ := Cond.selects_spec hs
  have e1 := findClass_of_methodNamed q3
  have e2 := findClass_of_methodNamed h0
  rw [h, e2] at e1
  have q := Option.some.inj e1
  exact ⟨kP, by rw [q]; exact hkP, hkPi⟩
theorem same_of (hy : y.cls ≠ "java/lang/invoke/MethodHandle" ∧ y.cls ≠ "java/lang/invoke/VarHandle") (hi : (Cond.instanceMethod y).before a0 Z = true) (h : z.cls = y.cls) (hs : (Cond.selects C z z).before a0 Z = true) : (Cond.sameMethod y.cls y.cls y.name y.desc).before a0 Z = true := by
  obtain ⟨mk, me, hn, hm, -, -⟩ := Cond.instanceMethod_spec hi
  obtain ⟨kP, hkP, hkPi⟩ := nf_of h hs mk hn
  have e1 := findClass_of_methodNamed hn
  have e2 := State.methodFound?_of_named hn hy
  simp [Cond.before, Cond.holds, Cond.value, hn, e1, e2, hkP, hkPi]
end More
end Jvm.Own
namespace Jvm.Own
open Jvm Jvm.ClassFile Sem Op Lib Jvm.Free Jvm.Stand Jvm.LawKit Jvm.RoadKit
/-- X as values, filled up with zeros to n -/
def pad (n : Nat) (X : List Int32) : List Value := X.map Value.int ++ List.replicate (n - X.length) (.int 0)
theorem pad_len {n : Nat} {X : List Int32} (h : X.length ≤ n) : (pad n X).length = n := by simp [pad]; omega
theorem pad_app {n : Nat} {X us : List Int32} (h : X.length + us.length ≤ n) : (pad n X).take X.length ++ us.map Value.int ++ (pad n X).drop (X.length + us.length) = pad n (X ++ us) := by
  unfold pad
  rw [List.take_append_of_le_length (by simp), List.take_of_length_le (by simp), List.drop_append, List.drop_of_length_le (by simp), List.drop_replicate]
  simp only [List.length_map, List.map_append, List.nil_append, List.length_append, List.append_assoc]
  congr 3; omega
theorem hus_all (vs : List Value) (dv : Value) : vs = (List.range vs.length).map fun i => vs.getD (0 + i) dv := by
  apply List.ext_getElem (by simp)
  intro i h1 h2
  simp [List.getD_eq_getElem?_getD, List.getElem?_eq_getElem h1]
theorem hus_pre {n : Nat} (X : List Int32) (dv : Value) (h : X.length ≤ n) : X.map Value.int = (List.range X.length).map fun i => (pad n X).getD (0 + i) dv := by
  apply List.ext_getElem (by simp)
  intro i h1 h2
  have h3 : i < X.length := by simpa using h1
  simp [pad, List.getD_eq_getElem?_getD, List.getElem?_append_left, h3]
theorem nl {X : List Int32} (h : X.length ≤ 4000) : (Int32.ofNat X.length).toNatClampNeg = X.length := Jvm.Free.XT.n32 (by omega)
theorem nn0 {X : List Int32} (h : X.length ≤ 4000) : ¬ Int32.ofNat X.length < 0 := by
  have e := nl h
  intro q
  rw [Int32.lt_iff_toInt_lt] at q
  have e0 : (0 : Int32).toInt = 0 := rfl
  have k : (Int32.ofNat X.length).toInt = X.length := Int32.toInt_ofNat_of_lt (by omega)
  omega
theorem lapp (X us : List Int32) : Int32.ofNat X.length + Int32.ofNat us.length = Int32.ofNat (X ++ us).length := by rw [List.length_append, Int32.ofNat_add]
theorem shr0 (x : Int32) : x >>> ((0 : Int32) &&& 31) = x := by simp
theorem shl0 (x : Int32) : x <<< ((0 : Int32) &&& 31) = x := by simp
theorem hus_of {us : List Int32} (h : us.length ≤ 4000) (dv : Value) : us.map Value.int = (List.range (Int32.ofNat us.length).toNatClampNeg).map fun i => (us.map Value.int).getD ((0 : Int32).toNatClampNeg + i) dv := by
  rw [nl h]; have := hus_all (us.map Value.int) dv; rw [List.length_map] at this; exact this
theorem le4a {X us : List Int32} (h : X.length + us.length ≤ 16) : X.length ≤ 4000 := by omega
theorem le4b {X us : List Int32} (h : X.length + us.length ≤ 16) : us.length ≤ 4000 := by omega
theorem le4 {X : List Int32} (h : X.length < 16) : X.length ≤ 4000 := by omega
theorem ln_int {X : List Int32} (h : X.length ≤ 4000) : (Int32.ofNat X.length).toInt = X.length := Int32.toInt_ofNat_of_lt (by omega)
theorem cap16 {X us : List Int32} (h : X.length + us.length ≤ 16) : ¬ (0 : Int32) < (Int32.ofNat (X ++ us).length - (16 : Int32)) := by
  have e := ln_int (X := X ++ us) (by simp; omega)
  have k := c_isub (Int32.ofNat (X ++ us).length) 16
  have r := rng32 (Int32.ofNat (X ++ us).length - 16)
  have e16 : (16 : Int32).toInt = 16 := rfl
  have e0 : (0 : Int32).toInt = 0 := rfl
  have e2 : (X ++ us).length = X.length + us.length := List.length_append
  rw [Int32.lt_iff_toInt_lt]; omega
theorem lt16 {X : List Int32} (h : X.length < 16) : Int32.ofNat X.length < (16 : Int32) := by
  have e := ln_int (le4 h)
  have e16 : (16 : Int32).toInt = 16 := rfl
  rw [Int32.lt_iff_toInt_lt]; omega
theorem ne16 {X : List Int32} (h : X.length < 16) : ¬ Int32.ofNat X.length = (16 : Int32) := fun z => by
  have q := lt16 h; rw [z] at q; exact absurd q (by decide)
theorem at_mid {us d r : List Int32} {b : Int32} (h : us = d ++ b :: r) (hu : us.length ≤ 4000) (dv : Value) : (us.map Value.int).getD (Int32.ofNat d.length).toNatClampNeg dv = .int b ∧ (¬ Int32.ofNat d.length < 0 ∧ Int32.ofNat d.length < Int32.ofNat us.length) := by
  subst h
  have hd : d.length ≤ 4000 := by rw [List.length_append] at hu; omega
  refine ⟨?_, nn0 hd, ?_⟩
  · rw [nl hd, List.getD_eq_getElem?_getD]; simp
  · rw [Int32.lt_iff_toInt_lt, ln_int hd, ln_int hu, List.length_append, List.length_cons]; omega
theorem lsucc (d : List Int32) (b : Int32) : Int32.ofNat d.length + (1 : Int32) = Int32.ofNat (d ++ [b]).length := by rw [List.length_append, Int32.ofNat_add]; rfl
theorem lt_end {us d : List Int32} (h : us = d ++ []) : ¬ Int32.ofNat d.length < Int32.ofNat us.length := by
  rw [h, List.append_nil]; exact fun q => by rw [Int32.lt_iff_toInt_lt] at q; omega
theorem ne_mid {us d r : List Int32} {b : Int32} (h : us = d ++ b :: r) (hu : us.length ≤ 4000) : ¬ Int32.ofNat d.length = Int32.ofNat us.length := fun z => by
  have q := (at_mid h hu .null).2.2
  rw [z, Int32.lt_iff_toInt_lt] at q; omega
theorem app_mid {us d r : List Int32} {b : Int32} (h : us = d ++ b :: r) : us = (d ++ [b]) ++ r := by rw [h]; simp
theorem pad_set {n : Nat} {X : List Int32} {v : Int32} (h : X.length < n) : (pad n X).set X.length (.int v) = pad n (X ++ [v]) := by
  unfold pad
  rw [List.set_append_right _ _ (by simp)]
  obtain ⟨j, hj⟩ : ∃ j, n - X.length = j + 1 := ⟨n - X.length - 1, by omega⟩
  have e : n - (X ++ [v]).length = j := by rw [List.length_append, List.length_singleton]; omega
  rw [hj, e, List.length_map, Nat.sub_self, List.replicate_succ, List.set_cons_zero]; simp
theorem shl1 {us : List Int32} : Int32.ofNat us.length <<< ((1 : Int32) &&& 31) = Int32.ofNat (us ++ us).length := by
  rw [List.length_append, Int32.ofNat_add]
  have e : ((1 : Int32) &&& 31) = 1 := by decide
  rw [e]
  generalize Int32.ofNat us.length = x
  apply Int32.toBitVec.inj
  show x.toBitVec <<< ((1 : Int32).toBitVec.smod 32) = x.toBitVec + x.toBitVec
  rw [show (1 : Int32).toBitVec.smod 32 = 1#32 by decide, BitVec.shiftLeft_eq']
  apply BitVec.eq_of_toNat_eq
  simp [Nat.shiftLeft_eq]; omega
def e1 (b : Int32) : Int32 := (((192 : Int32) ||| ((b &&& (255 : Int32)) >>> ((6 : Int32) &&& 31))).toInt8.toInt32)
def e2 (b : Int32) : Int32 := (((128 : Int32) ||| (b &&& (63 : Int32))).toInt8.toInt32)
def encB (b : Int32) : List Int32 := if b < 0 then [e1 b, e2 b] else [b]
def enc (us : List Int32) : List Int32 := us.flatMap encB
theorem enc_app (X Y : List Int32) : enc (X ++ Y) = enc X ++ enc Y := List.flatMap_append
theorem enc_one (b : Int32) : enc [b] = encB b := by simp [enc]
theorem enc_p {d ee : List Int32} {b : Int32} (h : b < 0) (he : ee = enc d) : (ee ++ [(((192 : Int32) ||| ((b &&& (255 : Int32)) >>> ((6 : Int32) &&& 31))).toInt8.toInt32)]) ++ [(((128 : Int32) ||| (b &&& (63 : Int32))).toInt8.toInt32)] = enc (d ++ [b]) := by
  rw [enc_app, enc_one, encB, if_pos h, he, List.append_assoc]; rfl
theorem enc_n {d ee : List Int32} {b : Int32} (h : ¬ b < 0) (he : ee = enc d) : ee ++ [b] = enc (d ++ [b]) := by
  rw [enc_app, enc_one, encB, if_neg h, he]
theorem enc_cons (b : Int32) (r : List Int32) : enc (b :: r) = encB b ++ enc r := rfl
theorem encB_len (b : Int32) : 1 ≤ (encB b).length ∧ (encB b).length ≤ 2 := by unfold encB; split <;> simp
theorem enc_len (d : List Int32) : (enc d).length ≤ 2 * d.length := by
  induction d with
  | nil => simp [enc]
  | cons b r ih => rw [enc_cons, List.length_append, List.length_cons]; have := encB_len b; omega
theorem enc_all {us : List Int32} (h : ∀ b ∈ us, ¬ b < 0) : enc us = us := by
  induction us with
  | nil => rfl
  | cons b r ih => rw [enc_cons, ih fun c hc => h c (List.mem_cons_of_mem _ hc), encB, if_neg (h b (List.mem_cons_self))]; rfl
theorem enc_end {us d ee : List Int32} (hs : us = d ++ []) (he : ee = enc d) : ee = enc us := by rw [he, hs, List.append_nil]
theorem enc_lt {us : List Int32} (h : (58 : Int32) ∈ us) : (enc us).length < (us ++ us).length := by
  obtain ⟨a, b, rfl⟩ := List.append_of_mem h
  have e : encB 58 = [58] := by decide
  have q1 := enc_len a; have q2 := enc_len b
  rw [enc_app, enc_cons, e]
  simp only [List.length_append, List.length_cons, List.length_nil]; omega
theorem enc_in {us d r ee : List Int32} {b : Int32} (hs : us = d ++ b :: r) (he : ee = enc d) : ee.length + 1 < (us ++ us).length := by
  have q := enc_len d
  rw [he, hs]; simp only [List.length_append, List.length_cons]; omega
theorem inpad {X : List Int32} {n : Nat} (h : X.length < n) (hn : n ≤ 4000) : ¬ Int32.ofNat X.length < 0 ∧ Int32.ofNat X.length < Int32.ofNat n := by
  refine ⟨nn0 (by omega), ?_⟩
  rw [Int32.lt_iff_toInt_lt, ln_int (by omega), Int32.toInt_ofNat_of_lt (by omega)]; omega
theorem ne_len {X : List Int32} {n : Nat} (h : X.length < n) (hn : n ≤ 4000) : ¬ Int32.ofNat X.length = Int32.ofNat n := fun z => by
  have q := (inpad h hn).2
  rw [z, Int32.lt_iff_toInt_lt] at q; omega
theorem len2 {us : List Int32} (h : us.length < 16) : (us ++ us).length ≤ 30 := by rw [List.length_append]; omega
theorem len2k {us : List Int32} (h : us.length < 16) : (us ++ us).length ≤ 4000 := by rw [List.length_append]; omega
theorem lt_big {us : List Int32} (h : us.length < 16) : Int32.ofNat us.length < (1073741823 : Int32) := by
  have e : (1073741823 : Int32).toInt = 1073741823 := rfl
  rw [Int32.lt_iff_toInt_lt, ln_int (le4 h), e]; omega
theorem pos_len {us : List Int32} (h : us ≠ []) (hu : us.length ≤ 4000) : (0 : Int32) < Int32.ofNat us.length := by
  have e : (0 : Int32).toInt = 0 := rfl
  have q := List.length_pos_iff.mpr h
  rw [Int32.lt_iff_toInt_lt, ln_int hu, e]; omega
theorem nz_len {us : List Int32} (h : us ≠ []) (hu : us.length ≤ 4000) : ¬ Int32.ofNat us.length = (0 : Int32) := fun z => by
  have q := pos_len h hu
  rw [z] at q; exact absurd q (by decide)
section Copy
variable {p : Program} {l : Launch} {e : Env} {R : Room} {s : State} {m : MethodId} {args : Array Value} {below : List Frame} {meth : Method} {c : Code} {T : State} {locs : List Loc} {cells slots : Nat} {Z : State} {h : Heap} {a b : Addr} {k k' : ClassId}
/-- arraycopy of all bytes us to the end of X in an array of n -/
theorem cpApp (X0 : Stand p l e R s m args below meth c T locs cells slots) (hx : p.tables.exec = Jvm.exec) (hZ : Z.Warmed39 s.vm) {a0 : Array Value} {own : String} {index : Nat} (hown : s.vm.findClass own = some m.cls)
    (w1 : (Cond.methodLink own index Jvm.Stand.acN).before a0 Z = true) (w2 : (Cond.native Jvm.Stand.acN).before a0 Z = true) (w3 : (Cond.static Jvm.Stand.acN).before a0 Z = true) (w4 : (Cond.initialized "java/lang/System").before a0 Z = true) (eT : T.heap = h)
    {us X : List Int32} {n : Nat} (hus : us.length ≤ 4000) (hX : X.length ≤ 4000) (hn : n ≤ 4000) (hc : X.length + us.length ≤ n) (A : Arv Z h a k .byte (Int32.ofNat us.length) (us.map Value.int) (.int 0)) (B : Arv Z h b k' .byte (Int32.ofNat n) (pad n X) (.int 0)) {n0 : Nat} (N : Fr n0 locs) (ge : n0 ≤ b)
    {g : JFrame} (hg : g.method = m) (hsize : g.locals.size = c.maxLocals) {rest : List Value} (hs : g.stack = .int (Int32.ofNat us.length) :: .int (Int32.ofNat X.length) :: .ref b :: .int 0 :: .ref a :: rest) (hd : decode c.code g.pc = .ok (.invokestatic index, 3))
    (hf : 1 ≤ R.frames) {W : Nat} (hW : 2 * g.monitorRoom + (rest.map fun v => v.category).sum ≤ W) (hlo : W + 18 ≤ R.locals) :
    ∃ T' h' L, Stand p l e R s m args below meth c T' L cells slots ∧ T'.heap = h' ∧ Fr n0 L ∧ Keep h h' [b] ∧ Arv Z h' b k' .byte (Int32.ofNat n) (pad n (X ++ us)) (.int 0) ∧
      ∀ target, Steps p.tables e below (T'.setTop { g with pc := g.pc + 3, stack := rest }) target → Steps p.tables e below (T.setTop g) target := by
  have en : (Int32.ofNat n).toNatClampNeg = n := Jvm.Free.XT.n32 (by omega)
  obtain ⟨T', h', L, X', e', N', K, V, st⟩ := cpA X0 hx hZ hown w1 w2 w3 w4 eT A B (Or.inl ⟨rfl, rfl⟩) (sp := 0) (dp := Int32.ofNat X.length) (nn := Int32.ofNat us.length) (us := us.map Value.int) (by decide) (nn0 hX) (nn0 hus) (by show 0 + _ ≤ _; omega) (by rw [nl hX, nl hus, en]; exact hc) (hus_of hus _) (by rw [nl hX, nl hus, pad_len (by omega)]; exact hc) N ge hg hsize hs hd hf hW hlo
  rw [nl hX, nl hus, pad_app hc] at V
  exact ⟨T', h', L, X', e', N', K, V, st⟩
/-- arraycopy of X, the first part of an array of n, into a new array of X's length -/
theorem cpPre (X0 : Stand p l e R s m args below meth c T locs cells slots) (hx : p.tables.exec = Jvm.exec) (hZ : Z.Warmed39 s.vm) {a0 : Array Value} {own : String} {index : Nat} (hown : s.vm.findClass own = some m.cls)
    (w1 : (Cond.methodLink own index Jvm.Stand.acN).before a0 Z = true) (w2 : (Cond.native Jvm.Stand.acN).before a0 Z = true) (w3 : (Cond.static Jvm.Stand.acN).before a0 Z = true) (w4 : (Cond.initialized "java/lang/System").before a0 Z = true) (eT : T.heap = h)
    {X : List Int32} {n : Nat} (hX : X.length ≤ 4000) (hn : n ≤ 4000) (hc : X.length ≤ n) (A : Arv Z h a k .byte (Int32.ofNat n) (pad n X) (.int 0)) (B : Arv Z h b k' .byte (Int32.ofNat X.length) (pad X.length []) (.int 0)) {n0 : Nat} (N : Fr n0 locs) (ge : n0 ≤ b)
    {g : JFrame} (hg : g.method = m) (hsize : g.locals.size = c.maxLocals) {rest : List Value} (hs : g.stack = .int (Int32.ofNat X.length) :: .int 0 :: .ref b :: .int 0 :: .ref a :: rest) (hd : decode c.code g.pc = .ok (.invokestatic index, 3))
    (hf : 1 ≤ R.frames) {W : Nat} (hW : 2 * g.monitorRoom + (rest.map fun v => v.category).sum ≤ W) (hlo : W + 18 ≤ R.locals) :
    ∃ T' h' L, Stand p l e R s m args below meth c T' L cells slots ∧ T'.heap = h' ∧ Fr n0 L ∧ Keep h h' [b] ∧ Arv Z h' b k' .byte (Int32.ofNat X.length) (X.map Value.int) (.int 0) ∧
      ∀ target, Steps p.tables e below (T'.setTop { g with pc := g.pc + 3, stack := rest }) target → Steps p.tables e below (T.setTop g) target := by
  have en : (Int32.ofNat n).toNatClampNeg = n := Jvm.Free.XT.n32 (by omega)
  have z0 : (0 : Int32).toNatClampNeg = 0 := rfl
  obtain ⟨T', h', L, X', e', N', K, V, st⟩ := cpA X0 hx hZ hown w1 w2 w3 w4 eT A B (Or.inl ⟨rfl, rfl⟩) (sp := 0) (dp := 0) (nn := Int32.ofNat X.length) (us := X.map Value.int) (by decide) (by decide) (nn0 hX) (by rw [nl hX, en, z0]; omega) (by rw [nl hX, z0]; omega) (by rw [nl hX]; exact hus_pre X _ hc) (by rw [nl hX, z0, pad_len (by simp)]; omega) N ge hg hsize hs hd hf hW hlo
  have e2 : List.drop ((0 : Int32).toNatClampNeg + X.length) (pad X.length []) = [] := List.drop_of_length_le (by rw [pad_len (by simp), z0]; omega)
  have e3 : List.take (0 : Int32).toNatClampNeg (pad X.length []) = [] := rfl
  rw [nl hX, e2, e3, List.nil_append, List.append_nil] at V
  exact ⟨T', h', L, X', e', N', K, V, st⟩
theorem newPad {n : Nat} {k : ClassId} (A : Arr Z h a (newA k .byte (Int32.ofNat n)) .byte) (hn : n ≤ 4000) : Arv Z h a k .byte (Int32.ofNat n) (pad n []) (.int 0) := by
  have q : ¬ Int32.ofNat n < 0 := by have := nn0 (X := List.replicate n 0) (by simp; omega); rw [List.length_replicate] at this; exact this
  refine (Arv.new A q).pad fun i => ?_
  show (List.replicate (n - 0) (Value.int 0)).getD i _ = _
  rw [List.getD_eq_getElem?_getD, List.getElem?_replicate]; split <;> rfl
end Copy
end Jvm.Own
namespace Jvm.Pilot.@@N@@
open Jvm Jvm.ClassFile Sem Op Lib Jvm.Free Jvm.Stand Jvm.LawKit Jvm.RoadKit Jvm.Own Bundle Jvm.Pilot.@@N@@.Jvm.D
abbrev yN0 : MethodName := ⟨"com/example/turnlock/turnlock/session/DigestCredentials", "<init>", "(Ljava/lang/String;Ljava/lang/String;)V"⟩
abbrev yN1 : MethodName := ⟨"com/example/turnlock/turnlock/session/DigestCredentials", "authData", "()[B"⟩
abbrev yN2 : MethodName := ⟨"com/example/turnlock/turnlock/session/DigestCredentials", "of", "(Ljava/lang/String;Ljava/lang/String;)Lcom/example/turnlock/turnlock/session/DigestCredentials;"⟩
abbrev yN3 : MethodName := ⟨"com/example/turnlock/turnlock/session/DigestCredentials", "user", "()Ljava/lang/String;"⟩
abbrev yN4 : MethodName := ⟨"com/example/turnlock/turnlock/session/DigestCredentialsOfPinLaw", "put", "([BIC)I"⟩
abbrev yN5 : MethodName := ⟨"com/example/turnlock/turnlock/session/DigestCredentialsOfPinLaw", "same", "([B[BII)Z"⟩
abbrev yN6 : MethodName := ⟨"com/example/turnlock/turnlock/session/DigestCredentialsOfPinLaw", "userChar", "(I)C"⟩
abbrev yN7 : MethodName := ⟨"java/lang/AbstractStringBuilder", "<init>", "(I)V"⟩
abbrev yN8 : MethodName := ⟨"java/lang/AbstractStringBuilder", "append", "(Ljava/lang/String;)Ljava/lang/AbstractStringBuilder;"⟩
abbrev yN9 : MethodName := ⟨"java/lang/AbstractStringBuilder", "ensureCapacityInternal", "(I)V"⟩
abbrev yN10 : MethodName := ⟨"java/lang/AbstractStringBuilder", "getValue", "()[B"⟩
abbrev yN11 : MethodName := ⟨"java/lang/AbstractStringBuilder", "inflateIfNeededFor", "(Ljava/lang/String;)V"⟩
abbrev yN12 : MethodName := ⟨"java/lang/AbstractStringBuilder", "isLatin1", "()Z"⟩
abbrev yN13 : MethodName := ⟨"java/lang/AbstractStringBuilder", "length", "()I"⟩
abbrev yN14 : MethodName := ⟨"java/lang/AbstractStringBuilder", "putStringAt", "(ILjava/lang/String;)V"⟩
abbrev yN15 : MethodName := ⟨"java/lang/Math", "max", "(II)I"⟩
abbrev yN16 : MethodName := ⟨"java/lang/Math", "min", "(II)I"⟩
abbrev yN17 : MethodName := ⟨"java/lang/String", "<init>", "(Ljava/lang/AbstractStringBuilder;Ljava/lang/Void;)V"⟩
abbrev yN18 : MethodName := ⟨"java/lang/String", "<init>", "(Ljava/lang/StringBuilder;)V"⟩
abbrev yN19 : MethodName := ⟨"java/lang/String", "<init>", "([C)V"⟩
abbrev yN20 : MethodName := ⟨"java/lang/String", "coder", "()B"⟩
abbrev yN21 : MethodName := ⟨"java/lang/String", "encode", "(Ljava/nio/charset/Charset;B[B)[B"⟩
abbrev yN22 : MethodName := ⟨"java/lang/String", "encodeUTF8", "(B[BZ)[B"⟩
abbrev yN23 : MethodName := ⟨"java/lang/String", "equals", "(Ljava/lang/Object;)Z"⟩
abbrev yN24 : MethodName := ⟨"java/lang/String", "getBytes", "(Ljava/nio/charset/Charset;)[B"⟩
abbrev yN25 : MethodName := ⟨"java/lang/String", "getBytes", "([BIB)V"⟩
abbrev yN26 : MethodName := ⟨"java/lang/String", "indexOf", "(I)I"⟩
abbrev yN27 : MethodName := ⟨"java/lang/String", "indexOf", "(II)I"⟩
abbrev yN28 : MethodName := ⟨"java/lang/String", "isEmpty", "()Z"⟩
abbrev yN29 : MethodName := ⟨"java/lang/String", "isLatin1", "()Z"⟩
abbrev yN30 : MethodName := ⟨"java/lang/String", "length", "()I"⟩
abbrev yN31 : MethodName := ⟨"java/lang/StringBuilder", "<init>", "()V"⟩
abbrev yN32 : MethodName := ⟨"java/lang/StringBuilder", "append", "(Ljava/lang/String;)Ljava/lang/StringBuilder;"⟩
abbrev yN33 : MethodName := ⟨"java/lang/StringBuilder", "length", "()I"⟩
abbrev yN34 : MethodName := ⟨"java/lang/StringBuilder", "toString", "()Ljava/lang/String;"⟩
abbrev yN35 : MethodName := ⟨"java/lang/StringCoding", "countPositives", "([BII)I"⟩
abbrev yN36 : MethodName := ⟨"java/lang/StringCoding", "hasNegatives", "([BII)Z"⟩
abbrev yN37 : MethodName := ⟨"java/lang/StringLatin1", "canEncode", "(I)Z"⟩
abbrev yN38 : MethodName := ⟨"java/lang/StringLatin1", "indexOf", "([BIII)I"⟩
abbrev yN39 : MethodName := ⟨"java/lang/StringLatin1", "indexOfChar", "([BIII)I"⟩
abbrev yN40 : MethodName := ⟨"java/lang/StringUTF16", "newBytesFor", "(I)[B"⟩
abbrev yN41 : MethodName := ⟨"java/lang/StringUTF16", "newBytesLength", "(I)I"⟩
abbrev yN42 : MethodName := ⟨"java/util/Arrays", "checkLength", "(II)V"⟩
abbrev yN43 : MethodName := ⟨"java/util/Arrays", "copyOf", "([BI)[B"⟩
abbrev yN44 : MethodName := ⟨"java/util/Arrays", "copyOfRange", "([BII)[B"⟩
abbrev yN45 : MethodName := ⟨"java/util/Arrays", "copyOfRangeByte", "([BII)[B"⟩
abbrev yN46 : MethodName := ⟨"java/util/Objects", "requireNonNull", "(Ljava/lang/Object;Ljava/lang/String;)Ljava/lang/Object;"⟩
abbrev vi (x : Int32) : Slot := .val (.int x)
abbrev vr (x : Addr) : Slot := .val (.ref x)
abbrev un : Slot := .unset
abbrev sn : Slot := .second
theorem hv {a0 : Array Value} {Z : State} (hw : ∀ d ∈ tables_1, d.before a0 Z = true) (i : Nat) {d : Jvm.Cond} (h : tables_1[i]? = some d) : d.before a0 Z = true := hw d (List.mem_of_getElem? h)
theorem hwsV (Z : State) (a0 : Array Value) (hw : ∀ d ∈ tables_1, d.before a0 Z = true) : ∀ d ∈ StrChars.Road.words, d.before a0 Z = true := fun d hd => hw d ((by decide +kernel : ∀ d ∈ StrChars.Road.words, d ∈ tables_1) d hd)
/-- x is a String of the chars cs (each 0 to 255), its cells below b -/
def Str (Z : State) (h : Heap) (b : Nat) (x : Addr) (cs : List Int32) : Prop :=
  x < b ∧ Exa Z h x "java/lang/String" ∧ Fld Z h x "java/lang/String" "coder" "B" (.int 0) ∧
    (∃ (t : Addr) (k : ClassId), t < b ∧ Fld Z h x "java/lang/String" "value" "[B" (.ref t) ∧ Arv Z h t k .byte (Int32.ofNat cs.length) ((cs.map fun c => c.toInt8.toInt32).map Value.int) (.int 0)) ∧
    (∀ c ∈ cs, ¬ c < 0 ∧ ¬ 255 < c) ∧ cs.length ≤ 4000
section StrFacts
variable {Z : State} {h h' : Heap} {b : Nat} {x a : Addr} {cs : List Int32} {ws : List Addr} {sl : Nat} {v : Value}
theorem Str.of {t : Addr} {k : ClassId} {N : Int32} {bs : List Int32} (E : Exa Z h x "java/lang/String") (C : Fld Z h x "java/lang/String" "coder" "B" (.int 0)) (F : Fld Z h x "java/lang/String" "value" "[B" (.ref t)) (A : Arv Z h t k .byte N (bs.map Value.int) (.int 0)) (hN : N = Int32.ofNat cs.length) (hb : bs = cs.map fun c => c.toInt8.toInt32)
    (hp : ∀ c ∈ cs, ¬ c < 0 ∧ ¬ 255 < c) (hl : cs.length ≤ 4000) : Str Z h h.size x cs := by subst hN hb; exact ⟨E.lt, E, C, ⟨t, k, A.lt, F, A⟩, hp, hl⟩
theorem Str.keep (S : Str Z h b x cs) (K : Keep h h' ws) (q : ∀ w ∈ ws, b ≤ w) : Str Z h' b x cs := by
  obtain ⟨l1, E, C, ⟨t, k, l2, F, A⟩, r⟩ := S
  have n1 : x ∉ ws := fun m => absurd (q _ m) (Nat.not_le_of_lt l1)
  have n2 : t ∉ ws := fun m => absurd (q _ m) (Nat.not_le_of_lt l2)
  exact ⟨l1, E.keep K, C.keep K n1, ⟨t, k, l2, F.keep K n1, A.keep K n2⟩, r⟩
theorem Str.wr (S : Str Z h b x cs) (W : Wr h h' a sl v) (q : b ≤ a) : Str Z h' b x cs := S.keep (Keep.of_wr W) (allS q all0)
theorem Str.ext (S : Str Z h b x cs) (E : Ext h h') : Str Z h' b x cs := by
  obtain ⟨l1, E1, C, ⟨t, k, l2, F, A⟩, r⟩ := S
  exact ⟨l1, E1.ext E, C.ext E, ⟨t, k, l2, F.ext E, A.ext E⟩, r⟩
end StrFacts
theorem i8val {c : Int32} (h : ¬ c < 0 ∧ ¬ (255 : Int32) < c) : 0 ≤ c.toInt ∧ c.toInt ≤ 255 ∧ (c.toInt8.toInt32).toInt = (if c.toInt < 128 then c.toInt else c.toInt - 256) := by
  have q := c_i2b c
  have h1 := h.1; have h2 := h.2
  rw [Int32.lt_iff_toInt_lt] at h1 h2
  have e : (255 : Int32).toInt = 255 := rfl
  have e0 : (0 : Int32).toInt = 0 := rfl
  split <;> omega
theorem m255 {c : Int32} (h : ¬ c < 0 ∧ ¬ 255 < c) : (c.toInt8.toInt32 &&& 255) = c := by
  have q := i8val h
  have k := c_mask c.toInt8.toInt32 255 8 (by decide) (by decide)
  refine eq32 ?_
  rw [k, q.2.2]; split <;> omega
theorem m63 {c : Int32} (h : ¬ c < 0 ∧ ¬ 255 < c) : (c.toInt8.toInt32 &&& 63) = (c &&& 63) := by
  have q := i8val h
  have k := c_mask c.toInt8.toInt32 63 6 (by decide) (by decide)
  have k2 := c_mask c 63 6 (by decide) (by decide)
  refine eq32 ?_
  rw [k, k2, q.2.2]; split <;> omega
theorem neg_n {c : Int32} (h : ¬ c < 0 ∧ ¬ 255 < c) (g : c < 128) : ¬ c.toInt8.toInt32 < 0 := by
  have q := i8val h
  rw [Int32.lt_iff_toInt_lt] at g ⊢
  have e : (128 : Int32).toInt = 128 := rfl
  have e0 : (0 : Int32).toInt = 0 := rfl
  rw [q.2.2]; split <;> omega
theorem neg_p {c : Int32} (h : ¬ c < 0 ∧ ¬ 255 < c) (g : ¬ c < 128) : c.toInt8.toInt32 < 0 := by
  have q := i8val h
  rw [Int32.lt_iff_toInt_lt] at g ⊢
  have e : (128 : Int32).toInt = 128 := rfl
  have e0 : (0 : Int32).toInt = 0 := rfl
  rw [q.2.2]; split <;> omega
/-- what put writes is the encoding of the char's byte -/
theorem put_n {X : List Int32} {c : Int32} (h : ¬ c < 0 ∧ ¬ 255 < c) (g : c < 128) : X ++ encB (c.toInt8.toInt32) = X ++ [(c.toInt8.toInt32)] := by rw [encB, if_neg (neg_n h g)]
theorem put_p {X : List Int32} {c : Int32} (h : ¬ c < 0 ∧ ¬ 255 < c) (g : ¬ c < 128) : X ++ encB (c.toInt8.toInt32) = (X ++ [(((192 : Int32) ||| (c >>> ((6 : Int32) &&& 31))).toInt8.toInt32)]) ++ [(((128 : Int32) ||| (c &&& 63)).toInt8.toInt32)] := by
  rw [encB, if_pos (neg_p h g), e1, e2, m255 h, m63 h]; simp
theorem lsucc2 (d : List Int32) (a b : Int32) : Int32.ofNat d.length + 2 = Int32.ofNat ((d ++ [a]) ++ [b]).length := by rw [List.length_append, List.length_append, Int32.ofNat_add, Int32.ofNat_add, Int32.add_assoc]; rfl
theorem neq8 {c k : Int32} (h : ¬ c < 0 ∧ ¬ 255 < c) (hk : 0 ≤ k.toInt ∧ k.toInt < 128) (g : ¬ c = k) : ¬ c.toInt8.toInt32 = k := fun z => by
  have q := i8val h
  rw [z] at q
  refine g (eq32 ?_)
  have := q.2.2; split at this <;> omega
/-- the bytes of a String's chars -/
def i8s (cs : List Int32) : List Int32 := cs.map fun c => c.toInt8.toInt32
theorem i8s_len (cs : List Int32) : (i8s cs).length = cs.length := by simp [i8s]
theorem i8s_bt {cs : List Int32} : ∀ b ∈ i8s cs, b.toInt8.toInt32 = b := fun b hb => by
  obtain ⟨c, -, rfl⟩ := List.mem_map.mp hb
  exact i8i8 c
theorem i8s_no {cs : List Int32} {k : Int32} (hk : 0 ≤ k.toInt ∧ k.toInt < 128) (hp : ∀ c ∈ cs, ¬ c < 0 ∧ ¬ 255 < c) (h : ∀ c ∈ cs, ¬ c = k) : ∀ b ∈ i8s cs, ¬ b = k := fun b hb => by
  obtain ⟨c, hc, rfl⟩ := List.mem_map.mp hb
  exact neq8 (hp c hc) hk (h c hc)
theorem i8s_nz {cs : List Int32} (h : cs ≠ []) : i8s cs ≠ [] := fun z => h (List.map_eq_nil_iff.mp z)
theorem i8s_4 {cs : List Int32} (h : cs.length ≤ 4000) : (i8s cs).length ≤ 4000 := by rw [i8s_len]; exact h
theorem i8arv {Z : State} {h : Heap} {t : Addr} {k : ClassId} {cs : List Int32} (A : Arv Z h t k .byte (Int32.ofNat cs.length) ((cs.map fun c => c.toInt8.toInt32).map Value.int) (.int 0)) : Arv Z h t k .byte (Int32.ofNat (i8s cs).length) ((i8s cs).map Value.int) (.int 0) := by rw [i8s_len]; exact A
theorem t58 : (58 : Int32).toInt8.toInt32 = 58 := by decide
theorem encB58 : encB 58 = [58] := by decide
def atg (X : List Int32) (i : Int32) : Int32 := X.getD i.toNatClampNeg 0
theorem ii_nat {X : List Int32} {i : Int32} (hi : ¬ i < 0) (h : i < Int32.ofNat X.length) (hX : X.length ≤ 4000) : i.toNatClampNeg < X.length := by
  rw [Int32.lt_iff_toInt_lt] at h hi
  rw [ln_int hX] at h
  have e0 : (0 : Int32).toInt = 0 := rfl
  simp only [Int32.toNatClampNeg]; omega
theorem atg_B {X : List Int32} {i : Int32} (hi : ¬ i < 0) (h : i < Int32.ofNat X.length) (hX : X.length ≤ 4000) (dv : Value) : (X.map Value.int).getD i.toNatClampNeg dv = .int (atg X i) := by
  have q := ii_nat hi h hX
  simp [atg, List.getD_eq_getElem?_getD, q]
theorem atg_P {X : List Int32} {i : Int32} {n : Nat} (hi : ¬ i < 0) (h : i < Int32.ofNat X.length) (hX : X.length ≤ 4000) (dv : Value) : (pad n X).getD i.toNatClampNeg dv = .int (atg X i) := by
  have q := ii_nat hi h hX
  simp [pad, atg, List.getD_eq_getElem?_getD, List.getElem?_append_left, q]
theorem lt_pad {X : List Int32} {i : Int32} {n : Nat} (h : i < Int32.ofNat X.length) (hX : X.length ≤ n) (hn : n ≤ 4000) : i < Int32.ofNat n := by
  rw [Int32.lt_iff_toInt_lt, ln_int (by omega)] at h
  rw [Int32.lt_iff_toInt_lt, Int32.toInt_ofNat_of_lt (by omega)]; omega
theorem uch (x : Int32) : 0 ≤ ((x &&& 255) % 255).toInt ∧ ((x &&& 255) % 255).toInt ≤ 254 := by
  have k := c_mask x 255 8 (by decide) (by decide)
  have e := (c_irem (x &&& 255) 255 255 (by decide)).1 (by omega)
  omega
theorem chr_v {v : Int32} (h : 0 ≤ v.toInt ∧ v.toInt ≤ 254) (g : v < 58) : (¬ v < 0 ∧ ¬ 255 < v) ∧ ¬ v = 58 := by
  rw [Int32.lt_iff_toInt_lt] at g
  have e : (58 : Int32).toInt = 58 := rfl
  refine ⟨⟨?_, ?_⟩, fun z => by rw [z] at g; omega⟩ <;> rw [Int32.lt_iff_toInt_lt]
  · have e0 : (0 : Int32).toInt = 0 := rfl
    omega
  · have e2 : (255 : Int32).toInt = 255 := rfl
    omega
theorem chr_v1 {v : Int32} (h : 0 ≤ v.toInt ∧ v.toInt ≤ 254) (g : ¬ v < 58) : (¬ v + 1 < 0 ∧ ¬ 255 < v + 1) ∧ ¬ v + 1 = 58 := by
  rw [Int32.lt_iff_toInt_lt] at g
  have e : (58 : Int32).toInt = 58 := rfl
  have k := c_iadd v 1
  have r := rng32 (v + 1)
  have e1 : (1 : Int32).toInt = 1 := rfl
  refine ⟨⟨?_, ?_⟩, fun z => by rw [z] at k; omega⟩ <;> rw [Int32.lt_iff_toInt_lt]
  · have e0 : (0 : Int32).toInt = 0 := rfl
    omega
  · have e2 : (255 : Int32).toInt = 255 := rfl
    omega
theorem pn_0 : plainName "com/example/turnlock/turnlock/session/DigestCredentialsOfPinLaw" = true := by first | (simp [plainName, overriddenIn]; done) | decide +kernel
theorem d_m3_0 : decode method_3_code 0 = .ok (.iload_n 0, 1) := by decide +kernel
theorem d_m3_1 : decode method_3_code 1 = .ok (.sipush 255, 3) := by decide +kernel
theorem d_m3_4 : decode method_3_code 4 = .ok (.iand, 1) := by decide +kernel
theorem d_m3_5 : decode method_3_code 5 = .ok (.sipush 255, 3) := by decide +kernel
theorem d_m3_8 : decode method_3_code 8 = .ok (.irem, 1) := by decide +kernel
theorem d_m3_9 : decode method_3_code 9 = .ok (.istore_n 1, 1) := by decide +kernel
theorem d_m3_10 : decode method_3_code 10 = .ok (.iload_n 1, 1) := by decide +kernel
theorem d_m3_11 : decode method_3_code 11 = .ok (.bipush 58, 2) := by decide +kernel
theorem d_m3_13 : decode method_3_code 13 = .ok (.if_icmp .lt 7, 3) := by decide +kernel
theorem d_m3_20 : decode method_3_code 20 = .ok (.iload_n 1, 1) := by decide +kernel
theorem d_m3_21 : decode method_3_code 21 = .ok (.i2c, 1) := by decide +kernel
theorem d_m3_22 : decode method_3_code 22 = .ok (.ireturn, 1) := by decide +kernel
theorem d_m3_16 : decode method_3_code 16 = .ok (.iload_n 1, 1) := by decide +kernel
theorem d_m3_17 : decode method_3_code 17 = .ok (.iconst 1, 1) := by decide +kernel
theorem d_m3_18 : decode method_3_code 18 = .ok (.iadd, 1) := by decide +kernel
theorem d_m3_19 : decode method_3_code 19 = .ok (.istore_n 1, 1) := by decide +kernel
def QU (Z : State) (xi : Int32) (h0 : Heap) (n0 : Nat) (v : Option Value) (h : Heap) (L : List Loc) : Prop := (∃ r : Int32, v = some (.int r) ∧ (¬ r < 0 ∧ ¬ 255 < r) ∧ ¬ r = 58) ∧ Fr n0 L ∧ h = h0
set_option maxRecDepth 65536 in
set_option maxHeartbeats 40000000 in
theorem rmU (l : Launch) (Z : State) (a0 : Array Value) (hw : ∀ d ∈ tables_1, d.before a0 Z = true) (ws : List Jvm.Cond) (xi : Int32) (h0 : Heap) (n0 : Nat) (X00 : Old Z n0 h0)  :
  MetFree l yN6 (head1 (Jvm.Cond.code yN6 method_3_code 2 (some .char) :: ws) ({ frames := 0, cells := 0, slots := 0, locals := 0 } : Room)) (fun aa U => aa = #[(.int xi)] ∧ Z.Warmed39 U.vm ∧ U.heap = h0) (fun _ _ _ _ _ => True) (fun _ U o U' => ∃ v L, o = .returned v ∧ QU Z xi h0 n0 v U'.heap L ∧ FrameEnd U o U' L ({ frames := 0, cells := 0, slots := 0, locals := 0 } : Room).cells ({ frames := 0, cells := 0, slots := 0, locals := 0 } : Room).slots) := by
 refine MetFree.of_bodySF (plainFor_of_name pn_0) hisR ?_
 intro p e s m args below meth c s₁ Bd hml0 hP hK
 obtain ⟨rfl, hZ, hh⟩ := hP
 have hx := Bd.exec
 have hby := Bd.bytes
 have hml : c.maxLocals = 2 := hml0
 have hown : s.vm.findClass "com/example/turnlock/turnlock/session/DigestCredentialsOfPinLaw" = some m.cls := findClass_of_methodNamed Bd.named
 have hnm := (name_of_methodNamed Bd.named Bd.method).1
 have X0 : Stand p l e ({ frames := 0, cells := 0, slots := 0, locals := 0 } : Room) s m #[(.int xi)] below meth c s₁ [] 0 0 := Stand.of_body Bd
 have e0 : s₁.heap = h0 := by rw [← hh, Bd.state]; rfl
 have N0 := Fr.nil n0
 have K0 := Keep.refl h0 []
 have ef : entryFrame m #[(.int xi)] 2 = mkF m 0 #[vi xi, un] [] := (by first | (simp [entryFrame, mkF, argsToLocals, Value.category]; done) | rfl : entryFrame m #[(.int xi)] 2 = mkF m 0 #[vi xi, un] [])
 rw [ef]
 refine fin_of fun Kx hF => ?_
 show Go p.tables e below Kx _ (mkF m 0 _ [])
 refine s_iloadN (pc' := 1) X0.here hx (hb hby d_m3_0) rfl rfl ?_
 refine s_sipush (pc' := 4) (v := 255) X0.here hx (hb hby d_m3_1) rfl rfl ?_
 refine s_iand (pc' := 5) X0.here hx (hb hby d_m3_4) rfl rfl ?_
 refine s_sipush (pc' := 8) (v := 255) X0.here hx (hb hby d_m3_5) rfl rfl ?_
 refine s_irem (pc' := 9) X0.here hx (hb hby d_m3_8) rfl (by decide) rfl ?_
 have hvv : 0 ≤ ((xi &&& 255) % 255).toInt ∧ ((xi &&& 255) % 255).toInt ≤ 254 := uch xi
 revert hvv
 generalize ((xi &&& 255) % 255) = vv
 intro hvv
 show Go p.tables e below Kx _ (mkF m 9 _ [(.int vv)])
 refine s_istoreN (pc' := 10) (Ls' := #[vi xi, vi vv]) X0.here hx (hb hby d_m3_9) rfl  rfl ?_
 refine s_iloadN (pc' := 11) X0.here hx (hb hby d_m3_10) rfl rfl ?_
 refine s_bipush (pc' := 13) (v := 58) X0.here hx (hb hby d_m3_11) rfl rfl ?_
 by_cases hc1 : vv < (58 : Int32)
 ·
  refine s_icmpY (pc' := 20) X0.here hx (hb hby d_m3_13) (tlt hc1).1 (by decide) (by decide) ?_
  refine s_iloadN (pc' := 21) X0.here hx (hb hby d_m3_20) rfl rfl ?_
  have hch := chr_v hvv hc1
  refine s_i2c (pc' := 22) (z := vv) X0.here hx (hb hby d_m3_21) rfl (chr_i2c hch.1) ?_
  obtain ⟨fs, hr, hrun, hended, hW, hsame⟩ := X0.leave (v := (some (.int (nar .char vv)))) (fun h => by rw [Bd.returns] at h; cases h)
  refine Go.fin (retN X0 hx (t := .char) Bd.returns (by simp) (hb hby d_m3_22) hr) (hF _ _ hrun hended ⟨_, _, rfl, ?_, ⟨_, rfl⟩, hW, hsame.mono (by decide) (by decide)⟩)
  ·
   show QU Z xi h0 n0 ((some (.int (nar .char vv))) : Option Value) s₁.heap _
   rw [e0]
   exact ⟨⟨_, rfl, by rw [chr_nar hch.1]; exact hch⟩, N0, rfl⟩
 ·
  refine s_icmpN (pc' := 16) X0.here hx (hb hby d_m3_13) rfl (flt hc1).1 ?_
  refine s_iloadN (pc' := 17) X0.here hx (hb hby d_m3_16) rfl rfl ?_
  refine s_iconst (pc' := 18) (v := 1) X0.here hx (hb hby d_m3_17) rfl rfl ?_
  refine s_iadd (pc' := 19) X0.here hx (hb hby d_m3_18) rfl rfl ?_
  refine s_istoreN (pc' := 20) (Ls' := #[vi xi, .val (.int (vv + 1))]) X0.here hx (hb hby d_m3_19) rfl  rfl ?_
  refine s_iloadN (pc' := 21) X0.here hx (hb hby d_m3_20) rfl rfl ?_
  have hch := chr_v1 hvv hc1
  refine s_i2c (pc' := 22) (z := (vv + 1)) X0.here hx (hb hby d_m3_21) rfl (chr_i2c hch.1) ?_
  obtain ⟨fs, hr, hrun, hended, hW, hsame⟩ := X0.leave (v := (some (.int (nar .char (vv + 1))))) (fun h => by rw [Bd.returns] at h; cases h)
  refine Go.fin (retN X0 hx (t := .char) Bd.returns (by simp) (hb hby d_m3_22) hr) (hF _ _ hrun hended ⟨_, _, rfl, ?_, ⟨_, rfl⟩, hW, hsame.mono (by decide) (by decide)⟩)
  ·
   show QU Z xi h0 n0 ((some (.int (nar .char (vv + 1)))) : Option Value) s₁.heap _
   rw [e0]
   exact ⟨⟨_, rfl, by rw [chr_nar hch.1]; exact hch⟩, N0, rfl⟩
theorem pd_0 : parseMethodDescriptor "(I)C" = some ⟨[.int], some .char⟩ := by decide +kernel
theorem pd_1 : parseMethodDescriptor "([C)V" = some ⟨[(.array .char)], none⟩ := by decide +kernel
theorem d_m4_0 : decode method_4_code 0 = .ok (.iload_n 2, 1) := by decide +kernel
theorem d_m4_1 : decode method_4_code 1 = .ok (.sipush 128, 3) := by decide +kernel
theorem d_m4_4 : decode method_4_code 4 = .ok (.if_icmp .ge 12, 3) := by decide +kernel
theorem d_m4_7 : decode method_4_code 7 = .ok (.aload_n 0, 1) := by decide +kernel
theorem d_m4_8 : decode method_4_code 8 = .ok (.iload_n 1, 1) := by decide +kernel
theorem d_m4_9 : decode method_4_code 9 = .ok (.iload_n 2, 1) := by decide +kernel
theorem d_m4_10 : decode method_4_code 10 = .ok (.i2b, 1) := by decide +kernel
theorem d_m4_11 : decode method_4_code 11 = .ok (.bastore, 1) := by decide +kernel
theorem d_m4_12 : decode method_4_code 12 = .ok (.iload_n 1, 1) := by decide +kernel
theorem d_m4_13 : decode method_4_code 13 = .ok (.iconst 1, 1) := by decide +kernel
theorem d_m4_14 : decode method_4_code 14 = .ok (.iadd, 1) := by decide +kernel
theorem d_m4_15 : decode method_4_code 15 = .ok (.ireturn, 1) := by decide +kernel
theorem d_m4_16 : decode method_4_code 16 = .ok (.aload_n 0, 1) := by decide +kernel
theorem d_m4_17 : decode method_4_code 17 = .ok (.iload_n 1, 1) := by decide +kernel
theorem d_m4_18 : decode method_4_code 18 = .ok (.sipush 192, 3) := by decide +kernel
theorem d_m4_21 : decode method_4_code 21 = .ok (.iload_n 2, 1) := by decide +kernel
theorem d_m4_22 : decode method_4_code 22 = .ok (.bipush 6, 2) := by decide +kernel
theorem d_m4_24 : decode method_4_code 24 = .ok (.ishr, 1) := by decide +kernel
theorem d_m4_25 : decode method_4_code 25 = .ok (.ior, 1) := by decide +kernel
theorem d_m4_26 : decode method_4_code 26 = .ok (.i2b, 1) := by decide +kernel
theorem d_m4_27 : decode method_4_code 27 = .ok (.bastore, 1) := by decide +kernel
theorem d_m4_28 : decode method_4_code 28 = .ok (.aload_n 0, 1) := by decide +kernel
theorem d_m4_29 : decode method_4_code 29 = .ok (.iload_n 1, 1) := by decide +kernel
theorem d_m4_30 : decode method_4_code 30 = .ok (.iconst 1, 1) := by decide +kernel
theorem d_m4_31 : decode method_4_code 31 = .ok (.iadd, 1) := by decide +kernel
theorem d_m4_32 : decode method_4_code 32 = .ok (.sipush 128, 3) := by decide +kernel
theorem d_m4_35 : decode method_4_code 35 = .ok (.iload_n 2, 1) := by decide +kernel
theorem d_m4_36 : decode method_4_code 36 = .ok (.bipush 63, 2) := by decide +kernel
theorem d_m4_38 : decode method_4_code 38 = .ok (.iand, 1) := by decide +kernel
theorem d_m4_39 : decode method_4_code 39 = .ok (.ior, 1) := by decide +kernel
theorem d_m4_40 : decode method_4_code 40 = .ok (.i2b, 1) := by decide +kernel
theorem d_m4_41 : decode method_4_code 41 = .ok (.bastore, 1) := by decide +kernel
theorem d_m4_42 : decode method_4_code 42 = .ok (.iload_n 1, 1) := by decide +kernel
theorem d_m4_43 : decode method_4_code 43 = .ok (.iconst 2, 1) := by decide +kernel
theorem d_m4_44 : decode method_4_code 44 = .ok (.iadd, 1) := by decide +kernel
theorem d_m4_45 : decode method_4_code 45 = .ok (.ireturn, 1) := by decide +kernel
def QDp (Z : State) (xe : Addr) (ke : ClassId) (X : List Int32) (cc : Int32) (h0 : Heap) (n0 : Nat) (v : Option Value) (h : Heap) (L : List Loc) : Prop := v = some (.int (Int32.ofNat (X ++ encB (cc.toInt8.toInt32)).length)) ∧ Fr n0 L ∧ Keep h0 h [xe] ∧ Arv Z h xe ke .byte 9 (pad 9 (X ++ encB (cc.toInt8.toInt32))) (.int 0)
set_option maxRecDepth 65536 in
set_option maxHeartbeats 40000000 in
theorem rmDp (l : Launch) (Z : State) (a0 : Array Value) (hw : ∀ d ∈ tables_1, d.before a0 Z = true) (ws : List Jvm.Cond) (xe : Addr) (ke : ClassId) (X : List Int32) (cc : Int32) (h0 : Heap) (n0 : Nat) (X00 : Old Z n0 h0) (ge_xe : n0 ≤ xe) (Axe : Arv Z h0 xe ke .byte 9 (pad 9 X) (.int 0)) (hch : ¬ cc < 0 ∧ ¬ 255 < cc) (hr : X.length + 1 < 9) :
  MetFree l yN4 (head1 (Jvm.Cond.code yN4 method_4_code 3 (some .int) :: ws) ({ frames := 0, cells := 0, slots := 0, locals := 0 } : Room)) (fun aa U => aa = #[(.ref xe), (.int (Int32.ofNat X.length)), (.int cc)] ∧ Z.Warmed39 U.vm ∧ U.heap = h0) (fun _ _ _ _ _ => True) (fun _ U o U' => ∃ v L, o = .returned v ∧ QDp Z xe ke X cc h0 n0 v U'.heap L ∧ FrameEnd U o U' L ({ frames := 0, cells := 0, slots := 0, locals := 0 } : Room).cells ({ frames := 0, cells := 0, slots := 0, locals := 0 } : Room).slots) := by
 refine MetFree.of_bodySF (plainFor_of_name pn_0) hisR ?_
 intro p e s m args below meth c s₁ Bd hml0 hP hK
 obtain ⟨rfl, hZ, hh⟩ := hP
 have hx := Bd.exec
 have hby := Bd.bytes
 have hml : c.maxLocals = 3 := hml0
 have hown : s.vm.findClass "com/example/turnlock/turnlock/session/DigestCredentialsOfPinLaw" = some m.cls := findClass_of_methodNamed Bd.named
 have hnm := (name_of_methodNamed Bd.named Bd.method).1
 have X0 : Stand p l e ({ frames := 0, cells := 0, slots := 0, locals := 0 } : Room) s m #[(.ref xe), (.int (Int32.ofNat X.length)), (.int cc)] below meth c s₁ [] 0 0 := Stand.of_body Bd
 have e0 : s₁.heap = h0 := by rw [← hh, Bd.state]; rfl
 have N0 := Fr.nil n0
 have K0 := Keep.refl h0 [xe]
 have ef : entryFrame m #[(.ref xe), (.int (Int32.ofNat X.length)), (.int cc)] 3 = mkF m 0 #[vr xe, .val (.int (Int32.ofNat X.length)), vi cc] [] := (by first | (simp [entryFrame, mkF, argsToLocals, Value.category]; done) | rfl : entryFrame m #[(.ref xe), (.int (Int32.ofNat X.length)), (.int cc)] 3 = mkF m 0 #[vr xe, .val (.int (Int32.ofNat X.length)), vi cc] [])
 rw [ef]
 refine fin_of fun Kx hF => ?_
 show Go p.tables e below Kx _ (mkF m 0 _ [])
 refine s_iloadN (pc' := 1) X0.here hx (hb hby d_m4_0) rfl rfl ?_
 refine s_sipush (pc' := 4) (v := 128) X0.here hx (hb hby d_m4_1) rfl rfl ?_
 by_cases hc49 : cc < (128 : Int32)
 ·
  refine s_icmpN (pc' := 7) X0.here hx (hb hby d_m4_4) rfl (tlt hc49).2.1 ?_
  refine s_aloadN (pc' := 8) X0.here hx (hb hby d_m4_7) rfl rfl rfl ?_
  refine s_iloadN (pc' := 9) X0.here hx (hb hby d_m4_8) rfl rfl ?_
  refine s_iloadN (pc' := 10) X0.here hx (hb hby d_m4_9) rfl rfl ?_
  refine s_i2b (pc' := 11) X0.here hx (hb hby d_m4_10) rfl rfl ?_
  obtain ⟨cl50, Ar50, Aq50, As50, An50, Ah50, Ag50⟩ := id Axe
  have rm51 : X.length < 9 := (Nat.lt_of_succ_lt hr)
  have in51 := inb_of (j := (Int32.ofNat X.length)) As50 (inpad (n := 9) rm51 (by decide : 9 ≤ 4000))
  obtain ⟨T51, h51, X51, e51, W51, st51⟩ := stB X0 hx hZ e0 Ar50 (j := (Int32.ofNat X.length)) in51 (g := (mkF m 11 #[vr xe, .val (.int (Int32.ofNat X.length)), vi cc] [(.int (cc.toInt8.toInt32)), (.int (Int32.ofNat X.length)), (.ref xe)])) rfl rfl (hb hby d_m4_11)
  have V51 : Arv Z h51 xe ke .byte 9 (pad 9 (X ++ [(cc.toInt8.toInt32)])) (.int 0) := by
   have q := Arv.set Ar50 Aq50 As50 An50 Ah50 Ag50 (fits_nar_byte _) W51 X.length (nl (Nat.le_trans (Nat.le_of_lt rm51) (by decide : 9 ≤ 4000))) (by rw [pad_len (Nat.le_of_lt rm51)]; exact rm51)
   rw [i8i8 cc, pad_set rm51] at q; exact q
  have K51 : Keep h0 h51 [xe] := K0.wr W51 (Or.inl (List.mem_of_getElem? (i := 0) rfl))
  have O51 : Old Z n0 h51 := X00.wr W51 ge_xe
  have N51 := Fr.snoc X51 N0 ge_xe
  refine Go.st st51 ?_
  show Go p.tables e below Kx _ (mkF m 12 _ [])
  refine s_iloadN (pc' := 13) X51.here hx (hb hby d_m4_12) rfl rfl ?_
  refine s_iconst (pc' := 14) (v := 1) X51.here hx (hb hby d_m4_13) rfl rfl ?_
  refine s_iadd (pc' := 15) (z := (Int32.ofNat (X ++ [(cc.toInt8.toInt32)]).length)) X51.here hx (hb hby d_m4_14) rfl (lsucc _ _) ?_
  obtain ⟨fs, hr, hrun, hended, hW, hsame⟩ := X51.leave (v := (some (.int (Int32.ofNat (X ++ [(cc.toInt8.toInt32)]).length)))) (fun h => by rw [Bd.returns] at h; cases h)
  refine Go.fin (retI X51 hx Bd.returns (hb hby d_m4_15) hr) (hF _ _ hrun hended ⟨_, _, rfl, ?_, ⟨_, rfl⟩, hW, hsame.mono (by decide) (by decide)⟩)
  ·
   show QDp Z xe ke X cc h0 n0 ((some (.int (Int32.ofNat (X ++ [(cc.toInt8.toInt32)]).length))) : Option Value) T51.heap _
   rw [e51]
   exact by rw [QDp, put_n hch hc49]; exact ⟨rfl, N51, K51, V51⟩
 ·
  refine s_icmpY (pc' := 16) X0.here hx (hb hby d_m4_4) (flt hc49).2.1 (by decide) (by decide) ?_
  refine s_aloadN (pc' := 17) X0.here hx (hb hby d_m4_16) rfl rfl rfl ?_
  refine s_iloadN (pc' := 18) X0.here hx (hb hby d_m4_17) rfl rfl ?_
  refine s_sipush (pc' := 21) (v := 192) X0.here hx (hb hby d_m4_18) rfl rfl ?_
  refine s_iloadN (pc' := 22) X0.here hx (hb hby d_m4_21) rfl rfl ?_
  refine s_bipush (pc' := 24) (v := 6) X0.here hx (hb hby d_m4_22) rfl rfl ?_
  refine s_ishr (pc' := 25) X0.here hx (hb hby d_m4_24) rfl rfl ?_
  refine s_ior (pc' := 26) X0.here hx (hb hby d_m4_25) rfl rfl ?_
  refine s_i2b (pc' := 27) X0.here hx (hb hby d_m4_26) rfl rfl ?_
  obtain ⟨cl52, Ar52, Aq52, As52, An52, Ah52, Ag52⟩ := id Axe
  have rm53 : X.length < 9 := (Nat.lt_of_succ_lt hr)
  have in53 := inb_of (j := (Int32.ofNat X.length)) As52 (inpad (n := 9) rm53 (by decide : 9 ≤ 4000))
  obtain ⟨T53, h53, X53, e53, W53, st53⟩ := stB X0 hx hZ e0 Ar52 (j := (Int32.ofNat X.length)) in53 (g := (mkF m 27 #[vr xe, .val (.int (Int32.ofNat X.length)), vi cc] [(.int (((192 : Int32) ||| (cc >>> ((6 : Int32) &&& 31))).toInt8.toInt32)), (.int (Int32.ofNat X.length)), (.ref xe)])) rfl rfl (hb hby d_m4_27)
  have V53 : Arv Z h53 xe ke .byte 9 (pad 9 (X ++ [(((192 : Int32) ||| (cc >>> ((6 : Int32) &&& 31))).toInt8.toInt32)])) (.int 0) := by
   have q := Arv.set Ar52 Aq52 As52 An52 Ah52 Ag52 (fits_nar_byte _) W53 X.length (nl (Nat.le_trans (Nat.le_of_lt rm53) (by decide : 9 ≤ 4000))) (by rw [pad_len (Nat.le_of_lt rm53)]; exact rm53)
   rw [i8i8 ((192 : Int32) ||| (cc >>> ((6 : Int32) &&& 31))), pad_set rm53] at q; exact q
  have K53 : Keep h0 h53 [xe] := K0.wr W53 (Or.inl (List.mem_of_getElem? (i := 0) rfl))
  have O53 : Old Z n0 h53 := X00.wr W53 ge_xe
  have N53 := Fr.snoc X53 N0 ge_xe
  refine Go.st st53 ?_
  show Go p.tables e below Kx _ (mkF m 28 _ [])
  refine s_aloadN (pc' := 29) X53.here hx (hb hby d_m4_28) rfl rfl rfl ?_
  refine s_iloadN (pc' := 30) X53.here hx (hb hby d_m4_29) rfl rfl ?_
  refine s_iconst (pc' := 31) (v := 1) X53.here hx (hb hby d_m4_30) rfl rfl ?_
  refine s_iadd (pc' := 32) (z := (Int32.ofNat (X ++ [(((192 : Int32) ||| (cc >>> ((6 : Int32) &&& 31))).toInt8.toInt32)]).length)) X53.here hx (hb hby d_m4_31) rfl (lsucc _ _) ?_
  refine s_sipush (pc' := 35) (v := 128) X53.here hx (hb hby d_m4_32) rfl rfl ?_
  refine s_iloadN (pc' := 36) X53.here hx (hb hby d_m4_35) rfl rfl ?_
  refine s_bipush (pc' := 38) (v := 63) X53.here hx (hb hby d_m4_36) rfl rfl ?_
  refine s_iand (pc' := 39) X53.here hx (hb hby d_m4_38) rfl rfl ?_
  refine s_ior (pc' := 40) X53.here hx (hb hby d_m4_39) rfl rfl ?_
  refine s_i2b (pc' := 41) X53.here hx (hb hby d_m4_40) rfl rfl ?_
  obtain ⟨cl54, Ar54, Aq54, As54, An54, Ah54, Ag54⟩ := id V53
  have rm55 : (X ++ [(((192 : Int32) ||| (cc >>> ((6 : Int32) &&& 31))).toInt8.toInt32)]).length < 9 := (by rw [List.length_append]; exact hr)
  have in55 := inb_of (j := (Int32.ofNat (X ++ [(((192 : Int32) ||| (cc >>> ((6 : Int32) &&& 31))).toInt8.toInt32)]).length)) As54 (inpad (n := 9) rm55 (by decide : 9 ≤ 4000))
  obtain ⟨T55, h55, X55, e55, W55, st55⟩ := stB X53 hx hZ e53 Ar54 (j := (Int32.ofNat (X ++ [(((192 : Int32) ||| (cc >>> ((6 : Int32) &&& 31))).toInt8.toInt32)]).length)) in55 (g := (mkF m 41 #[vr xe, .val (.int (Int32.ofNat X.length)), vi cc] [(.int (((128 : Int32) ||| (cc &&& 63)).toInt8.toInt32)), (.int (Int32.ofNat (X ++ [(((192 : Int32) ||| (cc >>> ((6 : Int32) &&& 31))).toInt8.toInt32)]).length)), (.ref xe)])) rfl rfl (hb hby d_m4_41)
  have V55 : Arv Z h55 xe ke .byte 9 (pad 9 ((X ++ [(((192 : Int32) ||| (cc >>> ((6 : Int32) &&& 31))).toInt8.toInt32)]) ++ [(((128 : Int32) ||| (cc &&& 63)).toInt8.toInt32)])) (.int 0) := by
   have q := Arv.set Ar54 Aq54 As54 An54 Ah54 Ag54 (fits_nar_byte _) W55 (X ++ [(((192 : Int32) ||| (cc >>> ((6 : Int32) &&& 31))).toInt8.toInt32)]).length (nl (Nat.le_trans (Nat.le_of_lt rm55) (by decide : 9 ≤ 4000))) (by rw [pad_len (Nat.le_of_lt rm55)]; exact rm55)
   rw [i8i8 ((128 : Int32) ||| (cc &&& 63)), pad_set rm55] at q; exact q
  have K55 : Keep h0 h55 [xe] := K53.wr W55 (Or.inl (List.mem_of_getElem? (i := 0) rfl))
  have O55 : Old Z n0 h55 := O53.wr W55 ge_xe
  have N55 := Fr.snoc X55 N53 ge_xe
  refine Go.st st55 ?_
  show Go p.tables e below Kx _ (mkF m 42 _ [])
  refine s_iloadN (pc' := 43) X55.here hx (hb hby d_m4_42) rfl rfl ?_
  refine s_iconst (pc' := 44) (v := 2) X55.here hx (hb hby d_m4_43) rfl rfl ?_
  refine s_iadd (pc' := 45) (z := (Int32.ofNat ((X ++ [(((192 : Int32) ||| (cc >>> ((6 : Int32) &&& 31))).toInt8.toInt32)]) ++ [(((128 : Int32) ||| (cc &&& 63)).toInt8.toInt32)]).length)) X55.here hx (hb hby d_m4_44) rfl (lsucc2 _ _ _) ?_
  obtain ⟨fs, hr, hrun, hended, hW, hsame⟩ := X55.leave (v := (some (.int (Int32.ofNat ((X ++ [(((192 : Int32) ||| (cc >>> ((6 : Int32) &&& 31))).toInt8.toInt32)]) ++ [(((128 : Int32) ||| (cc &&& 63)).toInt8.toInt32)]).length)))) (fun h => by rw [Bd.returns] at h; cases h)
  refine Go.fin (retI X55 hx Bd.returns (hb hby d_m4_45) hr) (hF _ _ hrun hended ⟨_, _, rfl, ?_, ⟨_, rfl⟩, hW, hsame.mono (by decide) (by decide)⟩)
  ·
   show QDp Z xe ke X cc h0 n0 ((some (.int (Int32.ofNat ((X ++ [(((192 : Int32) ||| (cc >>> ((6 : Int32) &&& 31))).toInt8.toInt32)]) ++ [(((128 : Int32) ||| (cc &&& 63)).toInt8.toInt32)]).length))) : Option Value) T55.heap _
   rw [e55]
   exact by rw [QDp, put_p hch hc49]; exact ⟨rfl, N55, K55, V55⟩
theorem pd_2 : parseMethodDescriptor "([BIC)I" = some ⟨[(.array .byte), .int, .char], some .int⟩ := by decide +kernel
theorem pn_1 : plainName "com/example/turnlock/turnlock/session/DigestCredentials" = true := by first | (simp [plainName, overriddenIn]; done) | decide +kernel
theorem d_prog_15_m2_0 : decode prog_15_method_2_code 0 = .ok (.aload_n 0, 1) := by decide +kernel
theorem d_prog_15_m2_1 : decode prog_15_method_2_code 1 = .ok (.ldc 16, 2) := by decide +kernel
theorem pn_2 : plainName "java/util/Objects" = true := by first | (simp [plainName, overriddenIn]; done) | decide +kernel
theorem d_jdk_31_m11_0 : decode jdk_31_method_11_code 0 = .ok (.aload_n 0, 1) := by decide +kernel
theorem d_jdk_31_m11_1 : decode jdk_31_method_11_code 1 = .ok (.ifnonnull 12, 3) := by decide +kernel
theorem d_jdk_31_m11_13 : decode jdk_31_method_11_code 13 = .ok (.aload_n 0, 1) := by decide +kernel
theorem d_jdk_31_m11_14 : decode jdk_31_method_11_code 14 = .ok (.areturn, 1) := by decide +kernel
def QKrn (Z : State) (xx ms : Addr) (h0 : Heap) (n0 : Nat) (v : Option Value) (h : Heap) (L : List Loc) : Prop := v = some (.ref xx) ∧ Fr n0 L ∧ h = h0
set_option maxRecDepth 65536 in
set_option maxHeartbeats 40000000 in
theorem rmKrn (l : Launch) (Z : State) (a0 : Array Value) (hw : ∀ d ∈ tables_1, d.before a0 Z = true) (ws : List Jvm.Cond) (xx ms : Addr) (h0 : Heap) (n0 : Nat) (X00 : Old Z n0 h0)  :
  MetFree l yN46 (head1 (Jvm.Cond.code yN46 jdk_31_method_11_code 2 (some (.object "java/lang/Object")) :: ws) ({ frames := 0, cells := 0, slots := 0, locals := 0 } : Room)) (fun aa U => aa = #[(.ref xx), (.ref ms)] ∧ Z.Warmed39 U.vm ∧ U.heap = h0) (fun _ _ _ _ _ => True) (fun _ U o U' => ∃ v L, o = .returned v ∧ QKrn Z xx ms h0 n0 v U'.heap L ∧ FrameEnd U o U' L ({ frames := 0, cells := 0, slots := 0, locals := 0 } : Room).cells ({ frames := 0, cells := 0, slots := 0, locals := 0 } : Room).slots) := by
 refine MetFree.of_bodySF (plainFor_of_name pn_2) hisR ?_
 intro p e s m args below meth c s₁ Bd hml0 hP hK
 obtain ⟨rfl, hZ, hh⟩ := hP
 have hx := Bd.exec
 have hby := Bd.bytes
 have hml : c.maxLocals = 2 := hml0
 have hown : s.vm.findClass "java/util/Objects" = some m.cls := findClass_of_methodNamed Bd.named
 have hnm := (name_of_methodNamed Bd.named Bd.method).1
 have X0 : Stand p l e ({ frames := 0, cells := 0, slots := 0, locals := 0 } : Room) s m #[(.ref xx), (.ref ms)] below meth c s₁ [] 0 0 := Stand.of_body Bd
 have e0 : s₁.heap = h0 := by rw [← hh, Bd.state]; rfl
 have N0 := Fr.nil n0
 have K0 := Keep.refl h0 []
 have ef : entryFrame m #[(.ref xx), (.ref ms)] 2 = mkF m 0 #[vr xx, vr ms] [] := (by first | (simp [entryFrame, mkF, argsToLocals, Value.category]; done) | rfl : entryFrame m #[(.ref xx), (.ref ms)] 2 = mkF m 0 #[vr xx, vr ms] [])
 rw [ef]
 refine fin_of fun Kx hF => ?_
 show Go p.tables e below Kx _ (mkF m 0 _ [])
 refine s_aloadN (pc' := 1) X0.here hx (hb hby d_jdk_31_m11_0) rfl rfl rfl ?_
 refine s_ifnonnullY (pc' := 13) X0.here hx (hb hby d_jdk_31_m11_1) (by decide) (by decide) ?_
 refine s_aloadN (pc' := 14) X0.here hx (hb hby d_jdk_31_m11_13) rfl rfl rfl ?_
 obtain ⟨fs, hr, hrun, hended, hW, hsame⟩ := X0.leave (v := (some (.ref xx))) (fun h => by rw [Bd.returns] at h; cases h)
 refine Go.fin (retOut X0 hx Bd.returns rfl (Or.inr (Or.inr (Or.inr (Or.inr ⟨rfl, rfl, rfl⟩)))) (hb hby d_jdk_31_m11_14) hr) (hF _ _ hrun hended ⟨_, _, rfl, ?_, ⟨_, rfl⟩, hW, hsame.mono (by decide) (by decide)⟩)
 ·
  show QKrn Z xx ms h0 n0 ((some (.ref xx)) : Option Value) s₁.heap _
  rw [e0]
  exact ⟨rfl, N0, rfl⟩
theorem pd_3 : parseMethodDescriptor "(Ljava/lang/Object;Ljava/lang/String;)Ljava/lang/Object;" = some ⟨[(.object "java/lang/Object"), (.object "java/lang/String")], some (.object "java/lang/Object")⟩ := by decide +kernel
theorem d_prog_15_m2_3 : decode prog_15_method_2_code 3 = .ok (.invokestatic 17, 3) := by decide +kernel
theorem d_prog_15_m2_6 : decode prog_15_method_2_code 6 = .ok (.pop, 1) := by decide +kernel
theorem d_prog_15_m2_7 : decode prog_15_method_2_code 7 = .ok (.aload_n 1, 1) := by decide +kernel
theorem d_prog_15_m2_8 : decode prog_15_method_2_code 8 = .ok (.ldc 23, 2) := by decide +kernel
theorem d_prog_15_m2_10 : decode prog_15_method_2_code 10 = .ok (.invokestatic 17, 3) := by decide +kernel
theorem d_prog_15_m2_13 : decode prog_15_method_2_code 13 = .ok (.pop, 1) := by decide +kernel
theorem d_prog_15_m2_14 : decode prog_15_method_2_code 14 = .ok (.aload_n 0, 1) := by decide +kernel
theorem pn_3 : plainName "java/lang/String" = true := by first | (simp [plainName, overriddenIn]; done) | decide +kernel
theorem d_jdk_42_m55_0 : decode jdk_42_method_55_code 0 = .ok (.aload_n 0, 1) := by decide +kernel
theorem d_jdk_42_m55_1 : decode jdk_42_method_55_code 1 = .ok (.getfield 9, 3) := by decide +kernel
theorem d_jdk_42_m55_4 : decode jdk_42_method_55_code 4 = .ok (.arraylength, 1) := by decide +kernel
theorem d_jdk_42_m55_5 : decode jdk_42_method_55_code 5 = .ok (.ifCond .ne 7, 3) := by decide +kernel
theorem d_jdk_42_m55_12 : decode jdk_42_method_55_code 12 = .ok (.iconst 0, 1) := by decide +kernel
theorem d_jdk_42_m55_13 : decode jdk_42_method_55_code 13 = .ok (.ireturn, 1) := by decide +kernel
def QGie (Z : State) (xy yb : Addr) (ky : ClassId) (us : List Int32) (h0 : Heap) (n0 : Nat) (v : Option Value) (h : Heap) (L : List Loc) : Prop := v = some (.int 0) ∧ Fr n0 L ∧ h = h0
set_option maxRecDepth 65536 in
set_option maxHeartbeats 40000000 in
theorem rmGie (l : Launch) (Z : State) (a0 : Array Value) (hw : ∀ d ∈ tables_1, d.before a0 Z = true) (ws : List Jvm.Cond) (xy yb : Addr) (ky : ClassId) (us : List Int32) (h0 : Heap) (n0 : Nat) (X00 : Old Z n0 h0) (Vxy : Fld Z h0 xy "java/lang/String" "value" "[B" (.ref yb)) (Axy : Arv Z h0 yb ky .byte (Int32.ofNat us.length) (us.map Value.int) (.int 0)) (hus : us.length ≤ 4000) (hnz : us ≠ []) :
  MetFree l yN28 (head1 (Jvm.Cond.code yN28 jdk_42_method_55_code 1 (some .boolean) :: ws) ({ frames := 0, cells := 0, slots := 0, locals := 0 } : Room)) (fun aa U => aa = #[(.ref xy)] ∧ Z.Warmed39 U.vm ∧ U.heap = h0) (fun _ _ _ _ _ => True) (fun _ U o U' => ∃ v L, o = .returned v ∧ QGie Z xy yb ky us h0 n0 v U'.heap L ∧ FrameEnd U o U' L ({ frames := 0, cells := 0, slots := 0, locals := 0 } : Room).cells ({ frames := 0, cells := 0, slots := 0, locals := 0 } : Room).slots) := by
 refine MetFree.of_bodySF (plainFor_of_name pn_3) hisR ?_
 intro p e s m args below meth c s₁ Bd hml0 hP hK
 obtain ⟨rfl, hZ, hh⟩ := hP
 have hx := Bd.exec
 have hby := Bd.bytes
 have hml : c.maxLocals = 1 := hml0
 have hown : s.vm.findClass "java/lang/String" = some m.cls := findClass_of_methodNamed Bd.named
 have hnm := (name_of_methodNamed Bd.named Bd.method).1
 have X0 : Stand p l e ({ frames := 0, cells := 0, slots := 0, locals := 0 } : Room) s m #[(.ref xy)] below meth c s₁ [] 0 0 := Stand.of_body Bd
 have e0 : s₁.heap = h0 := by rw [← hh, Bd.state]; rfl
 have N0 := Fr.nil n0
 have K0 := Keep.refl h0 []
 have ef : entryFrame m #[(.ref xy)] 1 = mkF m 0 #[vr xy] [] := (by first | (simp [entryFrame, mkF, argsToLocals, Value.category]; done) | rfl : entryFrame m #[(.ref xy)] 1 = mkF m 0 #[vr xy] [])
 rw [ef]
 refine fin_of fun Kx hF => ?_
 show Go p.tables e below Kx _ (mkF m 0 _ [])
 refine s_aloadN (pc' := 1) X0.here hx (hb hby d_jdk_42_m55_0) rfl rfl rfl ?_
 obtain ⟨T95, X95, e95, st95⟩ := getF X0 hx hZ hown (host := "") (Or.inl (hv hw 32 rfl)) Via.refl e0 Vxy (g := (mkF m 1 #[vr xy] [(.ref xy)])) rfl rfl (hb hby d_jdk_42_m55_1)
 refine Go.st st95 ?_
 show Go p.tables e below Kx _ (mkF m 4 _ [(.ref yb)])
 obtain ⟨cl96, Ar96, Aq96, As96, An96, Ah96, Ag96⟩ := id Axy
 refine Go.st (X95.arraylength hx (by rw [e95]; exact Ar96.1) (State.isArrayOf_alike hZ.alike Ar96.2.1) (g := (mkF m 4 #[vr xy] [(.ref yb)])) rfl rfl (hb hby d_jdk_42_m55_4)) ?_
 rw [len_of As96 An96]
 show Go p.tables e below Kx _ (mkF m 5 _ [(.int (Int32.ofNat us.length))])
 refine s_ifY (pc' := 12) X95.here hx (hb hby d_jdk_42_m55_5) ((if0 _ _).trans (feq (nz_len hnz hus)).2) (by decide) (by decide) ?_
 refine s_iconst (pc' := 13) (v := 0) X95.here hx (hb hby d_jdk_42_m55_12) rfl rfl ?_
 obtain ⟨fs, hr, hrun, hended, hW, hsame⟩ := X95.leave (v := (some (.int 0))) (fun h => by rw [Bd.returns] at h; cases h)
 refine Go.fin (retN X95 hx (t := .boolean) Bd.returns (by simp) (hb hby d_jdk_42_m55_13) hr) (hF _ _ hrun hended ⟨_, _, rfl, ?_, ⟨_, rfl⟩, hW, hsame.mono (by decide) (by decide)⟩)
 ·
  show QGie Z xy yb ky us h0 n0 ((some (.int 0)) : Option Value) T95.heap _
  rw [e95]
  exact ⟨rfl, N0, rfl⟩
theorem pd_4 : parseMethodDescriptor "()Z" = some ⟨[], some .boolean⟩ := by decide +kernel
theorem d_prog_15_m2_15 : decode prog_15_method_2_code 15 = .ok (.invokevirtual 24, 3) := by decide +kernel
theorem d_prog_15_m2_18 : decode prog_15_method_2_code 18 = .ok (.ifCond .eq 13, 3) := by decide +kernel
theorem d_prog_15_m2_31 : decode prog_15_method_2_code 31 = .ok (.aload_n 0, 1) := by decide +kernel
theorem d_prog_15_m2_32 : decode prog_15_method_2_code 32 = .ok (.bipush 58, 2) := by decide +kernel
theorem d_jdk_42_m79_0 : decode jdk_42_method_79_code 0 = .ok (.aload_n 0, 1) := by decide +kernel
theorem d_jdk_42_m79_1 : decode jdk_42_method_79_code 1 = .ok (.iload_n 1, 1) := by decide +kernel
theorem d_jdk_42_m79_2 : decode jdk_42_method_79_code 2 = .ok (.iconst 0, 1) := by decide +kernel
theorem d_jdk_42_m80_0 : decode jdk_42_method_80_code 0 = .ok (.aload_n 0, 1) := by decide +kernel
theorem d_jdk_42_m154_0 : decode jdk_42_method_154_code 0 = .ok (.getstatic 38, 3) := by decide +kernel
theorem d_jdk_42_m154_3 : decode jdk_42_method_154_code 3 = .ok (.ifCond .eq 14, 3) := by decide +kernel
theorem d_jdk_42_m154_6 : decode jdk_42_method_154_code 6 = .ok (.aload_n 0, 1) := by decide +kernel
theorem d_jdk_42_m154_7 : decode jdk_42_method_154_code 7 = .ok (.getfield 15, 3) := by decide +kernel
theorem d_jdk_42_m154_10 : decode jdk_42_method_154_code 10 = .ok (.ifCond .ne 7, 3) := by decide +kernel
theorem d_jdk_42_m154_13 : decode jdk_42_method_154_code 13 = .ok (.iconst 1, 1) := by decide +kernel
theorem d_jdk_42_m154_14 : decode jdk_42_method_154_code 14 = .ok (.goto 4, 3) := by decide +kernel
theorem d_jdk_42_m154_18 : decode jdk_42_method_154_code 18 = .ok (.ireturn, 1) := by decide +kernel
def QKil (Z : State) (xy : Addr) (h0 : Heap) (n0 : Nat) (v : Option Value) (h : Heap) (L : List Loc) : Prop := v = some (.int 1) ∧ Fr n0 L ∧ h = h0
set_option maxRecDepth 65536 in
set_option maxHeartbeats 40000000 in
theorem rmKil (l : Launch) (Z : State) (a0 : Array Value) (hw : ∀ d ∈ tables_1, d.before a0 Z = true) (ws : List Jvm.Cond) (xy : Addr) (h0 : Heap) (n0 : Nat) (X00 : Old Z n0 h0) (G1 : Int32) (S1 : Sta Z Z.heap "java/lang/String" "COMPACT_STRINGS" "Z" (.int G1)) (P1 : ¬ G1 = 0) (C : Fld Z h0 xy "java/lang/String" "coder" "B" (.int 0)) :
  MetFree l yN29 (head1 (Jvm.Cond.code yN29 jdk_42_method_154_code 1 (some .boolean) :: ws) ({ frames := 0, cells := 0, slots := 0, locals := 0 } : Room)) (fun aa U => aa = #[(.ref xy)] ∧ Z.Warmed39 U.vm ∧ U.heap = h0) (fun _ _ _ _ _ => True) (fun _ U o U' => ∃ v L, o = .returned v ∧ QKil Z xy h0 n0 v U'.heap L ∧ FrameEnd U o U' L ({ frames := 0, cells := 0, slots := 0, locals := 0 } : Room).cells ({ frames := 0, cells := 0, slots := 0, locals := 0 } : Room).slots) := by
 refine MetFree.of_bodySF (plainFor_of_name pn_3) hisR ?_
 intro p e s m args below meth c s₁ Bd hml0 hP hK
 obtain ⟨rfl, hZ, hh⟩ := hP
 have hx := Bd.exec
 have hby := Bd.bytes
 have hml : c.maxLocals = 1 := hml0
 have hown : s.vm.findClass "java/lang/String" = some m.cls := findClass_of_methodNamed Bd.named
 have hnm := (name_of_methodNamed Bd.named Bd.method).1
 have X0 : Stand p l e ({ frames := 0, cells := 0, slots := 0, locals := 0 } : Room) s m #[(.ref xy)] below meth c s₁ [] 0 0 := Stand.of_body Bd
 have e0 : s₁.heap = h0 := by rw [← hh, Bd.state]; rfl
 have N0 := Fr.nil n0
 have K0 := Keep.refl h0 []
 have ef : entryFrame m #[(.ref xy)] 1 = mkF m 0 #[vr xy] [] := (by first | (simp [entryFrame, mkF, argsToLocals, Value.category]; done) | rfl : entryFrame m #[(.ref xy)] 1 = mkF m 0 #[vr xy] [])
 rw [ef]
 refine fin_of fun Kx hF => ?_
 show Go p.tables e below Kx _ (mkF m 0 _ [])
 obtain ⟨T101, X101, e101, st101⟩ := getS2 X0 hx hZ hown (host := "") (Or.inl (hv hw 18 rfl)) Via.refl e0 (S1.ext X00.2) (g := (mkF m 0 #[vr xy] [])) rfl (hb hby d_jdk_42_m154_0)
 refine Go.st st101 ?_
 show Go p.tables e below Kx _ (mkF m 3 _ [(.int G1)])
 refine s_ifN (pc' := 6) X101.here hx (hb hby d_jdk_42_m154_3) rfl ((if0 _ _).trans (feq P1).1) ?_
 refine s_aloadN (pc' := 7) X101.here hx (hb hby d_jdk_42_m154_6) rfl rfl rfl ?_
 obtain ⟨T102, X102, e102, st102⟩ := getF X101 hx hZ hown (host := "") (Or.inl (hv hw 30 rfl)) Via.refl e101 C (g := (mkF m 7 #[vr xy] [(.ref xy)])) rfl rfl (hb hby d_jdk_42_m154_7)
 refine Go.st st102 ?_
 show Go p.tables e below Kx _ (mkF m 10 _ [(.int 0)])
 refine s_ifN (pc' := 13) X102.here hx (hb hby d_jdk_42_m154_10) rfl ((if0 _ _).trans (teq (by decide)).2) ?_
 refine s_iconst (pc' := 14) (v := 1) X102.here hx (hb hby d_jdk_42_m154_13) rfl rfl ?_
 refine s_goto (pc' := 18) X102.here hx (hb hby d_jdk_42_m154_14) (by decide) (by decide) ?_
 obtain ⟨fs, hr, hrun, hended, hW, hsame⟩ := X102.leave (v := (some (.int 1))) (fun h => by rw [Bd.returns] at h; cases h)
 refine Go.fin (retN X102 hx (t := .boolean) Bd.returns (by simp) (hb hby d_jdk_42_m154_18) hr) (hF _ _ hrun hended ⟨_, _, rfl, ?_, ⟨_, rfl⟩, hW, hsame.mono (by decide) (by decide)⟩)
 ·
  show QKil Z xy h0 n0 ((some (.int 1)) : Option Value) T102.heap _
  rw [e102]
  exact ⟨rfl, N0, rfl⟩
theorem d_jdk_42_m80_1 : decode jdk_42_method_80_code 1 = .ok (.invokevirtual 492, 3) := by decide +kernel
theorem d_jdk_42_m80_4 : decode jdk_42_method_80_code 4 = .ok (.ifCond .eq 19, 3) := by decide +kernel
theorem d_jdk_42_m80_7 : decode jdk_42_method_80_code 7 = .ok (.aload_n 0, 1) := by decide +kernel
theorem d_jdk_42_m80_8 : decode jdk_42_method_80_code 8 = .ok (.getfield 9, 3) := by decide +kernel
theorem d_jdk_42_m80_11 : decode jdk_42_method_80_code 11 = .ok (.iload_n 1, 1) := by decide +kernel
theorem d_jdk_42_m80_12 : decode jdk_42_method_80_code 12 = .ok (.iload_n 2, 1) := by decide +kernel
theorem d_jdk_42_m80_13 : decode jdk_42_method_80_code 13 = .ok (.aload_n 0, 1) := by decide +kernel
theorem d_jdk_42_m54_0 : decode jdk_42_method_54_code 0 = .ok (.aload_n 0, 1) := by decide +kernel
theorem d_jdk_42_m54_1 : decode jdk_42_method_54_code 1 = .ok (.getfield 9, 3) := by decide +kernel
theorem d_jdk_42_m54_4 : decode jdk_42_method_54_code 4 = .ok (.arraylength, 1) := by decide +kernel
theorem d_jdk_42_m54_5 : decode jdk_42_method_54_code 5 = .ok (.aload_n 0, 1) := by decide +kernel
theorem d_jdk_42_m152_0 : decode jdk_42_method_152_code 0 = .ok (.getstatic 38, 3) := by decide +kernel
theorem d_jdk_42_m152_3 : decode jdk_42_method_152_code 3 = .ok (.ifCond .eq 10, 3) := by decide +kernel
theorem d_jdk_42_m152_6 : decode jdk_42_method_152_code 6 = .ok (.aload_n 0, 1) := by decide +kernel
theorem d_jdk_42_m152_7 : decode jdk_42_method_152_code 7 = .ok (.getfield 15, 3) := by decide +kernel
theorem d_jdk_42_m152_10 : decode jdk_42_method_152_code 10 = .ok (.goto 4, 3) := by decide +kernel
theorem d_jdk_42_m152_14 : decode jdk_42_method_152_code 14 = .ok (.ireturn, 1) := by decide +kernel
def QKc (Z : State) (xy : Addr) (h0 : Heap) (n0 : Nat) (v : Option Value) (h : Heap) (L : List Loc) : Prop := v = some (.int 0) ∧ Fr n0 L ∧ h = h0
set_option maxRecDepth 65536 in
set_option maxHeartbeats 40000000 in
theorem rmKc (l : Launch) (Z : State) (a0 : Array Value) (hw : ∀ d ∈ tables_1, d.before a0 Z = true) (ws : List Jvm.Cond) (xy : Addr) (h0 : Heap) (n0 : Nat) (X00 : Old Z n0 h0) (G1 : Int32) (S1 : Sta Z Z.heap "java/lang/String" "COMPACT_STRINGS" "Z" (.int G1)) (P1 : ¬ G1 = 0) (C : Fld Z h0 xy "java/lang/String" "coder" "B" (.int 0)) :
  MetFree l yN20 (head1 (Jvm.Cond.code yN20 jdk_42_method_152_code 1 (some .byte) :: ws) ({ frames := 0, cells := 0, slots := 0, locals := 0 } : Room)) (fun aa U => aa = #[(.ref xy)] ∧ Z.Warmed39 U.vm ∧ U.heap = h0) (fun _ _ _ _ _ => True) (fun _ U o U' => ∃ v L, o = .returned v ∧ QKc Z xy h0 n0 v U'.heap L ∧ FrameEnd U o U' L ({ frames := 0, cells := 0, slots := 0, locals := 0 } : Room).cells ({ frames := 0, cells := 0, slots := 0, locals := 0 } : Room).slots) := by
 refine MetFree.of_bodySF (plainFor_of_name pn_3) hisR ?_
 intro p e s m args below meth c s₁ Bd hml0 hP hK
 obtain ⟨rfl, hZ, hh⟩ := hP
 have hx := Bd.exec
 have hby := Bd.bytes
 have hml : c.maxLocals = 1 := hml0
 have hown : s.vm.findClass "java/lang/String" = some m.cls := findClass_of_methodNamed Bd.named
 have hnm := (name_of_methodNamed Bd.named Bd.method).1
 have X0 : Stand p l e ({ frames := 0, cells := 0, slots := 0, locals := 0 } : Room) s m #[(.ref xy)] below meth c s₁ [] 0 0 := Stand.of_body Bd
 have e0 : s₁.heap = h0 := by rw [← hh, Bd.state]; rfl
 have N0 := Fr.nil n0
 have K0 := Keep.refl h0 []
 have ef : entryFrame m #[(.ref xy)] 1 = mkF m 0 #[vr xy] [] := (by first | (simp [entryFrame, mkF, argsToLocals, Value.category]; done) | rfl : entryFrame m #[(.ref xy)] 1 = mkF m 0 #[vr xy] [])
 rw [ef]
 refine fin_of fun Kx hF => ?_
 show Go p.tables e below Kx _ (mkF m 0 _ [])
 obtain ⟨T107, X107, e107, st107⟩ := getS2 X0 hx hZ hown (host := "") (Or.inl (hv hw 18 rfl)) Via.refl e0 (S1.ext X00.2) (g := (mkF m 0 #[vr xy] [])) rfl (hb hby d_jdk_42_m152_0)
 refine Go.st st107 ?_
 show Go p.tables e below Kx _ (mkF m 3 _ [(.int G1)])
 refine s_ifN (pc' := 6) X107.here hx (hb hby d_jdk_42_m152_3) rfl ((if0 _ _).trans (feq P1).1) ?_
 refine s_aloadN (pc' := 7) X107.here hx (hb hby d_jdk_42_m152_6) rfl rfl rfl ?_
 obtain ⟨T108, X108, e108, st108⟩ := getF X107 hx hZ hown (host := "") (Or.inl (hv hw 30 rfl)) Via.refl e107 C (g := (mkF m 7 #[vr xy] [(.ref xy)])) rfl rfl (hb hby d_jdk_42_m152_7)
 refine Go.st st108 ?_
 show Go p.tables e below Kx _ (mkF m 10 _ [(.int 0)])
 refine s_goto (pc' := 14) X108.here hx (hb hby d_jdk_42_m152_10) (by decide) (by decide) ?_
 obtain ⟨fs, hr, hrun, hended, hW, hsame⟩ := X108.leave (v := (some (.int 0))) (fun h => by rw [Bd.returns] at h; cases h)
 refine Go.fin (retN X108 hx (t := .byte) Bd.returns (by simp) (hb hby d_jdk_42_m152_14) hr) (hF _ _ hrun hended ⟨_, _, rfl, ?_, ⟨_, rfl⟩, hW, hsame.mono (by decide) (by decide)⟩)
 ·
  show QKc Z xy h0 n0 ((some (.int 0)) : Option Value) T108.heap _
  rw [e108]
  exact ⟨rfl, N0, rfl⟩
theorem pd_5 : parseMethodDescriptor "()B" = some ⟨[], some .byte⟩ := by decide +kernel
theorem d_jdk_42_m54_6 : decode jdk_42_method_54_code 6 = .ok (.invokevirtual 335, 3) := by decide +kernel
theorem d_jdk_42_m54_9 : decode jdk_42_method_54_code 9 = .ok (.ishr, 1) := by decide +kernel
theorem d_jdk_42_m54_10 : decode jdk_42_method_54_code 10 = .ok (.ireturn, 1) := by decide +kernel
def QGl (Z : State) (xy yb : Addr) (ky : ClassId) (us : List Int32) (h0 : Heap) (n0 : Nat) (v : Option Value) (h : Heap) (L : List Loc) : Prop := v = some (.int (Int32.ofNat us.length)) ∧ Fr n0 L ∧ h = h0
set_option maxRecDepth 65536 in
set_option maxHeartbeats 40000000 in
theorem rmGl (l : Launch) (Z : State) (a0 : Array Value) (hw : ∀ d ∈ tables_1, d.before a0 Z = true) (ws : List Jvm.Cond) (xy yb : Addr) (ky : ClassId) (us : List Int32) (h0 : Heap) (n0 : Nat) (X00 : Old Z n0 h0) (G1 : Int32) (S1 : Sta Z Z.heap "java/lang/String" "COMPACT_STRINGS" "Z" (.int G1)) (P1 : ¬ G1 = 0) (Exy : Exa Z h0 xy "java/lang/String") (Cxy : Fld Z h0 xy "java/lang/String" "coder" "B" (.int 0)) (Vxy : Fld Z h0 xy "java/lang/String" "value" "[B" (.ref yb)) (Axy : Arv Z h0 yb ky .byte (Int32.ofNat us.length) (us.map Value.int) (.int 0)) :
  MetFree l yN30 (head1 (Jvm.Cond.code yN30 jdk_42_method_54_code 1 (some .int) :: ws) ({ frames := 1, cells := 0, slots := 0, locals := 13 } : Room)) (fun aa U => aa = #[(.ref xy)] ∧ Z.Warmed39 U.vm ∧ U.heap = h0) (fun _ _ _ _ _ => True) (fun _ U o U' => ∃ v L, o = .returned v ∧ QGl Z xy yb ky us h0 n0 v U'.heap L ∧ FrameEnd U o U' L ({ frames := 1, cells := 0, slots := 0, locals := 13 } : Room).cells ({ frames := 1, cells := 0, slots := 0, locals := 13 } : Room).slots) := by
 refine MetFree.of_bodySF (plainFor_of_name pn_3) hisR ?_
 intro p e s m args below meth c s₁ Bd hml0 hP hK
 obtain ⟨rfl, hZ, hh⟩ := hP
 have hx := Bd.exec
 have hby := Bd.bytes
 have hml : c.maxLocals = 1 := hml0
 have hown : s.vm.findClass "java/lang/String" = some m.cls := findClass_of_methodNamed Bd.named
 have hnm := (name_of_methodNamed Bd.named Bd.method).1
 have X0 : Stand p l e ({ frames := 1, cells := 0, slots := 0, locals := 13 } : Room) s m #[(.ref xy)] below meth c s₁ [] 0 0 := Stand.of_body Bd
 have e0 : s₁.heap = h0 := by rw [← hh, Bd.state]; rfl
 have N0 := Fr.nil n0
 have K0 := Keep.refl h0 []
 have ef : entryFrame m #[(.ref xy)] 1 = mkF m 0 #[vr xy] [] := (by first | (simp [entryFrame, mkF, argsToLocals, Value.category]; done) | rfl : entryFrame m #[(.ref xy)] 1 = mkF m 0 #[vr xy] [])
 rw [ef]
 refine fin_of fun Kx hF => ?_
 show Go p.tables e below Kx _ (mkF m 0 _ [])
 refine s_aloadN (pc' := 1) X0.here hx (hb hby d_jdk_42_m54_0) rfl rfl rfl ?_
 obtain ⟨T105, X105, e105, st105⟩ := getF X0 hx hZ hown (host := "") (Or.inl (hv hw 32 rfl)) Via.refl e0 Vxy (g := (mkF m 1 #[vr xy] [(.ref xy)])) rfl rfl (hb hby d_jdk_42_m54_1)
 refine Go.st st105 ?_
 show Go p.tables e below Kx _ (mkF m 4 _ [(.ref yb)])
 obtain ⟨cl106, Ar106, Aq106, As106, An106, Ah106, Ag106⟩ := id Axy
 refine Go.st (X105.arraylength hx (by rw [e105]; exact Ar106.1) (State.isArrayOf_alike hZ.alike Ar106.2.1) (g := (mkF m 4 #[vr xy] [(.ref yb)])) rfl rfl (hb hby d_jdk_42_m54_4)) ?_
 rw [len_of As106 An106]
 show Go p.tables e below Kx _ (mkF m 5 _ [(.int (Int32.ofNat us.length))])
 refine s_aloadN (pc' := 6) X105.here hx (hb hby d_jdk_42_m54_5) rfl rfl rfl ?_
 obtain ⟨cq109, kq109, q109a, q109b, q109c⟩ := isOf hZ e105 Exy
 obtain ⟨_, _, ⟨T109, L109, k109, n109⟩, -, X109, ⟨Lc109, hQ109, l109, y109, z109⟩, st109⟩ := X105.virtualBack hx (y := yN20) (z := yN20) hown (mvT hZ (hv hw 74 rfl)) (mvT hZ (hv hw 75 rfl)) (notFace_of_selects (args := #[]) (mvT hZ (hv hw 77 rfl))) (mvT hZ (hv hw 77 rfl)) (mvT hZ (hv hw 76 rfl)) (by decide) (backOf (W := 1) (rmKc l Z a0 hw [] xy h0 n0 X00 G1 S1 P1 Cxy) hZ (hv hw 78 rfl) (hv hw 7 rfl) (by decide) (by decide)) q109a q109c (g := (mkF m 6 #[vr xy] [(.ref xy), (.int (Int32.ofNat us.length))])) rfl (by rw [hml]; rfl) (Steps.refl _) (argsL := []) (rest := [(.int (Int32.ofNat us.length))]) (lenOf pd_5 rfl) rfl (by exact Nat.le_of_eq rfl) (hb hby d_jdk_42_m54_6) (fun _ _ => ⟨rfl, e105, (by decide : 0 + 0 ≤ _), (by decide : 0 + 0 ≤ _)⟩)
 dsimp only [Pt.U, Pt.locs, Pt.cells, Pt.slots] at X109 l109 y109 z109 st109 hQ109
 rw [l109, y109, z109] at X109
 obtain ⟨rfl, Nq109, hE109⟩ := hQ109
 have N109 := Fr.app N0 Nq109
 refine Go.tr st109 ?_
 show Go p.tables e below Kx _ (mkF m 9 _ [(.int 0), (.int (Int32.ofNat us.length))])
 refine s_ishr (pc' := 10) (z := (Int32.ofNat us.length)) X109.here hx (hb hby d_jdk_42_m54_9) rfl (shr0 _) ?_
 obtain ⟨fs, hr, hrun, hended, hW, hsame⟩ := X109.leave (v := (some (.int (Int32.ofNat us.length)))) (fun h => by rw [Bd.returns] at h; cases h)
 refine Go.fin (retI X109 hx Bd.returns (hb hby d_jdk_42_m54_10) hr) (hF _ _ hrun hended ⟨_, _, rfl, ?_, ⟨_, rfl⟩, hW, hsame.mono (by decide) (by decide)⟩)
 ·
  show QGl Z xy yb ky us h0 n0 ((some (.int (Int32.ofNat us.length))) : Option Value) T109.heap _
  rw [hE109]
  exact ⟨rfl, N109, rfl⟩
theorem pd_6 : parseMethodDescriptor "()I" = some ⟨[], some .int⟩ := by decide +kernel
theorem d_jdk_42_m80_14 : decode jdk_42_method_80_code 14 = .ok (.invokevirtual 505, 3) := by decide +kernel
theorem pn_4 : plainName "java/lang/StringLatin1" = true := by first | (simp [plainName, overriddenIn]; done) | decide +kernel
theorem d_jdk_43_m22_0 : decode jdk_43_method_22_code 0 = .ok (.iload_n 1, 1) := by decide +kernel
theorem d_jdk_43_m4_0 : decode jdk_43_method_4_code 0 = .ok (.iload_n 0, 1) := by decide +kernel
theorem d_jdk_43_m4_1 : decode jdk_43_method_4_code 1 = .ok (.ifCond .lt 14, 3) := by decide +kernel
theorem d_jdk_43_m4_4 : decode jdk_43_method_4_code 4 = .ok (.iload_n 0, 1) := by decide +kernel
theorem d_jdk_43_m4_5 : decode jdk_43_method_4_code 5 = .ok (.sipush 255, 3) := by decide +kernel
theorem d_jdk_43_m4_8 : decode jdk_43_method_4_code 8 = .ok (.if_icmp .gt 7, 3) := by decide +kernel
theorem d_jdk_43_m4_11 : decode jdk_43_method_4_code 11 = .ok (.iconst 1, 1) := by decide +kernel
theorem d_jdk_43_m4_12 : decode jdk_43_method_4_code 12 = .ok (.goto 4, 3) := by decide +kernel
theorem d_jdk_43_m4_16 : decode jdk_43_method_4_code 16 = .ok (.ireturn, 1) := by decide +kernel
def QKce58 (Z : State) (zz0 : Nat) (h0 : Heap) (n0 : Nat) (v : Option Value) (h : Heap) (L : List Loc) : Prop := v = some (.int 1) ∧ Fr n0 L ∧ h = h0
set_option maxRecDepth 65536 in
set_option maxHeartbeats 40000000 in
theorem rmKce58 (l : Launch) (Z : State) (a0 : Array Value) (hw : ∀ d ∈ tables_1, d.before a0 Z = true) (ws : List Jvm.Cond) (zz0 : Nat) (h0 : Heap) (n0 : Nat) (X00 : Old Z n0 h0)  :
  MetFree l yN37 (head1 (Jvm.Cond.code yN37 jdk_43_method_4_code 1 (some .boolean) :: ws) ({ frames := 0, cells := 0, slots := 0, locals := 0 } : Room)) (fun aa U => aa = #[(.int 58)] ∧ Z.Warmed39 U.vm ∧ U.heap = h0) (fun _ _ _ _ _ => True) (fun _ U o U' => ∃ v L, o = .returned v ∧ QKce58 Z zz0 h0 n0 v U'.heap L ∧ FrameEnd U o U' L ({ frames := 0, cells := 0, slots := 0, locals := 0 } : Room).cells ({ frames := 0, cells := 0, slots := 0, locals := 0 } : Room).slots) := by
 refine MetFree.of_bodySF (plainFor_of_name pn_4) hisR ?_
 intro p e s m args below meth c s₁ Bd hml0 hP hK
 obtain ⟨rfl, hZ, hh⟩ := hP
 have hx := Bd.exec
 have hby := Bd.bytes
 have hml : c.maxLocals = 1 := hml0
 have hown : s.vm.findClass "java/lang/StringLatin1" = some m.cls := findClass_of_methodNamed Bd.named
 have hnm := (name_of_methodNamed Bd.named Bd.method).1
 have X0 : Stand p l e ({ frames := 0, cells := 0, slots := 0, locals := 0 } : Room) s m #[(.int 58)] below meth c s₁ [] 0 0 := Stand.of_body Bd
 have e0 : s₁.heap = h0 := by rw [← hh, Bd.state]; rfl
 have N0 := Fr.nil n0
 have K0 := Keep.refl h0 []
 have ef : entryFrame m #[(.int 58)] 1 = mkF m 0 #[vi 58] [] := (by first | (simp [entryFrame, mkF, argsToLocals, Value.category]; done) | rfl : entryFrame m #[(.int 58)] 1 = mkF m 0 #[vi 58] [])
 rw [ef]
 refine fin_of fun Kx hF => ?_
 show Go p.tables e below Kx _ (mkF m 0 _ [])
 refine s_iloadN (pc' := 1) X0.here hx (hb hby d_jdk_43_m4_0) rfl rfl ?_
 refine s_ifN (pc' := 4) X0.here hx (hb hby d_jdk_43_m4_1) rfl ((if0 _ _).trans (flt (by decide)).1) ?_
 refine s_iloadN (pc' := 5) X0.here hx (hb hby d_jdk_43_m4_4) rfl rfl ?_
 refine s_sipush (pc' := 8) (v := 255) X0.here hx (hb hby d_jdk_43_m4_5) rfl rfl ?_
 refine s_icmpN (pc' := 11) X0.here hx (hb hby d_jdk_43_m4_8) rfl (flt (by decide)).2.2.1 ?_
 refine s_iconst (pc' := 12) (v := 1) X0.here hx (hb hby d_jdk_43_m4_11) rfl rfl ?_
 refine s_goto (pc' := 16) X0.here hx (hb hby d_jdk_43_m4_12) (by decide) (by decide) ?_
 obtain ⟨fs, hr, hrun, hended, hW, hsame⟩ := X0.leave (v := (some (.int 1))) (fun h => by rw [Bd.returns] at h; cases h)
 refine Go.fin (retN X0 hx (t := .boolean) Bd.returns (by simp) (hb hby d_jdk_43_m4_16) hr) (hF _ _ hrun hended ⟨_, _, rfl, ?_, ⟨_, rfl⟩, hW, hsame.mono (by decide) (by decide)⟩)
 ·
  show QKce58 Z zz0 h0 n0 ((some (.int 1)) : Option Value) s₁.heap _
  rw [e0]
  exact ⟨rfl, N0, rfl⟩
theorem pd_7 : parseMethodDescriptor "(I)Z" = some ⟨[.int], some .boolean⟩ := by decide +kernel
theorem d_jdk_43_m22_1 : decode jdk_43_method_22_code 1 = .ok (.invokestatic 88, 3) := by decide +kernel
theorem d_jdk_43_m22_4 : decode jdk_43_method_22_code 4 = .ok (.ifCond .ne 5, 3) := by decide +kernel
theorem d_jdk_43_m22_9 : decode jdk_43_method_22_code 9 = .ok (.iload_n 2, 1) := by decide +kernel
theorem d_jdk_43_m22_10 : decode jdk_43_method_22_code 10 = .ok (.iconst 0, 1) := by decide +kernel
theorem d_jdk_29_m65_0 : decode jdk_29_method_65_code 0 = .ok (.iload_n 0, 1) := by decide +kernel
theorem d_jdk_29_m65_1 : decode jdk_29_method_65_code 1 = .ok (.iload_n 1, 1) := by decide +kernel
theorem d_jdk_29_m65_2 : decode jdk_29_method_65_code 2 = .ok (.if_icmp .lt 7, 3) := by decide +kernel
theorem d_jdk_29_m65_5 : decode jdk_29_method_65_code 5 = .ok (.iload_n 0, 1) := by decide +kernel
theorem d_jdk_29_m65_6 : decode jdk_29_method_65_code 6 = .ok (.goto 4, 3) := by decide +kernel
theorem d_jdk_29_m65_10 : decode jdk_29_method_65_code 10 = .ok (.ireturn, 1) := by decide +kernel
def QKmax_0_0 (Z : State) (zz0 : Nat) (h0 : Heap) (n0 : Nat) (v : Option Value) (h : Heap) (L : List Loc) : Prop := v = some (.int 0) ∧ Fr n0 L ∧ h = h0
set_option maxRecDepth 65536 in
set_option maxHeartbeats 40000000 in
theorem rmKmax_0_0 (l : Launch) (Z : State) (a0 : Array Value) (hw : ∀ d ∈ tables_1, d.before a0 Z = true) (ws : List Jvm.Cond) (zz0 : Nat) (h0 : Heap) (n0 : Nat) (X00 : Old Z n0 h0)  :
  MetFree l yN15 (head1 (Jvm.Cond.code yN15 jdk_29_method_65_code 2 (some .int) :: ws) ({ frames := 0, cells := 0, slots := 0, locals := 0 } : Room)) (fun aa U => aa = #[(.int 0), (.int 0)] ∧ Z.Warmed39 U.vm ∧ U.heap = h0) (fun _ _ _ _ _ => True) (fun _ U o U' => ∃ v L, o = .returned v ∧ QKmax_0_0 Z zz0 h0 n0 v U'.heap L ∧ FrameEnd U o U' L ({ frames := 0, cells := 0, slots := 0, locals := 0 } : Room).cells ({ frames := 0, cells := 0, slots := 0, locals := 0 } : Room).slots) := by
 refine MetFree.of_bodySF (Jvm.Free.JP.mathPlain rfl (by decide +kernel)) hisR ?_
 intro p e s m args below meth c s₁ Bd hml0 hP hK
 obtain ⟨rfl, hZ, hh⟩ := hP
 have hx := Bd.exec
 have hby := Bd.bytes
 have hml : c.maxLocals = 2 := hml0
 have hown : s.vm.findClass "java/lang/Math" = some m.cls := findClass_of_methodNamed Bd.named
 have hnm := (name_of_methodNamed Bd.named Bd.method).1
 have X0 : Stand p l e ({ frames := 0, cells := 0, slots := 0, locals := 0 } : Room) s m #[(.int 0), (.int 0)] below meth c s₁ [] 0 0 := Stand.of_body Bd
 have e0 : s₁.heap = h0 := by rw [← hh, Bd.state]; rfl
 have N0 := Fr.nil n0
 have K0 := Keep.refl h0 []
 have ef : entryFrame m #[(.int 0), (.int 0)] 2 = mkF m 0 #[vi 0, vi 0] [] := (by first | (simp [entryFrame, mkF, argsToLocals, Value.category]; done) | rfl : entryFrame m #[(.int 0), (.int 0)] 2 = mkF m 0 #[vi 0, vi 0] [])
 rw [ef]
 refine fin_of fun Kx hF => ?_
 show Go p.tables e below Kx _ (mkF m 0 _ [])
 refine s_iloadN (pc' := 1) X0.here hx (hb hby d_jdk_29_m65_0) rfl rfl ?_
 refine s_iloadN (pc' := 2) X0.here hx (hb hby d_jdk_29_m65_1) rfl rfl ?_
 refine s_icmpN (pc' := 5) X0.here hx (hb hby d_jdk_29_m65_2) rfl (flt (by decide)).1 ?_
 refine s_iloadN (pc' := 6) X0.here hx (hb hby d_jdk_29_m65_5) rfl rfl ?_
 refine s_goto (pc' := 10) X0.here hx (hb hby d_jdk_29_m65_6) (by decide) (by decide) ?_
 obtain ⟨fs, hr, hrun, hended, hW, hsame⟩ := X0.leave (v := (some (.int 0))) (fun h => by rw [Bd.returns] at h; cases h)
 refine Go.fin (retI X0 hx Bd.returns (hb hby d_jdk_29_m65_10) hr) (hF _ _ hrun hended ⟨_, _, rfl, ?_, ⟨_, rfl⟩, hW, hsame.mono (by decide) (by decide)⟩)
 ·
  show QKmax_0_0 Z zz0 h0 n0 ((some (.int 0)) : Option Value) s₁.heap _
  rw [e0]
  exact ⟨rfl, N0, rfl⟩
theorem pd_8 : parseMethodDescriptor "(II)I" = some ⟨[.int, .int], some .int⟩ := by decide +kernel
theorem d_jdk_43_m22_11 : decode jdk_43_method_22_code 11 = .ok (.invokestatic 92, 3) := by decide +kernel
theorem d_jdk_43_m22_14 : decode jdk_43_method_22_code 14 = .ok (.istore_n 2, 1) := by decide +kernel
theorem d_jdk_43_m22_15 : decode jdk_43_method_22_code 15 = .ok (.iload_n 3, 1) := by decide +kernel
theorem d_jdk_43_m22_16 : decode jdk_43_method_22_code 16 = .ok (.aload_n 0, 1) := by decide +kernel
theorem d_jdk_43_m22_17 : decode jdk_43_method_22_code 17 = .ok (.arraylength, 1) := by decide +kernel
theorem d_jdk_29_m69_0 : decode jdk_29_method_69_code 0 = .ok (.iload_n 0, 1) := by decide +kernel
theorem d_jdk_29_m69_1 : decode jdk_29_method_69_code 1 = .ok (.iload_n 1, 1) := by decide +kernel
theorem d_jdk_29_m69_2 : decode jdk_29_method_69_code 2 = .ok (.if_icmp .gt 7, 3) := by decide +kernel
theorem d_jdk_29_m69_5 : decode jdk_29_method_69_code 5 = .ok (.iload_n 0, 1) := by decide +kernel
theorem d_jdk_29_m69_6 : decode jdk_29_method_69_code 6 = .ok (.goto 4, 3) := by decide +kernel
theorem d_jdk_29_m69_10 : decode jdk_29_method_69_code 10 = .ok (.ireturn, 1) := by decide +kernel
def QGmie (Z : State) (ja : Int32) (h0 : Heap) (n0 : Nat) (v : Option Value) (h : Heap) (L : List Loc) : Prop := v = some (.int ja) ∧ Fr n0 L ∧ h = h0
set_option maxRecDepth 65536 in
set_option maxHeartbeats 40000000 in
theorem rmGmie (l : Launch) (Z : State) (a0 : Array Value) (hw : ∀ d ∈ tables_1, d.before a0 Z = true) (ws : List Jvm.Cond) (ja : Int32) (h0 : Heap) (n0 : Nat) (X00 : Old Z n0 h0)  :
  MetFree l yN16 (head1 (Jvm.Cond.code yN16 jdk_29_method_69_code 2 (some .int) :: ws) ({ frames := 0, cells := 0, slots := 0, locals := 0 } : Room)) (fun aa U => aa = #[(.int ja), (.int ja)] ∧ Z.Warmed39 U.vm ∧ U.heap = h0) (fun _ _ _ _ _ => True) (fun _ U o U' => ∃ v L, o = .returned v ∧ QGmie Z ja h0 n0 v U'.heap L ∧ FrameEnd U o U' L ({ frames := 0, cells := 0, slots := 0, locals := 0 } : Room).cells ({ frames := 0, cells := 0, slots := 0, locals := 0 } : Room).slots) := by
 refine MetFree.of_bodySF (Jvm.Free.JP.mathPlain rfl (by decide +kernel)) hisR ?_
 intro p e s m args below meth c s₁ Bd hml0 hP hK
 obtain ⟨rfl, hZ, hh⟩ := hP
 have hx := Bd.exec
 have hby := Bd.bytes
 have hml : c.maxLocals = 2 := hml0
 have hown : s.vm.findClass "java/lang/Math" = some m.cls := findClass_of_methodNamed Bd.named
 have hnm := (name_of_methodNamed Bd.named Bd.method).1
 have X0 : Stand p l e ({ frames := 0, cells := 0, slots := 0, locals := 0 } : Room) s m #[(.int ja), (.int ja)] below meth c s₁ [] 0 0 := Stand.of_body Bd
 have e0 : s₁.heap = h0 := by rw [← hh, Bd.state]; rfl
 have N0 := Fr.nil n0
 have K0 := Keep.refl h0 []
 have ef : entryFrame m #[(.int ja), (.int ja)] 2 = mkF m 0 #[vi ja, vi ja] [] := (by first | (simp [entryFrame, mkF, argsToLocals, Value.category]; done) | rfl : entryFrame m #[(.int ja), (.int ja)] 2 = mkF m 0 #[vi ja, vi ja] [])
 rw [ef]
 refine fin_of fun Kx hF => ?_
 show Go p.tables e below Kx _ (mkF m 0 _ [])
 refine s_iloadN (pc' := 1) X0.here hx (hb hby d_jdk_29_m69_0) rfl rfl ?_
 refine s_iloadN (pc' := 2) X0.here hx (hb hby d_jdk_29_m69_1) rfl rfl ?_
 refine s_icmpN (pc' := 5) X0.here hx (hb hby d_jdk_29_m69_2) rfl (flt (Int32.lt_irrefl)).2.2.1 ?_
 refine s_iloadN (pc' := 6) X0.here hx (hb hby d_jdk_29_m69_5) rfl rfl ?_
 refine s_goto (pc' := 10) X0.here hx (hb hby d_jdk_29_m69_6) (by decide) (by decide) ?_
 obtain ⟨fs, hr, hrun, hended, hW, hsame⟩ := X0.leave (v := (some (.int ja))) (fun h => by rw [Bd.returns] at h; cases h)
 refine Go.fin (retI X0 hx Bd.returns (hb hby d_jdk_29_m69_10) hr) (hF _ _ hrun hended ⟨_, _, rfl, ?_, ⟨_, rfl⟩, hW, hsame.mono (by decide) (by decide)⟩)
 ·
  show QGmie Z ja h0 n0 ((some (.int ja)) : Option Value) s₁.heap _
  rw [e0]
  exact ⟨rfl, N0, rfl⟩
theorem d_jdk_43_m22_18 : decode jdk_43_method_22_code 18 = .ok (.invokestatic 38, 3) := by decide +kernel
theorem d_jdk_43_m22_21 : decode jdk_43_method_22_code 21 = .ok (.istore_n 3, 1) := by decide +kernel
theorem d_jdk_43_m22_22 : decode jdk_43_method_22_code 22 = .ok (.iload_n 2, 1) := by decide +kernel
theorem d_jdk_43_m22_23 : decode jdk_43_method_22_code 23 = .ok (.iload_n 3, 1) := by decide +kernel
theorem d_jdk_43_m22_24 : decode jdk_43_method_22_code 24 = .ok (.if_icmp .lt 5, 3) := by decide +kernel
theorem d_jdk_43_m22_29 : decode jdk_43_method_22_code 29 = .ok (.aload_n 0, 1) := by decide +kernel
theorem d_jdk_43_m22_30 : decode jdk_43_method_22_code 30 = .ok (.iload_n 1, 1) := by decide +kernel
theorem d_jdk_43_m22_31 : decode jdk_43_method_22_code 31 = .ok (.iload_n 2, 1) := by decide +kernel
theorem d_jdk_43_m22_32 : decode jdk_43_method_22_code 32 = .ok (.iload_n 3, 1) := by decide +kernel
theorem d_jdk_43_m23_0 : decode jdk_43_method_23_code 0 = .ok (.iload_n 1, 1) := by decide +kernel
theorem d_jdk_43_m23_1 : decode jdk_43_method_23_code 1 = .ok (.i2b, 1) := by decide +kernel
theorem d_jdk_43_m23_2 : decode jdk_43_method_23_code 2 = .ok (.istore 4, 2) := by decide +kernel
theorem d_jdk_43_m23_4 : decode jdk_43_method_23_code 4 = .ok (.iload_n 2, 1) := by decide +kernel
theorem d_jdk_43_m23_5 : decode jdk_43_method_23_code 5 = .ok (.istore 5, 2) := by decide +kernel
theorem d_jdk_43_m23_7 : decode jdk_43_method_23_code 7 = .ok (.iload 5, 2) := by decide +kernel
theorem d_jdk_43_m23_9 : decode jdk_43_method_23_code 9 = .ok (.iload_n 3, 1) := by decide +kernel
theorem d_jdk_43_m23_10 : decode jdk_43_method_23_code 10 = .ok (.if_icmp .ge 21, 3) := by decide +kernel
theorem d_jdk_43_m23_31 : decode jdk_43_method_23_code 31 = .ok (.iconst (-1), 1) := by decide +kernel
theorem d_jdk_43_m23_32 : decode jdk_43_method_23_code 32 = .ok (.ireturn, 1) := by decide +kernel
theorem d_jdk_43_m23_13 : decode jdk_43_method_23_code 13 = .ok (.aload_n 0, 1) := by decide +kernel
theorem d_jdk_43_m23_14 : decode jdk_43_method_23_code 14 = .ok (.iload 5, 2) := by decide +kernel
theorem d_jdk_43_m23_16 : decode jdk_43_method_23_code 16 = .ok (.baload, 1) := by decide +kernel
theorem d_jdk_43_m23_17 : decode jdk_43_method_23_code 17 = .ok (.iload 4, 2) := by decide +kernel
theorem d_jdk_43_m23_19 : decode jdk_43_method_23_code 19 = .ok (.if_icmp .ne 6, 3) := by decide +kernel
theorem d_jdk_43_m23_25 : decode jdk_43_method_23_code 25 = .ok (.iinc 5 1, 3) := by decide +kernel
theorem d_jdk_43_m23_28 : decode jdk_43_method_23_code 28 = .ok (.goto (-21), 3) := by decide +kernel
def QGio0_58 (Z : State) (xt : Addr) (kt : ClassId) (us : List Int32) (h0 : Heap) (n0 : Nat) (v : Option Value) (h : Heap) (L : List Loc) : Prop := v = some (.int (-1)) ∧ Fr n0 L ∧ h = h0
set_option maxRecDepth 65536 in
set_option maxHeartbeats 40000000 in
theorem rmGio0_58 (l : Launch) (Z : State) (a0 : Array Value) (hw : ∀ d ∈ tables_1, d.before a0 Z = true) (ws : List Jvm.Cond) (xt : Addr) (kt : ClassId) (us : List Int32) (h0 : Heap) (n0 : Nat) (X00 : Old Z n0 h0) (Axt : Arv Z h0 xt kt .byte (Int32.ofNat us.length) (us.map Value.int) (.int 0)) (hus : us.length ≤ 4000) (hnz : us ≠ []) (hno : ∀ b ∈ us, ¬ b = 58) :
  MetFree l yN39 (head1 (Jvm.Cond.code yN39 jdk_43_method_23_code 6 (some .int) :: ws) ({ frames := 0, cells := 0, slots := 0, locals := 0 } : Room)) (fun aa U => aa = #[(.ref xt), (.int 58), (.int 0), (.int (Int32.ofNat us.length))] ∧ Z.Warmed39 U.vm ∧ U.heap = h0) (fun _ _ _ _ _ => True) (fun _ U o U' => ∃ v L, o = .returned v ∧ QGio0_58 Z xt kt us h0 n0 v U'.heap L ∧ FrameEnd U o U' L ({ frames := 0, cells := 0, slots := 0, locals := 0 } : Room).cells ({ frames := 0, cells := 0, slots := 0, locals := 0 } : Room).slots) := by
 refine MetFree.of_bodySF (plainFor_of_name pn_4) hisR ?_
 intro p e s m args below meth c s₁ Bd hml0 hP hK
 obtain ⟨rfl, hZ, hh⟩ := hP
 have hx := Bd.exec
 have hby := Bd.bytes
 have hml : c.maxLocals = 6 := hml0
 have hown : s.vm.findClass "java/lang/StringLatin1" = some m.cls := findClass_of_methodNamed Bd.named
 have hnm := (name_of_methodNamed Bd.named Bd.method).1
 have X0 : Stand p l e ({ frames := 0, cells := 0, slots := 0, locals := 0 } : Room) s m #[(.ref xt), (.int 58), (.int 0), (.int (Int32.ofNat us.length))] below meth c s₁ [] 0 0 := Stand.of_body Bd
 have e0 : s₁.heap = h0 := by rw [← hh, Bd.state]; rfl
 have N0 := Fr.nil n0
 have K0 := Keep.refl h0 []
 have ef : entryFrame m #[(.ref xt), (.int 58), (.int 0), (.int (Int32.ofNat us.length))] 6 = mkF m 0 #[vr xt, vi 58, vi 0, .val (.int (Int32.ofNat us.length)), un, un] [] := (by first | (simp [entryFrame, mkF, argsToLocals, Value.category]; done) | rfl : entryFrame m #[(.ref xt), (.int 58), (.int 0), (.int (Int32.ofNat us.length))] 6 = mkF m 0 #[vr xt, vi 58, vi 0, .val (.int (Int32.ofNat us.length)), un, un] [])
 rw [ef]
 refine fin_of fun Kx hF => ?_
 show Go p.tables e below Kx _ (mkF m 0 _ [])
 refine s_iloadN (pc' := 1) X0.here hx (hb hby d_jdk_43_m23_0) rfl rfl ?_
 refine s_i2b (pc' := 2) (z := 58) X0.here hx (hb hby d_jdk_43_m23_1) rfl (by decide) ?_
 refine s_istore (pc' := 4) (Ls' := #[vr xt, vi 58, vi 0, .val (.int (Int32.ofNat us.length)), vi 58, un]) X0.here hx (hb hby d_jdk_43_m23_2) rfl  rfl ?_
 refine s_iloadN (pc' := 5) X0.here hx (hb hby d_jdk_43_m23_4) rfl rfl ?_
 refine s_istore (pc' := 7) (Ls' := #[vr xt, vi 58, vi 0, .val (.int (Int32.ofNat us.length)), vi 58, vi 0]) X0.here hx (hb hby d_jdk_43_m23_5) rfl  rfl ?_
 have J : ∀ (rr dd : List Int32) (TJ : State) (LJ : List Loc), Stand p l e ({ frames := 0, cells := 0, slots := 0, locals := 0 } : Room) s m #[(.ref xt), (.int 58), (.int 0), (.int (Int32.ofNat us.length))] below meth c TJ LJ 0 0 → Fr n0 LJ → TJ.heap = h0 → us = dd ++ rr → Go p.tables e below Kx TJ (mkF m 7 #[vr xt, vi 58, vi 0, .val (.int (Int32.ofNat us.length)), vi 58, .val (.int (Int32.ofNat dd.length))] []) := by
  intro rr
  induction rr with
  | nil =>
   intro dd TJ LJ XJ NJ eJ hs
   show Go p.tables e below Kx _ (mkF m 7 _ [])
   refine s_iload (pc' := 9) XJ.here hx (hb hby d_jdk_43_m23_7) rfl rfl ?_
   refine s_iloadN (pc' := 10) XJ.here hx (hb hby d_jdk_43_m23_9) rfl rfl ?_
   refine s_icmpY (pc' := 31) XJ.here hx (hb hby d_jdk_43_m23_10) (flt (lt_end hs)).2.1 (by decide) (by decide) ?_
   refine s_iconst (pc' := 32) (v := (-1 : Int32)) XJ.here hx (hb hby d_jdk_43_m23_31) rfl rfl ?_
   obtain ⟨fs, hr, hrun, hended, hW, hsame⟩ := XJ.leave (v := (some (.int (-1 : Int32)))) (fun h => by rw [Bd.returns] at h; cases h)
   refine Go.fin (retI XJ hx Bd.returns (hb hby d_jdk_43_m23_32) hr) (hF _ _ hrun hended ⟨_, _, rfl, ?_, ⟨_, rfl⟩, hW, hsame.mono (by decide) (by decide)⟩)
   ·
    show QGio0_58 Z xt kt us h0 n0 ((some (.int (-1 : Int32))) : Option Value) TJ.heap _
    rw [eJ]
    exact ⟨rfl, NJ, rfl⟩
  | cons bb rr ih =>
   intro dd TJ LJ XJ NJ eJ hs
   show Go p.tables e below Kx _ (mkF m 7 _ [])
   refine s_iload (pc' := 9) XJ.here hx (hb hby d_jdk_43_m23_7) rfl rfl ?_
   refine s_iloadN (pc' := 10) XJ.here hx (hb hby d_jdk_43_m23_9) rfl rfl ?_
   refine s_icmpN (pc' := 13) XJ.here hx (hb hby d_jdk_43_m23_10) rfl (tlt (at_mid hs hus .null).2.2).2.1 ?_
   refine s_aloadN (pc' := 14) XJ.here hx (hb hby d_jdk_43_m23_13) rfl rfl rfl ?_
   refine s_iload (pc' := 16) XJ.here hx (hb hby d_jdk_43_m23_14) rfl rfl ?_
   obtain ⟨cl115, Ar115, Aq115, As115, An115, Ah115, Ag115⟩ := id Axt
   have in116 := inb_of (j := (Int32.ofNat dd.length)) As115 (at_mid hs hus .null).2
   have at116 : cl115.slots[((Int32.ofNat dd.length)).toNatClampNeg]? = some (.int bb) := Ah115.at in116 (at_mid hs hus _).1
   refine Go.st (XJ.baloadBytes hx (j := (Int32.ofNat dd.length)) (v := (.int bb)) (by rw [eJ]; exact Ar115.1) (State.isArrayOf_alike hZ.alike Ar115.2.1) Ar115.2.2 in116 at116 (g := (mkF m 16 #[vr xt, vi 58, vi 0, .val (.int (Int32.ofNat us.length)), vi 58, .val (.int (Int32.ofNat dd.length))] [(.int (Int32.ofNat dd.length)), (.ref xt)])) rfl rfl (hb hby d_jdk_43_m23_16)) ?_
   show Go p.tables e below Kx _ (mkF m 17 _ [(.int bb)])
   refine s_iload (pc' := 19) XJ.here hx (hb hby d_jdk_43_m23_17) rfl rfl ?_
   refine s_icmpY (pc' := 25) XJ.here hx (hb hby d_jdk_43_m23_19) (feq (hno bb (by rw [hs]; simp))).2 (by decide) (by decide) ?_
   refine s_iinc (pc' := 28) (Ls' := #[vr xt, vi 58, vi 0, .val (.int (Int32.ofNat us.length)), vi 58, .val (.int (Int32.ofNat (dd ++ [bb]).length))]) (z := (Int32.ofNat (dd ++ [bb]).length)) XJ.here hx (hb hby d_jdk_43_m23_25) rfl rfl (lsucc _ _) rfl ?_
   refine s_goto (pc' := 7) XJ.here hx (hb hby d_jdk_43_m23_28) (by decide) (by decide) ?_
   exact ih _ _ _ XJ NJ eJ (app_mid hs)
 exact J us [] _ _ X0 N0 e0 rfl
theorem pd_9 : parseMethodDescriptor "([BIII)I" = some ⟨[(.array .byte), .int, .int, .int], some .int⟩ := by decide +kernel
theorem d_jdk_43_m22_33 : decode jdk_43_method_22_code 33 = .ok (.invokestatic 95, 3) := by decide +kernel
theorem d_jdk_43_m22_36 : decode jdk_43_method_22_code 36 = .ok (.ireturn, 1) := by decide +kernel
def QGio1_58 (Z : State) (xt : Addr) (kt : ClassId) (us : List Int32) (h0 : Heap) (n0 : Nat) (v : Option Value) (h : Heap) (L : List Loc) : Prop := v = some (.int (-1)) ∧ Fr n0 L ∧ h = h0
set_option maxRecDepth 65536 in
set_option maxHeartbeats 40000000 in
theorem rmGio1_58 (l : Launch) (Z : State) (a0 : Array Value) (hw : ∀ d ∈ tables_1, d.before a0 Z = true) (ws : List Jvm.Cond) (xt : Addr) (kt : ClassId) (us : List Int32) (h0 : Heap) (n0 : Nat) (X00 : Old Z n0 h0) (Axt : Arv Z h0 xt kt .byte (Int32.ofNat us.length) (us.map Value.int) (.int 0)) (hus : us.length ≤ 4000) (hnz : us ≠ []) (hno : ∀ b ∈ us, ¬ b = 58) :
  MetFree l yN38 (head1 (Jvm.Cond.code yN38 jdk_43_method_22_code 4 (some .int) :: ws) ({ frames := 1, cells := 0, slots := 0, locals := 17 } : Room)) (fun aa U => aa = #[(.ref xt), (.int 58), (.int 0), (.int (Int32.ofNat us.length))] ∧ Z.Warmed39 U.vm ∧ U.heap = h0) (fun _ _ _ _ _ => True) (fun _ U o U' => ∃ v L, o = .returned v ∧ QGio1_58 Z xt kt us h0 n0 v U'.heap L ∧ FrameEnd U o U' L ({ frames := 1, cells := 0, slots := 0, locals := 17 } : Room).cells ({ frames := 1, cells := 0, slots := 0, locals := 17 } : Room).slots) := by
 refine MetFree.of_bodySF (plainFor_of_name pn_4) hisR ?_
 intro p e s m args below meth c s₁ Bd hml0 hP hK
 obtain ⟨rfl, hZ, hh⟩ := hP
 have hx := Bd.exec
 have hby := Bd.bytes
 have hml : c.maxLocals = 4 := hml0
 have hown : s.vm.findClass "java/lang/StringLatin1" = some m.cls := findClass_of_methodNamed Bd.named
 have hnm := (name_of_methodNamed Bd.named Bd.method).1
 have X0 : Stand p l e ({ frames := 1, cells := 0, slots := 0, locals := 17 } : Room) s m #[(.ref xt), (.int 58), (.int 0), (.int (Int32.ofNat us.length))] below meth c s₁ [] 0 0 := Stand.of_body Bd
 have e0 : s₁.heap = h0 := by rw [← hh, Bd.state]; rfl
 have N0 := Fr.nil n0
 have K0 := Keep.refl h0 []
 have ef : entryFrame m #[(.ref xt), (.int 58), (.int 0), (.int (Int32.ofNat us.length))] 4 = mkF m 0 #[vr xt, vi 58, vi 0, .val (.int (Int32.ofNat us.length))] [] := (by first | (simp [entryFrame, mkF, argsToLocals, Value.category]; done) | rfl : entryFrame m #[(.ref xt), (.int 58), (.int 0), (.int (Int32.ofNat us.length))] 4 = mkF m 0 #[vr xt, vi 58, vi 0, .val (.int (Int32.ofNat us.length))] [])
 rw [ef]
 refine fin_of fun Kx hF => ?_
 show Go p.tables e below Kx _ (mkF m 0 _ [])
 refine s_iloadN (pc' := 1) X0.here hx (hb hby d_jdk_43_m22_0) rfl rfl ?_
 obtain ⟨_, _, ⟨T111, L111, k111, n111⟩, -, X111, ⟨Lc111, hQ111, l111, y111, z111⟩, st111⟩ := Jvm.LawKit.callS X0 hx (y := yN37) hown (mvT hZ (hv hw 83 rfl)) (mvT hZ (hv hw 84 rfl)) (mvT hZ (hv hw 81 rfl)) (mvT hZ (hv hw 85 rfl)) (by decide) (backOf (W := 0) (rmKce58 l Z a0 hw [] 0 h0 n0 X00 ) hZ (hv hw 85 rfl) (hv hw 81 rfl) (by decide) (by decide)) (g := (mkF m 1 #[vr xt, vi 58, vi 0, .val (.int (Int32.ofNat us.length))] [(.int 58)])) rfl (by rw [hml]; rfl) (argsL := [(.int 58)]) (rest := []) (lenOf pd_7 rfl) rfl (by exact Nat.le_of_eq rfl) (hb hby d_jdk_43_m22_1) (fun _ _ => ⟨rfl, e0, (by decide : 0 + 0 ≤ _), (by decide : 0 + 0 ≤ _)⟩)
 dsimp only [Pt.U, Pt.locs, Pt.cells, Pt.slots] at X111 l111 y111 z111 st111 hQ111
 rw [l111, y111, z111] at X111
 obtain ⟨rfl, Nq111, hE111⟩ := hQ111
 have N111 := Fr.app N0 Nq111
 refine Go.st st111 ?_
 show Go p.tables e below Kx _ (mkF m 4 _ [(.int 1)])
 refine s_ifY (pc' := 9) X111.here hx (hb hby d_jdk_43_m22_4) ((if0 _ _).trans (feq (by decide)).2) (by decide) (by decide) ?_
 refine s_iloadN (pc' := 10) X111.here hx (hb hby d_jdk_43_m22_9) rfl rfl ?_
 refine s_iconst (pc' := 11) (v := 0) X111.here hx (hb hby d_jdk_43_m22_10) rfl rfl ?_
 obtain ⟨_, _, ⟨T112, L112, k112, n112⟩, -, X112, ⟨Lc112, hQ112, l112, y112, z112⟩, st112⟩ := Jvm.LawKit.callS X111 hx (y := yN15) hown (mvT hZ (hv hw 86 rfl)) (mvT hZ (hv hw 87 rfl)) (mvT hZ (hv hw 88 rfl)) (mvT hZ (hv hw 89 rfl)) (by decide) (backOf (W := 0) (rmKmax_0_0 l Z a0 hw [] 0 h0 n0 X00 ) hZ (hv hw 89 rfl) (hv hw 88 rfl) (by decide) (by decide)) (g := (mkF m 11 #[vr xt, vi 58, vi 0, .val (.int (Int32.ofNat us.length))] [(.int 0), (.int 0)])) rfl (by rw [hml]; rfl) (argsL := [(.int 0), (.int 0)]) (rest := []) (lenOf pd_8 rfl) rfl (by exact Nat.le_of_eq rfl) (hb hby d_jdk_43_m22_11) (fun _ _ => ⟨rfl, hE111, (by decide : 0 + 0 ≤ _), (by decide : 0 + 0 ≤ _)⟩)
 dsimp only [Pt.U, Pt.locs, Pt.cells, Pt.slots] at X112 l112 y112 z112 st112 hQ112
 rw [l112, y112, z112] at X112
 obtain ⟨rfl, Nq112, hE112⟩ := hQ112
 have N112 := Fr.app N111 Nq112
 refine Go.st st112 ?_
 show Go p.tables e below Kx _ (mkF m 14 _ [(.int 0)])
 refine s_istoreN (pc' := 15) (Ls' := #[vr xt, vi 58, vi 0, .val (.int (Int32.ofNat us.length))]) X112.here hx (hb hby d_jdk_43_m22_14) rfl  rfl ?_
 refine s_iloadN (pc' := 16) X112.here hx (hb hby d_jdk_43_m22_15) rfl rfl ?_
 refine s_aloadN (pc' := 17) X112.here hx (hb hby d_jdk_43_m22_16) rfl rfl rfl ?_
 obtain ⟨cl113, Ar113, Aq113, As113, An113, Ah113, Ag113⟩ := id Axt
 refine Go.st (X112.arraylength hx (by rw [hE112]; exact Ar113.1) (State.isArrayOf_alike hZ.alike Ar113.2.1) (g := (mkF m 17 #[vr xt, vi 58, vi 0, .val (.int (Int32.ofNat us.length))] [(.ref xt), (.int (Int32.ofNat us.length))])) rfl rfl (hb hby d_jdk_43_m22_17)) ?_
 rw [len_of As113 An113]
 show Go p.tables e below Kx _ (mkF m 18 _ [(.int (Int32.ofNat us.length)), (.int (Int32.ofNat us.length))])
 obtain ⟨_, _, ⟨T114, L114, k114, n114⟩, -, X114, ⟨Lc114, hQ114, l114, y114, z114⟩, st114⟩ := Jvm.LawKit.callS X112 hx (y := yN16) hown (mvT hZ (hv hw 90 rfl)) (mvT hZ (hv hw 91 rfl)) (mvT hZ (hv hw 88 rfl)) (mvT hZ (hv hw 92 rfl)) (by decide) (backOf (W := 0) (rmGmie l Z a0 hw [] (Int32.ofNat us.length) h0 n0 X00 ) hZ (hv hw 92 rfl) (hv hw 88 rfl) (by decide) (by decide)) (g := (mkF m 18 #[vr xt, vi 58, vi 0, .val (.int (Int32.ofNat us.length))] [(.int (Int32.ofNat us.length)), (.int (Int32.ofNat us.length))])) rfl (by rw [hml]; rfl) (argsL := [(.int (Int32.ofNat us.length)), (.int (Int32.ofNat us.length))]) (rest := []) (lenOf pd_8 rfl) rfl (by exact Nat.le_of_eq rfl) (hb hby d_jdk_43_m22_18) (fun _ _ => ⟨rfl, hE112, (by decide : 0 + 0 ≤ _), (by decide : 0 + 0 ≤ _)⟩)
 dsimp only [Pt.U, Pt.locs, Pt.cells, Pt.slots] at X114 l114 y114 z114 st114 hQ114
 rw [l114, y114, z114] at X114
 obtain ⟨rfl, Nq114, hE114⟩ := hQ114
 have N114 := Fr.app N112 Nq114
 refine Go.st st114 ?_
 show Go p.tables e below Kx _ (mkF m 21 _ [(.int (Int32.ofNat us.length))])
 refine s_istoreN (pc' := 22) (Ls' := #[vr xt, vi 58, vi 0, .val (.int (Int32.ofNat us.length))]) X114.here hx (hb hby d_jdk_43_m22_21) rfl  rfl ?_
 refine s_iloadN (pc' := 23) X114.here hx (hb hby d_jdk_43_m22_22) rfl rfl ?_
 refine s_iloadN (pc' := 24) X114.here hx (hb hby d_jdk_43_m22_23) rfl rfl ?_
 refine s_icmpY (pc' := 29) X114.here hx (hb hby d_jdk_43_m22_24) (tlt (pos_len hnz hus)).1 (by decide) (by decide) ?_
 refine s_aloadN (pc' := 30) X114.here hx (hb hby d_jdk_43_m22_29) rfl rfl rfl ?_
 refine s_iloadN (pc' := 31) X114.here hx (hb hby d_jdk_43_m22_30) rfl rfl ?_
 refine s_iloadN (pc' := 32) X114.here hx (hb hby d_jdk_43_m22_31) rfl rfl ?_
 refine s_iloadN (pc' := 33) X114.here hx (hb hby d_jdk_43_m22_32) rfl rfl ?_
 obtain ⟨_, _, ⟨T117, L117, k117, n117⟩, -, X117, ⟨Lc117, hQ117, l117, y117, z117⟩, st117⟩ := Jvm.LawKit.callS X114 hx (y := yN39) hown (mvT hZ (hv hw 93 rfl)) (mvT hZ (hv hw 94 rfl)) (mvT hZ (hv hw 81 rfl)) (mvT hZ (hv hw 95 rfl)) (by decide) (backOf (W := 0) (rmGio0_58 l Z a0 hw [] xt kt us h0 n0 X00 Axt hus hnz hno) hZ (hv hw 95 rfl) (hv hw 81 rfl) (by decide) (by decide)) (g := (mkF m 33 #[vr xt, vi 58, vi 0, .val (.int (Int32.ofNat us.length))] [(.int (Int32.ofNat us.length)), (.int 0), (.int 58), (.ref xt)])) rfl (by rw [hml]; rfl) (argsL := [(.ref xt), (.int 58), (.int 0), (.int (Int32.ofNat us.length))]) (rest := []) (lenOf pd_9 rfl) rfl (by exact Nat.le_of_eq rfl) (hb hby d_jdk_43_m22_33) (fun _ _ => ⟨rfl, hE114, (by decide : 0 + 0 ≤ _), (by decide : 0 + 0 ≤ _)⟩)
 dsimp only [Pt.U, Pt.locs, Pt.cells, Pt.slots] at X117 l117 y117 z117 st117 hQ117
 rw [l117, y117, z117] at X117
 obtain ⟨rfl, Nq117, hE117⟩ := hQ117
 have N117 := Fr.app N114 Nq117
 refine Go.st st117 ?_
 show Go p.tables e below Kx _ (mkF m 36 _ [(.int (-1 : Int32))])
 obtain ⟨fs, hr, hrun, hended, hW, hsame⟩ := X117.leave (v := (some (.int (-1 : Int32)))) (fun h => by rw [Bd.returns] at h; cases h)
 refine Go.fin (retI X117 hx Bd.returns (hb hby d_jdk_43_m22_36) hr) (hF _ _ hrun hended ⟨_, _, rfl, ?_, ⟨_, rfl⟩, hW, hsame.mono (by decide) (by decide)⟩)
 ·
  show QGio1_58 Z xt kt us h0 n0 ((some (.int (-1 : Int32))) : Option Value) T117.heap _
  rw [hE117]
  exact ⟨rfl, N117, rfl⟩
theorem d_jdk_42_m80_17 : decode jdk_42_method_80_code 17 = .ok (.invokestatic 637, 3) := by decide +kernel
theorem d_jdk_42_m80_20 : decode jdk_42_method_80_code 20 = .ok (.goto 16, 3) := by decide +kernel
theorem d_jdk_42_m80_36 : decode jdk_42_method_80_code 36 = .ok (.ireturn, 1) := by decide +kernel
def QGio2_58 (Z : State) (xy yb : Addr) (ky : ClassId) (us : List Int32) (h0 : Heap) (n0 : Nat) (v : Option Value) (h : Heap) (L : List Loc) : Prop := v = some (.int (-1)) ∧ Fr n0 L ∧ h = h0
set_option maxRecDepth 65536 in
set_option maxHeartbeats 40000000 in
theorem rmGio2_58 (l : Launch) (Z : State) (a0 : Array Value) (hw : ∀ d ∈ tables_1, d.before a0 Z = true) (ws : List Jvm.Cond) (xy yb : Addr) (ky : ClassId) (us : List Int32) (h0 : Heap) (n0 : Nat) (X00 : Old Z n0 h0) (G1 : Int32) (S1 : Sta Z Z.heap "java/lang/String" "COMPACT_STRINGS" "Z" (.int G1)) (P1 : ¬ G1 = 0) (Exy : Exa Z h0 xy "java/lang/String") (Cxy : Fld Z h0 xy "java/lang/String" "coder" "B" (.int 0)) (Vxy : Fld Z h0 xy "java/lang/String" "value" "[B" (.ref yb)) (Axy : Arv Z h0 yb ky .byte (Int32.ofNat us.length) (us.map Value.int) (.int 0)) (hus : us.length ≤ 4000) (hnz : us ≠ []) (hno : ∀ b ∈ us, ¬ b = 58) :
  MetFree l yN27 (head1 (Jvm.Cond.code yN27 jdk_42_method_80_code 3 (some .int) :: ws) ({ frames := 2, cells := 0, slots := 0, locals := 32 } : Room)) (fun aa U => aa = #[(.ref xy), (.int 58), (.int 0)] ∧ Z.Warmed39 U.vm ∧ U.heap = h0) (fun _ _ _ _ _ => True) (fun _ U o U' => ∃ v L, o = .returned v ∧ QGio2_58 Z xy yb ky us h0 n0 v U'.heap L ∧ FrameEnd U o U' L ({ frames := 2, cells := 0, slots := 0, locals := 32 } : Room).cells ({ frames := 2, cells := 0, slots := 0, locals := 32 } : Room).slots) := by
 refine MetFree.of_bodySF (plainFor_of_name pn_3) hisR ?_
 intro p e s m args below meth c s₁ Bd hml0 hP hK
 obtain ⟨rfl, hZ, hh⟩ := hP
 have hx := Bd.exec
 have hby := Bd.bytes
 have hml : c.maxLocals = 3 := hml0
 have hown : s.vm.findClass "java/lang/String" = some m.cls := findClass_of_methodNamed Bd.named
 have hnm := (name_of_methodNamed Bd.named Bd.method).1
 have X0 : Stand p l e ({ frames := 2, cells := 0, slots := 0, locals := 32 } : Room) s m #[(.ref xy), (.int 58), (.int 0)] below meth c s₁ [] 0 0 := Stand.of_body Bd
 have e0 : s₁.heap = h0 := by rw [← hh, Bd.state]; rfl
 have N0 := Fr.nil n0
 have K0 := Keep.refl h0 []
 have ef : entryFrame m #[(.ref xy), (.int 58), (.int 0)] 3 = mkF m 0 #[vr xy, vi 58, vi 0] [] := (by first | (simp [entryFrame, mkF, argsToLocals, Value.category]; done) | rfl : entryFrame m #[(.ref xy), (.int 58), (.int 0)] 3 = mkF m 0 #[vr xy, vi 58, vi 0] [])
 rw [ef]
 refine fin_of fun Kx hF => ?_
 show Go p.tables e below Kx _ (mkF m 0 _ [])
 refine s_aloadN (pc' := 1) X0.here hx (hb hby d_jdk_42_m80_0) rfl rfl rfl ?_
 obtain ⟨cq103, kq103, q103a, q103b, q103c⟩ := isOf hZ e0 Exy
 obtain ⟨_, _, ⟨T103, L103, k103, n103⟩, -, X103, ⟨Lc103, hQ103, l103, y103, z103⟩, st103⟩ := X0.virtualBack hx (y := yN29) (z := yN29) hown (mvT hZ (hv hw 64 rfl)) (mvT hZ (hv hw 65 rfl)) (notFace_of_selects (args := #[]) (mvT hZ (hv hw 67 rfl))) (mvT hZ (hv hw 67 rfl)) (mvT hZ (hv hw 66 rfl)) (by decide) (backOf (W := 0) (rmKil l Z a0 hw [] xy h0 n0 X00 G1 S1 P1 Cxy) hZ (hv hw 68 rfl) (hv hw 7 rfl) (by decide) (by decide)) q103a q103c (g := (mkF m 1 #[vr xy, vi 58, vi 0] [(.ref xy)])) rfl (by rw [hml]; rfl) (Steps.refl _) (argsL := []) (rest := []) (lenOf pd_4 rfl) rfl (by exact Nat.le_of_eq rfl) (hb hby d_jdk_42_m80_1) (fun _ _ => ⟨rfl, e0, (by decide : 0 + 0 ≤ _), (by decide : 0 + 0 ≤ _)⟩)
 dsimp only [Pt.U, Pt.locs, Pt.cells, Pt.slots] at X103 l103 y103 z103 st103 hQ103
 rw [l103, y103, z103] at X103
 obtain ⟨rfl, Nq103, hE103⟩ := hQ103
 have N103 := Fr.app N0 Nq103
 refine Go.tr st103 ?_
 show Go p.tables e below Kx _ (mkF m 4 _ [(.int 1)])
 refine s_ifN (pc' := 7) X103.here hx (hb hby d_jdk_42_m80_4) rfl ((if0 _ _).trans (feq (by decide)).1) ?_
 refine s_aloadN (pc' := 8) X103.here hx (hb hby d_jdk_42_m80_7) rfl rfl rfl ?_
 obtain ⟨T104, X104, e104, st104⟩ := getF X103 hx hZ hown (host := "") (Or.inl (hv hw 32 rfl)) Via.refl hE103 Vxy (g := (mkF m 8 #[vr xy, vi 58, vi 0] [(.ref xy)])) rfl rfl (hb hby d_jdk_42_m80_8)
 refine Go.st st104 ?_
 show Go p.tables e below Kx _ (mkF m 11 _ [(.ref yb)])
 refine s_iloadN (pc' := 12) X104.here hx (hb hby d_jdk_42_m80_11) rfl rfl ?_
 refine s_iloadN (pc' := 13) X104.here hx (hb hby d_jdk_42_m80_12) rfl rfl ?_
 refine s_aloadN (pc' := 14) X104.here hx (hb hby d_jdk_42_m80_13) rfl rfl rfl ?_
 obtain ⟨cq110, kq110, q110a, q110b, q110c⟩ := isOf hZ e104 Exy
 obtain ⟨_, _, ⟨T110, L110, k110, n110⟩, -, X110, ⟨Lc110, hQ110, l110, y110, z110⟩, st110⟩ := X104.virtualBack hx (y := yN30) (z := yN30) hown (mvT hZ (hv hw 69 rfl)) (mvT hZ (hv hw 70 rfl)) (notFace_of_selects (args := #[]) (mvT hZ (hv hw 72 rfl))) (mvT hZ (hv hw 72 rfl)) (mvT hZ (hv hw 71 rfl)) (by decide) (backOf (W := 3) (rmGl l Z a0 hw [] xy yb _ us h0 n0 X00 G1 S1 P1 Exy Cxy Vxy Axy) hZ (hv hw 73 rfl) (hv hw 7 rfl) (by decide) (by decide)) q110a q110c (g := (mkF m 14 #[vr xy, vi 58, vi 0] [(.ref xy), (.int 0), (.int 58), (.ref yb)])) rfl (by rw [hml]; rfl) (Steps.refl _) (argsL := []) (rest := [(.int 0), (.int 58), (.ref yb)]) (lenOf pd_6 rfl) rfl (by exact Nat.le_of_eq rfl) (hb hby d_jdk_42_m80_14) (fun _ _ => ⟨rfl, e104, (by decide : 0 + 0 ≤ _), (by decide : 0 + 0 ≤ _)⟩)
 dsimp only [Pt.U, Pt.locs, Pt.cells, Pt.slots] at X110 l110 y110 z110 st110 hQ110
 rw [l110, y110, z110] at X110
 obtain ⟨rfl, Nq110, hE110⟩ := hQ110
 have N110 := Fr.app N103 Nq110
 refine Go.tr st110 ?_
 show Go p.tables e below Kx _ (mkF m 17 _ [(.int (Int32.ofNat us.length)), (.int 0), (.int 58), (.ref yb)])
 obtain ⟨_, _, ⟨T118, L118, k118, n118⟩, -, X118, ⟨Lc118, hQ118, l118, y118, z118⟩, st118⟩ := Jvm.LawKit.callS X110 hx (y := yN38) hown (mvT hZ (hv hw 79 rfl)) (mvT hZ (hv hw 80 rfl)) (mvT hZ (hv hw 81 rfl)) (mvT hZ (hv hw 82 rfl)) (by decide) (backOf (W := 0) (rmGio1_58 l Z a0 hw [] yb ky us h0 n0 X00 Axy hus hnz hno) hZ (hv hw 82 rfl) (hv hw 81 rfl) (by decide) (by decide)) (g := (mkF m 17 #[vr xy, vi 58, vi 0] [(.int (Int32.ofNat us.length)), (.int 0), (.int 58), (.ref yb)])) rfl (by rw [hml]; rfl) (argsL := [(.ref yb), (.int 58), (.int 0), (.int (Int32.ofNat us.length))]) (rest := []) (lenOf pd_9 rfl) rfl (by exact Nat.le_of_eq rfl) (hb hby d_jdk_42_m80_17) (fun _ _ => ⟨rfl, hE110, (by decide : 0 + 0 ≤ _), (by decide : 0 + 0 ≤ _)⟩)
 dsimp only [Pt.U, Pt.locs, Pt.cells, Pt.slots] at X118 l118 y118 z118 st118 hQ118
 rw [l118, y118, z118] at X118
 obtain ⟨rfl, Nq118, hE118⟩ := hQ118
 have N118 := Fr.app N110 Nq118
 refine Go.st st118 ?_
 show Go p.tables e below Kx _ (mkF m 20 _ [(.int (-1 : Int32))])
 refine s_goto (pc' := 36) X118.here hx (hb hby d_jdk_42_m80_20) (by decide) (by decide) ?_
 obtain ⟨fs, hr, hrun, hended, hW, hsame⟩ := X118.leave (v := (some (.int (-1 : Int32)))) (fun h => by rw [Bd.returns] at h; cases h)
 refine Go.fin (retI X118 hx Bd.returns (hb hby d_jdk_42_m80_36) hr) (hF _ _ hrun hended ⟨_, _, rfl, ?_, ⟨_, rfl⟩, hW, hsame.mono (by decide) (by decide)⟩)
 ·
  show QGio2_58 Z xy yb ky us h0 n0 ((some (.int (-1 : Int32))) : Option Value) T118.heap _
  rw [hE118]
  exact ⟨rfl, N118, rfl⟩
theorem d_jdk_42_m79_3 : decode jdk_42_method_79_code 3 = .ok (.invokevirtual 633, 3) := by decide +kernel
theorem d_jdk_42_m79_6 : decode jdk_42_method_79_code 6 = .ok (.ireturn, 1) := by decide +kernel
def QGio3_58 (Z : State) (xy yb : Addr) (ky : ClassId) (us : List Int32) (h0 : Heap) (n0 : Nat) (v : Option Value) (h : Heap) (L : List Loc) : Prop := v = some (.int (-1)) ∧ Fr n0 L ∧ h = h0
set_option maxRecDepth 65536 in
set_option maxHeartbeats 40000000 in
theorem rmGio3_58 (l : Launch) (Z : State) (a0 : Array Value) (hw : ∀ d ∈ tables_1, d.before a0 Z = true) (ws : List Jvm.Cond) (xy yb : Addr) (ky : ClassId) (us : List Int32) (h0 : Heap) (n0 : Nat) (X00 : Old Z n0 h0) (G1 : Int32) (S1 : Sta Z Z.heap "java/lang/String" "COMPACT_STRINGS" "Z" (.int G1)) (P1 : ¬ G1 = 0) (Exy : Exa Z h0 xy "java/lang/String") (Cxy : Fld Z h0 xy "java/lang/String" "coder" "B" (.int 0)) (Vxy : Fld Z h0 xy "java/lang/String" "value" "[B" (.ref yb)) (Axy : Arv Z h0 yb ky .byte (Int32.ofNat us.length) (us.map Value.int) (.int 0)) (hus : us.length ≤ 4000) (hnz : us ≠ []) (hno : ∀ b ∈ us, ¬ b = 58) :
  MetFree l yN26 (head1 (Jvm.Cond.code yN26 jdk_42_method_79_code 2 (some .int) :: ws) ({ frames := 3, cells := 0, slots := 0, locals := 46 } : Room)) (fun aa U => aa = #[(.ref xy), (.int 58)] ∧ Z.Warmed39 U.vm ∧ U.heap = h0) (fun _ _ _ _ _ => True) (fun _ U o U' => ∃ v L, o = .returned v ∧ QGio3_58 Z xy yb ky us h0 n0 v U'.heap L ∧ FrameEnd U o U' L ({ frames := 3, cells := 0, slots := 0, locals := 46 } : Room).cells ({ frames := 3, cells := 0, slots := 0, locals := 46 } : Room).slots) := by
 refine MetFree.of_bodySF (plainFor_of_name pn_3) hisR ?_
 intro p e s m args below meth c s₁ Bd hml0 hP hK
 obtain ⟨rfl, hZ, hh⟩ := hP
 have hx := Bd.exec
 have hby := Bd.bytes
 have hml : c.maxLocals = 2 := hml0
 have hown : s.vm.findClass "java/lang/String" = some m.cls := findClass_of_methodNamed Bd.named
 have hnm := (name_of_methodNamed Bd.named Bd.method).1
 have X0 : Stand p l e ({ frames := 3, cells := 0, slots := 0, locals := 46 } : Room) s m #[(.ref xy), (.int 58)] below meth c s₁ [] 0 0 := Stand.of_body Bd
 have e0 : s₁.heap = h0 := by rw [← hh, Bd.state]; rfl
 have N0 := Fr.nil n0
 have K0 := Keep.refl h0 []
 have ef : entryFrame m #[(.ref xy), (.int 58)] 2 = mkF m 0 #[vr xy, vi 58] [] := (by first | (simp [entryFrame, mkF, argsToLocals, Value.category]; done) | rfl : entryFrame m #[(.ref xy), (.int 58)] 2 = mkF m 0 #[vr xy, vi 58] [])
 rw [ef]
 refine fin_of fun Kx hF => ?_
 show Go p.tables e below Kx _ (mkF m 0 _ [])
 refine s_aloadN (pc' := 1) X0.here hx (hb hby d_jdk_42_m79_0) rfl rfl rfl ?_
 refine s_iloadN (pc' := 2) X0.here hx (hb hby d_jdk_42_m79_1) rfl rfl ?_
 refine s_iconst (pc' := 3) (v := 0) X0.here hx (hb hby d_jdk_42_m79_2) rfl rfl ?_
 obtain ⟨cq119, kq119, q119a, q119b, q119c⟩ := isOf hZ e0 Exy
 obtain ⟨_, _, ⟨T119, L119, k119, n119⟩, -, X119, ⟨Lc119, hQ119, l119, y119, z119⟩, st119⟩ := X0.virtualBack hx (y := yN27) (z := yN27) hown (mvT hZ (hv hw 59 rfl)) (mvT hZ (hv hw 60 rfl)) (notFace_of_selects (args := #[]) (mvT hZ (hv hw 62 rfl))) (mvT hZ (hv hw 62 rfl)) (mvT hZ (hv hw 61 rfl)) (by decide) (backOf (W := 0) (rmGio2_58 l Z a0 hw [] xy yb ky us h0 n0 X00 G1 S1 P1 Exy Cxy Vxy Axy hus hnz hno) hZ (hv hw 63 rfl) (hv hw 7 rfl) (by decide) (by decide)) q119a q119c (g := (mkF m 3 #[vr xy, vi 58] [(.int 0), (.int 58), (.ref xy)])) rfl (by rw [hml]; rfl) (Steps.refl _) (argsL := [(.int 58), (.int 0)]) (rest := []) (lenOf pd_8 rfl) rfl (by exact Nat.le_of_eq rfl) (hb hby d_jdk_42_m79_3) (fun _ _ => ⟨rfl, e0, (by decide : 0 + 0 ≤ _), (by decide : 0 + 0 ≤ _)⟩)
 dsimp only [Pt.U, Pt.locs, Pt.cells, Pt.slots] at X119 l119 y119 z119 st119 hQ119
 rw [l119, y119, z119] at X119
 obtain ⟨rfl, Nq119, hE119⟩ := hQ119
 have N119 := Fr.app N0 Nq119
 refine Go.tr st119 ?_
 show Go p.tables e below Kx _ (mkF m 6 _ [(.int (-1 : Int32))])
 obtain ⟨fs, hr, hrun, hended, hW, hsame⟩ := X119.leave (v := (some (.int (-1 : Int32)))) (fun h => by rw [Bd.returns] at h; cases h)
 refine Go.fin (retI X119 hx Bd.returns (hb hby d_jdk_42_m79_6) hr) (hF _ _ hrun hended ⟨_, _, rfl, ?_, ⟨_, rfl⟩, hW, hsame.mono (by decide) (by decide)⟩)
 ·
  show QGio3_58 Z xy yb ky us h0 n0 ((some (.int (-1 : Int32))) : Option Value) T119.heap _
  rw [hE119]
  exact ⟨rfl, N119, rfl⟩
theorem pd_10 : parseMethodDescriptor "(I)I" = some ⟨[.int], some .int⟩ := by decide +kernel
theorem d_prog_15_m2_34 : decode prog_15_method_2_code 34 = .ok (.invokevirtual 37, 3) := by decide +kernel
theorem d_prog_15_m2_37 : decode prog_15_method_2_code 37 = .ok (.iconst (-1), 1) := by decide +kernel
theorem d_prog_15_m2_38 : decode prog_15_method_2_code 38 = .ok (.if_icmp .eq 13, 3) := by decide +kernel
theorem d_prog_15_m2_51 : decode prog_15_method_2_code 51 = .ok (.aload_n 1, 1) := by decide +kernel
theorem d_prog_15_m2_52 : decode prog_15_method_2_code 52 = .ok (.invokevirtual 24, 3) := by decide +kernel
theorem d_prog_15_m2_55 : decode prog_15_method_2_code 55 = .ok (.ifCond .eq 35, 3) := by decide +kernel
theorem d_prog_15_m2_90 : decode prog_15_method_2_code 90 = .ok (.new 8, 3) := by decide +kernel
theorem d_prog_15_m2_93 : decode prog_15_method_2_code 93 = .ok (.dup, 1) := by decide +kernel
theorem d_prog_15_m2_94 : decode prog_15_method_2_code 94 = .ok (.aload_n 0, 1) := by decide +kernel
theorem d_prog_15_m2_95 : decode prog_15_method_2_code 95 = .ok (.aload_n 1, 1) := by decide +kernel
theorem d_prog_15_m1_0 : decode prog_15_method_1_code 0 = .ok (.aload_n 0, 1) := by decide +kernel
theorem d_prog_15_m1_1 : decode prog_15_method_1_code 1 = .ok (.invokespecial 1, 3) := by decide +kernel
theorem d_prog_15_m1_4 : decode prog_15_method_1_code 4 = .ok (.aload_n 0, 1) := by decide +kernel
theorem d_prog_15_m1_5 : decode prog_15_method_1_code 5 = .ok (.aload_n 1, 1) := by decide +kernel
theorem d_prog_15_m1_6 : decode prog_15_method_1_code 6 = .ok (.putfield 7, 3) := by decide +kernel
theorem d_prog_15_m1_9 : decode prog_15_method_1_code 9 = .ok (.aload_n 0, 1) := by decide +kernel
theorem d_prog_15_m1_10 : decode prog_15_method_1_code 10 = .ok (.aload_n 2, 1) := by decide +kernel
theorem d_prog_15_m1_11 : decode prog_15_method_1_code 11 = .ok (.putfield 13, 3) := by decide +kernel
theorem d_prog_15_m1_14 : decode prog_15_method_1_code 14 = .ok (.return_, 1) := by decide +kernel
def QDi (Z : State) (xd yu yp : Addr) (h0 : Heap) (n0 : Nat) (v : Option Value) (h : Heap) (L : List Loc) : Prop := v = none ∧ Fr n0 L ∧ Keep h0 h [xd] ∧ Exa Z h xd "com/example/turnlock/turnlock/session/DigestCredentials" ∧ Fld Z h xd "com/example/turnlock/turnlock/session/DigestCredentials" "user" "Ljava/lang/String;" (.ref yu) ∧ Fld Z h xd "com/example/turnlock/turnlock/session/DigestCredentials" "password" "Ljava/lang/String;" (.ref yp)
set_option maxRecDepth 65536 in
set_option maxHeartbeats 40000000 in
theorem rmDi (l : Launch) (Z : State) (a0 : Array Value) (hw : ∀ d ∈ tables_1, d.before a0 Z = true) (ws : List Jvm.Cond) (xd yu yp : Addr) (h0 : Heap) (n0 : Nat) (X00 : Old Z n0 h0) (ge_xd : n0 ≤ xd) (E : Exa Z h0 xd "com/example/turnlock/turnlock/session/DigestCredentials") (F1 : Fld Z h0 xd "com/example/turnlock/turnlock/session/DigestCredentials" "user" "Ljava/lang/String;" .null) (F2 : Fld Z h0 xd "com/example/turnlock/turnlock/session/DigestCredentials" "password" "Ljava/lang/String;" .null) :
  MetFree l yN0 (head1 (Jvm.Cond.code yN0 prog_15_method_1_code 3 none :: ws) ({ frames := 1, cells := 0, slots := 0, locals := 12 } : Room)) (fun aa U => aa = #[(.ref xd), (.ref yu), (.ref yp)] ∧ Z.Warmed39 U.vm ∧ U.heap = h0) (fun _ _ _ _ _ => True) (fun _ U o U' => ∃ v L, o = .returned v ∧ QDi Z xd yu yp h0 n0 v U'.heap L ∧ FrameEnd U o U' L ({ frames := 1, cells := 0, slots := 0, locals := 12 } : Room).cells ({ frames := 1, cells := 0, slots := 0, locals := 12 } : Room).slots) := by
 refine MetFree.of_bodySF (plainFor_of_name pn_1) hisR ?_
 intro p e s m args below meth c s₁ Bd hml0 hP hK
 obtain ⟨rfl, hZ, hh⟩ := hP
 have hx := Bd.exec
 have hby := Bd.bytes
 have hml : c.maxLocals = 3 := hml0
 have hown : s.vm.findClass "com/example/turnlock/turnlock/session/DigestCredentials" = some m.cls := findClass_of_methodNamed Bd.named
 have hnm := (name_of_methodNamed Bd.named Bd.method).1
 have X0 : Stand p l e ({ frames := 1, cells := 0, slots := 0, locals := 12 } : Room) s m #[(.ref xd), (.ref yu), (.ref yp)] below meth c s₁ [] 0 0 := Stand.of_body Bd
 have e0 : s₁.heap = h0 := by rw [← hh, Bd.state]; rfl
 have N0 := Fr.nil n0
 have K0 := Keep.refl h0 [xd]
 have ef : entryFrame m #[(.ref xd), (.ref yu), (.ref yp)] 3 = mkF m 0 #[vr xd, vr yu, vr yp] [] := (by first | (simp [entryFrame, mkF, argsToLocals, Value.category]; done) | rfl : entryFrame m #[(.ref xd), (.ref yu), (.ref yp)] 3 = mkF m 0 #[vr xd, vr yu, vr yp] [])
 rw [ef]
 refine fin_of fun Kx hF => ?_
 show Go p.tables e below Kx _ (mkF m 0 _ [])
 refine s_aloadN (pc' := 1) X0.here hx (hb hby d_prog_15_m1_0) rfl rfl rfl ?_
 obtain ⟨T128, X128, e128, st128⟩ := initO X0 hx hZ hown (hv hw 101 rfl) (hv hw 16 rfl) (hv hw 17 rfl) e0 (g := (mkF m 1 #[vr xd, vr yu, vr yp] [(.ref xd)])) rfl (by rw [hml]; rfl) rfl (hb hby d_prog_15_m1_1) (by decide) (W := 0) (by exact Nat.le_of_eq rfl) (by decide)
 refine Go.st st128 ?_
 show Go p.tables e below Kx _ (mkF m 4 _ [])
 refine s_aloadN (pc' := 5) X128.here hx (hb hby d_prog_15_m1_4) rfl rfl rfl ?_
 refine s_aloadN (pc' := 6) X128.here hx (hb hby d_prog_15_m1_5) rfl rfl rfl ?_
 obtain ⟨T129, h129, X129, e129, W129, st129⟩ := putF X128 hx hZ hown (host := "") (Or.inl (hv hw 102 rfl)) Via.refl e128 F1 E (Or.inr ⟨(hv hw 103 rfl), rfl, hnm⟩) (hv hw 97 rfl) (ty := (.object "java/lang/String")) (by decide) rfl rfl (g := (mkF m 6 #[vr xd, vr yu, vr yp] [(.ref yu), (.ref xd)])) rfl rfl (hb hby d_prog_15_m1_6)
 have Fw129 : Fld Z h129 xd "com/example/turnlock/turnlock/session/DigestCredentials" "user" "Ljava/lang/String;" (.ref yu) := F1.same W129
 have K129 : Keep h0 h129 [xd] := K0.wr W129 (Or.inl (List.mem_of_getElem? (i := 0) rfl))
 have O129 : Old Z n0 h129 := X00.wr W129 ge_xd
 have N129 := Fr.snoc X129 N0 ge_xd
 refine Go.st st129 ?_
 show Go p.tables e below Kx _ (mkF m 9 _ [])
 refine s_aloadN (pc' := 10) X129.here hx (hb hby d_prog_15_m1_9) rfl rfl rfl ?_
 refine s_aloadN (pc' := 11) X129.here hx (hb hby d_prog_15_m1_10) rfl rfl rfl ?_
 have f130 : Fld Z h129 xd "com/example/turnlock/turnlock/session/DigestCredentials" "password" "Ljava/lang/String;" .null := (F2.other W129 (Or.inr (slot_ne (Or.inr (hv hw 105 rfl)) (Or.inr (hv hw 103 rfl)) (by decide) (t := (.object "java/lang/String")) (t' := (.object "java/lang/String")) (by decide) (by decide))))
 have f131 : Exa Z h129 xd "com/example/turnlock/turnlock/session/DigestCredentials" := (E.wr W129)
 obtain ⟨T132, h132, X132, e132, W132, st132⟩ := putF X129 hx hZ hown (host := "") (Or.inl (hv hw 104 rfl)) Via.refl e129 f130 f131 (Or.inr ⟨(hv hw 105 rfl), rfl, hnm⟩) (hv hw 97 rfl) (ty := (.object "java/lang/String")) (by decide) rfl rfl (g := (mkF m 11 #[vr xd, vr yu, vr yp] [(.ref yp), (.ref xd)])) rfl rfl (hb hby d_prog_15_m1_11)
 have Fw132 : Fld Z h132 xd "com/example/turnlock/turnlock/session/DigestCredentials" "password" "Ljava/lang/String;" (.ref yp) := f130.same W132
 have K132 : Keep h0 h132 [xd] := K129.wr W132 (Or.inl (List.mem_of_getElem? (i := 0) rfl))
 have O132 : Old Z n0 h132 := O129.wr W132 ge_xd
 have N132 := Fr.snoc X132 N129 ge_xd
 refine Go.st st132 ?_
 show Go p.tables e below Kx _ (mkF m 14 _ [])
 have f133 : Exa Z h132 xd "com/example/turnlock/turnlock/session/DigestCredentials" := (f131.wr W132)
 have f134 : Fld Z h132 xd "com/example/turnlock/turnlock/session/DigestCredentials" "user" "Ljava/lang/String;" (.ref yu) := (Fw129.other W132 (Or.inr (slot_ne (Or.inr (hv hw 103 rfl)) (Or.inr (hv hw 105 rfl)) (by decide) (t := (.object "java/lang/String")) (t' := (.object "java/lang/String")) (by decide) (by decide))))
 obtain ⟨fs, hr, hrun, hended, hW, hsame⟩ := X132.leave (v := none) (fun _ => rfl)
 refine Go.fin (X132.returnOut hx Bd.returns (hb hby d_prog_15_m1_14) hr) (hF _ _ hrun hended ⟨_, _, rfl, ?_, ⟨_, rfl⟩, hW, hsame.mono (by decide) (by decide)⟩)
 ·
  show QDi Z xd yu yp h0 n0 (none : Option Value) T132.heap _
  rw [e132]
  exact ⟨rfl, N132, K132, f133, f134, Fw132⟩
theorem pd_11 : parseMethodDescriptor "(Ljava/lang/String;Ljava/lang/String;)V" = some ⟨[(.object "java/lang/String"), (.object "java/lang/String")], none⟩ := by decide +kernel
theorem d_prog_15_m2_96 : decode prog_15_method_2_code 96 = .ok (.invokespecial 58, 3) := by decide +kernel
theorem d_prog_15_m2_99 : decode prog_15_method_2_code 99 = .ok (.areturn, 1) := by decide +kernel
def QDo (Z : State) (yu yp : Addr) (bu bp : Nat) (cu cp : List Int32) (h0 : Heap) (n0 : Nat) (v : Option Value) (h : Heap) (L : List Loc) : Prop := ∃ d : Addr, v = some (.ref d) ∧ Fr n0 L ∧ Keep h0 h [] ∧ Exa Z h d "com/example/turnlock/turnlock/session/DigestCredentials" ∧ Fld Z h d "com/example/turnlock/turnlock/session/DigestCredentials" "user" "Ljava/lang/String;" (.ref yu) ∧ Fld Z h d "com/example/turnlock/turnlock/session/DigestCredentials" "password" "Ljava/lang/String;" (.ref yp)
set_option maxRecDepth 65536 in
set_option maxHeartbeats 40000000 in
theorem rmDo (l : Launch) (Z : State) (a0 : Array Value) (hw : ∀ d ∈ tables_1, d.before a0 Z = true) (ws : List Jvm.Cond) (yu yp : Addr) (bu bp : Nat) (cu cp : List Int32) (h0 : Heap) (n0 : Nat) (X00 : Old Z n0 h0) (hEL : EW Z a0 consts_1) (wS : ∀ a ∈ Bundle.stringAtoms, a.before a0 Z = true) (G1 : Int32) (S1 : Sta Z Z.heap "java/lang/String" "COMPACT_STRINGS" "Z" (.int G1)) (P1 : ¬ G1 = 0) (TU : Str Z h0 bu yu cu) (TP : Str Z h0 bp yp cp) (hno : ∀ c ∈ cu, ¬ c = 58) (hnu : cu ≠ []) (hnp : cp ≠ []) :
  MetFree l yN2 (head1 (Jvm.Cond.code yN2 prog_15_method_2_code 2 (some (.object "com/example/turnlock/turnlock/session/DigestCredentials")) :: ws) ({ frames := 4, cells := 5, slots := 58, locals := 59 } : Room)) (fun aa U => aa = #[(.ref yu), (.ref yp)] ∧ Z.Warmed39 U.vm ∧ U.heap = h0 ∧ CHv Z consts_1 U.vm h0) (fun _ _ _ _ _ => True) (fun _ U o U' => ∃ v L, o = .returned v ∧ QDo Z yu yp bu bp cu cp h0 n0 v U'.heap L ∧ CHr Z consts_1 U.vm U.heap U'.vm U'.heap ∧ ReturnedEndW U o U' L ({ frames := 4, cells := 5, slots := 58, locals := 59 } : Room).cells ({ frames := 4, cells := 5, slots := 58, locals := 59 } : Room).slots) := by
 refine MetFree.of_bodySF (plainFor_of_name pn_1) hisR ?_
 intro p e s m args below meth c s₁ Bd hml0 hP hK
 obtain ⟨rfl, hZ, hh, H0⟩ := hP
 have hx := Bd.exec
 have hby := Bd.bytes
 have hml : c.maxLocals = 2 := hml0
 have hown : s.vm.findClass "com/example/turnlock/turnlock/session/DigestCredentials" = some m.cls := findClass_of_methodNamed Bd.named
 have hnm := (name_of_methodNamed Bd.named Bd.method).1
 have X0 : Stand p l e ({ frames := 4, cells := 5, slots := 58, locals := 59 } : Room) (s.setVm s.vm) m #[(.ref yu), (.ref yp)] below meth c s₁ [] 0 0 := Stand.of_body Bd
 have e0 : s₁.heap = h0 := by rw [← hh, Bd.state]; rfl
 have N0 := Fr.nil n0
 have K0 := Keep.refl h0 []
 have hS0 : s.Since s.vm h0.size := (State.WarmedH.refl s).since _
 have hk0 := Nat.le_refl h0.size
 have C0 : CHr Z consts_1 s.vm h0 s.vm h0 := CHr.refl H0
 have ef : entryFrame m #[(.ref yu), (.ref yp)] 2 = mkF m 0 #[vr yu, vr yp] [] := (by first | (simp [entryFrame, mkF, argsToLocals, Value.category]; done) | rfl : entryFrame m #[(.ref yu), (.ref yp)] 2 = mkF m 0 #[vr yu, vr yp] [])
 rw [ef]
 refine fin_of fun Kx hF => ?_
 show Go p.tables e below Kx _ (mkF m 0 _ [])
 obtain ⟨-, sEyu, sCyu, ⟨sbyu, skyu, -, sFyu, sAyu⟩, spyu, slyu⟩ := id TU
 have sVyu : Arv Z h0 sbyu skyu .byte (Int32.ofNat (i8s cu).length) ((i8s cu).map Value.int) (.int 0) := i8arv sAyu
 obtain ⟨-, sEyp, sCyp, ⟨sbyp, skyp, -, sFyp, sAyp⟩, spyp, slyp⟩ := id TP
 have sVyp : Arv Z h0 sbyp skyp .byte (Int32.ofNat (i8s cp).length) ((i8s cp).map Value.int) (.int 0) := i8arv sAyp
 refine s_aloadN (pc' := 1) X0.here hx (hb hby d_prog_15_m2_0) rfl rfl rfl ?_
 obtain ⟨a89, T89, h89, k189, b89, k89, X89, e89, E89, hS89, hk89, hZ89, hown89, A89, FC89, FV89, V89, la89, lb89, Cr89, Lt89, sx89, st89⟩ := ldcCH X0 hx hZ hown (hv hw 41 rfl) wS e0 hS0 hk0 hEL (List.mem_of_getElem? (i := 0) rfl) H0 (vs := [(.int 117), (.int 115), (.int 101), (.int 114)]) (z := 4) (by decide) (by decide) (by decide) (g := (mkF m 1 #[vr yu, vr yp] [(.ref yu)])) rfl (hb hby d_prog_15_m2_1) (n := 16) (by decide) (by decide) (by decide) (by decide)
 have C89 := C0.trans Cr89
 have K89 : Keep h0 h89 [] := K0.ext E89
 have O89 : Old Z n0 h89 := X00.ext E89
 refine Go.st st89 ?_
 show Go p.tables e below Kx _ (mkF m 3 _ [(.ref a89), (.ref yu)])
 have V90 : Arv Z h89 b89 k89 .byte (Int32.ofNat [(117 : Int32), (115 : Int32), (101 : Int32), (114 : Int32)].length) ([(117 : Int32), (115 : Int32), (101 : Int32), (114 : Int32)].map Value.int) (.int 0) := V89
 obtain ⟨_, _, ⟨T91, L91, k91, n91⟩, -, X91, ⟨Lc91, hQ91, l91, y91, z91⟩, st91⟩ := Jvm.LawKit.callS X89 hx (y := yN46) hown89 (mvT hZ89 (hv hw 44 rfl)) (mvT hZ89 (hv hw 45 rfl)) (mvT hZ89 (hv hw 46 rfl)) (mvT hZ89 (hv hw 47 rfl)) (by decide) (backOf (W := 0) (rmKrn l Z a0 hw [] yu a89 h89 n0 O89 ) hZ89 (hv hw 47 rfl) (hv hw 46 rfl) (by decide) (by decide)) (g := (mkF m 3 #[vr yu, vr yp] [(.ref a89), (.ref yu)])) rfl (by rw [hml]; rfl) (argsL := [(.ref yu), (.ref a89)]) (rest := []) (lenOf pd_3 rfl) rfl (by exact Nat.le_of_eq rfl) (hb hby d_prog_15_m2_3) (fun _ _ => ⟨rfl, e89, (by decide : 2 + 0 ≤ _), (by decide : 20 + 0 ≤ _)⟩)
 dsimp only [Pt.U, Pt.locs, Pt.cells, Pt.slots] at X91 l91 y91 z91 st91 hQ91
 rw [l91, y91, z91] at X91
 obtain ⟨rfl, Nq91, hE91⟩ := hQ91
 have N91 := Fr.app N0 Nq91
 refine Go.st st91 ?_
 show Go p.tables e below Kx _ (mkF m 6 _ [(.ref yu)])
 refine s_pop (pc' := 7) X91.here hx (hb hby d_prog_15_m2_6) rfl rfl ?_
 refine s_aloadN (pc' := 8) X91.here hx (hb hby d_prog_15_m2_7) rfl rfl rfl ?_
 obtain ⟨a92, T92, h92, k192, b92, k92, X92, e92, E92, hS92, hk92, hZ92, hown92, A92, FC92, FV92, V92, la92, lb92, Cr92, Lt92, sx92, st92⟩ := ldcCH X91 hx hZ89 hown89 (hv hw 48 rfl) wS hE91 hS89 hk89 hEL (List.mem_of_getElem? (i := 1) rfl) Cr89.1 (vs := [(.int 112), (.int 97), (.int 115), (.int 115), (.int 119), (.int 111), (.int 114), (.int 100)]) (z := 8) (by decide) (by decide) (by decide) (g := (mkF m 8 #[vr yu, vr yp] [(.ref yp)])) rfl (hb hby d_prog_15_m2_8) (n := 32) (by decide) (by decide) (by decide) (by decide)
 have C92 := C89.trans Cr92
 have K92 : Keep h0 h92 [] := K89.ext E92
 have O92 : Old Z n0 h92 := O89.ext E92
 refine Go.st st92 ?_
 show Go p.tables e below Kx _ (mkF m 10 _ [(.ref a92), (.ref yp)])
 have V93 : Arv Z h92 b92 k92 .byte (Int32.ofNat [(112 : Int32), (97 : Int32), (115 : Int32), (115 : Int32), (119 : Int32), (111 : Int32), (114 : Int32), (100 : Int32)].length) ([(112 : Int32), (97 : Int32), (115 : Int32), (115 : Int32), (119 : Int32), (111 : Int32), (114 : Int32), (100 : Int32)].map Value.int) (.int 0) := V92
 obtain ⟨_, _, ⟨T94, L94, k94, n94⟩, -, X94, ⟨Lc94, hQ94, l94, y94, z94⟩, st94⟩ := Jvm.LawKit.callS X92 hx (y := yN46) hown92 (mvT hZ92 (hv hw 44 rfl)) (mvT hZ92 (hv hw 45 rfl)) (mvT hZ92 (hv hw 46 rfl)) (mvT hZ92 (hv hw 47 rfl)) (by decide) (backOf (W := 0) (rmKrn l Z a0 hw [] yp a92 h92 n0 O92 ) hZ92 (hv hw 47 rfl) (hv hw 46 rfl) (by decide) (by decide)) (g := (mkF m 10 #[vr yu, vr yp] [(.ref a92), (.ref yp)])) rfl (by rw [hml]; rfl) (argsL := [(.ref yp), (.ref a92)]) (rest := []) (lenOf pd_3 rfl) rfl (by exact Nat.le_of_eq rfl) (hb hby d_prog_15_m2_10) (fun _ _ => ⟨rfl, e92, (by decide : 4 + 0 ≤ _), (by decide : 56 + 0 ≤ _)⟩)
 dsimp only [Pt.U, Pt.locs, Pt.cells, Pt.slots] at X94 l94 y94 z94 st94 hQ94
 rw [l94, y94, z94] at X94
 obtain ⟨rfl, Nq94, hE94⟩ := hQ94
 have N94 := Fr.app N91 Nq94
 refine Go.st st94 ?_
 show Go p.tables e below Kx _ (mkF m 13 _ [(.ref yp)])
 refine s_pop (pc' := 14) X94.here hx (hb hby d_prog_15_m2_13) rfl rfl ?_
 refine s_aloadN (pc' := 15) X94.here hx (hb hby d_prog_15_m2_14) rfl rfl rfl ?_
 have f97 : Fld Z h92 yu "java/lang/String" "value" "[B" (.ref sbyu) := ((sFyu.ext E89).ext E92)
 have f98 : Arv Z h92 sbyu skyu .byte (Int32.ofNat (i8s cu).length) ((i8s cu).map Value.int) (.int 0) := ((sVyu.ext E89).ext E92)
 have f100 : Exa Z h92 yu "java/lang/String" := ((sEyu.ext E89).ext E92)
 obtain ⟨cq99, kq99, q99a, q99b, q99c⟩ := isOf hZ92 hE94 f100
 obtain ⟨_, _, ⟨T99, L99, k99, n99⟩, -, X99, ⟨Lc99, hQ99, l99, y99, z99⟩, st99⟩ := X94.virtualBack hx (y := yN28) (z := yN28) hown92 (mvT hZ92 (hv hw 49 rfl)) (mvT hZ92 (hv hw 50 rfl)) (notFace_of_selects (args := #[]) (mvT hZ92 (hv hw 52 rfl))) (mvT hZ92 (hv hw 52 rfl)) (mvT hZ92 (hv hw 51 rfl)) (by decide) (backOf (W := 0) (rmGie l Z a0 hw [] yu sbyu _ (i8s cu) h92 n0 O92 f97 f98 (i8s_4 slyu) (i8s_nz hnu)) hZ92 (hv hw 53 rfl) (hv hw 7 rfl) (by decide) (by decide)) q99a q99c (g := (mkF m 15 #[vr yu, vr yp] [(.ref yu)])) rfl (by rw [hml]; rfl) (Steps.refl _) (argsL := []) (rest := []) (lenOf pd_4 rfl) rfl (by exact Nat.le_of_eq rfl) (hb hby d_prog_15_m2_15) (fun _ _ => ⟨rfl, hE94, (by decide : 4 + 0 ≤ _), (by decide : 56 + 0 ≤ _)⟩)
 dsimp only [Pt.U, Pt.locs, Pt.cells, Pt.slots] at X99 l99 y99 z99 st99 hQ99
 rw [l99, y99, z99] at X99
 obtain ⟨rfl, Nq99, hE99⟩ := hQ99
 have N99 := Fr.app N94 Nq99
 refine Go.tr st99 ?_
 show Go p.tables e below Kx _ (mkF m 18 _ [(.int 0)])
 refine s_ifY (pc' := 31) X99.here hx (hb hby d_prog_15_m2_18) ((if0 _ _).trans (teq (by decide)).1) (by decide) (by decide) ?_
 refine s_aloadN (pc' := 32) X99.here hx (hb hby d_prog_15_m2_31) rfl rfl rfl ?_
 refine s_bipush (pc' := 34) (v := 58) X99.here hx (hb hby d_prog_15_m2_32) rfl rfl ?_
 have f120 : Fld Z h92 yu "java/lang/String" "coder" "B" (.int 0) := ((sCyu.ext E89).ext E92)
 obtain ⟨cq121, kq121, q121a, q121b, q121c⟩ := isOf hZ92 hE99 f100
 obtain ⟨_, _, ⟨T121, L121, k121, n121⟩, -, X121, ⟨Lc121, hQ121, l121, y121, z121⟩, st121⟩ := X99.virtualBack hx (y := yN26) (z := yN26) hown92 (mvT hZ92 (hv hw 54 rfl)) (mvT hZ92 (hv hw 55 rfl)) (notFace_of_selects (args := #[]) (mvT hZ92 (hv hw 57 rfl))) (mvT hZ92 (hv hw 57 rfl)) (mvT hZ92 (hv hw 56 rfl)) (by decide) (backOf (W := 0) (rmGio3_58 l Z a0 hw [] yu sbyu _ (i8s cu) h92 n0 O92 G1 S1 P1 f100 f120 f97 f98 (i8s_4 slyu) (i8s_nz hnu) (i8s_no (by decide) spyu hno)) hZ92 (hv hw 58 rfl) (hv hw 7 rfl) (by decide) (by decide)) q121a q121c (g := (mkF m 34 #[vr yu, vr yp] [(.int 58), (.ref yu)])) rfl (by rw [hml]; rfl) (Steps.refl _) (argsL := [(.int 58)]) (rest := []) (lenOf pd_10 rfl) rfl (by exact Nat.le_of_eq rfl) (hb hby d_prog_15_m2_34) (fun _ _ => ⟨rfl, hE99, (by decide : 4 + 0 ≤ _), (by decide : 56 + 0 ≤ _)⟩)
 dsimp only [Pt.U, Pt.locs, Pt.cells, Pt.slots] at X121 l121 y121 z121 st121 hQ121
 rw [l121, y121, z121] at X121
 obtain ⟨rfl, Nq121, hE121⟩ := hQ121
 have N121 := Fr.app N99 Nq121
 refine Go.tr st121 ?_
 show Go p.tables e below Kx _ (mkF m 37 _ [(.int (-1 : Int32))])
 refine s_iconst (pc' := 38) (v := (-1 : Int32)) X121.here hx (hb hby d_prog_15_m2_37) rfl rfl ?_
 refine s_icmpY (pc' := 51) X121.here hx (hb hby d_prog_15_m2_38) (teq (by decide)).1 (by decide) (by decide) ?_
 refine s_aloadN (pc' := 52) X121.here hx (hb hby d_prog_15_m2_51) rfl rfl rfl ?_
 have f122 : Fld Z h92 yp "java/lang/String" "value" "[B" (.ref sbyp) := ((sFyp.ext E89).ext E92)
 have f123 : Arv Z h92 sbyp skyp .byte (Int32.ofNat (i8s cp).length) ((i8s cp).map Value.int) (.int 0) := ((sVyp.ext E89).ext E92)
 have f125 : Exa Z h92 yp "java/lang/String" := ((sEyp.ext E89).ext E92)
 obtain ⟨cq124, kq124, q124a, q124b, q124c⟩ := isOf hZ92 hE121 f125
 obtain ⟨_, _, ⟨T124, L124, k124, n124⟩, -, X124, ⟨Lc124, hQ124, l124, y124, z124⟩, st124⟩ := X121.virtualBack hx (y := yN28) (z := yN28) hown92 (mvT hZ92 (hv hw 49 rfl)) (mvT hZ92 (hv hw 50 rfl)) (notFace_of_selects (args := #[]) (mvT hZ92 (hv hw 52 rfl))) (mvT hZ92 (hv hw 52 rfl)) (mvT hZ92 (hv hw 51 rfl)) (by decide) (backOf (W := 0) (rmGie l Z a0 hw [] yp sbyp _ (i8s cp) h92 n0 O92 f122 f123 (i8s_4 slyp) (i8s_nz hnp)) hZ92 (hv hw 53 rfl) (hv hw 7 rfl) (by decide) (by decide)) q124a q124c (g := (mkF m 52 #[vr yu, vr yp] [(.ref yp)])) rfl (by rw [hml]; rfl) (Steps.refl _) (argsL := []) (rest := []) (lenOf pd_4 rfl) rfl (by exact Nat.le_of_eq rfl) (hb hby d_prog_15_m2_52) (fun _ _ => ⟨rfl, hE121, (by decide : 4 + 0 ≤ _), (by decide : 56 + 0 ≤ _)⟩)
 dsimp only [Pt.U, Pt.locs, Pt.cells, Pt.slots] at X124 l124 y124 z124 st124 hQ124
 rw [l124, y124, z124] at X124
 obtain ⟨rfl, Nq124, hE124⟩ := hQ124
 have N124 := Fr.app N121 Nq124
 refine Go.tr st124 ?_
 show Go p.tables e below Kx _ (mkF m 55 _ [(.int 0)])
 refine s_ifY (pc' := 90) X124.here hx (hb hby d_prog_15_m2_55) ((if0 _ _).trans (teq (by decide)).1) (by decide) (by decide) ?_
 obtain ⟨T126, h126, X126, e126, E126, A126, D126, -, st126⟩ := newO X124 hx hZ92 hown92 (hv hw 96 rfl) (hv hw 97 rfl) (hv hw 39 rfl) hE124 (g := (mkF m 90 #[vr yu, vr yp] [])) rfl (hb hby d_prog_15_m2_90) (by decide) (by decide)
 obtain ⟨b126, g126⟩ : ∃ z, z = h92.size := ⟨_, rfl⟩
 rw [← g126] at A126 D126 st126
 have sz126 : h0.size ≤ b126 := Nat.le_trans K92.1 (Nat.le_of_eq g126.symm)
 have ge126 : n0 ≤ b126 := Nat.le_trans (O92.1 ▸ O92.2.1) (Nat.le_of_eq g126.symm)
 have sn126 : Safe Z consts_1 T92.vm h92 b126 := Safe.new (Nat.le_of_eq g126.symm)
 have K126 : Keep h0 h126 [] := K92.ext E126
 have O126 : Old Z n0 h126 := O92.ext E126
 have sf127 : Safe Z consts_1 T92.vm h126 b126 := (Safe.ext E126 Cr92.1 sn126)
 have H126 : CHv Z consts_1 T92.vm h126 := Cr92.1.ext E126
 have C126 : CHr Z consts_1 s.vm h0 T92.vm h126 := C92.trans (CHr.ext E126 Cr92.1)
 have hk126 := Nat.le_trans hk92 E126.1
 have F126_user : Fld Z h126 b126 "com/example/turnlock/turnlock/session/DigestCredentials" "user" "Ljava/lang/String;" .null := D126 (Or.inr (hv hw 103 rfl)) (ty := (.object "java/lang/String")) (by decide)
 have F126_password : Fld Z h126 b126 "com/example/turnlock/turnlock/session/DigestCredentials" "password" "Ljava/lang/String;" .null := D126 (Or.inr (hv hw 105 rfl)) (ty := (.object "java/lang/String")) (by decide)
 refine Go.st st126 ?_
 show Go p.tables e below Kx _ (mkF m 93 _ [(.ref b126)])
 refine s_dup (pc' := 94) X126.here hx (hb hby d_prog_15_m2_93) rfl rfl ?_
 refine s_aloadN (pc' := 95) X126.here hx (hb hby d_prog_15_m2_94) rfl rfl rfl ?_
 refine s_aloadN (pc' := 96) X126.here hx (hb hby d_prog_15_m2_95) rfl rfl rfl ?_
 obtain ⟨_, _, ⟨T135, L135, k135, n135⟩, -, X135, ⟨Lc135, hQ135, l135, y135, z135⟩, st135⟩ := X126.specialBack hx (y := yN0) rfl hown92 (mvT hZ92 (hv hw 98 rfl)) (mvT hZ92 (hv hw 99 rfl)) (mvT hZ92 (hv hw 100 rfl)) (by decide) (backOf (W := 1) (rmDi l Z a0 hw [] b126 yu yp h126 n0 O126 ge126 A126 F126_user F126_password) hZ92 (hv hw 100 rfl) (hv hw 39 rfl) (by decide) (by decide)) (g := (mkF m 96 #[vr yu, vr yp] [(.ref yp), (.ref yu), (.ref b126), (.ref b126)])) rfl (by rw [hml]; rfl) (Steps.refl _) (a := b126) (argsL := [(.ref yu), (.ref yp)]) (rest := [(.ref b126)]) (lenOf pd_11 rfl) rfl (by exact Nat.le_of_eq rfl) (hb hby d_prog_15_m2_96) (fun _ _ => ⟨rfl, e126, (by decide : 5 + 0 ≤ _), (by decide : 58 + 0 ≤ _)⟩)
 dsimp only [Pt.U, Pt.locs, Pt.cells, Pt.slots] at X135 l135 y135 z135 st135 hQ135
 rw [l135, y135, z135] at X135
 obtain ⟨rfl, Nq135, Kq135, q1_135, q2_135, q3_135⟩ := hQ135
 have N135 := Fr.app N124 Nq135
 have K135 : Keep h0 T135.heap [] := K126.trans Kq135 (allS (P := fun zz => zz ∈ [] ∨ h0.size ≤ zz) (Or.inr sz126) all0)
 have O135 : Old Z n0 T135.heap := O126.keep Kq135 (allS ge126 all0)
 have sf136 : Safe Z consts_1 T92.vm T135.heap b126 := (Safe.keep Kq135 (sfS sf127 sf0) H126 sf127)
 have H135 : CHv Z consts_1 T92.vm T135.heap := H126.keep Kq135 (sfS sf127 sf0)
 have C135 : CHr Z consts_1 s.vm h0 T92.vm T135.heap := C126.trans (CHr.keep Kq135 (sfS sf127 sf0) H126)
 have hk135 := Nat.le_trans hk126 Kq135.1
 refine Go.tr st135 ?_
 show Go p.tables e below Kx _ (mkF m 99 _ [(.ref b126)])
 obtain ⟨fs, hr, hrun, hended, hRW⟩ := X135.leaveW hS92 hk135 (v := (some (.ref b126))) (fun h => by rw [Bd.returns] at h; cases h)
 have hCx := C135.trans (CHv.at X135 hZ92 hEL H135)
 refine Go.fin (retOut X135 hx Bd.returns rfl (Or.inr (Or.inr (Or.inr (Or.inr ⟨rfl, rfl, rfl⟩)))) (hb hby d_prog_15_m2_99) hr) (hF _ _ hrun hended ⟨_, _, rfl, ?_, ?_, hRW.1, hRW.2.1, hRW.2.2.1, hRW.2.2.2.mono (by decide) (by decide)⟩)
 ·
  show QDo Z yu yp bu bp cu cp h0 n0 ((some (.ref b126)) : Option Value) T135.heap _
  skip
  exact ⟨_, rfl, N135, K135, q1_135, q2_135, q3_135⟩
 ·
  show CHr Z consts_1 s.vm s.heap T135.vm T135.heap
  rw [hh]; exact hCx
theorem pd_12 : parseMethodDescriptor "(Ljava/lang/String;Ljava/lang/String;)Lcom/example/turnlock/turnlock/session/DigestCredentials;" = some ⟨[(.object "java/lang/String"), (.object "java/lang/String")], some (.object "com/example/turnlock/turnlock/session/DigestCredentials")⟩ := by decide +kernel
theorem d_prog_15_m4_0 : decode prog_15_method_4_code 0 = .ok (.aload_n 0, 1) := by decide +kernel
theorem d_prog_15_m4_1 : decode prog_15_method_4_code 1 = .ok (.getfield 7, 3) := by decide +kernel
theorem d_prog_15_m4_4 : decode prog_15_method_4_code 4 = .ok (.areturn, 1) := by decide +kernel
def QDu (Z : State) (xd yu : Addr) (h0 : Heap) (n0 : Nat) (v : Option Value) (h : Heap) (L : List Loc) : Prop := v = some (.ref yu) ∧ Fr n0 L ∧ h = h0
set_option maxRecDepth 65536 in
set_option maxHeartbeats 40000000 in
theorem rmDu (l : Launch) (Z : State) (a0 : Array Value) (hw : ∀ d ∈ tables_1, d.before a0 Z = true) (ws : List Jvm.Cond) (xd yu : Addr) (h0 : Heap) (n0 : Nat) (X00 : Old Z n0 h0) (F1 : Fld Z h0 xd "com/example/turnlock/turnlock/session/DigestCredentials" "user" "Ljava/lang/String;" (.ref yu)) :
  MetFree l yN3 (head1 (Jvm.Cond.code yN3 prog_15_method_4_code 1 (some (.object "java/lang/String")) :: ws) ({ frames := 0, cells := 0, slots := 0, locals := 0 } : Room)) (fun aa U => aa = #[(.ref xd)] ∧ Z.Warmed39 U.vm ∧ U.heap = h0) (fun _ _ _ _ _ => True) (fun _ U o U' => ∃ v L, o = .returned v ∧ QDu Z xd yu h0 n0 v U'.heap L ∧ FrameEnd U o U' L ({ frames := 0, cells := 0, slots := 0, locals := 0 } : Room).cells ({ frames := 0, cells := 0, slots := 0, locals := 0 } : Room).slots) := by
 refine MetFree.of_bodySF (plainFor_of_name pn_1) hisR ?_
 intro p e s m args below meth c s₁ Bd hml0 hP hK
 obtain ⟨rfl, hZ, hh⟩ := hP
 have hx := Bd.exec
 have hby := Bd.bytes
 have hml : c.maxLocals = 1 := hml0
 have hown : s.vm.findClass "com/example/turnlock/turnlock/session/DigestCredentials" = some m.cls := findClass_of_methodNamed Bd.named
 have hnm := (name_of_methodNamed Bd.named Bd.method).1
 have X0 : Stand p l e ({ frames := 0, cells := 0, slots := 0, locals := 0 } : Room) s m #[(.ref xd)] below meth c s₁ [] 0 0 := Stand.of_body Bd
 have e0 : s₁.heap = h0 := by rw [← hh, Bd.state]; rfl
 have N0 := Fr.nil n0
 have K0 := Keep.refl h0 []
 have ef : entryFrame m #[(.ref xd)] 1 = mkF m 0 #[vr xd] [] := (by first | (simp [entryFrame, mkF, argsToLocals, Value.category]; done) | rfl : entryFrame m #[(.ref xd)] 1 = mkF m 0 #[vr xd] [])
 rw [ef]
 refine fin_of fun Kx hF => ?_
 show Go p.tables e below Kx _ (mkF m 0 _ [])
 refine s_aloadN (pc' := 1) X0.here hx (hb hby d_prog_15_m4_0) rfl rfl rfl ?_
 obtain ⟨T141, X141, e141, st141⟩ := getF X0 hx hZ hown (host := "") (Or.inl (hv hw 102 rfl)) Via.refl e0 F1 (g := (mkF m 1 #[vr xd] [(.ref xd)])) rfl rfl (hb hby d_prog_15_m4_1)
 refine Go.st st141 ?_
 show Go p.tables e below Kx _ (mkF m 4 _ [(.ref yu)])
 obtain ⟨fs, hr, hrun, hended, hW, hsame⟩ := X141.leave (v := (some (.ref yu))) (fun h => by rw [Bd.returns] at h; cases h)
 refine Go.fin (retOut X141 hx Bd.returns rfl (Or.inr (Or.inr (Or.inr (Or.inr ⟨rfl, rfl, rfl⟩)))) (hb hby d_prog_15_m4_4) hr) (hF _ _ hrun hended ⟨_, _, rfl, ?_, ⟨_, rfl⟩, hW, hsame.mono (by decide) (by decide)⟩)
 ·
  show QDu Z xd yu h0 n0 ((some (.ref yu)) : Option Value) T141.heap _
  rw [e141]
  exact ⟨rfl, N0, rfl⟩
theorem pd_13 : parseMethodDescriptor "()Ljava/lang/String;" = some ⟨[], some (.object "java/lang/String")⟩ := by decide +kernel
theorem d_jdk_42_m66_0 : decode jdk_42_method_66_code 0 = .ok (.aload_n 0, 1) := by decide +kernel
theorem d_jdk_42_m66_1 : decode jdk_42_method_66_code 1 = .ok (.aload_n 1, 1) := by decide +kernel
theorem d_jdk_42_m66_2 : decode jdk_42_method_66_code 2 = .ok (.if_acmp .ne 5, 3) := by decide +kernel
theorem d_jdk_42_m66_5 : decode jdk_42_method_66_code 5 = .ok (.iconst 1, 1) := by decide +kernel
theorem d_jdk_42_m66_6 : decode jdk_42_method_66_code 6 = .ok (.ireturn, 1) := by decide +kernel
def QKes (Z : State) (xy : Addr) (h0 : Heap) (n0 : Nat) (v : Option Value) (h : Heap) (L : List Loc) : Prop := v = some (.int 1) ∧ Fr n0 L ∧ h = h0
set_option maxRecDepth 65536 in
set_option maxHeartbeats 40000000 in
theorem rmKes (l : Launch) (Z : State) (a0 : Array Value) (hw : ∀ d ∈ tables_1, d.before a0 Z = true) (ws : List Jvm.Cond) (xy : Addr) (h0 : Heap) (n0 : Nat) (X00 : Old Z n0 h0)  :
  MetFree l yN23 (head1 (Jvm.Cond.code yN23 jdk_42_method_66_code 3 (some .boolean) :: ws) ({ frames := 0, cells := 0, slots := 0, locals := 0 } : Room)) (fun aa U => aa = #[(.ref xy), (.ref xy)] ∧ Z.Warmed39 U.vm ∧ U.heap = h0) (fun _ _ _ _ _ => True) (fun _ U o U' => ∃ v L, o = .returned v ∧ QKes Z xy h0 n0 v U'.heap L ∧ FrameEnd U o U' L ({ frames := 0, cells := 0, slots := 0, locals := 0 } : Room).cells ({ frames := 0, cells := 0, slots := 0, locals := 0 } : Room).slots) := by
 refine MetFree.of_bodySF (plainFor_of_name pn_3) hisR ?_
 intro p e s m args below meth c s₁ Bd hml0 hP hK
 obtain ⟨rfl, hZ, hh⟩ := hP
 have hx := Bd.exec
 have hby := Bd.bytes
 have hml : c.maxLocals = 3 := hml0
 have hown : s.vm.findClass "java/lang/String" = some m.cls := findClass_of_methodNamed Bd.named
 have hnm := (name_of_methodNamed Bd.named Bd.method).1
 have X0 : Stand p l e ({ frames := 0, cells := 0, slots := 0, locals := 0 } : Room) s m #[(.ref xy), (.ref xy)] below meth c s₁ [] 0 0 := Stand.of_body Bd
 have e0 : s₁.heap = h0 := by rw [← hh, Bd.state]; rfl
 have N0 := Fr.nil n0
 have K0 := Keep.refl h0 []
 have ef : entryFrame m #[(.ref xy), (.ref xy)] 3 = mkF m 0 #[vr xy, vr xy, un] [] := (by first | (simp [entryFrame, mkF, argsToLocals, Value.category]; done) | rfl : entryFrame m #[(.ref xy), (.ref xy)] 3 = mkF m 0 #[vr xy, vr xy, un] [])
 rw [ef]
 refine fin_of fun Kx hF => ?_
 show Go p.tables e below Kx _ (mkF m 0 _ [])
 refine s_aloadN (pc' := 1) X0.here hx (hb hby d_jdk_42_m66_0) rfl rfl rfl ?_
 refine s_aloadN (pc' := 2) X0.here hx (hb hby d_jdk_42_m66_1) rfl rfl rfl ?_
 refine Go.st (fun _ r => Jvm.RoadKit.acmp (g := (mkF m 2 #[vr xy, vr xy, un] [(.ref xy), (.ref xy)])) X0 hx rfl rfl rfl (pc0 := 2) (pc' := 5) (same := true) rfl (hb hby d_jdk_42_m66_2) rfl (decide_eq_true rfl) (by decide) (by decide) r) ?_
 show Go p.tables e below Kx _ (mkF m 5 _ [])
 refine s_iconst (pc' := 6) (v := 1) X0.here hx (hb hby d_jdk_42_m66_5) rfl rfl ?_
 obtain ⟨fs, hr, hrun, hended, hW, hsame⟩ := X0.leave (v := (some (.int 1))) (fun h => by rw [Bd.returns] at h; cases h)
 refine Go.fin (retN X0 hx (t := .boolean) Bd.returns (by simp) (hb hby d_jdk_42_m66_6) hr) (hF _ _ hrun hended ⟨_, _, rfl, ?_, ⟨_, rfl⟩, hW, hsame.mono (by decide) (by decide)⟩)
 ·
  show QKes Z xy h0 n0 ((some (.int 1)) : Option Value) s₁.heap _
  rw [e0]
  exact ⟨rfl, N0, rfl⟩
theorem pd_14 : parseMethodDescriptor "(Ljava/lang/Object;)Z" = some ⟨[(.object "java/lang/Object")], some .boolean⟩ := by decide +kernel
theorem d_prog_15_m5_0 : decode prog_15_method_5_code 0 = .ok (.new 43, 3) := by decide +kernel
theorem d_prog_15_m5_3 : decode prog_15_method_5_code 3 = .ok (.dup, 1) := by decide +kernel
theorem pn_5 : plainName "java/lang/StringBuilder" = true := by first | (simp [plainName, overriddenIn]; done) | decide +kernel
theorem d_jdk_67_m1_0 : decode jdk_67_method_1_code 0 = .ok (.aload_n 0, 1) := by decide +kernel
theorem d_jdk_67_m1_1 : decode jdk_67_method_1_code 1 = .ok (.bipush 16, 2) := by decide +kernel
theorem pn_6 : plainName "java/lang/AbstractStringBuilder" = true := by first | (simp [plainName, overriddenIn]; done) | decide +kernel
theorem d_jdk_68_m2_0 : decode jdk_68_method_2_code 0 = .ok (.aload_n 0, 1) := by decide +kernel
theorem d_jdk_68_m2_1 : decode jdk_68_method_2_code 1 = .ok (.invokespecial 3, 3) := by decide +kernel
theorem d_jdk_68_m2_4 : decode jdk_68_method_2_code 4 = .ok (.getstatic 18, 3) := by decide +kernel
theorem d_jdk_68_m2_7 : decode jdk_68_method_2_code 7 = .ok (.ifCond .eq 18, 3) := by decide +kernel
theorem d_jdk_68_m2_10 : decode jdk_68_method_2_code 10 = .ok (.aload_n 0, 1) := by decide +kernel
theorem d_jdk_68_m2_11 : decode jdk_68_method_2_code 11 = .ok (.iload_n 1, 1) := by decide +kernel
theorem d_jdk_68_m2_12 : decode jdk_68_method_2_code 12 = .ok (.newarray .byte, 2) := by decide +kernel
theorem d_jdk_68_m2_14 : decode jdk_68_method_2_code 14 = .ok (.putfield 15, 3) := by decide +kernel
theorem d_jdk_68_m2_17 : decode jdk_68_method_2_code 17 = .ok (.aload_n 0, 1) := by decide +kernel
theorem d_jdk_68_m2_18 : decode jdk_68_method_2_code 18 = .ok (.iconst 0, 1) := by decide +kernel
theorem d_jdk_68_m2_19 : decode jdk_68_method_2_code 19 = .ok (.putfield 22, 3) := by decide +kernel
theorem d_jdk_68_m2_22 : decode jdk_68_method_2_code 22 = .ok (.goto 16, 3) := by decide +kernel
theorem d_jdk_68_m2_38 : decode jdk_68_method_2_code 38 = .ok (.return_, 1) := by decide +kernel
def QKn0 (Z : State) (xb : Addr) (h0 : Heap) (n0 : Nat) (v : Option Value) (h : Heap) (L : List Loc) : Prop := v = none ∧ Fr n0 L ∧ Keep h0 h [xb] ∧ Exa Z h xb "java/lang/StringBuilder" ∧ ∃ (xt : Addr) (kt : ClassId), h0.size ≤ xt ∧ Fld Z h xb "java/lang/AbstractStringBuilder" "value" "[B" (.ref xt) ∧ Fld Z h xb "java/lang/AbstractStringBuilder" "coder" "B" (.int 0) ∧ Fld Z h xb "java/lang/AbstractStringBuilder" "count" "I" (.int 0) ∧ Arv Z h xt kt .byte 16 [(.int 0), (.int 0), (.int 0), (.int 0), (.int 0), (.int 0), (.int 0), (.int 0), (.int 0), (.int 0), (.int 0), (.int 0), (.int 0), (.int 0), (.int 0), (.int 0)] (.int 0)
set_option maxRecDepth 65536 in
set_option maxHeartbeats 40000000 in
theorem rmKn0 (l : Launch) (Z : State) (a0 : Array Value) (hw : ∀ d ∈ tables_1, d.before a0 Z = true) (ws : List Jvm.Cond) (xb : Addr) (h0 : Heap) (n0 : Nat) (X00 : Old Z n0 h0) (G1 : Int32) (S1 : Sta Z Z.heap "java/lang/String" "COMPACT_STRINGS" "Z" (.int G1)) (P1 : ¬ G1 = 0) (ge_xb : n0 ≤ xb) (Exb : Exa Z h0 xb "java/lang/StringBuilder") (Vxb : Fld Z h0 xb "java/lang/AbstractStringBuilder" "value" "[B" .null) (Cxb : Fld Z h0 xb "java/lang/AbstractStringBuilder" "coder" "B" (.int 0)) (Nxb : Fld Z h0 xb "java/lang/AbstractStringBuilder" "count" "I" (.int 0)) :
  MetFree l yN7 (head1 (Jvm.Cond.code yN7 jdk_68_method_2_code 2 none :: ws) ({ frames := 1, cells := 1, slots := 16, locals := 12 } : Room)) (fun aa U => aa = #[(.ref xb), (.int 16)] ∧ Z.Warmed39 U.vm ∧ U.heap = h0) (fun _ _ _ _ _ => True) (fun _ U o U' => ∃ v L, o = .returned v ∧ QKn0 Z xb h0 n0 v U'.heap L ∧ FrameEnd U o U' L ({ frames := 1, cells := 1, slots := 16, locals := 12 } : Room).cells ({ frames := 1, cells := 1, slots := 16, locals := 12 } : Room).slots) := by
 refine MetFree.of_bodySF (plainFor_of_name pn_6) hisR ?_
 intro p e s m args below meth c s₁ Bd hml0 hP hK
 obtain ⟨rfl, hZ, hh⟩ := hP
 have hx := Bd.exec
 have hby := Bd.bytes
 have hml : c.maxLocals = 2 := hml0
 have hown : s.vm.findClass "java/lang/AbstractStringBuilder" = some m.cls := findClass_of_methodNamed Bd.named
 have hnm := (name_of_methodNamed Bd.named Bd.method).1
 have X0 : Stand p l e ({ frames := 1, cells := 1, slots := 16, locals := 12 } : Room) s m #[(.ref xb), (.int 16)] below meth c s₁ [] 0 0 := Stand.of_body Bd
 have e0 : s₁.heap = h0 := by rw [← hh, Bd.state]; rfl
 have N0 := Fr.nil n0
 have K0 := Keep.refl h0 [xb]
 have ef : entryFrame m #[(.ref xb), (.int 16)] 2 = mkF m 0 #[vr xb, vi 16] [] := (by first | (simp [entryFrame, mkF, argsToLocals, Value.category]; done) | rfl : entryFrame m #[(.ref xb), (.int 16)] 2 = mkF m 0 #[vr xb, vi 16] [])
 rw [ef]
 refine fin_of fun Kx hF => ?_
 show Go p.tables e below Kx _ (mkF m 0 _ [])
 refine s_aloadN (pc' := 1) X0.here hx (hb hby d_jdk_68_m2_0) rfl rfl rfl ?_
 obtain ⟨T147, X147, e147, st147⟩ := initO X0 hx hZ hown (hv hw 133 rfl) (hv hw 16 rfl) (hv hw 17 rfl) e0 (g := (mkF m 1 #[vr xb, vi 16] [(.ref xb)])) rfl (by rw [hml]; rfl) rfl (hb hby d_jdk_68_m2_1) (by decide) (W := 0) (by exact Nat.le_of_eq rfl) (by decide)
 refine Go.st st147 ?_
 show Go p.tables e below Kx _ (mkF m 4 _ [])
 obtain ⟨T148, X148, e148, st148⟩ := getS2 X147 hx hZ hown (host := "") (Or.inl (hv hw 134 rfl)) Via.refl e147 (S1.ext X00.2) (g := (mkF m 4 #[vr xb, vi 16] [])) rfl (hb hby d_jdk_68_m2_4)
 refine Go.st st148 ?_
 show Go p.tables e below Kx _ (mkF m 7 _ [(.int G1)])
 refine s_ifN (pc' := 10) X148.here hx (hb hby d_jdk_68_m2_7) rfl ((if0 _ _).trans (feq P1).1) ?_
 refine s_aloadN (pc' := 11) X148.here hx (hb hby d_jdk_68_m2_10) rfl rfl rfl ?_
 refine s_iloadN (pc' := 12) X148.here hx (hb hby d_jdk_68_m2_11) rfl rfl ?_
 obtain ⟨T149, h149, k149, X149, e149, E149, A149, B149, st149⟩ := newPE X148 hx hZ (hv hw 23 rfl) e148 (g := (mkF m 12 #[vr xb, vi 16] [(.int 16), (.ref xb)])) rfl (hb hby d_jdk_68_m2_12) rfl (by decide) (cap := 16) (by decide) (by decide) (by decide) (by decide) (ad := "[B") (by decide)
 obtain ⟨b149, g149⟩ : ∃ z, z = h0.size := ⟨_, rfl⟩
 rw [← g149] at A149 B149 st149
 have sz149 : h0.size ≤ b149 := Nat.le_trans K0.1 (Nat.le_of_eq g149.symm)
 have ge149 : n0 ≤ b149 := Nat.le_trans (X00.1 ▸ X00.2.1) (Nat.le_of_eq g149.symm)
 have K149 : Keep h0 h149 [xb] := K0.ext E149
 have O149 : Old Z n0 h149 := X00.ext E149
 have V149 : Arv Z h149 b149 k149 .byte 16 [(.int 0), (.int 0), (.int 0), (.int 0), (.int 0), (.int 0), (.int 0), (.int 0), (.int 0), (.int 0), (.int 0), (.int 0), (.int 0), (.int 0), (.int 0), (.int 0)] (.int 0) := (Arv.new A149 (by decide)).pad (pad_rep [] (.int 0) 16)
 refine Go.st st149 ?_
 show Go p.tables e below Kx _ (mkF m 14 _ [(.ref b149), (.ref xb)])
 have f150 : Fld Z h149 xb "java/lang/AbstractStringBuilder" "value" "[B" .null := (Vxb.ext E149)
 have f151 : Exa Z h149 xb "java/lang/StringBuilder" := (Exb.ext E149)
 obtain ⟨T152, h152, X152, e152, W152, st152⟩ := putF X149 hx hZ hown (host := "") (Or.inl (hv hw 135 rfl)) Via.refl e149 f150 f151 (Or.inl (hv hw 136 rfl)) (hv hw 122 rfl) (ty := (.array .byte)) (by decide) rfl rfl (g := (mkF m 14 #[vr xb, vi 16] [(.ref b149), (.ref xb)])) rfl rfl (hb hby d_jdk_68_m2_14)
 have Fw152 : Fld Z h152 xb "java/lang/AbstractStringBuilder" "value" "[B" (.ref b149) := f150.same W152
 have K152 : Keep h0 h152 [xb] := K149.wr W152 (Or.inl (List.mem_of_getElem? (i := 0) rfl))
 have O152 : Old Z n0 h152 := O149.wr W152 ge_xb
 have N152 := Fr.snoc X152 N0 ge_xb
 refine Go.st st152 ?_
 show Go p.tables e below Kx _ (mkF m 17 _ [])
 refine s_aloadN (pc' := 18) X152.here hx (hb hby d_jdk_68_m2_17) rfl rfl rfl ?_
 refine s_iconst (pc' := 19) (v := 0) X152.here hx (hb hby d_jdk_68_m2_18) rfl rfl ?_
 have f153 : Fld Z h152 xb "java/lang/AbstractStringBuilder" "coder" "B" (.int 0) := ((Cxb.ext E149).other W152 (Or.inr (slot_ne (Or.inl (hv hw 138 rfl)) (Or.inl (hv hw 136 rfl)) (by decide) (t := .byte) (t' := (.array .byte)) (by decide) (by decide))))
 have f154 : Exa Z h152 xb "java/lang/StringBuilder" := (f151.wr W152)
 obtain ⟨T155, h155, X155, e155, W155, st155⟩ := putFN X152 hx hZ hown (hv hw 137 rfl) Via.refl e152 f153 f154 (Or.inl (hv hw 138 rfl)) (hv hw 122 rfl) (ty := .byte) (v' := (.int 0)) (by decide) (by decide) (by decide) (g := (mkF m 19 #[vr xb, vi 16] [(.int 0), (.ref xb)])) rfl rfl (hb hby d_jdk_68_m2_19)
 have Fw155 : Fld Z h155 xb "java/lang/AbstractStringBuilder" "coder" "B" (.int 0) := f153.same W155
 have K155 : Keep h0 h155 [xb] := K152.wr W155 (Or.inl (List.mem_of_getElem? (i := 0) rfl))
 have O155 : Old Z n0 h155 := O152.wr W155 ge_xb
 have N155 := Fr.snoc X155 N152 ge_xb
 refine Go.st st155 ?_
 show Go p.tables e below Kx _ (mkF m 22 _ [])
 refine s_goto (pc' := 38) X155.here hx (hb hby d_jdk_68_m2_22) (by decide) (by decide) ?_
 have f156 : Exa Z h155 xb "java/lang/StringBuilder" := (f154.wr W155)
 have f157 : Fld Z h155 xb "java/lang/AbstractStringBuilder" "value" "[B" (.ref b149) := (Fw152.other W155 (Or.inr (slot_ne (Or.inl (hv hw 136 rfl)) (Or.inl (hv hw 138 rfl)) (by decide) (t := (.array .byte)) (t' := .byte) (by decide) (by decide))))
 have f158 : Fld Z h155 xb "java/lang/AbstractStringBuilder" "count" "I" (.int 0) := (((Nxb.ext E149).other W152 (Or.inr (slot_ne (Or.inl (hv hw 151 rfl)) (Or.inl (hv hw 136 rfl)) (by decide) (t := .int) (t' := (.array .byte)) (by decide) (by decide)))).other W155 (Or.inr (slot_ne (Or.inl (hv hw 151 rfl)) (Or.inl (hv hw 138 rfl)) (by decide) (t := .int) (t' := .byte) (by decide) (by decide))))
 have f159 : Arv Z h155 b149 k149 .byte 16 [(.int 0), (.int 0), (.int 0), (.int 0), (.int 0), (.int 0), (.int 0), (.int 0), (.int 0), (.int 0), (.int 0), (.int 0), (.int 0), (.int 0), (.int 0), (.int 0)] (.int 0) := ((V149.other W152 (Ne.symm (Nat.ne_of_lt (Nat.lt_of_lt_of_le Exb.lt (Nat.le_of_eq g149.symm))))).other W155 (Ne.symm (Nat.ne_of_lt (Nat.lt_of_lt_of_le Exb.lt (Nat.le_of_eq g149.symm)))))
 obtain ⟨fs, hr, hrun, hended, hW, hsame⟩ := X155.leave (v := none) (fun _ => rfl)
 refine Go.fin (X155.returnOut hx Bd.returns (hb hby d_jdk_68_m2_38) hr) (hF _ _ hrun hended ⟨_, _, rfl, ?_, ⟨_, rfl⟩, hW, hsame.mono (by decide) (by decide)⟩)
 ·
  show QKn0 Z xb h0 n0 (none : Option Value) T155.heap _
  rw [e155]
  exact ⟨rfl, N155, K155, f156, b149, _, sz149, f157, Fw155, f158, f159⟩
theorem pd_15 : parseMethodDescriptor "(I)V" = some ⟨[.int], none⟩ := by decide +kernel
theorem d_jdk_67_m1_3 : decode jdk_67_method_1_code 3 = .ok (.invokespecial 1, 3) := by decide +kernel
theorem d_jdk_67_m1_6 : decode jdk_67_method_1_code 6 = .ok (.return_, 1) := by decide +kernel
def QKn1 (Z : State) (xb : Addr) (h0 : Heap) (n0 : Nat) (v : Option Value) (h : Heap) (L : List Loc) : Prop := v = none ∧ Fr n0 L ∧ Keep h0 h [xb] ∧ Exa Z h xb "java/lang/StringBuilder" ∧ ∃ (xt : Addr) (kt : ClassId), h0.size ≤ xt ∧ Fld Z h xb "java/lang/AbstractStringBuilder" "value" "[B" (.ref xt) ∧ Fld Z h xb "java/lang/AbstractStringBuilder" "coder" "B" (.int 0) ∧ Fld Z h xb "java/lang/AbstractStringBuilder" "count" "I" (.int 0) ∧ Arv Z h xt kt .byte 16 [(.int 0), (.int 0), (.int 0), (.int 0), (.int 0), (.int 0), (.int 0), (.int 0), (.int 0), (.int 0), (.int 0), (.int 0), (.int 0), (.int 0), (.int 0), (.int 0)] (.int 0)
set_option maxRecDepth 65536 in
set_option maxHeartbeats 40000000 in
theorem rmKn1 (l : Launch) (Z : State) (a0 : Array Value) (hw : ∀ d ∈ tables_1, d.before a0 Z = true) (ws : List Jvm.Cond) (xb : Addr) (h0 : Heap) (n0 : Nat) (X00 : Old Z n0 h0) (G1 : Int32) (S1 : Sta Z Z.heap "java/lang/String" "COMPACT_STRINGS" "Z" (.int G1)) (P1 : ¬ G1 = 0) (ge_xb : n0 ≤ xb) (Exb : Exa Z h0 xb "java/lang/StringBuilder") (Vxb : Fld Z h0 xb "java/lang/AbstractStringBuilder" "value" "[B" .null) (Cxb : Fld Z h0 xb "java/lang/AbstractStringBuilder" "coder" "B" (.int 0)) (Nxb : Fld Z h0 xb "java/lang/AbstractStringBuilder" "count" "I" (.int 0)) :
  MetFree l yN31 (head1 (Jvm.Cond.code yN31 jdk_67_method_1_code 1 none :: ws) ({ frames := 2, cells := 1, slots := 16, locals := 25 } : Room)) (fun aa U => aa = #[(.ref xb)] ∧ Z.Warmed39 U.vm ∧ U.heap = h0) (fun _ _ _ _ _ => True) (fun _ U o U' => ∃ v L, o = .returned v ∧ QKn1 Z xb h0 n0 v U'.heap L ∧ FrameEnd U o U' L ({ frames := 2, cells := 1, slots := 16, locals := 25 } : Room).cells ({ frames := 2, cells := 1, slots := 16, locals := 25 } : Room).slots) := by
 refine MetFree.of_bodySF (plainFor_of_name pn_5) hisR ?_
 intro p e s m args below meth c s₁ Bd hml0 hP hK
 obtain ⟨rfl, hZ, hh⟩ := hP
 have hx := Bd.exec
 have hby := Bd.bytes
 have hml : c.maxLocals = 1 := hml0
 have hown : s.vm.findClass "java/lang/StringBuilder" = some m.cls := findClass_of_methodNamed Bd.named
 have hnm := (name_of_methodNamed Bd.named Bd.method).1
 have X0 : Stand p l e ({ frames := 2, cells := 1, slots := 16, locals := 25 } : Room) s m #[(.ref xb)] below meth c s₁ [] 0 0 := Stand.of_body Bd
 have e0 : s₁.heap = h0 := by rw [← hh, Bd.state]; rfl
 have N0 := Fr.nil n0
 have K0 := Keep.refl h0 [xb]
 have ef : entryFrame m #[(.ref xb)] 1 = mkF m 0 #[vr xb] [] := (by first | (simp [entryFrame, mkF, argsToLocals, Value.category]; done) | rfl : entryFrame m #[(.ref xb)] 1 = mkF m 0 #[vr xb] [])
 rw [ef]
 refine fin_of fun Kx hF => ?_
 show Go p.tables e below Kx _ (mkF m 0 _ [])
 refine s_aloadN (pc' := 1) X0.here hx (hb hby d_jdk_67_m1_0) rfl rfl rfl ?_
 refine s_bipush (pc' := 3) (v := 16) X0.here hx (hb hby d_jdk_67_m1_1) rfl rfl ?_
 obtain ⟨_, _, ⟨T160, L160, k160, n160⟩, -, X160, ⟨Lc160, hQ160, l160, y160, z160⟩, st160⟩ := X0.specialBack hx (y := yN7) rfl hown (mvT hZ (hv hw 127 rfl)) (mvT hZ (hv hw 128 rfl)) (mvT hZ (hv hw 132 rfl)) (by decide) (backOf (W := 0) (rmKn0 l Z a0 hw [] xb h0 n0 X00 G1 S1 P1 ge_xb Exb Vxb Cxb Nxb) hZ (hv hw 132 rfl) (hv hw 131 rfl) (by decide) (by decide)) (g := (mkF m 3 #[vr xb] [(.int 16), (.ref xb)])) rfl (by rw [hml]; rfl) (Steps.refl _) (a := xb) (argsL := [(.int 16)]) (rest := []) (lenOf pd_15 rfl) rfl (by exact Nat.le_of_eq rfl) (hb hby d_jdk_67_m1_3) (fun _ _ => ⟨rfl, e0, (by decide : 0 + 1 ≤ _), (by decide : 0 + 16 ≤ _)⟩)
 dsimp only [Pt.U, Pt.locs, Pt.cells, Pt.slots] at X160 l160 y160 z160 st160 hQ160
 rw [l160, y160, z160] at X160
 obtain ⟨rfl, Nq160, Kq160, q1_160, t160, kt160, le160, q2_160, q3_160, q4_160, q5_160⟩ := hQ160
 have sz160 : h0.size ≤ t160 := Nat.le_trans K0.1 le160
 have ge160 : n0 ≤ t160 := Nat.le_trans (X00.1 ▸ X00.2.1) le160
 have N160 := Fr.app N0 Nq160
 have K160 : Keep h0 T160.heap [xb] := K0.trans Kq160 (allS (P := fun zz => zz ∈ [xb] ∨ h0.size ≤ zz) (Or.inl (List.mem_of_getElem? (i := 0) rfl)) all0)
 have O160 : Old Z n0 T160.heap := X00.keep Kq160 (allS ge_xb all0)
 refine Go.tr st160 ?_
 show Go p.tables e below Kx _ (mkF m 6 _ [])
 obtain ⟨fs, hr, hrun, hended, hW, hsame⟩ := X160.leave (v := none) (fun _ => rfl)
 refine Go.fin (X160.returnOut hx Bd.returns (hb hby d_jdk_67_m1_6) hr) (hF _ _ hrun hended ⟨_, _, rfl, ?_, ⟨_, rfl⟩, hW, hsame.mono (by decide) (by decide)⟩)
 ·
  show QKn1 Z xb h0 n0 (none : Option Value) T160.heap _
  skip
  exact ⟨rfl, N160, K160, q1_160, t160, _, sz160, q2_160, q3_160, q4_160, q5_160⟩
theorem pd_16 : parseMethodDescriptor "()V" = some ⟨[], none⟩ := by decide +kernel
theorem d_prog_15_m5_4 : decode prog_15_method_5_code 4 = .ok (.invokespecial 45, 3) := by decide +kernel
theorem d_prog_15_m5_7 : decode prog_15_method_5_code 7 = .ok (.aload_n 0, 1) := by decide +kernel
theorem d_prog_15_m5_8 : decode prog_15_method_5_code 8 = .ok (.getfield 7, 3) := by decide +kernel
theorem d_jdk_67_m7_0 : decode jdk_67_method_7_code 0 = .ok (.aload_n 0, 1) := by decide +kernel
theorem d_jdk_67_m7_1 : decode jdk_67_method_7_code 1 = .ok (.aload_n 1, 1) := by decide +kernel
theorem d_jdk_68_m22_0 : decode jdk_68_method_22_code 0 = .ok (.aload_n 1, 1) := by decide +kernel
theorem d_jdk_68_m22_1 : decode jdk_68_method_22_code 1 = .ok (.ifnonnull 8, 3) := by decide +kernel
theorem d_jdk_68_m22_9 : decode jdk_68_method_22_code 9 = .ok (.aload_n 1, 1) := by decide +kernel
theorem d_jdk_68_m22_10 : decode jdk_68_method_22_code 10 = .ok (.invokevirtual 32, 3) := by decide +kernel
theorem d_jdk_68_m22_13 : decode jdk_68_method_22_code 13 = .ok (.istore_n 2, 1) := by decide +kernel
theorem d_jdk_68_m22_14 : decode jdk_68_method_22_code 14 = .ok (.aload_n 0, 1) := by decide +kernel
theorem d_jdk_68_m22_15 : decode jdk_68_method_22_code 15 = .ok (.aload_n 0, 1) := by decide +kernel
theorem d_jdk_68_m22_16 : decode jdk_68_method_22_code 16 = .ok (.getfield 79, 3) := by decide +kernel
theorem d_jdk_68_m22_19 : decode jdk_68_method_22_code 19 = .ok (.iload_n 2, 1) := by decide +kernel
theorem d_jdk_68_m22_20 : decode jdk_68_method_22_code 20 = .ok (.iadd, 1) := by decide +kernel
theorem d_jdk_68_m9_0 : decode jdk_68_method_9_code 0 = .ok (.aload_n 0, 1) := by decide +kernel
theorem d_jdk_68_m9_1 : decode jdk_68_method_9_code 1 = .ok (.getfield 15, 3) := by decide +kernel
theorem d_jdk_68_m9_4 : decode jdk_68_method_9_code 4 = .ok (.arraylength, 1) := by decide +kernel
theorem d_jdk_68_m9_5 : decode jdk_68_method_9_code 5 = .ok (.aload_n 0, 1) := by decide +kernel
theorem d_jdk_68_m9_6 : decode jdk_68_method_9_code 6 = .ok (.getfield 22, 3) := by decide +kernel
theorem d_jdk_68_m9_9 : decode jdk_68_method_9_code 9 = .ok (.ishr, 1) := by decide +kernel
theorem d_jdk_68_m9_10 : decode jdk_68_method_9_code 10 = .ok (.istore_n 2, 1) := by decide +kernel
theorem d_jdk_68_m9_11 : decode jdk_68_method_9_code 11 = .ok (.iload_n 1, 1) := by decide +kernel
theorem d_jdk_68_m9_12 : decode jdk_68_method_9_code 12 = .ok (.iload_n 2, 1) := by decide +kernel
theorem d_jdk_68_m9_13 : decode jdk_68_method_9_code 13 = .ok (.isub, 1) := by decide +kernel
theorem d_jdk_68_m9_14 : decode jdk_68_method_9_code 14 = .ok (.ifCond .le 24, 3) := by decide +kernel
theorem d_jdk_68_m9_38 : decode jdk_68_method_9_code 38 = .ok (.return_, 1) := by decide +kernel
def QGe (Z : State) (xb xt : Addr) (kt : ClassId) (X : List Int32) (mc : Int32) (h0 : Heap) (n0 : Nat) (v : Option Value) (h : Heap) (L : List Loc) : Prop := v = none ∧ Fr n0 L ∧ h = h0
set_option maxRecDepth 65536 in
set_option maxHeartbeats 40000000 in
theorem rmGe (l : Launch) (Z : State) (a0 : Array Value) (hw : ∀ d ∈ tables_1, d.before a0 Z = true) (ws : List Jvm.Cond) (xb xt : Addr) (kt : ClassId) (X : List Int32) (mc : Int32) (h0 : Heap) (n0 : Nat) (X00 : Old Z n0 h0) (Vxb : Fld Z h0 xb "java/lang/AbstractStringBuilder" "value" "[B" (.ref xt)) (Cxb : Fld Z h0 xb "java/lang/AbstractStringBuilder" "coder" "B" (.int 0)) (Axt : Arv Z h0 xt kt .byte 16 (pad 16 X) (.int 0)) (hcp : ¬ 0 < (mc - 16)) :
  MetFree l yN9 (head1 (Jvm.Cond.code yN9 jdk_68_method_9_code 3 none :: ws) ({ frames := 0, cells := 0, slots := 0, locals := 0 } : Room)) (fun aa U => aa = #[(.ref xb), (.int mc)] ∧ Z.Warmed39 U.vm ∧ U.heap = h0) (fun _ _ _ _ _ => True) (fun _ U o U' => ∃ v L, o = .returned v ∧ QGe Z xb xt kt X mc h0 n0 v U'.heap L ∧ FrameEnd U o U' L ({ frames := 0, cells := 0, slots := 0, locals := 0 } : Room).cells ({ frames := 0, cells := 0, slots := 0, locals := 0 } : Room).slots) := by
 refine MetFree.of_bodySF (plainFor_of_name pn_6) hisR ?_
 intro p e s m args below meth c s₁ Bd hml0 hP hK
 obtain ⟨rfl, hZ, hh⟩ := hP
 have hx := Bd.exec
 have hby := Bd.bytes
 have hml : c.maxLocals = 3 := hml0
 have hown : s.vm.findClass "java/lang/AbstractStringBuilder" = some m.cls := findClass_of_methodNamed Bd.named
 have hnm := (name_of_methodNamed Bd.named Bd.method).1
 have X0 : Stand p l e ({ frames := 0, cells := 0, slots := 0, locals := 0 } : Room) s m #[(.ref xb), (.int mc)] below meth c s₁ [] 0 0 := Stand.of_body Bd
 have e0 : s₁.heap = h0 := by rw [← hh, Bd.state]; rfl
 have N0 := Fr.nil n0
 have K0 := Keep.refl h0 []
 have ef : entryFrame m #[(.ref xb), (.int mc)] 3 = mkF m 0 #[vr xb, vi mc, un] [] := (by first | (simp [entryFrame, mkF, argsToLocals, Value.category]; done) | rfl : entryFrame m #[(.ref xb), (.int mc)] 3 = mkF m 0 #[vr xb, vi mc, un] [])
 rw [ef]
 refine fin_of fun Kx hF => ?_
 show Go p.tables e below Kx _ (mkF m 0 _ [])
 refine s_aloadN (pc' := 1) X0.here hx (hb hby d_jdk_68_m9_0) rfl rfl rfl ?_
 obtain ⟨T169, X169, e169, st169⟩ := getF X0 hx hZ hown (host := "") (Or.inl (hv hw 135 rfl)) Via.refl e0 Vxb (g := (mkF m 1 #[vr xb, vi mc, un] [(.ref xb)])) rfl rfl (hb hby d_jdk_68_m9_1)
 refine Go.st st169 ?_
 show Go p.tables e below Kx _ (mkF m 4 _ [(.ref xt)])
 obtain ⟨cl170, Ar170, Aq170, As170, An170, Ah170, Ag170⟩ := id Axt
 refine Go.st (X169.arraylength hx (by rw [e169]; exact Ar170.1) (State.isArrayOf_alike hZ.alike Ar170.2.1) (g := (mkF m 4 #[vr xb, vi mc, un] [(.ref xt)])) rfl rfl (hb hby d_jdk_68_m9_4)) ?_
 rw [len_of As170 An170]
 show Go p.tables e below Kx _ (mkF m 5 _ [(.int 16)])
 refine s_aloadN (pc' := 6) X169.here hx (hb hby d_jdk_68_m9_5) rfl rfl rfl ?_
 obtain ⟨T171, X171, e171, st171⟩ := getF X169 hx hZ hown (host := "") (Or.inl (hv hw 137 rfl)) Via.refl e169 Cxb (g := (mkF m 6 #[vr xb, vi mc, un] [(.ref xb), (.int 16)])) rfl rfl (hb hby d_jdk_68_m9_6)
 refine Go.st st171 ?_
 show Go p.tables e below Kx _ (mkF m 9 _ [(.int 0), (.int 16)])
 refine s_ishr (pc' := 10) (z := 16) X171.here hx (hb hby d_jdk_68_m9_9) rfl (by decide) ?_
 refine s_istoreN (pc' := 11) (Ls' := #[vr xb, vi mc, vi 16]) X171.here hx (hb hby d_jdk_68_m9_10) rfl  rfl ?_
 refine s_iloadN (pc' := 12) X171.here hx (hb hby d_jdk_68_m9_11) rfl rfl ?_
 refine s_iloadN (pc' := 13) X171.here hx (hb hby d_jdk_68_m9_12) rfl rfl ?_
 refine s_isub (pc' := 14) X171.here hx (hb hby d_jdk_68_m9_13) rfl rfl ?_
 refine s_ifY (pc' := 38) X171.here hx (hb hby d_jdk_68_m9_14) ((if0 _ _).trans (flt hcp).2.2.2) (by decide) (by decide) ?_
 obtain ⟨fs, hr, hrun, hended, hW, hsame⟩ := X171.leave (v := none) (fun _ => rfl)
 refine Go.fin (X171.returnOut hx Bd.returns (hb hby d_jdk_68_m9_38) hr) (hF _ _ hrun hended ⟨_, _, rfl, ?_, ⟨_, rfl⟩, hW, hsame.mono (by decide) (by decide)⟩)
 ·
  show QGe Z xb xt kt X mc h0 n0 (none : Option Value) T171.heap _
  rw [e171]
  exact ⟨rfl, N0, rfl⟩
theorem d_jdk_68_m22_21 : decode jdk_68_method_22_code 21 = .ok (.invokevirtual 100, 3) := by decide +kernel
theorem d_jdk_68_m22_24 : decode jdk_68_method_22_code 24 = .ok (.aload_n 0, 1) := by decide +kernel
theorem d_jdk_68_m22_25 : decode jdk_68_method_22_code 25 = .ok (.aload_n 0, 1) := by decide +kernel
theorem d_jdk_68_m22_26 : decode jdk_68_method_22_code 26 = .ok (.getfield 79, 3) := by decide +kernel
theorem d_jdk_68_m22_29 : decode jdk_68_method_22_code 29 = .ok (.aload_n 1, 1) := by decide +kernel
theorem d_jdk_68_m73_0 : decode jdk_68_method_73_code 0 = .ok (.aload_n 0, 1) := by decide +kernel
theorem d_jdk_68_m73_1 : decode jdk_68_method_73_code 1 = .ok (.aload_n 2, 1) := by decide +kernel
theorem d_jdk_68_m71_0 : decode jdk_68_method_71_code 0 = .ok (.getstatic 18, 3) := by decide +kernel
theorem d_jdk_68_m71_3 : decode jdk_68_method_71_code 3 = .ok (.ifCond .eq 18, 3) := by decide +kernel
theorem d_jdk_68_m71_6 : decode jdk_68_method_71_code 6 = .ok (.aload_n 0, 1) := by decide +kernel
theorem d_jdk_68_m71_7 : decode jdk_68_method_71_code 7 = .ok (.getfield 22, 3) := by decide +kernel
theorem d_jdk_68_m71_10 : decode jdk_68_method_71_code 10 = .ok (.aload_n 1, 1) := by decide +kernel
theorem d_jdk_68_m71_11 : decode jdk_68_method_71_code 11 = .ok (.invokevirtual 40, 3) := by decide +kernel
theorem d_jdk_68_m71_14 : decode jdk_68_method_71_code 14 = .ok (.if_icmp .eq 7, 3) := by decide +kernel
theorem d_jdk_68_m71_21 : decode jdk_68_method_71_code 21 = .ok (.return_, 1) := by decide +kernel
def QKi (Z : State) (xb xy : Addr) (h0 : Heap) (n0 : Nat) (v : Option Value) (h : Heap) (L : List Loc) : Prop := v = none ∧ Fr n0 L ∧ h = h0
set_option maxRecDepth 65536 in
set_option maxHeartbeats 40000000 in
theorem rmKi (l : Launch) (Z : State) (a0 : Array Value) (hw : ∀ d ∈ tables_1, d.before a0 Z = true) (ws : List Jvm.Cond) (xb xy : Addr) (h0 : Heap) (n0 : Nat) (X00 : Old Z n0 h0) (G1 : Int32) (S1 : Sta Z Z.heap "java/lang/String" "COMPACT_STRINGS" "Z" (.int G1)) (P1 : ¬ G1 = 0) (Cxb : Fld Z h0 xb "java/lang/AbstractStringBuilder" "coder" "B" (.int 0)) (Exy : Exa Z h0 xy "java/lang/String") (Cxy : Fld Z h0 xy "java/lang/String" "coder" "B" (.int 0)) :
  MetFree l yN11 (head1 (Jvm.Cond.code yN11 jdk_68_method_71_code 2 none :: ws) ({ frames := 1, cells := 0, slots := 0, locals := 13 } : Room)) (fun aa U => aa = #[(.ref xb), (.ref xy)] ∧ Z.Warmed39 U.vm ∧ U.heap = h0) (fun _ _ _ _ _ => True) (fun _ U o U' => ∃ v L, o = .returned v ∧ QKi Z xb xy h0 n0 v U'.heap L ∧ FrameEnd U o U' L ({ frames := 1, cells := 0, slots := 0, locals := 13 } : Room).cells ({ frames := 1, cells := 0, slots := 0, locals := 13 } : Room).slots) := by
 refine MetFree.of_bodySF (plainFor_of_name pn_6) hisR ?_
 intro p e s m args below meth c s₁ Bd hml0 hP hK
 obtain ⟨rfl, hZ, hh⟩ := hP
 have hx := Bd.exec
 have hby := Bd.bytes
 have hml : c.maxLocals = 2 := hml0
 have hown : s.vm.findClass "java/lang/AbstractStringBuilder" = some m.cls := findClass_of_methodNamed Bd.named
 have hnm := (name_of_methodNamed Bd.named Bd.method).1
 have X0 : Stand p l e ({ frames := 1, cells := 0, slots := 0, locals := 13 } : Room) s m #[(.ref xb), (.ref xy)] below meth c s₁ [] 0 0 := Stand.of_body Bd
 have e0 : s₁.heap = h0 := by rw [← hh, Bd.state]; rfl
 have N0 := Fr.nil n0
 have K0 := Keep.refl h0 []
 have ef : entryFrame m #[(.ref xb), (.ref xy)] 2 = mkF m 0 #[vr xb, vr xy] [] := (by first | (simp [entryFrame, mkF, argsToLocals, Value.category]; done) | rfl : entryFrame m #[(.ref xb), (.ref xy)] 2 = mkF m 0 #[vr xb, vr xy] [])
 rw [ef]
 refine fin_of fun Kx hF => ?_
 show Go p.tables e below Kx _ (mkF m 0 _ [])
 obtain ⟨T174, X174, e174, st174⟩ := getS2 X0 hx hZ hown (host := "") (Or.inl (hv hw 134 rfl)) Via.refl e0 (S1.ext X00.2) (g := (mkF m 0 #[vr xb, vr xy] [])) rfl (hb hby d_jdk_68_m71_0)
 refine Go.st st174 ?_
 show Go p.tables e below Kx _ (mkF m 3 _ [(.int G1)])
 refine s_ifN (pc' := 6) X174.here hx (hb hby d_jdk_68_m71_3) rfl ((if0 _ _).trans (feq P1).1) ?_
 refine s_aloadN (pc' := 7) X174.here hx (hb hby d_jdk_68_m71_6) rfl rfl rfl ?_
 obtain ⟨T175, X175, e175, st175⟩ := getF X174 hx hZ hown (host := "") (Or.inl (hv hw 137 rfl)) Via.refl e174 Cxb (g := (mkF m 7 #[vr xb, vr xy] [(.ref xb)])) rfl rfl (hb hby d_jdk_68_m71_7)
 refine Go.st st175 ?_
 show Go p.tables e below Kx _ (mkF m 10 _ [(.int 0)])
 refine s_aloadN (pc' := 11) X175.here hx (hb hby d_jdk_68_m71_10) rfl rfl rfl ?_
 obtain ⟨cq176, kq176, q176a, q176b, q176c⟩ := isOf hZ e175 Exy
 obtain ⟨_, _, ⟨T176, L176, k176, n176⟩, -, X176, ⟨Lc176, hQ176, l176, y176, z176⟩, st176⟩ := X175.virtualBack hx (y := yN20) (z := yN20) hown (mvT hZ (hv hw 167 rfl)) (mvT hZ (hv hw 75 rfl)) (notFace_of_selects (args := #[]) (mvT hZ (hv hw 77 rfl))) (mvT hZ (hv hw 77 rfl)) (mvT hZ (hv hw 76 rfl)) (by decide) (backOf (W := 1) (rmKc l Z a0 hw [] xy h0 n0 X00 G1 S1 P1 Cxy) hZ (hv hw 78 rfl) (hv hw 7 rfl) (by decide) (by decide)) q176a q176c (g := (mkF m 11 #[vr xb, vr xy] [(.ref xy), (.int 0)])) rfl (by rw [hml]; rfl) (Steps.refl _) (argsL := []) (rest := [(.int 0)]) (lenOf pd_5 rfl) rfl (by exact Nat.le_of_eq rfl) (hb hby d_jdk_68_m71_11) (fun _ _ => ⟨rfl, e175, (by decide : 0 + 0 ≤ _), (by decide : 0 + 0 ≤ _)⟩)
 dsimp only [Pt.U, Pt.locs, Pt.cells, Pt.slots] at X176 l176 y176 z176 st176 hQ176
 rw [l176, y176, z176] at X176
 obtain ⟨rfl, Nq176, hE176⟩ := hQ176
 have N176 := Fr.app N0 Nq176
 refine Go.tr st176 ?_
 show Go p.tables e below Kx _ (mkF m 14 _ [(.int 0), (.int 0)])
 refine s_icmpY (pc' := 21) X176.here hx (hb hby d_jdk_68_m71_14) (teq (by decide)).1 (by decide) (by decide) ?_
 obtain ⟨fs, hr, hrun, hended, hW, hsame⟩ := X176.leave (v := none) (fun _ => rfl)
 refine Go.fin (X176.returnOut hx Bd.returns (hb hby d_jdk_68_m71_21) hr) (hF _ _ hrun hended ⟨_, _, rfl, ?_, ⟨_, rfl⟩, hW, hsame.mono (by decide) (by decide)⟩)
 ·
  show QKi Z xb xy h0 n0 (none : Option Value) T176.heap _
  rw [hE176]
  exact ⟨rfl, N176, rfl⟩
theorem pd_17 : parseMethodDescriptor "(Ljava/lang/String;)V" = some ⟨[(.object "java/lang/String")], none⟩ := by decide +kernel
theorem d_jdk_68_m73_2 : decode jdk_68_method_73_code 2 = .ok (.invokevirtual 397, 3) := by decide +kernel
theorem d_jdk_68_m73_5 : decode jdk_68_method_73_code 5 = .ok (.aload_n 2, 1) := by decide +kernel
theorem d_jdk_68_m73_6 : decode jdk_68_method_73_code 6 = .ok (.aload_n 0, 1) := by decide +kernel
theorem d_jdk_68_m73_7 : decode jdk_68_method_73_code 7 = .ok (.getfield 15, 3) := by decide +kernel
theorem d_jdk_68_m73_10 : decode jdk_68_method_73_code 10 = .ok (.iload_n 1, 1) := by decide +kernel
theorem d_jdk_68_m73_11 : decode jdk_68_method_73_code 11 = .ok (.aload_n 0, 1) := by decide +kernel
theorem d_jdk_68_m73_12 : decode jdk_68_method_73_code 12 = .ok (.getfield 22, 3) := by decide +kernel
theorem d_jdk_42_m147_0 : decode jdk_42_method_147_code 0 = .ok (.aload_n 0, 1) := by decide +kernel
theorem d_jdk_42_m147_1 : decode jdk_42_method_147_code 1 = .ok (.invokevirtual 335, 3) := by decide +kernel
theorem d_jdk_42_m147_4 : decode jdk_42_method_147_code 4 = .ok (.iload_n 3, 1) := by decide +kernel
theorem d_jdk_42_m147_5 : decode jdk_42_method_147_code 5 = .ok (.if_icmp .ne 23, 3) := by decide +kernel
theorem d_jdk_42_m147_8 : decode jdk_42_method_147_code 8 = .ok (.aload_n 0, 1) := by decide +kernel
theorem d_jdk_42_m147_9 : decode jdk_42_method_147_code 9 = .ok (.getfield 9, 3) := by decide +kernel
theorem d_jdk_42_m147_12 : decode jdk_42_method_147_code 12 = .ok (.iconst 0, 1) := by decide +kernel
theorem d_jdk_42_m147_13 : decode jdk_42_method_147_code 13 = .ok (.aload_n 1, 1) := by decide +kernel
theorem d_jdk_42_m147_14 : decode jdk_42_method_147_code 14 = .ok (.iload_n 2, 1) := by decide +kernel
theorem d_jdk_42_m147_15 : decode jdk_42_method_147_code 15 = .ok (.iload_n 3, 1) := by decide +kernel
theorem d_jdk_42_m147_16 : decode jdk_42_method_147_code 16 = .ok (.ishl, 1) := by decide +kernel
theorem d_jdk_42_m147_17 : decode jdk_42_method_147_code 17 = .ok (.aload_n 0, 1) := by decide +kernel
theorem d_jdk_42_m147_18 : decode jdk_42_method_147_code 18 = .ok (.getfield 9, 3) := by decide +kernel
theorem d_jdk_42_m147_21 : decode jdk_42_method_147_code 21 = .ok (.arraylength, 1) := by decide +kernel
theorem d_jdk_42_m147_22 : decode jdk_42_method_147_code 22 = .ok (.invokestatic 212, 3) := by decide +kernel
theorem d_jdk_42_m147_25 : decode jdk_42_method_147_code 25 = .ok (.goto 18, 3) := by decide +kernel
theorem d_jdk_42_m147_43 : decode jdk_42_method_147_code 43 = .ok (.return_, 1) := by decide +kernel
def QGg (Z : State) (xy yb xt : Addr) (ky kt : ClassId) (X us : List Int32) (h0 : Heap) (n0 : Nat) (v : Option Value) (h : Heap) (L : List Loc) : Prop := v = none ∧ Fr n0 L ∧ Keep h0 h [xt] ∧ Arv Z h xt kt .byte 16 (pad 16 (X ++ us)) (.int 0)
set_option maxRecDepth 65536 in
set_option maxHeartbeats 40000000 in
theorem rmGg (l : Launch) (Z : State) (a0 : Array Value) (hw : ∀ d ∈ tables_1, d.before a0 Z = true) (ws : List Jvm.Cond) (xy yb xt : Addr) (ky kt : ClassId) (X us : List Int32) (h0 : Heap) (n0 : Nat) (X00 : Old Z n0 h0) (G1 : Int32) (S1 : Sta Z Z.heap "java/lang/String" "COMPACT_STRINGS" "Z" (.int G1)) (P1 : ¬ G1 = 0) (Exy : Exa Z h0 xy "java/lang/String") (Cxy : Fld Z h0 xy "java/lang/String" "coder" "B" (.int 0)) (Vxy : Fld Z h0 xy "java/lang/String" "value" "[B" (.ref yb)) (Axy : Arv Z h0 yb ky .byte (Int32.ofNat us.length) (us.map Value.int) (.int 0)) (ge_xt : n0 ≤ xt) (Axt : Arv Z h0 xt kt .byte 16 (pad 16 X) (.int 0)) (hc : X.length + us.length ≤ 16) :
  MetFree l yN25 (head1 (Jvm.Cond.code yN25 jdk_42_method_147_code 4 none :: ws) ({ frames := 1, cells := 0, slots := 0, locals := 18 } : Room)) (fun aa U => aa = #[(.ref xy), (.ref xt), (.int (Int32.ofNat X.length)), (.int 0)] ∧ Z.Warmed39 U.vm ∧ U.heap = h0) (fun _ _ _ _ _ => True) (fun _ U o U' => ∃ v L, o = .returned v ∧ QGg Z xy yb xt ky kt X us h0 n0 v U'.heap L ∧ FrameEnd U o U' L ({ frames := 1, cells := 0, slots := 0, locals := 18 } : Room).cells ({ frames := 1, cells := 0, slots := 0, locals := 18 } : Room).slots) := by
 refine MetFree.of_bodySF (plainFor_of_name pn_3) hisR ?_
 intro p e s m args below meth c s₁ Bd hml0 hP hK
 obtain ⟨rfl, hZ, hh⟩ := hP
 have hx := Bd.exec
 have hby := Bd.bytes
 have hml : c.maxLocals = 4 := hml0
 have hown : s.vm.findClass "java/lang/String" = some m.cls := findClass_of_methodNamed Bd.named
 have hnm := (name_of_methodNamed Bd.named Bd.method).1
 have X0 : Stand p l e ({ frames := 1, cells := 0, slots := 0, locals := 18 } : Room) s m #[(.ref xy), (.ref xt), (.int (Int32.ofNat X.length)), (.int 0)] below meth c s₁ [] 0 0 := Stand.of_body Bd
 have e0 : s₁.heap = h0 := by rw [← hh, Bd.state]; rfl
 have N0 := Fr.nil n0
 have K0 := Keep.refl h0 [xt]
 have ef : entryFrame m #[(.ref xy), (.ref xt), (.int (Int32.ofNat X.length)), (.int 0)] 4 = mkF m 0 #[vr xy, vr xt, .val (.int (Int32.ofNat X.length)), vi 0] [] := (by first | (simp [entryFrame, mkF, argsToLocals, Value.category]; done) | rfl : entryFrame m #[(.ref xy), (.ref xt), (.int (Int32.ofNat X.length)), (.int 0)] 4 = mkF m 0 #[vr xy, vr xt, .val (.int (Int32.ofNat X.length)), vi 0] [])
 rw [ef]
 refine fin_of fun Kx hF => ?_
 show Go p.tables e below Kx _ (mkF m 0 _ [])
 refine s_aloadN (pc' := 1) X0.here hx (hb hby d_jdk_42_m147_0) rfl rfl rfl ?_
 obtain ⟨cq180, kq180, q180a, q180b, q180c⟩ := isOf hZ e0 Exy
 obtain ⟨_, _, ⟨T180, L180, k180, n180⟩, -, X180, ⟨Lc180, hQ180, l180, y180, z180⟩, st180⟩ := X0.virtualBack hx (y := yN20) (z := yN20) hown (mvT hZ (hv hw 74 rfl)) (mvT hZ (hv hw 75 rfl)) (notFace_of_selects (args := #[]) (mvT hZ (hv hw 77 rfl))) (mvT hZ (hv hw 77 rfl)) (mvT hZ (hv hw 76 rfl)) (by decide) (backOf (W := 0) (rmKc l Z a0 hw [] xy h0 n0 X00 G1 S1 P1 Cxy) hZ (hv hw 78 rfl) (hv hw 7 rfl) (by decide) (by decide)) q180a q180c (g := (mkF m 1 #[vr xy, vr xt, .val (.int (Int32.ofNat X.length)), vi 0] [(.ref xy)])) rfl (by rw [hml]; rfl) (Steps.refl _) (argsL := []) (rest := []) (lenOf pd_5 rfl) rfl (by exact Nat.le_of_eq rfl) (hb hby d_jdk_42_m147_1) (fun _ _ => ⟨rfl, e0, (by decide : 0 + 0 ≤ _), (by decide : 0 + 0 ≤ _)⟩)
 dsimp only [Pt.U, Pt.locs, Pt.cells, Pt.slots] at X180 l180 y180 z180 st180 hQ180
 rw [l180, y180, z180] at X180
 obtain ⟨rfl, Nq180, hE180⟩ := hQ180
 have N180 := Fr.app N0 Nq180
 refine Go.tr st180 ?_
 show Go p.tables e below Kx _ (mkF m 4 _ [(.int 0)])
 refine s_iloadN (pc' := 5) X180.here hx (hb hby d_jdk_42_m147_4) rfl rfl ?_
 refine s_icmpN (pc' := 8) X180.here hx (hb hby d_jdk_42_m147_5) rfl (teq (by decide)).2 ?_
 refine s_aloadN (pc' := 9) X180.here hx (hb hby d_jdk_42_m147_8) rfl rfl rfl ?_
 obtain ⟨T181, X181, e181, st181⟩ := getF X180 hx hZ hown (host := "") (Or.inl (hv hw 32 rfl)) Via.refl hE180 Vxy (g := (mkF m 9 #[vr xy, vr xt, .val (.int (Int32.ofNat X.length)), vi 0] [(.ref xy)])) rfl rfl (hb hby d_jdk_42_m147_9)
 refine Go.st st181 ?_
 show Go p.tables e below Kx _ (mkF m 12 _ [(.ref yb)])
 refine s_iconst (pc' := 13) (v := 0) X181.here hx (hb hby d_jdk_42_m147_12) rfl rfl ?_
 refine s_aloadN (pc' := 14) X181.here hx (hb hby d_jdk_42_m147_13) rfl rfl rfl ?_
 refine s_iloadN (pc' := 15) X181.here hx (hb hby d_jdk_42_m147_14) rfl rfl ?_
 refine s_iloadN (pc' := 16) X181.here hx (hb hby d_jdk_42_m147_15) rfl rfl ?_
 refine s_ishl (pc' := 17) (z := (Int32.ofNat X.length)) X181.here hx (hb hby d_jdk_42_m147_16) rfl (shl0 _) ?_
 refine s_aloadN (pc' := 18) X181.here hx (hb hby d_jdk_42_m147_17) rfl rfl rfl ?_
 obtain ⟨T182, X182, e182, st182⟩ := getF X181 hx hZ hown (host := "") (Or.inl (hv hw 32 rfl)) Via.refl e181 Vxy (g := (mkF m 18 #[vr xy, vr xt, .val (.int (Int32.ofNat X.length)), vi 0] [(.ref xy), (.int (Int32.ofNat X.length)), (.ref xt), (.int 0), (.ref yb)])) rfl rfl (hb hby d_jdk_42_m147_18)
 refine Go.st st182 ?_
 show Go p.tables e below Kx _ (mkF m 21 _ [(.ref yb), (.int (Int32.ofNat X.length)), (.ref xt), (.int 0), (.ref yb)])
 obtain ⟨cl183, Ar183, Aq183, As183, An183, Ah183, Ag183⟩ := id Axy
 refine Go.st (X182.arraylength hx (by rw [e182]; exact Ar183.1) (State.isArrayOf_alike hZ.alike Ar183.2.1) (g := (mkF m 21 #[vr xy, vr xt, .val (.int (Int32.ofNat X.length)), vi 0] [(.ref yb), (.int (Int32.ofNat X.length)), (.ref xt), (.int 0), (.ref yb)])) rfl rfl (hb hby d_jdk_42_m147_21)) ?_
 rw [len_of As183 An183]
 show Go p.tables e below Kx _ (mkF m 22 _ [(.int (Int32.ofNat us.length)), (.int (Int32.ofNat X.length)), (.ref xt), (.int 0), (.ref yb)])
 obtain ⟨T184, h184, L184, X184, e184, N184, KK184, V184, st184⟩ := cpApp X182 hx hZ hown (hv hw 173 rfl) (hv hw 176 rfl) (hv hw 174 rfl) (hv hw 175 rfl) e182 (le4b hc) (le4a hc) (by decide) hc Axy Axt N180 ge_xt (g := (mkF m 22 #[vr xy, vr xt, .val (.int (Int32.ofNat X.length)), vi 0] [(.int (Int32.ofNat us.length)), (.int (Int32.ofNat X.length)), (.ref xt), (.int 0), (.ref yb)])) rfl (by rw [hml]; rfl) rfl (hb hby d_jdk_42_m147_22) (by decide) (W := 0) (by exact Nat.le_of_eq rfl) (by decide)
 have K184 : Keep h0 h184 [xt] := K0.trans KK184 (allS (P := fun zz => zz ∈ [xt] ∨ h0.size ≤ zz) (Or.inl (List.mem_of_getElem? (i := 0) rfl)) all0)
 have O184 : Old Z n0 h184 := X00.keep KK184 (allS ge_xt all0)
 refine Go.st st184 ?_
 show Go p.tables e below Kx _ (mkF m 25 _ [])
 refine s_goto (pc' := 43) X184.here hx (hb hby d_jdk_42_m147_25) (by decide) (by decide) ?_
 obtain ⟨fs, hr, hrun, hended, hW, hsame⟩ := X184.leave (v := none) (fun _ => rfl)
 refine Go.fin (X184.returnOut hx Bd.returns (hb hby d_jdk_42_m147_43) hr) (hF _ _ hrun hended ⟨_, _, rfl, ?_, ⟨_, rfl⟩, hW, hsame.mono (by decide) (by decide)⟩)
 ·
  show QGg Z xy yb xt ky kt X us h0 n0 (none : Option Value) T184.heap _
  rw [e184]
  exact ⟨rfl, N184, K184, V184⟩
theorem pd_18 : parseMethodDescriptor "([BIB)V" = some ⟨[(.array .byte), .int, .byte], none⟩ := by decide +kernel
theorem d_jdk_68_m73_15 : decode jdk_68_method_73_code 15 = .ok (.invokevirtual 399, 3) := by decide +kernel
theorem d_jdk_68_m73_18 : decode jdk_68_method_73_code 18 = .ok (.return_, 1) := by decide +kernel
def QGp (Z : State) (xb xt xy yb : Addr) (ky kt : ClassId) (X us : List Int32) (h0 : Heap) (n0 : Nat) (v : Option Value) (h : Heap) (L : List Loc) : Prop := v = none ∧ Fr n0 L ∧ Keep h0 h [xt] ∧ Arv Z h xt kt .byte 16 (pad 16 (X ++ us)) (.int 0)
set_option maxRecDepth 65536 in
set_option maxHeartbeats 40000000 in
theorem rmGp (l : Launch) (Z : State) (a0 : Array Value) (hw : ∀ d ∈ tables_1, d.before a0 Z = true) (ws : List Jvm.Cond) (xb xt xy yb : Addr) (ky kt : ClassId) (X us : List Int32) (h0 : Heap) (n0 : Nat) (X00 : Old Z n0 h0) (G1 : Int32) (S1 : Sta Z Z.heap "java/lang/String" "COMPACT_STRINGS" "Z" (.int G1)) (P1 : ¬ G1 = 0) (Exb : Exa Z h0 xb "java/lang/StringBuilder") (Vxb : Fld Z h0 xb "java/lang/AbstractStringBuilder" "value" "[B" (.ref xt)) (Cxb : Fld Z h0 xb "java/lang/AbstractStringBuilder" "coder" "B" (.int 0)) (Axt : Arv Z h0 xt kt .byte 16 (pad 16 X) (.int 0)) (Exy : Exa Z h0 xy "java/lang/String") (Cxy : Fld Z h0 xy "java/lang/String" "coder" "B" (.int 0)) (Vxy : Fld Z h0 xy "java/lang/String" "value" "[B" (.ref yb)) (Axy : Arv Z h0 yb ky .byte (Int32.ofNat us.length) (us.map Value.int) (.int 0)) (ge_xt : n0 ≤ xt) (hc : X.length + us.length ≤ 16) :
  MetFree l yN14 (head1 (Jvm.Cond.code yN14 jdk_68_method_73_code 3 none :: ws) ({ frames := 2, cells := 0, slots := 0, locals := 33 } : Room)) (fun aa U => aa = #[(.ref xb), (.int (Int32.ofNat X.length)), (.ref xy)] ∧ Z.Warmed39 U.vm ∧ U.heap = h0) (fun _ _ _ _ _ => True) (fun _ U o U' => ∃ v L, o = .returned v ∧ QGp Z xb xt xy yb ky kt X us h0 n0 v U'.heap L ∧ FrameEnd U o U' L ({ frames := 2, cells := 0, slots := 0, locals := 33 } : Room).cells ({ frames := 2, cells := 0, slots := 0, locals := 33 } : Room).slots) := by
 refine MetFree.of_bodySF (plainFor_of_name pn_6) hisR ?_
 intro p e s m args below meth c s₁ Bd hml0 hP hK
 obtain ⟨rfl, hZ, hh⟩ := hP
 have hx := Bd.exec
 have hby := Bd.bytes
 have hml : c.maxLocals = 3 := hml0
 have hown : s.vm.findClass "java/lang/AbstractStringBuilder" = some m.cls := findClass_of_methodNamed Bd.named
 have hnm := (name_of_methodNamed Bd.named Bd.method).1
 have X0 : Stand p l e ({ frames := 2, cells := 0, slots := 0, locals := 33 } : Room) s m #[(.ref xb), (.int (Int32.ofNat X.length)), (.ref xy)] below meth c s₁ [] 0 0 := Stand.of_body Bd
 have e0 : s₁.heap = h0 := by rw [← hh, Bd.state]; rfl
 have N0 := Fr.nil n0
 have K0 := Keep.refl h0 [xt]
 have ef : entryFrame m #[(.ref xb), (.int (Int32.ofNat X.length)), (.ref xy)] 3 = mkF m 0 #[vr xb, .val (.int (Int32.ofNat X.length)), vr xy] [] := (by first | (simp [entryFrame, mkF, argsToLocals, Value.category]; done) | rfl : entryFrame m #[(.ref xb), (.int (Int32.ofNat X.length)), (.ref xy)] 3 = mkF m 0 #[vr xb, .val (.int (Int32.ofNat X.length)), vr xy] [])
 rw [ef]
 refine fin_of fun Kx hF => ?_
 show Go p.tables e below Kx _ (mkF m 0 _ [])
 refine s_aloadN (pc' := 1) X0.here hx (hb hby d_jdk_68_m73_0) rfl rfl rfl ?_
 refine s_aloadN (pc' := 2) X0.here hx (hb hby d_jdk_68_m73_1) rfl rfl rfl ?_
 obtain ⟨cq177, kq177, q177a, q177b, q177c⟩ := isOf hZ e0 Exb
 obtain ⟨_, _, ⟨T177, L177, k177, n177⟩, -, X177, ⟨Lc177, hQ177, l177, y177, z177⟩, st177⟩ := X0.virtualBack hx (y := yN11) (z := yN11) hown (mvT hZ (hv hw 162 rfl)) (mvT hZ (decl_of (hv hw 163 rfl) (hv hw 166 rfl))) (notFace_of_selects (args := #[]) (mvT hZ (hv hw 165 rfl))) (mvT hZ (hv hw 165 rfl)) (mvT hZ (hv hw 163 rfl)) (by decide) (backOf (W := 0) (rmKi l Z a0 hw [] xb xy h0 n0 X00 G1 S1 P1 Cxb Exy Cxy) hZ (hv hw 166 rfl) (hv hw 131 rfl) (by decide) (by decide)) q177a q177c (g := (mkF m 2 #[vr xb, .val (.int (Int32.ofNat X.length)), vr xy] [(.ref xy), (.ref xb)])) rfl (by rw [hml]; rfl) (Steps.refl _) (argsL := [(.ref xy)]) (rest := []) (lenOf pd_17 rfl) rfl (by exact Nat.le_of_eq rfl) (hb hby d_jdk_68_m73_2) (fun _ _ => ⟨rfl, e0, (by decide : 0 + 0 ≤ _), (by decide : 0 + 0 ≤ _)⟩)
 dsimp only [Pt.U, Pt.locs, Pt.cells, Pt.slots] at X177 l177 y177 z177 st177 hQ177
 rw [l177, y177, z177] at X177
 obtain ⟨rfl, Nq177, hE177⟩ := hQ177
 have N177 := Fr.app N0 Nq177
 refine Go.tr st177 ?_
 show Go p.tables e below Kx _ (mkF m 5 _ [])
 refine s_aloadN (pc' := 6) X177.here hx (hb hby d_jdk_68_m73_5) rfl rfl rfl ?_
 refine s_aloadN (pc' := 7) X177.here hx (hb hby d_jdk_68_m73_6) rfl rfl rfl ?_
 obtain ⟨T178, X178, e178, st178⟩ := getF X177 hx hZ hown (host := "") (Or.inl (hv hw 135 rfl)) Via.refl hE177 Vxb (g := (mkF m 7 #[vr xb, .val (.int (Int32.ofNat X.length)), vr xy] [(.ref xb), (.ref xy)])) rfl rfl (hb hby d_jdk_68_m73_7)
 refine Go.st st178 ?_
 show Go p.tables e below Kx _ (mkF m 10 _ [(.ref xt), (.ref xy)])
 refine s_iloadN (pc' := 11) X178.here hx (hb hby d_jdk_68_m73_10) rfl rfl ?_
 refine s_aloadN (pc' := 12) X178.here hx (hb hby d_jdk_68_m73_11) rfl rfl rfl ?_
 obtain ⟨T179, X179, e179, st179⟩ := getF X178 hx hZ hown (host := "") (Or.inl (hv hw 137 rfl)) Via.refl e178 Cxb (g := (mkF m 12 #[vr xb, .val (.int (Int32.ofNat X.length)), vr xy] [(.ref xb), (.int (Int32.ofNat X.length)), (.ref xt), (.ref xy)])) rfl rfl (hb hby d_jdk_68_m73_12)
 refine Go.st st179 ?_
 show Go p.tables e below Kx _ (mkF m 15 _ [(.int 0), (.int (Int32.ofNat X.length)), (.ref xt), (.ref xy)])
 obtain ⟨cq185, kq185, q185a, q185b, q185c⟩ := isOf hZ e179 Exy
 obtain ⟨_, _, ⟨T185, L185, k185, n185⟩, -, X185, ⟨Lc185, hQ185, l185, y185, z185⟩, st185⟩ := X179.virtualBack hx (y := yN25) (z := yN25) hown (mvT hZ (hv hw 168 rfl)) (mvT hZ (hv hw 169 rfl)) (notFace_of_selects (args := #[]) (mvT hZ (hv hw 171 rfl))) (mvT hZ (hv hw 171 rfl)) (mvT hZ (hv hw 170 rfl)) (by decide) (backOf (W := 0) (rmGg l Z a0 hw [] xy yb xt _ _ X us h0 n0 X00 G1 S1 P1 Exy Cxy Vxy Axy ge_xt Axt hc) hZ (hv hw 172 rfl) (hv hw 7 rfl) (by decide) (by decide)) q185a q185c (g := (mkF m 15 #[vr xb, .val (.int (Int32.ofNat X.length)), vr xy] [(.int 0), (.int (Int32.ofNat X.length)), (.ref xt), (.ref xy)])) rfl (by rw [hml]; rfl) (Steps.refl _) (argsL := [(.ref xt), (.int (Int32.ofNat X.length)), (.int 0)]) (rest := []) (lenOf pd_18 rfl) rfl (by exact Nat.le_of_eq rfl) (hb hby d_jdk_68_m73_15) (fun _ _ => ⟨rfl, e179, (by decide : 0 + 0 ≤ _), (by decide : 0 + 0 ≤ _)⟩)
 dsimp only [Pt.U, Pt.locs, Pt.cells, Pt.slots] at X185 l185 y185 z185 st185 hQ185
 rw [l185, y185, z185] at X185
 obtain ⟨rfl, Nq185, Kq185, q1_185⟩ := hQ185
 have N185 := Fr.app N177 Nq185
 have K185 : Keep h0 T185.heap [xt] := K0.trans Kq185 (allS (P := fun zz => zz ∈ [xt] ∨ h0.size ≤ zz) (Or.inl (List.mem_of_getElem? (i := 0) rfl)) all0)
 have O185 : Old Z n0 T185.heap := X00.keep Kq185 (allS ge_xt all0)
 refine Go.tr st185 ?_
 show Go p.tables e below Kx _ (mkF m 18 _ [])
 obtain ⟨fs, hr, hrun, hended, hW, hsame⟩ := X185.leave (v := none) (fun _ => rfl)
 refine Go.fin (X185.returnOut hx Bd.returns (hb hby d_jdk_68_m73_18) hr) (hF _ _ hrun hended ⟨_, _, rfl, ?_, ⟨_, rfl⟩, hW, hsame.mono (by decide) (by decide)⟩)
 ·
  show QGp Z xb xt xy yb ky kt X us h0 n0 (none : Option Value) T185.heap _
  skip
  exact ⟨rfl, N185, K185, q1_185⟩
theorem pd_19 : parseMethodDescriptor "(ILjava/lang/String;)V" = some ⟨[.int, (.object "java/lang/String")], none⟩ := by decide +kernel
theorem d_jdk_68_m22_30 : decode jdk_68_method_22_code 30 = .ok (.invokevirtual 208, 3) := by decide +kernel
theorem d_jdk_68_m22_33 : decode jdk_68_method_22_code 33 = .ok (.aload_n 0, 1) := by decide +kernel
theorem d_jdk_68_m22_34 : decode jdk_68_method_22_code 34 = .ok (.dup, 1) := by decide +kernel
theorem d_jdk_68_m22_35 : decode jdk_68_method_22_code 35 = .ok (.getfield 79, 3) := by decide +kernel
theorem d_jdk_68_m22_38 : decode jdk_68_method_22_code 38 = .ok (.iload_n 2, 1) := by decide +kernel
theorem d_jdk_68_m22_39 : decode jdk_68_method_22_code 39 = .ok (.iadd, 1) := by decide +kernel
theorem d_jdk_68_m22_40 : decode jdk_68_method_22_code 40 = .ok (.putfield 79, 3) := by decide +kernel
theorem d_jdk_68_m22_43 : decode jdk_68_method_22_code 43 = .ok (.aload_n 0, 1) := by decide +kernel
theorem d_jdk_68_m22_44 : decode jdk_68_method_22_code 44 = .ok (.areturn, 1) := by decide +kernel
def QGa (Z : State) (xb xt xy yb : Addr) (ky kt : ClassId) (X us : List Int32) (h0 : Heap) (n0 : Nat) (v : Option Value) (h : Heap) (L : List Loc) : Prop := v = some (.ref xb) ∧ Fr n0 L ∧ Keep h0 h [xb, xt] ∧ Exa Z h xb "java/lang/StringBuilder" ∧ Fld Z h xb "java/lang/AbstractStringBuilder" "value" "[B" (.ref xt) ∧ Fld Z h xb "java/lang/AbstractStringBuilder" "coder" "B" (.int 0) ∧ Fld Z h xb "java/lang/AbstractStringBuilder" "count" "I" (.int (Int32.ofNat (X ++ us).length)) ∧ Arv Z h xt kt .byte 16 (pad 16 (X ++ us)) (.int 0)
set_option maxRecDepth 65536 in
set_option maxHeartbeats 40000000 in
theorem rmGa (l : Launch) (Z : State) (a0 : Array Value) (hw : ∀ d ∈ tables_1, d.before a0 Z = true) (ws : List Jvm.Cond) (xb xt xy yb : Addr) (ky kt : ClassId) (X us : List Int32) (h0 : Heap) (n0 : Nat) (X00 : Old Z n0 h0) (G1 : Int32) (S1 : Sta Z Z.heap "java/lang/String" "COMPACT_STRINGS" "Z" (.int G1)) (P1 : ¬ G1 = 0) (Exb : Exa Z h0 xb "java/lang/StringBuilder") (Vxb : Fld Z h0 xb "java/lang/AbstractStringBuilder" "value" "[B" (.ref xt)) (Cxb : Fld Z h0 xb "java/lang/AbstractStringBuilder" "coder" "B" (.int 0)) (Nxb : Fld Z h0 xb "java/lang/AbstractStringBuilder" "count" "I" (.int (Int32.ofNat X.length))) (Axt : Arv Z h0 xt kt .byte 16 (pad 16 X) (.int 0)) (Exy : Exa Z h0 xy "java/lang/String") (Cxy : Fld Z h0 xy "java/lang/String" "coder" "B" (.int 0)) (Vxy : Fld Z h0 xy "java/lang/String" "value" "[B" (.ref yb)) (Axy : Arv Z h0 yb ky .byte (Int32.ofNat us.length) (us.map Value.int) (.int 0)) (ge_xb : n0 ≤ xb) (ge_xt : n0 ≤ xt) (nbt : xb ≠ xt) (hc : X.length + us.length ≤ 16) :
  MetFree l yN8 (head1 (Jvm.Cond.code yN8 jdk_68_method_22_code 3 (some (.object "java/lang/AbstractStringBuilder")) :: ws) ({ frames := 3, cells := 0, slots := 0, locals := 47 } : Room)) (fun aa U => aa = #[(.ref xb), (.ref xy)] ∧ Z.Warmed39 U.vm ∧ U.heap = h0) (fun _ _ _ _ _ => True) (fun _ U o U' => ∃ v L, o = .returned v ∧ QGa Z xb xt xy yb ky kt X us h0 n0 v U'.heap L ∧ FrameEnd U o U' L ({ frames := 3, cells := 0, slots := 0, locals := 47 } : Room).cells ({ frames := 3, cells := 0, slots := 0, locals := 47 } : Room).slots) := by
 refine MetFree.of_bodySF (plainFor_of_name pn_6) hisR ?_
 intro p e s m args below meth c s₁ Bd hml0 hP hK
 obtain ⟨rfl, hZ, hh⟩ := hP
 have hx := Bd.exec
 have hby := Bd.bytes
 have hml : c.maxLocals = 3 := hml0
 have hown : s.vm.findClass "java/lang/AbstractStringBuilder" = some m.cls := findClass_of_methodNamed Bd.named
 have hnm := (name_of_methodNamed Bd.named Bd.method).1
 have X0 : Stand p l e ({ frames := 3, cells := 0, slots := 0, locals := 47 } : Room) s m #[(.ref xb), (.ref xy)] below meth c s₁ [] 0 0 := Stand.of_body Bd
 have e0 : s₁.heap = h0 := by rw [← hh, Bd.state]; rfl
 have N0 := Fr.nil n0
 have K0 := Keep.refl h0 [xb, xt]
 have ef : entryFrame m #[(.ref xb), (.ref xy)] 3 = mkF m 0 #[vr xb, vr xy, un] [] := (by first | (simp [entryFrame, mkF, argsToLocals, Value.category]; done) | rfl : entryFrame m #[(.ref xb), (.ref xy)] 3 = mkF m 0 #[vr xb, vr xy, un] [])
 rw [ef]
 refine fin_of fun Kx hF => ?_
 show Go p.tables e below Kx _ (mkF m 0 _ [])
 refine s_aloadN (pc' := 1) X0.here hx (hb hby d_jdk_68_m22_0) rfl rfl rfl ?_
 refine s_ifnonnullY (pc' := 9) X0.here hx (hb hby d_jdk_68_m22_1) (by decide) (by decide) ?_
 refine s_aloadN (pc' := 10) X0.here hx (hb hby d_jdk_68_m22_9) rfl rfl rfl ?_
 obtain ⟨cq167, kq167, q167a, q167b, q167c⟩ := isOf hZ e0 Exy
 obtain ⟨_, _, ⟨T167, L167, k167, n167⟩, -, X167, ⟨Lc167, hQ167, l167, y167, z167⟩, st167⟩ := X0.virtualBack hx (y := yN30) (z := yN30) hown (mvT hZ (hv hw 149 rfl)) (mvT hZ (hv hw 70 rfl)) (notFace_of_selects (args := #[]) (mvT hZ (hv hw 72 rfl))) (mvT hZ (hv hw 72 rfl)) (mvT hZ (hv hw 71 rfl)) (by decide) (backOf (W := 0) (rmGl l Z a0 hw [] xy yb _ us h0 n0 X00 G1 S1 P1 Exy Cxy Vxy Axy) hZ (hv hw 73 rfl) (hv hw 7 rfl) (by decide) (by decide)) q167a q167c (g := (mkF m 10 #[vr xb, vr xy, un] [(.ref xy)])) rfl (by rw [hml]; rfl) (Steps.refl _) (argsL := []) (rest := []) (lenOf pd_6 rfl) rfl (by exact Nat.le_of_eq rfl) (hb hby d_jdk_68_m22_10) (fun _ _ => ⟨rfl, e0, (by decide : 0 + 0 ≤ _), (by decide : 0 + 0 ≤ _)⟩)
 dsimp only [Pt.U, Pt.locs, Pt.cells, Pt.slots] at X167 l167 y167 z167 st167 hQ167
 rw [l167, y167, z167] at X167
 obtain ⟨rfl, Nq167, hE167⟩ := hQ167
 have N167 := Fr.app N0 Nq167
 refine Go.tr st167 ?_
 show Go p.tables e below Kx _ (mkF m 13 _ [(.int (Int32.ofNat us.length))])
 refine s_istoreN (pc' := 14) (Ls' := #[vr xb, vr xy, .val (.int (Int32.ofNat us.length))]) X167.here hx (hb hby d_jdk_68_m22_13) rfl  rfl ?_
 refine s_aloadN (pc' := 15) X167.here hx (hb hby d_jdk_68_m22_14) rfl rfl rfl ?_
 refine s_aloadN (pc' := 16) X167.here hx (hb hby d_jdk_68_m22_15) rfl rfl rfl ?_
 obtain ⟨T168, X168, e168, st168⟩ := getF X167 hx hZ hown (host := "") (Or.inl (hv hw 150 rfl)) Via.refl hE167 Nxb (g := (mkF m 16 #[vr xb, vr xy, .val (.int (Int32.ofNat us.length))] [(.ref xb), (.ref xb)])) rfl rfl (hb hby d_jdk_68_m22_16)
 refine Go.st st168 ?_
 show Go p.tables e below Kx _ (mkF m 19 _ [(.int (Int32.ofNat X.length)), (.ref xb)])
 refine s_iloadN (pc' := 20) X168.here hx (hb hby d_jdk_68_m22_19) rfl rfl ?_
 refine s_iadd (pc' := 21) (z := (Int32.ofNat (X ++ us).length)) X168.here hx (hb hby d_jdk_68_m22_20) rfl (lapp _ _) ?_
 obtain ⟨cq172, kq172, q172a, q172b, q172c⟩ := isOf hZ e168 Exb
 obtain ⟨_, _, ⟨T172, L172, k172, n172⟩, -, X172, ⟨Lc172, hQ172, l172, y172, z172⟩, st172⟩ := X168.virtualBack hx (y := yN9) (z := yN9) hown (mvT hZ (hv hw 152 rfl)) (mvT hZ (decl_of (hv hw 153 rfl) (hv hw 156 rfl))) (notFace_of_selects (args := #[]) (mvT hZ (hv hw 155 rfl))) (mvT hZ (hv hw 155 rfl)) (mvT hZ (hv hw 153 rfl)) (by decide) (backOf (W := 0) (rmGe l Z a0 hw [] xb xt _ X (Int32.ofNat (X ++ us).length) h0 n0 X00 Vxb Cxb Axt (cap16 hc)) hZ (hv hw 156 rfl) (hv hw 131 rfl) (by decide) (by decide)) q172a q172c (g := (mkF m 21 #[vr xb, vr xy, .val (.int (Int32.ofNat us.length))] [(.int (Int32.ofNat (X ++ us).length)), (.ref xb)])) rfl (by rw [hml]; rfl) (Steps.refl _) (argsL := [(.int (Int32.ofNat (X ++ us).length))]) (rest := []) (lenOf pd_15 rfl) rfl (by exact Nat.le_of_eq rfl) (hb hby d_jdk_68_m22_21) (fun _ _ => ⟨rfl, e168, (by decide : 0 + 0 ≤ _), (by decide : 0 + 0 ≤ _)⟩)
 dsimp only [Pt.U, Pt.locs, Pt.cells, Pt.slots] at X172 l172 y172 z172 st172 hQ172
 rw [l172, y172, z172] at X172
 obtain ⟨rfl, Nq172, hE172⟩ := hQ172
 have N172 := Fr.app N167 Nq172
 refine Go.tr st172 ?_
 show Go p.tables e below Kx _ (mkF m 24 _ [])
 refine s_aloadN (pc' := 25) X172.here hx (hb hby d_jdk_68_m22_24) rfl rfl rfl ?_
 refine s_aloadN (pc' := 26) X172.here hx (hb hby d_jdk_68_m22_25) rfl rfl rfl ?_
 obtain ⟨T173, X173, e173, st173⟩ := getF X172 hx hZ hown (host := "") (Or.inl (hv hw 150 rfl)) Via.refl hE172 Nxb (g := (mkF m 26 #[vr xb, vr xy, .val (.int (Int32.ofNat us.length))] [(.ref xb), (.ref xb)])) rfl rfl (hb hby d_jdk_68_m22_26)
 refine Go.st st173 ?_
 show Go p.tables e below Kx _ (mkF m 29 _ [(.int (Int32.ofNat X.length)), (.ref xb)])
 refine s_aloadN (pc' := 30) X173.here hx (hb hby d_jdk_68_m22_29) rfl rfl rfl ?_
 obtain ⟨cq186, kq186, q186a, q186b, q186c⟩ := isOf hZ e173 Exb
 obtain ⟨_, _, ⟨T186, L186, k186, n186⟩, -, X186, ⟨Lc186, hQ186, l186, y186, z186⟩, st186⟩ := X173.virtualBack hx (y := yN14) (z := yN14) hown (mvT hZ (hv hw 157 rfl)) (mvT hZ (decl_of (hv hw 158 rfl) (hv hw 161 rfl))) (notFace_of_selects (args := #[]) (mvT hZ (hv hw 160 rfl))) (mvT hZ (hv hw 160 rfl)) (mvT hZ (hv hw 158 rfl)) (by decide) (backOf (W := 0) (rmGp l Z a0 hw [] xb xt xy yb _ _ X us h0 n0 X00 G1 S1 P1 Exb Vxb Cxb Axt Exy Cxy Vxy Axy ge_xt hc) hZ (hv hw 161 rfl) (hv hw 131 rfl) (by decide) (by decide)) q186a q186c (g := (mkF m 30 #[vr xb, vr xy, .val (.int (Int32.ofNat us.length))] [(.ref xy), (.int (Int32.ofNat X.length)), (.ref xb)])) rfl (by rw [hml]; rfl) (Steps.refl _) (argsL := [(.int (Int32.ofNat X.length)), (.ref xy)]) (rest := []) (lenOf pd_19 rfl) rfl (by exact Nat.le_of_eq rfl) (hb hby d_jdk_68_m22_30) (fun _ _ => ⟨rfl, e173, (by decide : 0 + 0 ≤ _), (by decide : 0 + 0 ≤ _)⟩)
 dsimp only [Pt.U, Pt.locs, Pt.cells, Pt.slots] at X186 l186 y186 z186 st186 hQ186
 rw [l186, y186, z186] at X186
 obtain ⟨rfl, Nq186, Kq186, q1_186⟩ := hQ186
 have N186 := Fr.app N172 Nq186
 have K186 : Keep h0 T186.heap [xb, xt] := K0.trans Kq186 (allS (P := fun zz => zz ∈ [xb, xt] ∨ h0.size ≤ zz) (Or.inl (List.mem_of_getElem? (i := 1) rfl)) all0)
 have O186 : Old Z n0 T186.heap := X00.keep Kq186 (allS ge_xt all0)
 refine Go.tr st186 ?_
 show Go p.tables e below Kx _ (mkF m 33 _ [])
 refine s_aloadN (pc' := 34) X186.here hx (hb hby d_jdk_68_m22_33) rfl rfl rfl ?_
 refine s_dup (pc' := 35) X186.here hx (hb hby d_jdk_68_m22_34) rfl rfl ?_
 have f187 : Fld Z T186.heap xb "java/lang/AbstractStringBuilder" "count" "I" (.int (Int32.ofNat X.length)) := (Nxb.keep Kq186 (ninS nbt nin0))
 obtain ⟨T188, X188, e188, st188⟩ := getF X186 hx hZ hown (host := "") (Or.inl (hv hw 150 rfl)) Via.refl rfl f187 (g := (mkF m 35 #[vr xb, vr xy, .val (.int (Int32.ofNat us.length))] [(.ref xb), (.ref xb)])) rfl rfl (hb hby d_jdk_68_m22_35)
 refine Go.st st188 ?_
 show Go p.tables e below Kx _ (mkF m 38 _ [(.int (Int32.ofNat X.length)), (.ref xb)])
 refine s_iloadN (pc' := 39) X188.here hx (hb hby d_jdk_68_m22_38) rfl rfl ?_
 refine s_iadd (pc' := 40) (z := (Int32.ofNat (X ++ us).length)) X188.here hx (hb hby d_jdk_68_m22_39) rfl (lapp _ _) ?_
 have f189 : Exa Z T186.heap xb "java/lang/StringBuilder" := (Exb.keep Kq186)
 obtain ⟨T190, h190, X190, e190, W190, st190⟩ := putF X188 hx hZ hown (host := "") (Or.inl (hv hw 150 rfl)) Via.refl e188 f187 f189 (Or.inl (hv hw 151 rfl)) (hv hw 122 rfl) (ty := .int) (by decide) rfl rfl (g := (mkF m 40 #[vr xb, vr xy, .val (.int (Int32.ofNat us.length))] [(.int (Int32.ofNat (X ++ us).length)), (.ref xb)])) rfl rfl (hb hby d_jdk_68_m22_40)
 have Fw190 : Fld Z h190 xb "java/lang/AbstractStringBuilder" "count" "I" (.int (Int32.ofNat (X ++ us).length)) := f187.same W190
 have K190 : Keep h0 h190 [xb, xt] := K186.wr W190 (Or.inl (List.mem_of_getElem? (i := 0) rfl))
 have O190 : Old Z n0 h190 := O186.wr W190 ge_xb
 have N190 := Fr.snoc X190 N186 ge_xb
 refine Go.st st190 ?_
 show Go p.tables e below Kx _ (mkF m 43 _ [])
 refine s_aloadN (pc' := 44) X190.here hx (hb hby d_jdk_68_m22_43) rfl rfl rfl ?_
 have f191 : Exa Z h190 xb "java/lang/StringBuilder" := (f189.wr W190)
 have f192 : Fld Z h190 xb "java/lang/AbstractStringBuilder" "value" "[B" (.ref xt) := ((Vxb.keep Kq186 (ninS nbt nin0)).other W190 (Or.inr (slot_ne (Or.inl (hv hw 136 rfl)) (Or.inl (hv hw 151 rfl)) (by decide) (t := (.array .byte)) (t' := .int) (by decide) (by decide))))
 have f193 : Fld Z h190 xb "java/lang/AbstractStringBuilder" "coder" "B" (.int 0) := ((Cxb.keep Kq186 (ninS nbt nin0)).other W190 (Or.inr (slot_ne (Or.inl (hv hw 138 rfl)) (Or.inl (hv hw 151 rfl)) (by decide) (t := .byte) (t' := .int) (by decide) (by decide))))
 have f194 : Arv Z h190 xt kt .byte 16 (pad 16 (X ++ us)) (.int 0) := (q1_186.other W190 (Ne.symm nbt))
 obtain ⟨fs, hr, hrun, hended, hW, hsame⟩ := X190.leave (v := (some (.ref xb))) (fun h => by rw [Bd.returns] at h; cases h)
 refine Go.fin (retOut X190 hx Bd.returns rfl (Or.inr (Or.inr (Or.inr (Or.inr ⟨rfl, rfl, rfl⟩)))) (hb hby d_jdk_68_m22_44) hr) (hF _ _ hrun hended ⟨_, _, rfl, ?_, ⟨_, rfl⟩, hW, hsame.mono (by decide) (by decide)⟩)
 ·
  show QGa Z xb xt xy yb ky kt X us h0 n0 ((some (.ref xb)) : Option Value) T190.heap _
  rw [e190]
  exact ⟨rfl, N190, K190, f191, f192, f193, Fw190, f194⟩
theorem pd_20 : parseMethodDescriptor "(Ljava/lang/String;)Ljava/lang/AbstractStringBuilder;" = some ⟨[(.object "java/lang/String")], some (.object "java/lang/AbstractStringBuilder")⟩ := by decide +kernel
theorem d_jdk_67_m7_2 : decode jdk_67_method_7_code 2 = .ok (.invokespecial 29, 3) := by decide +kernel
theorem d_jdk_67_m7_5 : decode jdk_67_method_7_code 5 = .ok (.pop, 1) := by decide +kernel
theorem d_jdk_67_m7_6 : decode jdk_67_method_7_code 6 = .ok (.aload_n 0, 1) := by decide +kernel
theorem d_jdk_67_m7_7 : decode jdk_67_method_7_code 7 = .ok (.areturn, 1) := by decide +kernel
def QGs (Z : State) (xb xt xy yb : Addr) (ky kt : ClassId) (X us : List Int32) (h0 : Heap) (n0 : Nat) (v : Option Value) (h : Heap) (L : List Loc) : Prop := v = some (.ref xb) ∧ Fr n0 L ∧ Keep h0 h [xb, xt] ∧ Exa Z h xb "java/lang/StringBuilder" ∧ Fld Z h xb "java/lang/AbstractStringBuilder" "value" "[B" (.ref xt) ∧ Fld Z h xb "java/lang/AbstractStringBuilder" "coder" "B" (.int 0) ∧ Fld Z h xb "java/lang/AbstractStringBuilder" "count" "I" (.int (Int32.ofNat (X ++ us).length)) ∧ Arv Z h xt kt .byte 16 (pad 16 (X ++ us)) (.int 0)
set_option maxRecDepth 65536 in
set_option maxHeartbeats 40000000 in
theorem rmGs (l : Launch) (Z : State) (a0 : Array Value) (hw : ∀ d ∈ tables_1, d.before a0 Z = true) (ws : List Jvm.Cond) (xb xt xy yb : Addr) (ky kt : ClassId) (X us : List Int32) (h0 : Heap) (n0 : Nat) (X00 : Old Z n0 h0) (G1 : Int32) (S1 : Sta Z Z.heap "java/lang/String" "COMPACT_STRINGS" "Z" (.int G1)) (P1 : ¬ G1 = 0) (Exb : Exa Z h0 xb "java/lang/StringBuilder") (Vxb : Fld Z h0 xb "java/lang/AbstractStringBuilder" "value" "[B" (.ref xt)) (Cxb : Fld Z h0 xb "java/lang/AbstractStringBuilder" "coder" "B" (.int 0)) (Nxb : Fld Z h0 xb "java/lang/AbstractStringBuilder" "count" "I" (.int (Int32.ofNat X.length))) (Axt : Arv Z h0 xt kt .byte 16 (pad 16 X) (.int 0)) (Exy : Exa Z h0 xy "java/lang/String") (Cxy : Fld Z h0 xy "java/lang/String" "coder" "B" (.int 0)) (Vxy : Fld Z h0 xy "java/lang/String" "value" "[B" (.ref yb)) (Axy : Arv Z h0 yb ky .byte (Int32.ofNat us.length) (us.map Value.int) (.int 0)) (ge_xb : n0 ≤ xb) (ge_xt : n0 ≤ xt) (nbt : xb ≠ xt) (hc : X.length + us.length ≤ 16) :
  MetFree l yN32 (head1 (Jvm.Cond.code yN32 jdk_67_method_7_code 2 (some (.object "java/lang/StringBuilder")) :: ws) ({ frames := 4, cells := 0, slots := 0, locals := 61 } : Room)) (fun aa U => aa = #[(.ref xb), (.ref xy)] ∧ Z.Warmed39 U.vm ∧ U.heap = h0) (fun _ _ _ _ _ => True) (fun _ U o U' => ∃ v L, o = .returned v ∧ QGs Z xb xt xy yb ky kt X us h0 n0 v U'.heap L ∧ FrameEnd U o U' L ({ frames := 4, cells := 0, slots := 0, locals := 61 } : Room).cells ({ frames := 4, cells := 0, slots := 0, locals := 61 } : Room).slots) := by
 refine MetFree.of_bodySF (plainFor_of_name pn_5) hisR ?_
 intro p e s m args below meth c s₁ Bd hml0 hP hK
 obtain ⟨rfl, hZ, hh⟩ := hP
 have hx := Bd.exec
 have hby := Bd.bytes
 have hml : c.maxLocals = 2 := hml0
 have hown : s.vm.findClass "java/lang/StringBuilder" = some m.cls := findClass_of_methodNamed Bd.named
 have hnm := (name_of_methodNamed Bd.named Bd.method).1
 have X0 : Stand p l e ({ frames := 4, cells := 0, slots := 0, locals := 61 } : Room) s m #[(.ref xb), (.ref xy)] below meth c s₁ [] 0 0 := Stand.of_body Bd
 have e0 : s₁.heap = h0 := by rw [← hh, Bd.state]; rfl
 have N0 := Fr.nil n0
 have K0 := Keep.refl h0 [xb, xt]
 have ef : entryFrame m #[(.ref xb), (.ref xy)] 2 = mkF m 0 #[vr xb, vr xy] [] := (by first | (simp [entryFrame, mkF, argsToLocals, Value.category]; done) | rfl : entryFrame m #[(.ref xb), (.ref xy)] 2 = mkF m 0 #[vr xb, vr xy] [])
 rw [ef]
 refine fin_of fun Kx hF => ?_
 show Go p.tables e below Kx _ (mkF m 0 _ [])
 refine s_aloadN (pc' := 1) X0.here hx (hb hby d_jdk_67_m7_0) rfl rfl rfl ?_
 refine s_aloadN (pc' := 2) X0.here hx (hb hby d_jdk_67_m7_1) rfl rfl rfl ?_
 obtain ⟨_, _, ⟨T195, L195, k195, n195⟩, -, X195, ⟨Lc195, hQ195, l195, y195, z195⟩, st195⟩ := superBack X0 hx hZ (y := yN8) hown (hv hw 144 rfl) (same_of (y := yN8) (z := yN9) (by decide) (hv hw 145 rfl) rfl (hv hw 155 rfl)) (hv hw 145 rfl) (hv hw 146 rfl) (by decide) (backOf (W := 0) (rmGa l Z a0 hw [] xb xt xy yb _ _ X us h0 n0 X00 G1 S1 P1 Exb Vxb Cxb Nxb Axt Exy Cxy Vxy Axy ge_xb ge_xt nbt hc) hZ (hv hw 148 rfl) (hv hw 131 rfl) (by decide) (by decide)) e0 (Ins.self Exb) (g := (mkF m 2 #[vr xb, vr xy] [(.ref xy), (.ref xb)])) rfl (by rw [hml]; rfl) (hv hw 148 rfl) (argsL := [(.ref xy)]) (rest := []) (lenOf pd_20 rfl) rfl (by exact Nat.le_of_eq rfl) (hb hby d_jdk_67_m7_2) (fun _ _ => ⟨rfl, e0, (by decide : 0 + 0 ≤ _), (by decide : 0 + 0 ≤ _)⟩)
 dsimp only [Pt.U, Pt.locs, Pt.cells, Pt.slots] at X195 l195 y195 z195 st195 hQ195
 rw [l195, y195, z195] at X195
 obtain ⟨rfl, Nq195, Kq195, q1_195, q2_195, q3_195, q4_195, q5_195⟩ := hQ195
 have N195 := Fr.app N0 Nq195
 have K195 : Keep h0 T195.heap [xb, xt] := K0.trans Kq195 (allS (P := fun zz => zz ∈ [xb, xt] ∨ h0.size ≤ zz) (Or.inl (List.mem_of_getElem? (i := 0) rfl)) (allS (P := fun zz => zz ∈ [xb, xt] ∨ h0.size ≤ zz) (Or.inl (List.mem_of_getElem? (i := 1) rfl)) all0))
 have O195 : Old Z n0 T195.heap := X00.keep Kq195 (allS ge_xb (allS ge_xt all0))
 refine Go.tr st195 ?_
 show Go p.tables e below Kx _ (mkF m 5 _ [(.ref xb)])
 refine s_pop (pc' := 6) X195.here hx (hb hby d_jdk_67_m7_5) rfl rfl ?_
 refine s_aloadN (pc' := 7) X195.here hx (hb hby d_jdk_67_m7_6) rfl rfl rfl ?_
 obtain ⟨fs, hr, hrun, hended, hW, hsame⟩ := X195.leave (v := (some (.ref xb))) (fun h => by rw [Bd.returns] at h; cases h)
 refine Go.fin (retOut X195 hx Bd.returns rfl (Or.inr (Or.inr (Or.inr (Or.inr ⟨rfl, rfl, rfl⟩)))) (hb hby d_jdk_67_m7_7) hr) (hF _ _ hrun hended ⟨_, _, rfl, ?_, ⟨_, rfl⟩, hW, hsame.mono (by decide) (by decide)⟩)
 ·
  show QGs Z xb xt xy yb ky kt X us h0 n0 ((some (.ref xb)) : Option Value) T195.heap _
  skip
  exact ⟨rfl, N195, K195, q1_195, q2_195, q3_195, q4_195, q5_195⟩
theorem pd_21 : parseMethodDescriptor "(Ljava/lang/String;)Ljava/lang/StringBuilder;" = some ⟨[(.object "java/lang/String")], some (.object "java/lang/StringBuilder")⟩ := by decide +kernel
theorem d_prog_15_m5_11 : decode prog_15_method_5_code 11 = .ok (.invokevirtual 48, 3) := by decide +kernel
theorem d_prog_15_m5_14 : decode prog_15_method_5_code 14 = .ok (.ldc 78, 2) := by decide +kernel
theorem d_prog_15_m5_16 : decode prog_15_method_5_code 16 = .ok (.invokevirtual 48, 3) := by decide +kernel
theorem d_prog_15_m5_19 : decode prog_15_method_5_code 19 = .ok (.aload_n 0, 1) := by decide +kernel
theorem d_prog_15_m5_20 : decode prog_15_method_5_code 20 = .ok (.getfield 13, 3) := by decide +kernel
theorem d_prog_15_m5_23 : decode prog_15_method_5_code 23 = .ok (.invokevirtual 48, 3) := by decide +kernel
theorem d_jdk_67_m42_0 : decode jdk_67_method_42_code 0 = .ok (.new 18, 3) := by decide +kernel
theorem d_jdk_67_m42_3 : decode jdk_67_method_42_code 3 = .ok (.dup, 1) := by decide +kernel
theorem d_jdk_67_m42_4 : decode jdk_67_method_42_code 4 = .ok (.aload_n 0, 1) := by decide +kernel
theorem d_jdk_42_m53_0 : decode jdk_42_method_53_code 0 = .ok (.aload_n 0, 1) := by decide +kernel
theorem d_jdk_42_m53_1 : decode jdk_42_method_53_code 1 = .ok (.aload_n 1, 1) := by decide +kernel
theorem d_jdk_42_m53_2 : decode jdk_42_method_53_code 2 = .ok (.aconst_null, 1) := by decide +kernel
theorem d_jdk_42_m150_0 : decode jdk_42_method_150_code 0 = .ok (.aload_n 0, 1) := by decide +kernel
theorem d_jdk_42_m150_1 : decode jdk_42_method_150_code 1 = .ok (.invokespecial 1, 3) := by decide +kernel
theorem d_jdk_42_m150_4 : decode jdk_42_method_150_code 4 = .ok (.aload_n 1, 1) := by decide +kernel
theorem d_jdk_68_m64_0 : decode jdk_68_method_64_code 0 = .ok (.aload_n 0, 1) := by decide +kernel
theorem d_jdk_68_m64_1 : decode jdk_68_method_64_code 1 = .ok (.getfield 15, 3) := by decide +kernel
theorem d_jdk_68_m64_4 : decode jdk_68_method_64_code 4 = .ok (.areturn, 1) := by decide +kernel
def QKgv (Z : State) (xb xt : Addr) (h0 : Heap) (n0 : Nat) (v : Option Value) (h : Heap) (L : List Loc) : Prop := v = some (.ref xt) ∧ Fr n0 L ∧ h = h0
set_option maxRecDepth 65536 in
set_option maxHeartbeats 40000000 in
theorem rmKgv (l : Launch) (Z : State) (a0 : Array Value) (hw : ∀ d ∈ tables_1, d.before a0 Z = true) (ws : List Jvm.Cond) (xb xt : Addr) (h0 : Heap) (n0 : Nat) (X00 : Old Z n0 h0) (Vxb : Fld Z h0 xb "java/lang/AbstractStringBuilder" "value" "[B" (.ref xt)) :
  MetFree l yN10 (head1 (Jvm.Cond.code yN10 jdk_68_method_64_code 1 (some (.array .byte)) :: ws) ({ frames := 0, cells := 0, slots := 0, locals := 0 } : Room)) (fun aa U => aa = #[(.ref xb)] ∧ Z.Warmed39 U.vm ∧ U.heap = h0) (fun _ _ _ _ _ => True) (fun _ U o U' => ∃ v L, o = .returned v ∧ QKgv Z xb xt h0 n0 v U'.heap L ∧ FrameEnd U o U' L ({ frames := 0, cells := 0, slots := 0, locals := 0 } : Room).cells ({ frames := 0, cells := 0, slots := 0, locals := 0 } : Room).slots) := by
 refine MetFree.of_bodySF (plainFor_of_name pn_6) hisR ?_
 intro p e s m args below meth c s₁ Bd hml0 hP hK
 obtain ⟨rfl, hZ, hh⟩ := hP
 have hx := Bd.exec
 have hby := Bd.bytes
 have hml : c.maxLocals = 1 := hml0
 have hown : s.vm.findClass "java/lang/AbstractStringBuilder" = some m.cls := findClass_of_methodNamed Bd.named
 have hnm := (name_of_methodNamed Bd.named Bd.method).1
 have X0 : Stand p l e ({ frames := 0, cells := 0, slots := 0, locals := 0 } : Room) s m #[(.ref xb)] below meth c s₁ [] 0 0 := Stand.of_body Bd
 have e0 : s₁.heap = h0 := by rw [← hh, Bd.state]; rfl
 have N0 := Fr.nil n0
 have K0 := Keep.refl h0 []
 have ef : entryFrame m #[(.ref xb)] 1 = mkF m 0 #[vr xb] [] := (by first | (simp [entryFrame, mkF, argsToLocals, Value.category]; done) | rfl : entryFrame m #[(.ref xb)] 1 = mkF m 0 #[vr xb] [])
 rw [ef]
 refine fin_of fun Kx hF => ?_
 show Go p.tables e below Kx _ (mkF m 0 _ [])
 refine s_aloadN (pc' := 1) X0.here hx (hb hby d_jdk_68_m64_0) rfl rfl rfl ?_
 obtain ⟨T226, X226, e226, st226⟩ := getF X0 hx hZ hown (host := "") (Or.inl (hv hw 135 rfl)) Via.refl e0 Vxb (g := (mkF m 1 #[vr xb] [(.ref xb)])) rfl rfl (hb hby d_jdk_68_m64_1)
 refine Go.st st226 ?_
 show Go p.tables e below Kx _ (mkF m 4 _ [(.ref xt)])
 obtain ⟨fs, hr, hrun, hended, hW, hsame⟩ := X226.leave (v := (some (.ref xt))) (fun h => by rw [Bd.returns] at h; cases h)
 refine Go.fin (retOut X226 hx Bd.returns rfl (Or.inr (Or.inr (Or.inr (Or.inr ⟨rfl, rfl, rfl⟩)))) (hb hby d_jdk_68_m64_4) hr) (hF _ _ hrun hended ⟨_, _, rfl, ?_, ⟨_, rfl⟩, hW, hsame.mono (by decide) (by decide)⟩)
 ·
  show QKgv Z xb xt h0 n0 ((some (.ref xt)) : Option Value) T226.heap _
  rw [e226]
  exact ⟨rfl, N0, rfl⟩
theorem pd_22 : parseMethodDescriptor "()[B" = some ⟨[], some (.array .byte)⟩ := by decide +kernel
theorem d_jdk_42_m150_5 : decode jdk_42_method_150_code 5 = .ok (.invokevirtual 552, 3) := by decide +kernel
theorem d_jdk_42_m150_8 : decode jdk_42_method_150_code 8 = .ok (.astore_n 3, 1) := by decide +kernel
theorem d_jdk_42_m150_9 : decode jdk_42_method_150_code 9 = .ok (.aload_n 1, 1) := by decide +kernel
theorem d_jdk_67_m93_0 : decode jdk_67_method_93_code 0 = .ok (.aload_n 0, 1) := by decide +kernel
theorem d_jdk_68_m6_0 : decode jdk_68_method_6_code 0 = .ok (.aload_n 0, 1) := by decide +kernel
theorem d_jdk_68_m6_1 : decode jdk_68_method_6_code 1 = .ok (.getfield 79, 3) := by decide +kernel
theorem d_jdk_68_m6_4 : decode jdk_68_method_6_code 4 = .ok (.ireturn, 1) := by decide +kernel
def QGb0 (Z : State) (xb : Addr) (nb : Int32) (h0 : Heap) (n0 : Nat) (v : Option Value) (h : Heap) (L : List Loc) : Prop := v = some (.int nb) ∧ Fr n0 L ∧ h = h0
set_option maxRecDepth 65536 in
set_option maxHeartbeats 40000000 in
theorem rmGb0 (l : Launch) (Z : State) (a0 : Array Value) (hw : ∀ d ∈ tables_1, d.before a0 Z = true) (ws : List Jvm.Cond) (xb : Addr) (nb : Int32) (h0 : Heap) (n0 : Nat) (X00 : Old Z n0 h0) (Exb : Exa Z h0 xb "java/lang/StringBuilder") (Nxb : Fld Z h0 xb "java/lang/AbstractStringBuilder" "count" "I" (.int nb)) :
  MetFree l yN13 (head1 (Jvm.Cond.code yN13 jdk_68_method_6_code 1 (some .int) :: ws) ({ frames := 0, cells := 0, slots := 0, locals := 0 } : Room)) (fun aa U => aa = #[(.ref xb)] ∧ Z.Warmed39 U.vm ∧ U.heap = h0) (fun _ _ _ _ _ => True) (fun _ U o U' => ∃ v L, o = .returned v ∧ QGb0 Z xb nb h0 n0 v U'.heap L ∧ FrameEnd U o U' L ({ frames := 0, cells := 0, slots := 0, locals := 0 } : Room).cells ({ frames := 0, cells := 0, slots := 0, locals := 0 } : Room).slots) := by
 refine MetFree.of_bodySF (plainFor_of_name pn_6) hisR ?_
 intro p e s m args below meth c s₁ Bd hml0 hP hK
 obtain ⟨rfl, hZ, hh⟩ := hP
 have hx := Bd.exec
 have hby := Bd.bytes
 have hml : c.maxLocals = 1 := hml0
 have hown : s.vm.findClass "java/lang/AbstractStringBuilder" = some m.cls := findClass_of_methodNamed Bd.named
 have hnm := (name_of_methodNamed Bd.named Bd.method).1
 have X0 : Stand p l e ({ frames := 0, cells := 0, slots := 0, locals := 0 } : Room) s m #[(.ref xb)] below meth c s₁ [] 0 0 := Stand.of_body Bd
 have e0 : s₁.heap = h0 := by rw [← hh, Bd.state]; rfl
 have N0 := Fr.nil n0
 have K0 := Keep.refl h0 []
 have ef : entryFrame m #[(.ref xb)] 1 = mkF m 0 #[vr xb] [] := (by first | (simp [entryFrame, mkF, argsToLocals, Value.category]; done) | rfl : entryFrame m #[(.ref xb)] 1 = mkF m 0 #[vr xb] [])
 rw [ef]
 refine fin_of fun Kx hF => ?_
 show Go p.tables e below Kx _ (mkF m 0 _ [])
 refine s_aloadN (pc' := 1) X0.here hx (hb hby d_jdk_68_m6_0) rfl rfl rfl ?_
 obtain ⟨T228, X228, e228, st228⟩ := getF X0 hx hZ hown (host := "") (Or.inl (hv hw 150 rfl)) Via.refl e0 Nxb (g := (mkF m 1 #[vr xb] [(.ref xb)])) rfl rfl (hb hby d_jdk_68_m6_1)
 refine Go.st st228 ?_
 show Go p.tables e below Kx _ (mkF m 4 _ [(.int nb)])
 obtain ⟨fs, hr, hrun, hended, hW, hsame⟩ := X228.leave (v := (some (.int nb))) (fun h => by rw [Bd.returns] at h; cases h)
 refine Go.fin (retI X228 hx Bd.returns (hb hby d_jdk_68_m6_4) hr) (hF _ _ hrun hended ⟨_, _, rfl, ?_, ⟨_, rfl⟩, hW, hsame.mono (by decide) (by decide)⟩)
 ·
  show QGb0 Z xb nb h0 n0 ((some (.int nb)) : Option Value) T228.heap _
  rw [e228]
  exact ⟨rfl, N0, rfl⟩
theorem d_jdk_67_m93_1 : decode jdk_67_method_93_code 1 = .ok (.invokespecial 343, 3) := by decide +kernel
theorem d_jdk_67_m93_4 : decode jdk_67_method_93_code 4 = .ok (.ireturn, 1) := by decide +kernel
def QGb1 (Z : State) (xb : Addr) (nb : Int32) (h0 : Heap) (n0 : Nat) (v : Option Value) (h : Heap) (L : List Loc) : Prop := v = some (.int nb) ∧ Fr n0 L ∧ h = h0
set_option maxRecDepth 65536 in
set_option maxHeartbeats 40000000 in
theorem rmGb1 (l : Launch) (Z : State) (a0 : Array Value) (hw : ∀ d ∈ tables_1, d.before a0 Z = true) (ws : List Jvm.Cond) (xb : Addr) (nb : Int32) (h0 : Heap) (n0 : Nat) (X00 : Old Z n0 h0) (Exb : Exa Z h0 xb "java/lang/StringBuilder") (Nxb : Fld Z h0 xb "java/lang/AbstractStringBuilder" "count" "I" (.int nb)) :
  MetFree l yN33 (head1 (Jvm.Cond.code yN33 jdk_67_method_93_code 1 (some .int) :: ws) ({ frames := 1, cells := 0, slots := 0, locals := 12 } : Room)) (fun aa U => aa = #[(.ref xb)] ∧ Z.Warmed39 U.vm ∧ U.heap = h0) (fun _ _ _ _ _ => True) (fun _ U o U' => ∃ v L, o = .returned v ∧ QGb1 Z xb nb h0 n0 v U'.heap L ∧ FrameEnd U o U' L ({ frames := 1, cells := 0, slots := 0, locals := 12 } : Room).cells ({ frames := 1, cells := 0, slots := 0, locals := 12 } : Room).slots) := by
 refine MetFree.of_bodySF (plainFor_of_name pn_5) hisR ?_
 intro p e s m args below meth c s₁ Bd hml0 hP hK
 obtain ⟨rfl, hZ, hh⟩ := hP
 have hx := Bd.exec
 have hby := Bd.bytes
 have hml : c.maxLocals = 1 := hml0
 have hown : s.vm.findClass "java/lang/StringBuilder" = some m.cls := findClass_of_methodNamed Bd.named
 have hnm := (name_of_methodNamed Bd.named Bd.method).1
 have X0 : Stand p l e ({ frames := 1, cells := 0, slots := 0, locals := 12 } : Room) s m #[(.ref xb)] below meth c s₁ [] 0 0 := Stand.of_body Bd
 have e0 : s₁.heap = h0 := by rw [← hh, Bd.state]; rfl
 have N0 := Fr.nil n0
 have K0 := Keep.refl h0 []
 have ef : entryFrame m #[(.ref xb)] 1 = mkF m 0 #[vr xb] [] := (by first | (simp [entryFrame, mkF, argsToLocals, Value.category]; done) | rfl : entryFrame m #[(.ref xb)] 1 = mkF m 0 #[vr xb] [])
 rw [ef]
 refine fin_of fun Kx hF => ?_
 show Go p.tables e below Kx _ (mkF m 0 _ [])
 refine s_aloadN (pc' := 1) X0.here hx (hb hby d_jdk_67_m93_0) rfl rfl rfl ?_
 obtain ⟨_, _, ⟨T229, L229, k229, n229⟩, -, X229, ⟨Lc229, hQ229, l229, y229, z229⟩, st229⟩ := superBack X0 hx hZ (y := yN13) hown (hv hw 201 rfl) (same_of (y := yN13) (z := yN9) (by decide) (hv hw 197 rfl) rfl (hv hw 155 rfl)) (hv hw 197 rfl) (hv hw 146 rfl) (by decide) (backOf (W := 0) (rmGb0 l Z a0 hw [] xb nb h0 n0 X00 Exb Nxb) hZ (hv hw 202 rfl) (hv hw 131 rfl) (by decide) (by decide)) e0 (Ins.self Exb) (g := (mkF m 1 #[vr xb] [(.ref xb)])) rfl (by rw [hml]; rfl) (hv hw 202 rfl) (argsL := []) (rest := []) (lenOf pd_6 rfl) rfl (by exact Nat.le_of_eq rfl) (hb hby d_jdk_67_m93_1) (fun _ _ => ⟨rfl, e0, (by decide : 0 + 0 ≤ _), (by decide : 0 + 0 ≤ _)⟩)
 dsimp only [Pt.U, Pt.locs, Pt.cells, Pt.slots] at X229 l229 y229 z229 st229 hQ229
 rw [l229, y229, z229] at X229
 obtain ⟨rfl, Nq229, hE229⟩ := hQ229
 have N229 := Fr.app N0 Nq229
 refine Go.tr st229 ?_
 show Go p.tables e below Kx _ (mkF m 4 _ [(.int nb)])
 obtain ⟨fs, hr, hrun, hended, hW, hsame⟩ := X229.leave (v := (some (.int nb))) (fun h => by rw [Bd.returns] at h; cases h)
 refine Go.fin (retI X229 hx Bd.returns (hb hby d_jdk_67_m93_4) hr) (hF _ _ hrun hended ⟨_, _, rfl, ?_, ⟨_, rfl⟩, hW, hsame.mono (by decide) (by decide)⟩)
 ·
  show QGb1 Z xb nb h0 n0 ((some (.int nb)) : Option Value) T229.heap _
  rw [hE229]
  exact ⟨rfl, N229, rfl⟩
theorem d_jdk_42_m150_10 : decode jdk_42_method_150_code 10 = .ok (.invokevirtual 549, 3) := by decide +kernel
theorem d_jdk_42_m150_13 : decode jdk_42_method_150_code 13 = .ok (.istore 4, 2) := by decide +kernel
theorem d_jdk_42_m150_15 : decode jdk_42_method_150_code 15 = .ok (.aload_n 1, 1) := by decide +kernel
theorem d_jdk_68_m68_0 : decode jdk_68_method_68_code 0 = .ok (.getstatic 18, 3) := by decide +kernel
theorem d_jdk_68_m68_3 : decode jdk_68_method_68_code 3 = .ok (.ifCond .eq 14, 3) := by decide +kernel
theorem d_jdk_68_m68_6 : decode jdk_68_method_68_code 6 = .ok (.aload_n 0, 1) := by decide +kernel
theorem d_jdk_68_m68_7 : decode jdk_68_method_68_code 7 = .ok (.getfield 22, 3) := by decide +kernel
theorem d_jdk_68_m68_10 : decode jdk_68_method_68_code 10 = .ok (.ifCond .ne 7, 3) := by decide +kernel
theorem d_jdk_68_m68_13 : decode jdk_68_method_68_code 13 = .ok (.iconst 1, 1) := by decide +kernel
theorem d_jdk_68_m68_14 : decode jdk_68_method_68_code 14 = .ok (.goto 4, 3) := by decide +kernel
theorem d_jdk_68_m68_18 : decode jdk_68_method_68_code 18 = .ok (.ireturn, 1) := by decide +kernel
def QKbl (Z : State) (xb : Addr) (h0 : Heap) (n0 : Nat) (v : Option Value) (h : Heap) (L : List Loc) : Prop := v = some (.int 1) ∧ Fr n0 L ∧ h = h0
set_option maxRecDepth 65536 in
set_option maxHeartbeats 40000000 in
theorem rmKbl (l : Launch) (Z : State) (a0 : Array Value) (hw : ∀ d ∈ tables_1, d.before a0 Z = true) (ws : List Jvm.Cond) (xb : Addr) (h0 : Heap) (n0 : Nat) (X00 : Old Z n0 h0) (G1 : Int32) (S1 : Sta Z Z.heap "java/lang/String" "COMPACT_STRINGS" "Z" (.int G1)) (P1 : ¬ G1 = 0) (Cxb : Fld Z h0 xb "java/lang/AbstractStringBuilder" "coder" "B" (.int 0)) :
  MetFree l yN12 (head1 (Jvm.Cond.code yN12 jdk_68_method_68_code 1 (some .boolean) :: ws) ({ frames := 0, cells := 0, slots := 0, locals := 0 } : Room)) (fun aa U => aa = #[(.ref xb)] ∧ Z.Warmed39 U.vm ∧ U.heap = h0) (fun _ _ _ _ _ => True) (fun _ U o U' => ∃ v L, o = .returned v ∧ QKbl Z xb h0 n0 v U'.heap L ∧ FrameEnd U o U' L ({ frames := 0, cells := 0, slots := 0, locals := 0 } : Room).cells ({ frames := 0, cells := 0, slots := 0, locals := 0 } : Room).slots) := by
 refine MetFree.of_bodySF (plainFor_of_name pn_6) hisR ?_
 intro p e s m args below meth c s₁ Bd hml0 hP hK
 obtain ⟨rfl, hZ, hh⟩ := hP
 have hx := Bd.exec
 have hby := Bd.bytes
 have hml : c.maxLocals = 1 := hml0
 have hown : s.vm.findClass "java/lang/AbstractStringBuilder" = some m.cls := findClass_of_methodNamed Bd.named
 have hnm := (name_of_methodNamed Bd.named Bd.method).1
 have X0 : Stand p l e ({ frames := 0, cells := 0, slots := 0, locals := 0 } : Room) s m #[(.ref xb)] below meth c s₁ [] 0 0 := Stand.of_body Bd
 have e0 : s₁.heap = h0 := by rw [← hh, Bd.state]; rfl
 have N0 := Fr.nil n0
 have K0 := Keep.refl h0 []
 have ef : entryFrame m #[(.ref xb)] 1 = mkF m 0 #[vr xb] [] := (by first | (simp [entryFrame, mkF, argsToLocals, Value.category]; done) | rfl : entryFrame m #[(.ref xb)] 1 = mkF m 0 #[vr xb] [])
 rw [ef]
 refine fin_of fun Kx hF => ?_
 show Go p.tables e below Kx _ (mkF m 0 _ [])
 obtain ⟨T231, X231, e231, st231⟩ := getS2 X0 hx hZ hown (host := "") (Or.inl (hv hw 134 rfl)) Via.refl e0 (S1.ext X00.2) (g := (mkF m 0 #[vr xb] [])) rfl (hb hby d_jdk_68_m68_0)
 refine Go.st st231 ?_
 show Go p.tables e below Kx _ (mkF m 3 _ [(.int G1)])
 refine s_ifN (pc' := 6) X231.here hx (hb hby d_jdk_68_m68_3) rfl ((if0 _ _).trans (feq P1).1) ?_
 refine s_aloadN (pc' := 7) X231.here hx (hb hby d_jdk_68_m68_6) rfl rfl rfl ?_
 obtain ⟨T232, X232, e232, st232⟩ := getF X231 hx hZ hown (host := "") (Or.inl (hv hw 137 rfl)) Via.refl e231 Cxb (g := (mkF m 7 #[vr xb] [(.ref xb)])) rfl rfl (hb hby d_jdk_68_m68_7)
 refine Go.st st232 ?_
 show Go p.tables e below Kx _ (mkF m 10 _ [(.int 0)])
 refine s_ifN (pc' := 13) X232.here hx (hb hby d_jdk_68_m68_10) rfl ((if0 _ _).trans (teq (by decide)).2) ?_
 refine s_iconst (pc' := 14) (v := 1) X232.here hx (hb hby d_jdk_68_m68_13) rfl rfl ?_
 refine s_goto (pc' := 18) X232.here hx (hb hby d_jdk_68_m68_14) (by decide) (by decide) ?_
 obtain ⟨fs, hr, hrun, hended, hW, hsame⟩ := X232.leave (v := (some (.int 1))) (fun h => by rw [Bd.returns] at h; cases h)
 refine Go.fin (retN X232 hx (t := .boolean) Bd.returns (by simp) (hb hby d_jdk_68_m68_18) hr) (hF _ _ hrun hended ⟨_, _, rfl, ?_, ⟨_, rfl⟩, hW, hsame.mono (by decide) (by decide)⟩)
 ·
  show QKbl Z xb h0 n0 ((some (.int 1)) : Option Value) T232.heap _
  rw [e232]
  exact ⟨rfl, N0, rfl⟩
theorem d_jdk_42_m150_16 : decode jdk_42_method_150_code 16 = .ok (.invokevirtual 1047, 3) := by decide +kernel
theorem d_jdk_42_m150_19 : decode jdk_42_method_150_code 19 = .ok (.ifCond .eq 22, 3) := by decide +kernel
theorem d_jdk_42_m150_22 : decode jdk_42_method_150_code 22 = .ok (.aload_n 0, 1) := by decide +kernel
theorem d_jdk_42_m150_23 : decode jdk_42_method_150_code 23 = .ok (.iconst 0, 1) := by decide +kernel
theorem d_jdk_42_m150_24 : decode jdk_42_method_150_code 24 = .ok (.putfield 15, 3) := by decide +kernel
theorem d_jdk_42_m150_27 : decode jdk_42_method_150_code 27 = .ok (.aload_n 0, 1) := by decide +kernel
theorem d_jdk_42_m150_28 : decode jdk_42_method_150_code 28 = .ok (.aload_n 3, 1) := by decide +kernel
theorem d_jdk_42_m150_29 : decode jdk_42_method_150_code 29 = .ok (.iconst 0, 1) := by decide +kernel
theorem d_jdk_42_m150_30 : decode jdk_42_method_150_code 30 = .ok (.iload 4, 2) := by decide +kernel
theorem pn_7 : plainName "java/util/Arrays" = true := by first | (simp [plainName, overriddenIn]; done) | decide +kernel
theorem d_jdk_65_m132_0 : decode jdk_65_method_132_code 0 = .ok (.iload_n 1, 1) := by decide +kernel
theorem d_jdk_65_m132_1 : decode jdk_65_method_132_code 1 = .ok (.ifCond .ne 9, 3) := by decide +kernel
theorem d_jdk_65_m132_4 : decode jdk_65_method_132_code 4 = .ok (.iload_n 2, 1) := by decide +kernel
theorem d_jdk_65_m132_5 : decode jdk_65_method_132_code 5 = .ok (.aload_n 0, 1) := by decide +kernel
theorem d_jdk_65_m132_6 : decode jdk_65_method_132_code 6 = .ok (.arraylength, 1) := by decide +kernel
theorem d_jdk_65_m132_7 : decode jdk_65_method_132_code 7 = .ok (.if_icmp .eq 10, 3) := by decide +kernel
theorem d_jdk_65_m132_10 : decode jdk_65_method_132_code 10 = .ok (.aload_n 0, 1) := by decide +kernel
theorem d_jdk_65_m132_11 : decode jdk_65_method_132_code 11 = .ok (.iload_n 1, 1) := by decide +kernel
theorem d_jdk_65_m132_12 : decode jdk_65_method_132_code 12 = .ok (.iload_n 2, 1) := by decide +kernel
theorem d_jdk_65_m133_0 : decode jdk_65_method_133_code 0 = .ok (.iload_n 1, 1) := by decide +kernel
theorem d_jdk_65_m133_1 : decode jdk_65_method_133_code 1 = .ok (.iload_n 2, 1) := by decide +kernel
theorem d_jdk_65_m131_0 : decode jdk_65_method_131_code 0 = .ok (.iload_n 1, 1) := by decide +kernel
theorem d_jdk_65_m131_1 : decode jdk_65_method_131_code 1 = .ok (.iload_n 0, 1) := by decide +kernel
theorem d_jdk_65_m131_2 : decode jdk_65_method_131_code 2 = .ok (.if_icmp .ge 35, 3) := by decide +kernel
theorem d_jdk_65_m131_37 : decode jdk_65_method_131_code 37 = .ok (.return_, 1) := by decide +kernel
def QGck (Z : State) (jb : Int32) (h0 : Heap) (n0 : Nat) (v : Option Value) (h : Heap) (L : List Loc) : Prop := v = none ∧ Fr n0 L ∧ h = h0
set_option maxRecDepth 65536 in
set_option maxHeartbeats 40000000 in
theorem rmGck (l : Launch) (Z : State) (a0 : Array Value) (hw : ∀ d ∈ tables_1, d.before a0 Z = true) (ws : List Jvm.Cond) (jb : Int32) (h0 : Heap) (n0 : Nat) (X00 : Old Z n0 h0) (hlt : ¬ jb < 0) :
  MetFree l yN42 (head1 (Jvm.Cond.code yN42 jdk_65_method_131_code 2 none :: ws) ({ frames := 0, cells := 0, slots := 0, locals := 0 } : Room)) (fun aa U => aa = #[(.int 0), (.int jb)] ∧ Z.Warmed39 U.vm ∧ U.heap = h0) (fun _ _ _ _ _ => True) (fun _ U o U' => ∃ v L, o = .returned v ∧ QGck Z jb h0 n0 v U'.heap L ∧ FrameEnd U o U' L ({ frames := 0, cells := 0, slots := 0, locals := 0 } : Room).cells ({ frames := 0, cells := 0, slots := 0, locals := 0 } : Room).slots) := by
 refine MetFree.of_bodySF (plainFor_of_name pn_7) hisR ?_
 intro p e s m args below meth c s₁ Bd hml0 hP hK
 obtain ⟨rfl, hZ, hh⟩ := hP
 have hx := Bd.exec
 have hby := Bd.bytes
 have hml : c.maxLocals = 2 := hml0
 have hown : s.vm.findClass "java/util/Arrays" = some m.cls := findClass_of_methodNamed Bd.named
 have hnm := (name_of_methodNamed Bd.named Bd.method).1
 have X0 : Stand p l e ({ frames := 0, cells := 0, slots := 0, locals := 0 } : Room) s m #[(.int 0), (.int jb)] below meth c s₁ [] 0 0 := Stand.of_body Bd
 have e0 : s₁.heap = h0 := by rw [← hh, Bd.state]; rfl
 have N0 := Fr.nil n0
 have K0 := Keep.refl h0 []
 have ef : entryFrame m #[(.int 0), (.int jb)] 2 = mkF m 0 #[vi 0, vi jb] [] := (by first | (simp [entryFrame, mkF, argsToLocals, Value.category]; done) | rfl : entryFrame m #[(.int 0), (.int jb)] 2 = mkF m 0 #[vi 0, vi jb] [])
 rw [ef]
 refine fin_of fun Kx hF => ?_
 show Go p.tables e below Kx _ (mkF m 0 _ [])
 refine s_iloadN (pc' := 1) X0.here hx (hb hby d_jdk_65_m131_0) rfl rfl ?_
 refine s_iloadN (pc' := 2) X0.here hx (hb hby d_jdk_65_m131_1) rfl rfl ?_
 refine s_icmpY (pc' := 37) X0.here hx (hb hby d_jdk_65_m131_2) (flt hlt).2.1 (by decide) (by decide) ?_
 obtain ⟨fs, hr, hrun, hended, hW, hsame⟩ := X0.leave (v := none) (fun _ => rfl)
 refine Go.fin (X0.returnOut hx Bd.returns (hb hby d_jdk_65_m131_37) hr) (hF _ _ hrun hended ⟨_, _, rfl, ?_, ⟨_, rfl⟩, hW, hsame.mono (by decide) (by decide)⟩)
 ·
  show QGck Z jb h0 n0 (none : Option Value) s₁.heap _
  rw [e0]
  exact ⟨rfl, N0, rfl⟩
theorem pd_23 : parseMethodDescriptor "(II)V" = some ⟨[.int, .int], none⟩ := by decide +kernel
theorem d_jdk_65_m133_2 : decode jdk_65_method_133_code 2 = .ok (.invokestatic 343, 3) := by decide +kernel
theorem d_jdk_65_m133_5 : decode jdk_65_method_133_code 5 = .ok (.iload_n 2, 1) := by decide +kernel
theorem d_jdk_65_m133_6 : decode jdk_65_method_133_code 6 = .ok (.iload_n 1, 1) := by decide +kernel
theorem d_jdk_65_m133_7 : decode jdk_65_method_133_code 7 = .ok (.isub, 1) := by decide +kernel
theorem d_jdk_65_m133_8 : decode jdk_65_method_133_code 8 = .ok (.istore_n 3, 1) := by decide +kernel
theorem d_jdk_65_m133_9 : decode jdk_65_method_133_code 9 = .ok (.iload_n 3, 1) := by decide +kernel
theorem d_jdk_65_m133_10 : decode jdk_65_method_133_code 10 = .ok (.newarray .byte, 2) := by decide +kernel
theorem d_jdk_65_m133_12 : decode jdk_65_method_133_code 12 = .ok (.astore 4, 2) := by decide +kernel
theorem d_jdk_65_m133_14 : decode jdk_65_method_133_code 14 = .ok (.aload_n 0, 1) := by decide +kernel
theorem d_jdk_65_m133_15 : decode jdk_65_method_133_code 15 = .ok (.iload_n 1, 1) := by decide +kernel
theorem d_jdk_65_m133_16 : decode jdk_65_method_133_code 16 = .ok (.aload 4, 2) := by decide +kernel
theorem d_jdk_65_m133_18 : decode jdk_65_method_133_code 18 = .ok (.iconst 0, 1) := by decide +kernel
theorem d_jdk_65_m133_19 : decode jdk_65_method_133_code 19 = .ok (.aload_n 0, 1) := by decide +kernel
theorem d_jdk_65_m133_20 : decode jdk_65_method_133_code 20 = .ok (.arraylength, 1) := by decide +kernel
theorem d_jdk_65_m133_21 : decode jdk_65_method_133_code 21 = .ok (.iload_n 1, 1) := by decide +kernel
theorem d_jdk_65_m133_22 : decode jdk_65_method_133_code 22 = .ok (.isub, 1) := by decide +kernel
theorem d_jdk_65_m133_23 : decode jdk_65_method_133_code 23 = .ok (.iload_n 3, 1) := by decide +kernel
theorem d_jdk_29_m69_9 : decode jdk_29_method_69_code 9 = .ok (.iload_n 1, 1) := by decide +kernel
def QGmin (Z : State) (ja jb : Int32) (h0 : Heap) (n0 : Nat) (v : Option Value) (h : Heap) (L : List Loc) : Prop := v = some (.int jb) ∧ Fr n0 L ∧ h = h0
set_option maxRecDepth 65536 in
set_option maxHeartbeats 40000000 in
theorem rmGmin (l : Launch) (Z : State) (a0 : Array Value) (hw : ∀ d ∈ tables_1, d.before a0 Z = true) (ws : List Jvm.Cond) (ja jb : Int32) (h0 : Heap) (n0 : Nat) (X00 : Old Z n0 h0) (hlt : jb < ja) :
  MetFree l yN16 (head1 (Jvm.Cond.code yN16 jdk_29_method_69_code 2 (some .int) :: ws) ({ frames := 0, cells := 0, slots := 0, locals := 0 } : Room)) (fun aa U => aa = #[(.int ja), (.int jb)] ∧ Z.Warmed39 U.vm ∧ U.heap = h0) (fun _ _ _ _ _ => True) (fun _ U o U' => ∃ v L, o = .returned v ∧ QGmin Z ja jb h0 n0 v U'.heap L ∧ FrameEnd U o U' L ({ frames := 0, cells := 0, slots := 0, locals := 0 } : Room).cells ({ frames := 0, cells := 0, slots := 0, locals := 0 } : Room).slots) := by
 refine MetFree.of_bodySF (Jvm.Free.JP.mathPlain rfl (by decide +kernel)) hisR ?_
 intro p e s m args below meth c s₁ Bd hml0 hP hK
 obtain ⟨rfl, hZ, hh⟩ := hP
 have hx := Bd.exec
 have hby := Bd.bytes
 have hml : c.maxLocals = 2 := hml0
 have hown : s.vm.findClass "java/lang/Math" = some m.cls := findClass_of_methodNamed Bd.named
 have hnm := (name_of_methodNamed Bd.named Bd.method).1
 have X0 : Stand p l e ({ frames := 0, cells := 0, slots := 0, locals := 0 } : Room) s m #[(.int ja), (.int jb)] below meth c s₁ [] 0 0 := Stand.of_body Bd
 have e0 : s₁.heap = h0 := by rw [← hh, Bd.state]; rfl
 have N0 := Fr.nil n0
 have K0 := Keep.refl h0 []
 have ef : entryFrame m #[(.int ja), (.int jb)] 2 = mkF m 0 #[vi ja, vi jb] [] := (by first | (simp [entryFrame, mkF, argsToLocals, Value.category]; done) | rfl : entryFrame m #[(.int ja), (.int jb)] 2 = mkF m 0 #[vi ja, vi jb] [])
 rw [ef]
 refine fin_of fun Kx hF => ?_
 show Go p.tables e below Kx _ (mkF m 0 _ [])
 refine s_iloadN (pc' := 1) X0.here hx (hb hby d_jdk_29_m69_0) rfl rfl ?_
 refine s_iloadN (pc' := 2) X0.here hx (hb hby d_jdk_29_m69_1) rfl rfl ?_
 refine s_icmpY (pc' := 9) X0.here hx (hb hby d_jdk_29_m69_2) (tlt hlt).2.2.1 (by decide) (by decide) ?_
 refine s_iloadN (pc' := 10) X0.here hx (hb hby d_jdk_29_m69_9) rfl rfl ?_
 obtain ⟨fs, hr, hrun, hended, hW, hsame⟩ := X0.leave (v := (some (.int jb))) (fun h => by rw [Bd.returns] at h; cases h)
 refine Go.fin (retI X0 hx Bd.returns (hb hby d_jdk_29_m69_10) hr) (hF _ _ hrun hended ⟨_, _, rfl, ?_, ⟨_, rfl⟩, hW, hsame.mono (by decide) (by decide)⟩)
 ·
  show QGmin Z ja jb h0 n0 ((some (.int jb)) : Option Value) s₁.heap _
  rw [e0]
  exact ⟨rfl, N0, rfl⟩
theorem d_jdk_65_m133_24 : decode jdk_65_method_133_code 24 = .ok (.invokestatic 304, 3) := by decide +kernel
theorem d_jdk_65_m133_27 : decode jdk_65_method_133_code 27 = .ok (.invokestatic 150, 3) := by decide +kernel
theorem d_jdk_65_m133_30 : decode jdk_65_method_133_code 30 = .ok (.aload 4, 2) := by decide +kernel
theorem d_jdk_65_m133_32 : decode jdk_65_method_133_code 32 = .ok (.areturn, 1) := by decide +kernel
def QGq (Z : State) (xt : Addr) (kt : ClassId) (X : List Int32) (h0 : Heap) (n0 : Nat) (v : Option Value) (h : Heap) (L : List Loc) : Prop := ∃ (t : Addr) (k : ClassId), v = some (.ref t) ∧ Fr n0 L ∧ Keep h0 h [] ∧ h0.size ≤ t ∧ Exa Z h t "[B" ∧ Arv Z h t k .byte (Int32.ofNat X.length) (X.map Value.int) (.int 0)
set_option maxRecDepth 65536 in
set_option maxHeartbeats 40000000 in
theorem rmGq (l : Launch) (Z : State) (a0 : Array Value) (hw : ∀ d ∈ tables_1, d.before a0 Z = true) (ws : List Jvm.Cond) (xt : Addr) (kt : ClassId) (X : List Int32) (h0 : Heap) (n0 : Nat) (X00 : Old Z n0 h0) (Axt : Arv Z h0 xt kt .byte 16 (pad 16 X) (.int 0)) (hl : X.length < 16) :
  MetFree l yN45 (head1 (Jvm.Cond.code yN45 jdk_65_method_133_code 5 (some (.array .byte)) :: ws) ({ frames := 1, cells := 1, slots := 16, locals := 18 } : Room)) (fun aa U => aa = #[(.ref xt), (.int 0), (.int (Int32.ofNat X.length))] ∧ Z.Warmed39 U.vm ∧ U.heap = h0) (fun _ _ _ _ _ => True) (fun _ U o U' => ∃ v L, o = .returned v ∧ QGq Z xt kt X h0 n0 v U'.heap L ∧ FrameEnd U o U' L ({ frames := 1, cells := 1, slots := 16, locals := 18 } : Room).cells ({ frames := 1, cells := 1, slots := 16, locals := 18 } : Room).slots) := by
 refine MetFree.of_bodySF (plainFor_of_name pn_7) hisR ?_
 intro p e s m args below meth c s₁ Bd hml0 hP hK
 obtain ⟨rfl, hZ, hh⟩ := hP
 have hx := Bd.exec
 have hby := Bd.bytes
 have hml : c.maxLocals = 5 := hml0
 have hown : s.vm.findClass "java/util/Arrays" = some m.cls := findClass_of_methodNamed Bd.named
 have hnm := (name_of_methodNamed Bd.named Bd.method).1
 have X0 : Stand p l e ({ frames := 1, cells := 1, slots := 16, locals := 18 } : Room) s m #[(.ref xt), (.int 0), (.int (Int32.ofNat X.length))] below meth c s₁ [] 0 0 := Stand.of_body Bd
 have e0 : s₁.heap = h0 := by rw [← hh, Bd.state]; rfl
 have N0 := Fr.nil n0
 have K0 := Keep.refl h0 []
 have ef : entryFrame m #[(.ref xt), (.int 0), (.int (Int32.ofNat X.length))] 5 = mkF m 0 #[vr xt, vi 0, .val (.int (Int32.ofNat X.length)), un, un] [] := (by first | (simp [entryFrame, mkF, argsToLocals, Value.category]; done) | rfl : entryFrame m #[(.ref xt), (.int 0), (.int (Int32.ofNat X.length))] 5 = mkF m 0 #[vr xt, vi 0, .val (.int (Int32.ofNat X.length)), un, un] [])
 rw [ef]
 refine fin_of fun Kx hF => ?_
 show Go p.tables e below Kx _ (mkF m 0 _ [])
 refine s_iloadN (pc' := 1) X0.here hx (hb hby d_jdk_65_m133_0) rfl rfl ?_
 refine s_iloadN (pc' := 2) X0.here hx (hb hby d_jdk_65_m133_1) rfl rfl ?_
 obtain ⟨_, _, ⟨T236, L236, k236, n236⟩, -, X236, ⟨Lc236, hQ236, l236, y236, z236⟩, st236⟩ := Jvm.LawKit.callS X0 hx (y := yN42) hown (mvT hZ (hv hw 215 rfl)) (mvT hZ (hv hw 216 rfl)) (mvT hZ (hv hw 210 rfl)) (mvT hZ (hv hw 217 rfl)) (by decide) (backOf (W := 0) (rmGck l Z a0 hw [] (Int32.ofNat X.length) h0 n0 X00 (nn0 (le4 hl))) hZ (hv hw 217 rfl) (hv hw 210 rfl) (by decide) (by decide)) (g := (mkF m 2 #[vr xt, vi 0, .val (.int (Int32.ofNat X.length)), un, un] [(.int (Int32.ofNat X.length)), (.int 0)])) rfl (by rw [hml]; rfl) (argsL := [(.int 0), (.int (Int32.ofNat X.length))]) (rest := []) (lenOf pd_23 rfl) rfl (by exact Nat.le_of_eq rfl) (hb hby d_jdk_65_m133_2) (fun _ _ => ⟨rfl, e0, (by decide : 0 + 0 ≤ _), (by decide : 0 + 0 ≤ _)⟩)
 dsimp only [Pt.U, Pt.locs, Pt.cells, Pt.slots] at X236 l236 y236 z236 st236 hQ236
 rw [l236, y236, z236] at X236
 obtain ⟨rfl, Nq236, hE236⟩ := hQ236
 have N236 := Fr.app N0 Nq236
 refine Go.st st236 ?_
 show Go p.tables e below Kx _ (mkF m 5 _ [])
 refine s_iloadN (pc' := 6) X236.here hx (hb hby d_jdk_65_m133_5) rfl rfl ?_
 refine s_iloadN (pc' := 7) X236.here hx (hb hby d_jdk_65_m133_6) rfl rfl ?_
 refine s_isub (pc' := 8) (z := (Int32.ofNat X.length)) X236.here hx (hb hby d_jdk_65_m133_7) rfl (Int32.sub_zero _) ?_
 refine s_istoreN (pc' := 9) (Ls' := #[vr xt, vi 0, .val (.int (Int32.ofNat X.length)), .val (.int (Int32.ofNat X.length)), un]) X236.here hx (hb hby d_jdk_65_m133_8) rfl  rfl ?_
 refine s_iloadN (pc' := 10) X236.here hx (hb hby d_jdk_65_m133_9) rfl rfl ?_
 obtain ⟨T237, h237, k237, X237, e237, E237, A237, B237, st237⟩ := newPE X236 hx hZ (hv hw 23 rfl) hE236 (g := (mkF m 10 #[vr xt, vi 0, .val (.int (Int32.ofNat X.length)), .val (.int (Int32.ofNat X.length)), un] [(.int (Int32.ofNat X.length))])) rfl (hb hby d_jdk_65_m133_10) rfl (nn0 (le4 hl)) (cap := 16) (by rw [nl (le4 hl)]; exact Nat.le_of_lt hl) (by decide) (by decide) (by decide) (ad := "[B") (by decide)
 obtain ⟨b237, g237⟩ : ∃ z, z = h0.size := ⟨_, rfl⟩
 rw [← g237] at A237 B237 st237
 have sz237 : h0.size ≤ b237 := Nat.le_trans K0.1 (Nat.le_of_eq g237.symm)
 have ge237 : n0 ≤ b237 := Nat.le_trans (X00.1 ▸ X00.2.1) (Nat.le_of_eq g237.symm)
 have K237 : Keep h0 h237 [] := K0.ext E237
 have O237 : Old Z n0 h237 := X00.ext E237
 have V237 : Arv Z h237 b237 k237 .byte (Int32.ofNat X.length) (pad X.length []) (.int 0) := newPad (n := X.length) A237 (le4 hl)
 refine Go.st st237 ?_
 show Go p.tables e below Kx _ (mkF m 12 _ [(.ref b237)])
 refine s_astore (pc' := 14) (Ls' := #[vr xt, vi 0, .val (.int (Int32.ofNat X.length)), .val (.int (Int32.ofNat X.length)), vr b237]) X237.here hx (hb hby d_jdk_65_m133_12) rfl rfl rfl ?_
 refine s_aloadN (pc' := 15) X237.here hx (hb hby d_jdk_65_m133_14) rfl rfl rfl ?_
 refine s_iloadN (pc' := 16) X237.here hx (hb hby d_jdk_65_m133_15) rfl rfl ?_
 refine s_aload (pc' := 18) X237.here hx (hb hby d_jdk_65_m133_16) rfl rfl rfl ?_
 refine s_iconst (pc' := 19) (v := 0) X237.here hx (hb hby d_jdk_65_m133_18) rfl rfl ?_
 refine s_aloadN (pc' := 20) X237.here hx (hb hby d_jdk_65_m133_19) rfl rfl rfl ?_
 have f238 : Arv Z h237 xt kt .byte 16 (pad 16 X) (.int 0) := (Axt.ext E237)
 obtain ⟨cl239, Ar239, Aq239, As239, An239, Ah239, Ag239⟩ := id f238
 refine Go.st (X237.arraylength hx (by rw [e237]; exact Ar239.1) (State.isArrayOf_alike hZ.alike Ar239.2.1) (g := (mkF m 20 #[vr xt, vi 0, .val (.int (Int32.ofNat X.length)), .val (.int (Int32.ofNat X.length)), vr b237] [(.ref xt), (.int 0), (.ref b237), (.int 0), (.ref xt)])) rfl rfl (hb hby d_jdk_65_m133_20)) ?_
 rw [len_of As239 An239]
 show Go p.tables e below Kx _ (mkF m 21 _ [(.int 16), (.int 0), (.ref b237), (.int 0), (.ref xt)])
 refine s_iloadN (pc' := 22) X237.here hx (hb hby d_jdk_65_m133_21) rfl rfl ?_
 refine s_isub (pc' := 23) (z := 16) X237.here hx (hb hby d_jdk_65_m133_22) rfl (by decide) ?_
 refine s_iloadN (pc' := 24) X237.here hx (hb hby d_jdk_65_m133_23) rfl rfl ?_
 obtain ⟨_, _, ⟨T240, L240, k240, n240⟩, -, X240, ⟨Lc240, hQ240, l240, y240, z240⟩, st240⟩ := Jvm.LawKit.callS X237 hx (y := yN16) hown (mvT hZ (hv hw 218 rfl)) (mvT hZ (hv hw 91 rfl)) (mvT hZ (hv hw 88 rfl)) (mvT hZ (hv hw 92 rfl)) (by decide) (backOf (W := 4) (rmGmin l Z a0 hw [] 16 (Int32.ofNat X.length) h237 n0 O237 (lt16 hl)) hZ (hv hw 92 rfl) (hv hw 88 rfl) (by decide) (by decide)) (g := (mkF m 24 #[vr xt, vi 0, .val (.int (Int32.ofNat X.length)), .val (.int (Int32.ofNat X.length)), vr b237] [(.int (Int32.ofNat X.length)), (.int 16), (.int 0), (.ref b237), (.int 0), (.ref xt)])) rfl (by rw [hml]; rfl) (argsL := [(.int 16), (.int (Int32.ofNat X.length))]) (rest := [(.int 0), (.ref b237), (.int 0), (.ref xt)]) (lenOf pd_8 rfl) rfl (by exact Nat.le_of_eq rfl) (hb hby d_jdk_65_m133_24) (fun _ _ => ⟨rfl, e237, (by decide : 1 + 0 ≤ _), (by decide : 16 + 0 ≤ _)⟩)
 dsimp only [Pt.U, Pt.locs, Pt.cells, Pt.slots] at X240 l240 y240 z240 st240 hQ240
 rw [l240, y240, z240] at X240
 obtain ⟨rfl, Nq240, hE240⟩ := hQ240
 have N240 := Fr.app N236 Nq240
 refine Go.st st240 ?_
 show Go p.tables e below Kx _ (mkF m 27 _ [(.int (Int32.ofNat X.length)), (.int 0), (.ref b237), (.int 0), (.ref xt)])
 obtain ⟨T241, h241, L241, X241, e241, N241, KK241, V241, st241⟩ := cpPre X240 hx hZ hown (hv hw 219 rfl) (hv hw 176 rfl) (hv hw 174 rfl) (hv hw 175 rfl) hE240 (le4 hl) (by decide) (Nat.le_of_lt hl) f238 V237 N240 ge237 (g := (mkF m 27 #[vr xt, vi 0, .val (.int (Int32.ofNat X.length)), .val (.int (Int32.ofNat X.length)), vr b237] [(.int (Int32.ofNat X.length)), (.int 0), (.ref b237), (.int 0), (.ref xt)])) rfl (by rw [hml]; rfl) rfl (hb hby d_jdk_65_m133_27) (by decide) (W := 0) (by exact Nat.le_of_eq rfl) (by decide)
 have K241 : Keep h0 h241 [] := K237.trans KK241 (allS (P := fun zz => zz ∈ [] ∨ h0.size ≤ zz) (Or.inr sz237) all0)
 have O241 : Old Z n0 h241 := O237.keep KK241 (allS ge237 all0)
 refine Go.st st241 ?_
 show Go p.tables e below Kx _ (mkF m 30 _ [])
 refine s_aload (pc' := 32) X241.here hx (hb hby d_jdk_65_m133_30) rfl rfl rfl ?_
 have f242 : Exa Z h241 b237 "[B" := (B237.keep KK241)
 obtain ⟨fs, hr, hrun, hended, hW, hsame⟩ := X241.leave (v := (some (.ref b237))) (fun h => by rw [Bd.returns] at h; cases h)
 refine Go.fin (retOut X241 hx Bd.returns rfl (Or.inr (Or.inr (Or.inr (Or.inr ⟨rfl, rfl, rfl⟩)))) (hb hby d_jdk_65_m133_32) hr) (hF _ _ hrun hended ⟨_, _, rfl, ?_, ⟨_, rfl⟩, hW, hsame.mono (by decide) (by decide)⟩)
 ·
  show QGq Z xt kt X h0 n0 ((some (.ref b237)) : Option Value) T241.heap _
  rw [e241]
  exact ⟨_, _, rfl, N241, K241, sz237, f242, V241⟩
theorem pd_24 : parseMethodDescriptor "([BII)[B" = some ⟨[(.array .byte), .int, .int], some (.array .byte)⟩ := by decide +kernel
theorem d_jdk_65_m132_13 : decode jdk_65_method_132_code 13 = .ok (.invokestatic 339, 3) := by decide +kernel
theorem d_jdk_65_m132_16 : decode jdk_65_method_132_code 16 = .ok (.areturn, 1) := by decide +kernel
def QGr (Z : State) (xt : Addr) (kt : ClassId) (X : List Int32) (h0 : Heap) (n0 : Nat) (v : Option Value) (h : Heap) (L : List Loc) : Prop := ∃ (t : Addr) (k : ClassId), v = some (.ref t) ∧ Fr n0 L ∧ Keep h0 h [] ∧ h0.size ≤ t ∧ Exa Z h t "[B" ∧ Arv Z h t k .byte (Int32.ofNat X.length) (X.map Value.int) (.int 0)
set_option maxRecDepth 65536 in
set_option maxHeartbeats 40000000 in
theorem rmGr (l : Launch) (Z : State) (a0 : Array Value) (hw : ∀ d ∈ tables_1, d.before a0 Z = true) (ws : List Jvm.Cond) (xt : Addr) (kt : ClassId) (X : List Int32) (h0 : Heap) (n0 : Nat) (X00 : Old Z n0 h0) (Axt : Arv Z h0 xt kt .byte 16 (pad 16 X) (.int 0)) (hl : X.length < 16) :
  MetFree l yN44 (head1 (Jvm.Cond.code yN44 jdk_65_method_132_code 3 (some (.array .byte)) :: ws) ({ frames := 2, cells := 1, slots := 16, locals := 34 } : Room)) (fun aa U => aa = #[(.ref xt), (.int 0), (.int (Int32.ofNat X.length))] ∧ Z.Warmed39 U.vm ∧ U.heap = h0) (fun _ _ _ _ _ => True) (fun _ U o U' => ∃ v L, o = .returned v ∧ QGr Z xt kt X h0 n0 v U'.heap L ∧ FrameEnd U o U' L ({ frames := 2, cells := 1, slots := 16, locals := 34 } : Room).cells ({ frames := 2, cells := 1, slots := 16, locals := 34 } : Room).slots) := by
 refine MetFree.of_bodySF (plainFor_of_name pn_7) hisR ?_
 intro p e s m args below meth c s₁ Bd hml0 hP hK
 obtain ⟨rfl, hZ, hh⟩ := hP
 have hx := Bd.exec
 have hby := Bd.bytes
 have hml : c.maxLocals = 3 := hml0
 have hown : s.vm.findClass "java/util/Arrays" = some m.cls := findClass_of_methodNamed Bd.named
 have hnm := (name_of_methodNamed Bd.named Bd.method).1
 have X0 : Stand p l e ({ frames := 2, cells := 1, slots := 16, locals := 34 } : Room) s m #[(.ref xt), (.int 0), (.int (Int32.ofNat X.length))] below meth c s₁ [] 0 0 := Stand.of_body Bd
 have e0 : s₁.heap = h0 := by rw [← hh, Bd.state]; rfl
 have N0 := Fr.nil n0
 have K0 := Keep.refl h0 []
 have ef : entryFrame m #[(.ref xt), (.int 0), (.int (Int32.ofNat X.length))] 3 = mkF m 0 #[vr xt, vi 0, .val (.int (Int32.ofNat X.length))] [] := (by first | (simp [entryFrame, mkF, argsToLocals, Value.category]; done) | rfl : entryFrame m #[(.ref xt), (.int 0), (.int (Int32.ofNat X.length))] 3 = mkF m 0 #[vr xt, vi 0, .val (.int (Int32.ofNat X.length))] [])
 rw [ef]
 refine fin_of fun Kx hF => ?_
 show Go p.tables e below Kx _ (mkF m 0 _ [])
 refine s_iloadN (pc' := 1) X0.here hx (hb hby d_jdk_65_m132_0) rfl rfl ?_
 refine s_ifN (pc' := 4) X0.here hx (hb hby d_jdk_65_m132_1) rfl ((if0 _ _).trans (teq (by decide)).2) ?_
 refine s_iloadN (pc' := 5) X0.here hx (hb hby d_jdk_65_m132_4) rfl rfl ?_
 refine s_aloadN (pc' := 6) X0.here hx (hb hby d_jdk_65_m132_5) rfl rfl rfl ?_
 obtain ⟨cl235, Ar235, Aq235, As235, An235, Ah235, Ag235⟩ := id Axt
 refine Go.st (X0.arraylength hx (by rw [e0]; exact Ar235.1) (State.isArrayOf_alike hZ.alike Ar235.2.1) (g := (mkF m 6 #[vr xt, vi 0, .val (.int (Int32.ofNat X.length))] [(.ref xt), (.int (Int32.ofNat X.length))])) rfl rfl (hb hby d_jdk_65_m132_6)) ?_
 rw [len_of As235 An235]
 show Go p.tables e below Kx _ (mkF m 7 _ [(.int 16), (.int (Int32.ofNat X.length))])
 refine s_icmpN (pc' := 10) X0.here hx (hb hby d_jdk_65_m132_7) rfl (feq (ne16 hl)).1 ?_
 refine s_aloadN (pc' := 11) X0.here hx (hb hby d_jdk_65_m132_10) rfl rfl rfl ?_
 refine s_iloadN (pc' := 12) X0.here hx (hb hby d_jdk_65_m132_11) rfl rfl ?_
 refine s_iloadN (pc' := 13) X0.here hx (hb hby d_jdk_65_m132_12) rfl rfl ?_
 obtain ⟨_, _, ⟨T243, L243, k243, n243⟩, -, X243, ⟨Lc243, hQ243, l243, y243, z243⟩, st243⟩ := Jvm.LawKit.callS X0 hx (y := yN45) hown (mvT hZ (hv hw 212 rfl)) (mvT hZ (hv hw 213 rfl)) (mvT hZ (hv hw 210 rfl)) (mvT hZ (hv hw 214 rfl)) (by decide) (backOf (W := 0) (rmGq l Z a0 hw [] xt _ X h0 n0 X00 Axt hl) hZ (hv hw 214 rfl) (hv hw 210 rfl) (by decide) (by decide)) (g := (mkF m 13 #[vr xt, vi 0, .val (.int (Int32.ofNat X.length))] [(.int (Int32.ofNat X.length)), (.int 0), (.ref xt)])) rfl (by rw [hml]; rfl) (argsL := [(.ref xt), (.int 0), (.int (Int32.ofNat X.length))]) (rest := []) (lenOf pd_24 rfl) rfl (by exact Nat.le_of_eq rfl) (hb hby d_jdk_65_m132_13) (fun _ _ => ⟨rfl, e0, (by decide : 0 + 1 ≤ _), (by decide : 0 + 16 ≤ _)⟩)
 dsimp only [Pt.U, Pt.locs, Pt.cells, Pt.slots] at X243 l243 y243 z243 st243 hQ243
 rw [l243, y243, z243] at X243
 obtain ⟨t243, kt243, rfl, Nq243, Kq243, le243, q0_243, q1_243⟩ := hQ243
 have sz243 : h0.size ≤ t243 := Nat.le_trans K0.1 le243
 have ge243 : n0 ≤ t243 := Nat.le_trans (X00.1 ▸ X00.2.1) le243
 have N243 := Fr.app N0 Nq243
 have K243 : Keep h0 T243.heap [] := K0.trans Kq243 all0
 have O243 : Old Z n0 T243.heap := X00.keep Kq243 all0
 refine Go.st st243 ?_
 show Go p.tables e below Kx _ (mkF m 16 _ [(.ref t243)])
 obtain ⟨fs, hr, hrun, hended, hW, hsame⟩ := X243.leave (v := (some (.ref t243))) (fun h => by rw [Bd.returns] at h; cases h)
 refine Go.fin (retOut X243 hx Bd.returns rfl (Or.inr (Or.inr (Or.inr (Or.inr ⟨rfl, rfl, rfl⟩)))) (hb hby d_jdk_65_m132_16) hr) (hF _ _ hrun hended ⟨_, _, rfl, ?_, ⟨_, rfl⟩, hW, hsame.mono (by decide) (by decide)⟩)
 ·
  show QGr Z xt kt X h0 n0 ((some (.ref t243)) : Option Value) T243.heap _
  skip
  exact ⟨_, _, rfl, N243, K243, sz243, q0_243, q1_243⟩
theorem d_jdk_42_m150_32 : decode jdk_42_method_150_code 32 = .ok (.invokestatic 54, 3) := by decide +kernel
theorem d_jdk_42_m150_35 : decode jdk_42_method_150_code 35 = .ok (.putfield 9, 3) := by decide +kernel
theorem d_jdk_42_m150_38 : decode jdk_42_method_150_code 38 = .ok (.goto 59, 3) := by decide +kernel
theorem d_jdk_42_m150_97 : decode jdk_42_method_150_code 97 = .ok (.return_, 1) := by decide +kernel
def QGt0 (Z : State) (xs xb xt : Addr) (kt : ClassId) (X : List Int32) (h0 : Heap) (n0 : Nat) (v : Option Value) (h : Heap) (L : List Loc) : Prop := v = none ∧ Fr n0 L ∧ Keep h0 h [xs] ∧ Exa Z h xs "java/lang/String" ∧ Fld Z h xs "java/lang/String" "coder" "B" (.int 0) ∧ ∃ (t : Addr) (k : ClassId), h0.size ≤ t ∧ Exa Z h t "[B" ∧ Fld Z h xs "java/lang/String" "value" "[B" (.ref t) ∧ Arv Z h t k .byte (Int32.ofNat X.length) (X.map Value.int) (.int 0)
set_option maxRecDepth 65536 in
set_option maxHeartbeats 40000000 in
theorem rmGt0 (l : Launch) (Z : State) (a0 : Array Value) (hw : ∀ d ∈ tables_1, d.before a0 Z = true) (ws : List Jvm.Cond) (xs xb xt : Addr) (kt : ClassId) (X : List Int32) (h0 : Heap) (n0 : Nat) (X00 : Old Z n0 h0) (G1 : Int32) (S1 : Sta Z Z.heap "java/lang/String" "COMPACT_STRINGS" "Z" (.int G1)) (P1 : ¬ G1 = 0) (Exb : Exa Z h0 xb "java/lang/StringBuilder") (Vxb : Fld Z h0 xb "java/lang/AbstractStringBuilder" "value" "[B" (.ref xt)) (Cxb : Fld Z h0 xb "java/lang/AbstractStringBuilder" "coder" "B" (.int 0)) (Nxb : Fld Z h0 xb "java/lang/AbstractStringBuilder" "count" "I" (.int (Int32.ofNat X.length))) (Axt : Arv Z h0 xt kt .byte 16 (pad 16 X) (.int 0)) (hl : X.length < 16) (ge_xs : n0 ≤ xs) (nsb : xs ≠ xb) (nst : xs ≠ xt) (Exs : Exa Z h0 xs "java/lang/String") (Vxs : Fld Z h0 xs "java/lang/String" "value" "[B" .null) (Cxs : Fld Z h0 xs "java/lang/String" "coder" "B" (.int 0)) :
  MetFree l yN17 (head1 (Jvm.Cond.code yN17 jdk_42_method_150_code 5 none :: ws) ({ frames := 3, cells := 1, slots := 16, locals := 49 } : Room)) (fun aa U => aa = #[(.ref xs), (.ref xb), .null] ∧ Z.Warmed39 U.vm ∧ U.heap = h0) (fun _ _ _ _ _ => True) (fun _ U o U' => ∃ v L, o = .returned v ∧ QGt0 Z xs xb xt kt X h0 n0 v U'.heap L ∧ FrameEnd U o U' L ({ frames := 3, cells := 1, slots := 16, locals := 49 } : Room).cells ({ frames := 3, cells := 1, slots := 16, locals := 49 } : Room).slots) := by
 refine MetFree.of_bodySF (plainFor_of_name pn_3) hisR ?_
 intro p e s m args below meth c s₁ Bd hml0 hP hK
 obtain ⟨rfl, hZ, hh⟩ := hP
 have hx := Bd.exec
 have hby := Bd.bytes
 have hml : c.maxLocals = 5 := hml0
 have hown : s.vm.findClass "java/lang/String" = some m.cls := findClass_of_methodNamed Bd.named
 have hnm := (name_of_methodNamed Bd.named Bd.method).1
 have X0 : Stand p l e ({ frames := 3, cells := 1, slots := 16, locals := 49 } : Room) s m #[(.ref xs), (.ref xb), .null] below meth c s₁ [] 0 0 := Stand.of_body Bd
 have e0 : s₁.heap = h0 := by rw [← hh, Bd.state]; rfl
 have N0 := Fr.nil n0
 have K0 := Keep.refl h0 [xs]
 have ef : entryFrame m #[(.ref xs), (.ref xb), .null] 5 = mkF m 0 #[vr xs, vr xb, .val .null, un, un] [] := (by first | (simp [entryFrame, mkF, argsToLocals, Value.category]; done) | rfl : entryFrame m #[(.ref xs), (.ref xb), .null] 5 = mkF m 0 #[vr xs, vr xb, .val .null, un, un] [])
 rw [ef]
 refine fin_of fun Kx hF => ?_
 show Go p.tables e below Kx _ (mkF m 0 _ [])
 refine s_aloadN (pc' := 1) X0.here hx (hb hby d_jdk_42_m150_0) rfl rfl rfl ?_
 obtain ⟨T225, X225, e225, st225⟩ := initO X0 hx hZ hown (hv hw 15 rfl) (hv hw 16 rfl) (hv hw 17 rfl) e0 (g := (mkF m 1 #[vr xs, vr xb, .val .null, un, un] [(.ref xs)])) rfl (by rw [hml]; rfl) rfl (hb hby d_jdk_42_m150_1) (by decide) (W := 0) (by exact Nat.le_of_eq rfl) (by decide)
 refine Go.st st225 ?_
 show Go p.tables e below Kx _ (mkF m 4 _ [])
 refine s_aloadN (pc' := 5) X225.here hx (hb hby d_jdk_42_m150_4) rfl rfl rfl ?_
 obtain ⟨cq227, kq227, q227a, q227b, q227c⟩ := isOf hZ e225 Exb
 obtain ⟨_, _, ⟨T227, L227, k227, n227⟩, -, X227, ⟨Lc227, hQ227, l227, y227, z227⟩, st227⟩ := X225.virtualBack hx (y := yN10) (z := yN10) hown (mvT hZ (hv hw 190 rfl)) (mvT hZ (hv hw 191 rfl)) (notFace_of_selects (args := #[]) (mvT hZ (hv hw 193 rfl))) (mvT hZ (hv hw 193 rfl)) (mvT hZ (hv hw 192 rfl)) (by decide) (backOf (W := 0) (rmKgv l Z a0 hw [] xb xt h0 n0 X00 Vxb) hZ (hv hw 194 rfl) (hv hw 131 rfl) (by decide) (by decide)) q227a q227c (g := (mkF m 5 #[vr xs, vr xb, .val .null, un, un] [(.ref xb)])) rfl (by rw [hml]; rfl) (Steps.refl _) (argsL := []) (rest := []) (lenOf pd_22 rfl) rfl (by exact Nat.le_of_eq rfl) (hb hby d_jdk_42_m150_5) (fun _ _ => ⟨rfl, e225, (by decide : 0 + 0 ≤ _), (by decide : 0 + 0 ≤ _)⟩)
 dsimp only [Pt.U, Pt.locs, Pt.cells, Pt.slots] at X227 l227 y227 z227 st227 hQ227
 rw [l227, y227, z227] at X227
 obtain ⟨rfl, Nq227, hE227⟩ := hQ227
 have N227 := Fr.app N0 Nq227
 refine Go.tr st227 ?_
 show Go p.tables e below Kx _ (mkF m 8 _ [(.ref xt)])
 refine s_astoreN (pc' := 9) (Ls' := #[vr xs, vr xb, .val .null, vr xt, un]) X227.here hx (hb hby d_jdk_42_m150_8) rfl rfl rfl ?_
 refine s_aloadN (pc' := 10) X227.here hx (hb hby d_jdk_42_m150_9) rfl rfl rfl ?_
 obtain ⟨cq230, kq230, q230a, q230b, q230c⟩ := isOf hZ hE227 Exb
 obtain ⟨_, _, ⟨T230, L230, k230, n230⟩, -, X230, ⟨Lc230, hQ230, l230, y230, z230⟩, st230⟩ := X227.virtualBack hx (y := yN13) (z := yN33) hown (mvT hZ (hv hw 195 rfl)) (mvT hZ (hv hw 196 rfl)) (nf_of (args := #[]) (z := yN9) rfl (mvT hZ (hv hw 155 rfl))) (mvT hZ (hv hw 198 rfl)) (mvT hZ (hv hw 199 rfl)) (by decide) (backOf (W := 0) (rmGb1 l Z a0 hw [] xb (Int32.ofNat X.length) h0 n0 X00 Exb Nxb) hZ (hv hw 200 rfl) (hv hw 123 rfl) (by decide) (by decide)) q230a q230c (g := (mkF m 10 #[vr xs, vr xb, .val .null, vr xt, un] [(.ref xb)])) rfl (by rw [hml]; rfl) (Steps.refl _) (argsL := []) (rest := []) (lenOf pd_6 rfl) rfl (by exact Nat.le_of_eq rfl) (hb hby d_jdk_42_m150_10) (fun _ _ => ⟨rfl, hE227, (by decide : 0 + 0 ≤ _), (by decide : 0 + 0 ≤ _)⟩)
 dsimp only [Pt.U, Pt.locs, Pt.cells, Pt.slots] at X230 l230 y230 z230 st230 hQ230
 rw [l230, y230, z230] at X230
 obtain ⟨rfl, Nq230, hE230⟩ := hQ230
 have N230 := Fr.app N227 Nq230
 refine Go.tr st230 ?_
 show Go p.tables e below Kx _ (mkF m 13 _ [(.int (Int32.ofNat X.length))])
 refine s_istore (pc' := 15) (Ls' := #[vr xs, vr xb, .val .null, vr xt, .val (.int (Int32.ofNat X.length))]) X230.here hx (hb hby d_jdk_42_m150_13) rfl  rfl ?_
 refine s_aloadN (pc' := 16) X230.here hx (hb hby d_jdk_42_m150_15) rfl rfl rfl ?_
 obtain ⟨cq233, kq233, q233a, q233b, q233c⟩ := isOf hZ hE230 Exb
 obtain ⟨_, _, ⟨T233, L233, k233, n233⟩, -, X233, ⟨Lc233, hQ233, l233, y233, z233⟩, st233⟩ := X230.virtualBack hx (y := yN12) (z := yN12) hown (mvT hZ (hv hw 203 rfl)) (mvT hZ (hv hw 204 rfl)) (notFace_of_selects (args := #[]) (mvT hZ (hv hw 206 rfl))) (mvT hZ (hv hw 206 rfl)) (mvT hZ (hv hw 205 rfl)) (by decide) (backOf (W := 0) (rmKbl l Z a0 hw [] xb h0 n0 X00 G1 S1 P1 Cxb) hZ (hv hw 207 rfl) (hv hw 131 rfl) (by decide) (by decide)) q233a q233c (g := (mkF m 16 #[vr xs, vr xb, .val .null, vr xt, .val (.int (Int32.ofNat X.length))] [(.ref xb)])) rfl (by rw [hml]; rfl) (Steps.refl _) (argsL := []) (rest := []) (lenOf pd_4 rfl) rfl (by exact Nat.le_of_eq rfl) (hb hby d_jdk_42_m150_16) (fun _ _ => ⟨rfl, hE230, (by decide : 0 + 0 ≤ _), (by decide : 0 + 0 ≤ _)⟩)
 dsimp only [Pt.U, Pt.locs, Pt.cells, Pt.slots] at X233 l233 y233 z233 st233 hQ233
 rw [l233, y233, z233] at X233
 obtain ⟨rfl, Nq233, hE233⟩ := hQ233
 have N233 := Fr.app N230 Nq233
 refine Go.tr st233 ?_
 show Go p.tables e below Kx _ (mkF m 19 _ [(.int 1)])
 refine s_ifN (pc' := 22) X233.here hx (hb hby d_jdk_42_m150_19) rfl ((if0 _ _).trans (feq (by decide)).1) ?_
 refine s_aloadN (pc' := 23) X233.here hx (hb hby d_jdk_42_m150_22) rfl rfl rfl ?_
 refine s_iconst (pc' := 24) (v := 0) X233.here hx (hb hby d_jdk_42_m150_23) rfl rfl ?_
 obtain ⟨T234, h234, X234, e234, W234, st234⟩ := putFN X233 hx hZ hown (hv hw 30 rfl) Via.refl hE233 Cxs Exs (Or.inr ⟨(hv hw 31 rfl), rfl, hnm⟩) (hv hw 6 rfl) (ty := .byte) (v' := (.int 0)) (by decide) (by decide) (by decide) (g := (mkF m 24 #[vr xs, vr xb, .val .null, vr xt, .val (.int (Int32.ofNat X.length))] [(.int 0), (.ref xs)])) rfl rfl (hb hby d_jdk_42_m150_24)
 have Fw234 : Fld Z h234 xs "java/lang/String" "coder" "B" (.int 0) := Cxs.same W234
 have K234 : Keep h0 h234 [xs] := K0.wr W234 (Or.inl (List.mem_of_getElem? (i := 0) rfl))
 have O234 : Old Z n0 h234 := X00.wr W234 ge_xs
 have N234 := Fr.snoc X234 N233 ge_xs
 refine Go.st st234 ?_
 show Go p.tables e below Kx _ (mkF m 27 _ [])
 refine s_aloadN (pc' := 28) X234.here hx (hb hby d_jdk_42_m150_27) rfl rfl rfl ?_
 refine s_aloadN (pc' := 29) X234.here hx (hb hby d_jdk_42_m150_28) rfl rfl rfl ?_
 refine s_iconst (pc' := 30) (v := 0) X234.here hx (hb hby d_jdk_42_m150_29) rfl rfl ?_
 refine s_iload (pc' := 32) X234.here hx (hb hby d_jdk_42_m150_30) rfl rfl ?_
 have f244 : Arv Z h234 xt kt .byte 16 (pad 16 X) (.int 0) := (Axt.other W234 (Ne.symm nst))
 obtain ⟨_, _, ⟨T245, L245, k245, n245⟩, -, X245, ⟨Lc245, hQ245, l245, y245, z245⟩, st245⟩ := Jvm.LawKit.callS X234 hx (y := yN44) hown (mvT hZ (hv hw 208 rfl)) (mvT hZ (hv hw 209 rfl)) (mvT hZ (hv hw 210 rfl)) (mvT hZ (hv hw 211 rfl)) (by decide) (backOf (W := 1) (rmGr l Z a0 hw [] xt _ X h234 n0 O234 f244 hl) hZ (hv hw 211 rfl) (hv hw 210 rfl) (by decide) (by decide)) (g := (mkF m 32 #[vr xs, vr xb, .val .null, vr xt, .val (.int (Int32.ofNat X.length))] [(.int (Int32.ofNat X.length)), (.int 0), (.ref xt), (.ref xs)])) rfl (by rw [hml]; rfl) (argsL := [(.ref xt), (.int 0), (.int (Int32.ofNat X.length))]) (rest := [(.ref xs)]) (lenOf pd_24 rfl) rfl (by exact Nat.le_of_eq rfl) (hb hby d_jdk_42_m150_32) (fun _ _ => ⟨rfl, e234, (by decide : 0 + 1 ≤ _), (by decide : 0 + 16 ≤ _)⟩)
 dsimp only [Pt.U, Pt.locs, Pt.cells, Pt.slots] at X245 l245 y245 z245 st245 hQ245
 rw [l245, y245, z245] at X245
 obtain ⟨t245, kt245, rfl, Nq245, Kq245, le245, q0_245, q1_245⟩ := hQ245
 have sz245 : h0.size ≤ t245 := Nat.le_trans K234.1 le245
 have ge245 : n0 ≤ t245 := Nat.le_trans (O234.1 ▸ O234.2.1) le245
 have N245 := Fr.app N234 Nq245
 have K245 : Keep h0 T245.heap [xs] := K234.trans Kq245 all0
 have O245 : Old Z n0 T245.heap := O234.keep Kq245 all0
 refine Go.st st245 ?_
 show Go p.tables e below Kx _ (mkF m 35 _ [(.ref t245), (.ref xs)])
 have f246 : Fld Z T245.heap xs "java/lang/String" "value" "[B" .null := ((Vxs.other W234 (Or.inr (slot_ne (Or.inr (hv hw 33 rfl)) (Or.inr (hv hw 31 rfl)) (by decide) (t := (.array .byte)) (t' := .byte) (by decide) (by decide)))).keep Kq245 nin0)
 have f247 : Exa Z T245.heap xs "java/lang/String" := ((Exs.wr W234).keep Kq245)
 obtain ⟨T248, h248, X248, e248, W248, st248⟩ := putF X245 hx hZ hown (host := "") (Or.inl (hv hw 32 rfl)) Via.refl rfl f246 f247 (Or.inr ⟨(hv hw 33 rfl), rfl, hnm⟩) (hv hw 6 rfl) (ty := (.array .byte)) (by decide) rfl rfl (g := (mkF m 35 #[vr xs, vr xb, .val .null, vr xt, .val (.int (Int32.ofNat X.length))] [(.ref t245), (.ref xs)])) rfl rfl (hb hby d_jdk_42_m150_35)
 have Fw248 : Fld Z h248 xs "java/lang/String" "value" "[B" (.ref t245) := f246.same W248
 have K248 : Keep h0 h248 [xs] := K245.wr W248 (Or.inl (List.mem_of_getElem? (i := 0) rfl))
 have O248 : Old Z n0 h248 := O245.wr W248 ge_xs
 have N248 := Fr.snoc X248 N245 ge_xs
 refine Go.st st248 ?_
 show Go p.tables e below Kx _ (mkF m 38 _ [])
 refine s_goto (pc' := 97) X248.here hx (hb hby d_jdk_42_m150_38) (by decide) (by decide) ?_
 have f249 : Exa Z h248 xs "java/lang/String" := (f247.wr W248)
 have f250 : Fld Z h248 xs "java/lang/String" "coder" "B" (.int 0) := ((Fw234.keep Kq245 nin0).other W248 (Or.inr (slot_ne (Or.inr (hv hw 31 rfl)) (Or.inr (hv hw 33 rfl)) (by decide) (t := .byte) (t' := (.array .byte)) (by decide) (by decide))))
 have f251 : Exa Z h248 t245 "[B" := (q0_245.wr W248)
 have f252 : Arv Z h248 t245 kt245 .byte (Int32.ofNat X.length) (X.map Value.int) (.int 0) := (q1_245.other W248 (Ne.symm (Nat.ne_of_lt (Nat.lt_of_lt_of_le (Nat.lt_of_lt_of_le Exs.lt (Nat.le_of_eq W234.size.symm)) le245))))
 obtain ⟨fs, hr, hrun, hended, hW, hsame⟩ := X248.leave (v := none) (fun _ => rfl)
 refine Go.fin (X248.returnOut hx Bd.returns (hb hby d_jdk_42_m150_97) hr) (hF _ _ hrun hended ⟨_, _, rfl, ?_, ⟨_, rfl⟩, hW, hsame.mono (by decide) (by decide)⟩)
 ·
  show QGt0 Z xs xb xt kt X h0 n0 (none : Option Value) T248.heap _
  rw [e248]
  exact ⟨rfl, N248, K248, f249, f250, t245, _, sz245, f251, Fw248, f252⟩
theorem pd_25 : parseMethodDescriptor "(Ljava/lang/AbstractStringBuilder;Ljava/lang/Void;)V" = some ⟨[(.object "java/lang/AbstractStringBuilder"), (.object "java/lang/Void")], none⟩ := by decide +kernel
theorem d_jdk_42_m53_3 : decode jdk_42_method_53_code 3 = .ok (.invokespecial 489, 3) := by decide +kernel
theorem d_jdk_42_m53_6 : decode jdk_42_method_53_code 6 = .ok (.return_, 1) := by decide +kernel
def QGt1 (Z : State) (xs xb xt : Addr) (kt : ClassId) (X : List Int32) (h0 : Heap) (n0 : Nat) (v : Option Value) (h : Heap) (L : List Loc) : Prop := v = none ∧ Fr n0 L ∧ Keep h0 h [xs] ∧ Exa Z h xs "java/lang/String" ∧ Fld Z h xs "java/lang/String" "coder" "B" (.int 0) ∧ ∃ (t : Addr) (k : ClassId), h0.size ≤ t ∧ Exa Z h t "[B" ∧ Fld Z h xs "java/lang/String" "value" "[B" (.ref t) ∧ Arv Z h t k .byte (Int32.ofNat X.length) (X.map Value.int) (.int 0)
set_option maxRecDepth 65536 in
set_option maxHeartbeats 40000000 in
theorem rmGt1 (l : Launch) (Z : State) (a0 : Array Value) (hw : ∀ d ∈ tables_1, d.before a0 Z = true) (ws : List Jvm.Cond) (xs xb xt : Addr) (kt : ClassId) (X : List Int32) (h0 : Heap) (n0 : Nat) (X00 : Old Z n0 h0) (G1 : Int32) (S1 : Sta Z Z.heap "java/lang/String" "COMPACT_STRINGS" "Z" (.int G1)) (P1 : ¬ G1 = 0) (Exb : Exa Z h0 xb "java/lang/StringBuilder") (Vxb : Fld Z h0 xb "java/lang/AbstractStringBuilder" "value" "[B" (.ref xt)) (Cxb : Fld Z h0 xb "java/lang/AbstractStringBuilder" "coder" "B" (.int 0)) (Nxb : Fld Z h0 xb "java/lang/AbstractStringBuilder" "count" "I" (.int (Int32.ofNat X.length))) (Axt : Arv Z h0 xt kt .byte 16 (pad 16 X) (.int 0)) (hl : X.length < 16) (ge_xs : n0 ≤ xs) (nsb : xs ≠ xb) (nst : xs ≠ xt) (Exs : Exa Z h0 xs "java/lang/String") (Vxs : Fld Z h0 xs "java/lang/String" "value" "[B" .null) (Cxs : Fld Z h0 xs "java/lang/String" "coder" "B" (.int 0)) :
  MetFree l yN18 (head1 (Jvm.Cond.code yN18 jdk_42_method_53_code 2 none :: ws) ({ frames := 4, cells := 1, slots := 16, locals := 65 } : Room)) (fun aa U => aa = #[(.ref xs), (.ref xb)] ∧ Z.Warmed39 U.vm ∧ U.heap = h0) (fun _ _ _ _ _ => True) (fun _ U o U' => ∃ v L, o = .returned v ∧ QGt1 Z xs xb xt kt X h0 n0 v U'.heap L ∧ FrameEnd U o U' L ({ frames := 4, cells := 1, slots := 16, locals := 65 } : Room).cells ({ frames := 4, cells := 1, slots := 16, locals := 65 } : Room).slots) := by
 refine MetFree.of_bodySF (plainFor_of_name pn_3) hisR ?_
 intro p e s m args below meth c s₁ Bd hml0 hP hK
 obtain ⟨rfl, hZ, hh⟩ := hP
 have hx := Bd.exec
 have hby := Bd.bytes
 have hml : c.maxLocals = 2 := hml0
 have hown : s.vm.findClass "java/lang/String" = some m.cls := findClass_of_methodNamed Bd.named
 have hnm := (name_of_methodNamed Bd.named Bd.method).1
 have X0 : Stand p l e ({ frames := 4, cells := 1, slots := 16, locals := 65 } : Room) s m #[(.ref xs), (.ref xb)] below meth c s₁ [] 0 0 := Stand.of_body Bd
 have e0 : s₁.heap = h0 := by rw [← hh, Bd.state]; rfl
 have N0 := Fr.nil n0
 have K0 := Keep.refl h0 [xs]
 have ef : entryFrame m #[(.ref xs), (.ref xb)] 2 = mkF m 0 #[vr xs, vr xb] [] := (by first | (simp [entryFrame, mkF, argsToLocals, Value.category]; done) | rfl : entryFrame m #[(.ref xs), (.ref xb)] 2 = mkF m 0 #[vr xs, vr xb] [])
 rw [ef]
 refine fin_of fun Kx hF => ?_
 show Go p.tables e below Kx _ (mkF m 0 _ [])
 refine s_aloadN (pc' := 1) X0.here hx (hb hby d_jdk_42_m53_0) rfl rfl rfl ?_
 refine s_aloadN (pc' := 2) X0.here hx (hb hby d_jdk_42_m53_1) rfl rfl rfl ?_
 refine s_aconst_null (pc' := 3) X0.here hx (hb hby d_jdk_42_m53_2) rfl ?_
 obtain ⟨_, _, ⟨T253, L253, k253, n253⟩, -, X253, ⟨Lc253, hQ253, l253, y253, z253⟩, st253⟩ := X0.specialBack hx (y := yN17) rfl hown (mvT hZ (hv hw 187 rfl)) (mvT hZ (hv hw 188 rfl)) (mvT hZ (hv hw 189 rfl)) (by decide) (backOf (W := 0) (rmGt0 l Z a0 hw [] xs xb xt _ X h0 n0 X00 G1 S1 P1 Exb Vxb Cxb Nxb Axt hl ge_xs nsb nst Exs Vxs Cxs) hZ (hv hw 189 rfl) (hv hw 7 rfl) (by decide) (by decide)) (g := (mkF m 3 #[vr xs, vr xb] [.null, (.ref xb), (.ref xs)])) rfl (by rw [hml]; rfl) (Steps.refl _) (a := xs) (argsL := [(.ref xb), .null]) (rest := []) (lenOf pd_25 rfl) rfl (by exact Nat.le_of_eq rfl) (hb hby d_jdk_42_m53_3) (fun _ _ => ⟨rfl, e0, (by decide : 0 + 1 ≤ _), (by decide : 0 + 16 ≤ _)⟩)
 dsimp only [Pt.U, Pt.locs, Pt.cells, Pt.slots] at X253 l253 y253 z253 st253 hQ253
 rw [l253, y253, z253] at X253
 obtain ⟨rfl, Nq253, Kq253, q1_253, q2_253, t253, kt253, le253, q0_253, q3_253, q4_253⟩ := hQ253
 have sz253 : h0.size ≤ t253 := Nat.le_trans K0.1 le253
 have ge253 : n0 ≤ t253 := Nat.le_trans (X00.1 ▸ X00.2.1) le253
 have N253 := Fr.app N0 Nq253
 have K253 : Keep h0 T253.heap [xs] := K0.trans Kq253 (allS (P := fun zz => zz ∈ [xs] ∨ h0.size ≤ zz) (Or.inl (List.mem_of_getElem? (i := 0) rfl)) all0)
 have O253 : Old Z n0 T253.heap := X00.keep Kq253 (allS ge_xs all0)
 refine Go.tr st253 ?_
 show Go p.tables e below Kx _ (mkF m 6 _ [])
 obtain ⟨fs, hr, hrun, hended, hW, hsame⟩ := X253.leave (v := none) (fun _ => rfl)
 refine Go.fin (X253.returnOut hx Bd.returns (hb hby d_jdk_42_m53_6) hr) (hF _ _ hrun hended ⟨_, _, rfl, ?_, ⟨_, rfl⟩, hW, hsame.mono (by decide) (by decide)⟩)
 ·
  show QGt1 Z xs xb xt kt X h0 n0 (none : Option Value) T253.heap _
  skip
  exact ⟨rfl, N253, K253, q1_253, q2_253, t253, _, sz253, q0_253, q3_253, q4_253⟩
theorem pd_26 : parseMethodDescriptor "(Ljava/lang/StringBuilder;)V" = some ⟨[(.object "java/lang/StringBuilder")], none⟩ := by decide +kernel
theorem d_jdk_67_m42_5 : decode jdk_67_method_42_code 5 = .ok (.invokespecial 137, 3) := by decide +kernel
theorem d_jdk_67_m42_8 : decode jdk_67_method_42_code 8 = .ok (.areturn, 1) := by decide +kernel
def QGts (Z : State) (xb xt : Addr) (kt : ClassId) (X : List Int32) (h0 : Heap) (n0 : Nat) (v : Option Value) (h : Heap) (L : List Loc) : Prop := ∃ (y t : Addr) (k : ClassId), v = some (.ref y) ∧ Fr n0 L ∧ Keep h0 h [] ∧ h0.size ≤ y ∧ h0.size ≤ t ∧ Exa Z h t "[B" ∧ Exa Z h y "java/lang/String" ∧ Fld Z h y "java/lang/String" "coder" "B" (.int 0) ∧ Fld Z h y "java/lang/String" "value" "[B" (.ref t) ∧ Arv Z h t k .byte (Int32.ofNat X.length) (X.map Value.int) (.int 0)
set_option maxRecDepth 65536 in
set_option maxHeartbeats 40000000 in
theorem rmGts (l : Launch) (Z : State) (a0 : Array Value) (hw : ∀ d ∈ tables_1, d.before a0 Z = true) (ws : List Jvm.Cond) (xb xt : Addr) (kt : ClassId) (X : List Int32) (h0 : Heap) (n0 : Nat) (X00 : Old Z n0 h0) (G1 : Int32) (S1 : Sta Z Z.heap "java/lang/String" "COMPACT_STRINGS" "Z" (.int G1)) (P1 : ¬ G1 = 0) (Exb : Exa Z h0 xb "java/lang/StringBuilder") (Vxb : Fld Z h0 xb "java/lang/AbstractStringBuilder" "value" "[B" (.ref xt)) (Cxb : Fld Z h0 xb "java/lang/AbstractStringBuilder" "coder" "B" (.int 0)) (Nxb : Fld Z h0 xb "java/lang/AbstractStringBuilder" "count" "I" (.int (Int32.ofNat X.length))) (Axt : Arv Z h0 xt kt .byte 16 (pad 16 X) (.int 0)) (hl : X.length < 16) :
  MetFree l yN34 (head1 (Jvm.Cond.code yN34 jdk_67_method_42_code 1 (some (.object "java/lang/String")) :: ws) ({ frames := 5, cells := 2, slots := 20, locals := 79 } : Room)) (fun aa U => aa = #[(.ref xb)] ∧ Z.Warmed39 U.vm ∧ U.heap = h0) (fun _ _ _ _ _ => True) (fun _ U o U' => ∃ v L, o = .returned v ∧ QGts Z xb xt kt X h0 n0 v U'.heap L ∧ FrameEnd U o U' L ({ frames := 5, cells := 2, slots := 20, locals := 79 } : Room).cells ({ frames := 5, cells := 2, slots := 20, locals := 79 } : Room).slots) := by
 refine MetFree.of_bodySF (plainFor_of_name pn_5) hisR ?_
 intro p e s m args below meth c s₁ Bd hml0 hP hK
 obtain ⟨rfl, hZ, hh⟩ := hP
 have hx := Bd.exec
 have hby := Bd.bytes
 have hml : c.maxLocals = 1 := hml0
 have hown : s.vm.findClass "java/lang/StringBuilder" = some m.cls := findClass_of_methodNamed Bd.named
 have hnm := (name_of_methodNamed Bd.named Bd.method).1
 have X0 : Stand p l e ({ frames := 5, cells := 2, slots := 20, locals := 79 } : Room) s m #[(.ref xb)] below meth c s₁ [] 0 0 := Stand.of_body Bd
 have e0 : s₁.heap = h0 := by rw [← hh, Bd.state]; rfl
 have N0 := Fr.nil n0
 have K0 := Keep.refl h0 []
 have ef : entryFrame m #[(.ref xb)] 1 = mkF m 0 #[vr xb] [] := (by first | (simp [entryFrame, mkF, argsToLocals, Value.category]; done) | rfl : entryFrame m #[(.ref xb)] 1 = mkF m 0 #[vr xb] [])
 rw [ef]
 refine fin_of fun Kx hF => ?_
 show Go p.tables e below Kx _ (mkF m 0 _ [])
 obtain ⟨T224, h224, X224, e224, E224, A224, D224, -, st224⟩ := newO X0 hx hZ hown (hv hw 183 rfl) (hv hw 6 rfl) (hv hw 7 rfl) e0 (g := (mkF m 0 #[vr xb] [])) rfl (hb hby d_jdk_67_m42_0) (by decide) (by decide)
 obtain ⟨b224, g224⟩ : ∃ z, z = h0.size := ⟨_, rfl⟩
 rw [← g224] at A224 D224 st224
 have sz224 : h0.size ≤ b224 := Nat.le_trans K0.1 (Nat.le_of_eq g224.symm)
 have ge224 : n0 ≤ b224 := Nat.le_trans (X00.1 ▸ X00.2.1) (Nat.le_of_eq g224.symm)
 have K224 : Keep h0 h224 [] := K0.ext E224
 have O224 : Old Z n0 h224 := X00.ext E224
 have F224_coder : Fld Z h224 b224 "java/lang/String" "coder" "B" (.int 0) := D224 (Or.inr (hv hw 31 rfl)) (ty := .byte) (by decide)
 have F224_value : Fld Z h224 b224 "java/lang/String" "value" "[B" .null := D224 (Or.inr (hv hw 33 rfl)) (ty := (.array .byte)) (by decide)
 refine Go.st st224 ?_
 show Go p.tables e below Kx _ (mkF m 3 _ [(.ref b224)])
 refine s_dup (pc' := 4) X224.here hx (hb hby d_jdk_67_m42_3) rfl rfl ?_
 refine s_aloadN (pc' := 5) X224.here hx (hb hby d_jdk_67_m42_4) rfl rfl rfl ?_
 have f254 : Exa Z h224 xb "java/lang/StringBuilder" := (Exb.ext E224)
 have f255 : Fld Z h224 xb "java/lang/AbstractStringBuilder" "value" "[B" (.ref xt) := (Vxb.ext E224)
 have f256 : Fld Z h224 xb "java/lang/AbstractStringBuilder" "coder" "B" (.int 0) := (Cxb.ext E224)
 have f257 : Fld Z h224 xb "java/lang/AbstractStringBuilder" "count" "I" (.int (Int32.ofNat X.length)) := (Nxb.ext E224)
 have f258 : Arv Z h224 xt kt .byte 16 (pad 16 X) (.int 0) := (Axt.ext E224)
 obtain ⟨_, _, ⟨T259, L259, k259, n259⟩, -, X259, ⟨Lc259, hQ259, l259, y259, z259⟩, st259⟩ := X224.specialBack hx (y := yN18) rfl hown (mvT hZ (hv hw 184 rfl)) (mvT hZ (hv hw 185 rfl)) (mvT hZ (hv hw 186 rfl)) (by decide) (backOf (W := 1) (rmGt1 l Z a0 hw [] b224 xb xt _ X h224 n0 O224 G1 S1 P1 f254 f255 f256 f257 f258 hl ge224 (Ne.symm (Nat.ne_of_lt (Nat.lt_of_lt_of_le Exb.lt (Nat.le_of_eq g224.symm)))) (Ne.symm (Nat.ne_of_lt (Nat.lt_of_lt_of_le Axt.lt (Nat.le_of_eq g224.symm)))) A224 F224_value F224_coder) hZ (hv hw 186 rfl) (hv hw 7 rfl) (by decide) (by decide)) (g := (mkF m 5 #[vr xb] [(.ref xb), (.ref b224), (.ref b224)])) rfl (by rw [hml]; rfl) (Steps.refl _) (a := b224) (argsL := [(.ref xb)]) (rest := [(.ref b224)]) (lenOf pd_26 rfl) rfl (by exact Nat.le_of_eq rfl) (hb hby d_jdk_67_m42_5) (fun _ _ => ⟨rfl, e224, (by decide : 1 + 1 ≤ _), (by decide : 4 + 16 ≤ _)⟩)
 dsimp only [Pt.U, Pt.locs, Pt.cells, Pt.slots] at X259 l259 y259 z259 st259 hQ259
 rw [l259, y259, z259] at X259
 obtain ⟨rfl, Nq259, Kq259, q1_259, q2_259, t259, kt259, le259, q0_259, q3_259, q4_259⟩ := hQ259
 have sz259 : h0.size ≤ t259 := Nat.le_trans K224.1 le259
 have ge259 : n0 ≤ t259 := Nat.le_trans (O224.1 ▸ O224.2.1) le259
 have N259 := Fr.app N0 Nq259
 have K259 : Keep h0 T259.heap [] := K224.trans Kq259 (allS (P := fun zz => zz ∈ [] ∨ h0.size ≤ zz) (Or.inr sz224) all0)
 have O259 : Old Z n0 T259.heap := O224.keep Kq259 (allS ge224 all0)
 refine Go.tr st259 ?_
 show Go p.tables e below Kx _ (mkF m 8 _ [(.ref b224)])
 obtain ⟨fs, hr, hrun, hended, hW, hsame⟩ := X259.leave (v := (some (.ref b224))) (fun h => by rw [Bd.returns] at h; cases h)
 refine Go.fin (retOut X259 hx Bd.returns rfl (Or.inr (Or.inr (Or.inr (Or.inr ⟨rfl, rfl, rfl⟩)))) (hb hby d_jdk_67_m42_8) hr) (hF _ _ hrun hended ⟨_, _, rfl, ?_, ⟨_, rfl⟩, hW, hsame.mono (by decide) (by decide)⟩)
 ·
  show QGts Z xb xt kt X h0 n0 ((some (.ref b224)) : Option Value) T259.heap _
  skip
  exact ⟨_, _, _, rfl, N259, K259, sz224, sz259, q0_259, q1_259, q2_259, q3_259, q4_259⟩
theorem d_prog_15_m5_26 : decode prog_15_method_5_code 26 = .ok (.invokevirtual 54, 3) := by decide +kernel
theorem d_prog_15_m5_29 : decode prog_15_method_5_code 29 = .ok (.getstatic 80, 3) := by decide +kernel
theorem d_jdk_42_m64_0 : decode jdk_42_method_64_code 0 = .ok (.aload_n 1, 1) := by decide +kernel
theorem d_jdk_42_m64_1 : decode jdk_42_method_64_code 1 = .ok (.ifnonnull 11, 3) := by decide +kernel
theorem d_jdk_42_m64_12 : decode jdk_42_method_64_code 12 = .ok (.aload_n 1, 1) := by decide +kernel
theorem d_jdk_42_m64_13 : decode jdk_42_method_64_code 13 = .ok (.aload_n 0, 1) := by decide +kernel
theorem d_jdk_42_m64_14 : decode jdk_42_method_64_code 14 = .ok (.invokevirtual 335, 3) := by decide +kernel
theorem d_jdk_42_m64_17 : decode jdk_42_method_64_code 17 = .ok (.aload_n 0, 1) := by decide +kernel
theorem d_jdk_42_m64_18 : decode jdk_42_method_64_code 18 = .ok (.getfield 9, 3) := by decide +kernel
theorem d_jdk_42_m18_0 : decode jdk_42_method_18_code 0 = .ok (.aload_n 0, 1) := by decide +kernel
theorem d_jdk_42_m18_1 : decode jdk_42_method_18_code 1 = .ok (.getstatic 86, 3) := by decide +kernel
theorem d_jdk_42_m18_4 : decode jdk_42_method_18_code 4 = .ok (.if_acmp .ne 10, 3) := by decide +kernel
theorem d_jdk_42_m18_7 : decode jdk_42_method_18_code 7 = .ok (.iload_n 1, 1) := by decide +kernel
theorem d_jdk_42_m18_8 : decode jdk_42_method_18_code 8 = .ok (.aload_n 2, 1) := by decide +kernel
theorem d_jdk_42_m18_9 : decode jdk_42_method_18_code 9 = .ok (.iconst 1, 1) := by decide +kernel
theorem d_jdk_42_m46_0 : decode jdk_42_method_46_code 0 = .ok (.iload_n 0, 1) := by decide +kernel
theorem d_jdk_42_m46_1 : decode jdk_42_method_46_code 1 = .ok (.iconst 1, 1) := by decide +kernel
theorem d_jdk_42_m46_2 : decode jdk_42_method_46_code 2 = .ok (.if_icmp .ne 9, 3) := by decide +kernel
theorem d_jdk_42_m46_11 : decode jdk_42_method_46_code 11 = .ok (.aload_n 1, 1) := by decide +kernel
theorem d_jdk_42_m46_12 : decode jdk_42_method_46_code 12 = .ok (.iconst 0, 1) := by decide +kernel
theorem d_jdk_42_m46_13 : decode jdk_42_method_46_code 13 = .ok (.aload_n 1, 1) := by decide +kernel
theorem d_jdk_42_m46_14 : decode jdk_42_method_46_code 14 = .ok (.arraylength, 1) := by decide +kernel
theorem pn_8 : plainName "java/lang/StringCoding" = true := by first | (simp [plainName, overriddenIn]; done) | decide +kernel
theorem d_jdk_123_m2_0 : decode jdk_123_method_2_code 0 = .ok (.aload_n 0, 1) := by decide +kernel
theorem d_jdk_123_m2_1 : decode jdk_123_method_2_code 1 = .ok (.iload_n 1, 1) := by decide +kernel
theorem d_jdk_123_m2_2 : decode jdk_123_method_2_code 2 = .ok (.iload_n 2, 1) := by decide +kernel
theorem d_jdk_123_m3_0 : decode jdk_123_method_3_code 0 = .ok (.iload_n 1, 1) := by decide +kernel
theorem d_jdk_123_m3_1 : decode jdk_123_method_3_code 1 = .ok (.iload_n 2, 1) := by decide +kernel
theorem d_jdk_123_m3_2 : decode jdk_123_method_3_code 2 = .ok (.iadd, 1) := by decide +kernel
theorem d_jdk_123_m3_3 : decode jdk_123_method_3_code 3 = .ok (.istore_n 3, 1) := by decide +kernel
theorem d_jdk_123_m3_4 : decode jdk_123_method_3_code 4 = .ok (.iload_n 1, 1) := by decide +kernel
theorem d_jdk_123_m3_5 : decode jdk_123_method_3_code 5 = .ok (.istore 4, 2) := by decide +kernel
theorem d_jdk_123_m3_7 : decode jdk_123_method_3_code 7 = .ok (.iload 4, 2) := by decide +kernel
theorem d_jdk_123_m3_9 : decode jdk_123_method_3_code 9 = .ok (.iload_n 3, 1) := by decide +kernel
theorem d_jdk_123_m3_10 : decode jdk_123_method_3_code 10 = .ok (.if_icmp .ge 21, 3) := by decide +kernel
theorem d_jdk_123_m3_31 : decode jdk_123_method_3_code 31 = .ok (.iload_n 2, 1) := by decide +kernel
theorem d_jdk_123_m3_32 : decode jdk_123_method_3_code 32 = .ok (.ireturn, 1) := by decide +kernel
theorem d_jdk_123_m3_13 : decode jdk_123_method_3_code 13 = .ok (.aload_n 0, 1) := by decide +kernel
theorem d_jdk_123_m3_14 : decode jdk_123_method_3_code 14 = .ok (.iload 4, 2) := by decide +kernel
theorem d_jdk_123_m3_16 : decode jdk_123_method_3_code 16 = .ok (.baload, 1) := by decide +kernel
theorem d_jdk_123_m3_17 : decode jdk_123_method_3_code 17 = .ok (.ifCond .ge 8, 3) := by decide +kernel
theorem d_jdk_123_m3_20 : decode jdk_123_method_3_code 20 = .ok (.iload 4, 2) := by decide +kernel
theorem d_jdk_123_m3_22 : decode jdk_123_method_3_code 22 = .ok (.iload_n 1, 1) := by decide +kernel
theorem d_jdk_123_m3_23 : decode jdk_123_method_3_code 23 = .ok (.isub, 1) := by decide +kernel
theorem d_jdk_123_m3_24 : decode jdk_123_method_3_code 24 = .ok (.ireturn, 1) := by decide +kernel
theorem d_jdk_123_m3_25 : decode jdk_123_method_3_code 25 = .ok (.iinc 4 1, 3) := by decide +kernel
theorem d_jdk_123_m3_28 : decode jdk_123_method_3_code 28 = .ok (.goto (-21), 3) := by decide +kernel
def QGcp (Z : State) (xt : Addr) (kt : ClassId) (us : List Int32) (h0 : Heap) (n0 : Nat) (v : Option Value) (h : Heap) (L : List Loc) : Prop := (∃ r : Int32, v = some (.int r) ∧ ((r = (Int32.ofNat us.length) ∧ (∀ b ∈ us, ¬ b < 0)) ∨ (¬ r = (Int32.ofNat us.length) ∧ ¬ (∀ b ∈ us, ¬ b < 0)))) ∧ Fr n0 L ∧ h = h0
set_option maxRecDepth 65536 in
set_option maxHeartbeats 40000000 in
theorem rmGcp (l : Launch) (Z : State) (a0 : Array Value) (hw : ∀ d ∈ tables_1, d.before a0 Z = true) (ws : List Jvm.Cond) (xt : Addr) (kt : ClassId) (us : List Int32) (h0 : Heap) (n0 : Nat) (X00 : Old Z n0 h0) (Axt : Arv Z h0 xt kt .byte (Int32.ofNat us.length) (us.map Value.int) (.int 0)) (hus : us.length ≤ 4000) :
  MetFree l yN35 (head1 (Jvm.Cond.code yN35 jdk_123_method_3_code 5 (some .int) :: ws) ({ frames := 0, cells := 0, slots := 0, locals := 0 } : Room)) (fun aa U => aa = #[(.ref xt), (.int 0), (.int (Int32.ofNat us.length))] ∧ Z.Warmed39 U.vm ∧ U.heap = h0) (fun _ _ _ _ _ => True) (fun _ U o U' => ∃ v L, o = .returned v ∧ QGcp Z xt kt us h0 n0 v U'.heap L ∧ FrameEnd U o U' L ({ frames := 0, cells := 0, slots := 0, locals := 0 } : Room).cells ({ frames := 0, cells := 0, slots := 0, locals := 0 } : Room).slots) := by
 refine MetFree.of_bodySF (plainFor_of_name pn_8) hisR ?_
 intro p e s m args below meth c s₁ Bd hml0 hP hK
 obtain ⟨rfl, hZ, hh⟩ := hP
 have hx := Bd.exec
 have hby := Bd.bytes
 have hml : c.maxLocals = 5 := hml0
 have hown : s.vm.findClass "java/lang/StringCoding" = some m.cls := findClass_of_methodNamed Bd.named
 have hnm := (name_of_methodNamed Bd.named Bd.method).1
 have X0 : Stand p l e ({ frames := 0, cells := 0, slots := 0, locals := 0 } : Room) s m #[(.ref xt), (.int 0), (.int (Int32.ofNat us.length))] below meth c s₁ [] 0 0 := Stand.of_body Bd
 have e0 : s₁.heap = h0 := by rw [← hh, Bd.state]; rfl
 have N0 := Fr.nil n0
 have K0 := Keep.refl h0 []
 have ef : entryFrame m #[(.ref xt), (.int 0), (.int (Int32.ofNat us.length))] 5 = mkF m 0 #[vr xt, vi 0, .val (.int (Int32.ofNat us.length)), un, un] [] := (by first | (simp [entryFrame, mkF, argsToLocals, Value.category]; done) | rfl : entryFrame m #[(.ref xt), (.int 0), (.int (Int32.ofNat us.length))] 5 = mkF m 0 #[vr xt, vi 0, .val (.int (Int32.ofNat us.length)), un, un] [])
 rw [ef]
 refine fin_of fun Kx hF => ?_
 show Go p.tables e below Kx _ (mkF m 0 _ [])
 refine s_iloadN (pc' := 1) X0.here hx (hb hby d_jdk_123_m3_0) rfl rfl ?_
 refine s_iloadN (pc' := 2) X0.here hx (hb hby d_jdk_123_m3_1) rfl rfl ?_
 refine s_iadd (pc' := 3) (z := (Int32.ofNat us.length)) X0.here hx (hb hby d_jdk_123_m3_2) rfl (Int32.zero_add _) ?_
 refine s_istoreN (pc' := 4) (Ls' := #[vr xt, vi 0, .val (.int (Int32.ofNat us.length)), .val (.int (Int32.ofNat us.length)), un]) X0.here hx (hb hby d_jdk_123_m3_3) rfl  rfl ?_
 refine s_iloadN (pc' := 5) X0.here hx (hb hby d_jdk_123_m3_4) rfl rfl ?_
 refine s_istore (pc' := 7) (Ls' := #[vr xt, vi 0, .val (.int (Int32.ofNat us.length)), .val (.int (Int32.ofNat us.length)), vi 0]) X0.here hx (hb hby d_jdk_123_m3_5) rfl  rfl ?_
 have J : ∀ (rr dd : List Int32) (TJ : State) (LJ : List Loc), Stand p l e ({ frames := 0, cells := 0, slots := 0, locals := 0 } : Room) s m #[(.ref xt), (.int 0), (.int (Int32.ofNat us.length))] below meth c TJ LJ 0 0 → Fr n0 LJ → TJ.heap = h0 → us = dd ++ rr → (∀ b ∈ dd, ¬ b < 0) → Go p.tables e below Kx TJ (mkF m 7 #[vr xt, vi 0, .val (.int (Int32.ofNat us.length)), .val (.int (Int32.ofNat us.length)), .val (.int (Int32.ofNat dd.length))] []) := by
  intro rr
  induction rr with
  | nil =>
   intro dd TJ LJ XJ NJ eJ hs ha
   show Go p.tables e below Kx _ (mkF m 7 _ [])
   refine s_iload (pc' := 9) XJ.here hx (hb hby d_jdk_123_m3_7) rfl rfl ?_
   refine s_iloadN (pc' := 10) XJ.here hx (hb hby d_jdk_123_m3_9) rfl rfl ?_
   refine s_icmpY (pc' := 31) XJ.here hx (hb hby d_jdk_123_m3_10) (flt (lt_end hs)).2.1 (by decide) (by decide) ?_
   refine s_iloadN (pc' := 32) XJ.here hx (hb hby d_jdk_123_m3_31) rfl rfl ?_
   obtain ⟨fs, hr, hrun, hended, hW, hsame⟩ := XJ.leave (v := (some (.int (Int32.ofNat us.length)))) (fun h => by rw [Bd.returns] at h; cases h)
   refine Go.fin (retI XJ hx Bd.returns (hb hby d_jdk_123_m3_32) hr) (hF _ _ hrun hended ⟨_, _, rfl, ?_, ⟨_, rfl⟩, hW, hsame.mono (by decide) (by decide)⟩)
   ·
    show QGcp Z xt kt us h0 n0 ((some (.int (Int32.ofNat us.length))) : Option Value) TJ.heap _
    rw [eJ]
    exact ⟨⟨_, rfl, Or.inl ⟨rfl, by rw [hs, List.append_nil]; exact ha⟩⟩, NJ, rfl⟩
  | cons bb rr ih =>
   intro dd TJ LJ XJ NJ eJ hs ha
   show Go p.tables e below Kx _ (mkF m 7 _ [])
   refine s_iload (pc' := 9) XJ.here hx (hb hby d_jdk_123_m3_7) rfl rfl ?_
   refine s_iloadN (pc' := 10) XJ.here hx (hb hby d_jdk_123_m3_9) rfl rfl ?_
   refine s_icmpN (pc' := 13) XJ.here hx (hb hby d_jdk_123_m3_10) rfl (tlt (at_mid hs hus .null).2.2).2.1 ?_
   refine s_aloadN (pc' := 14) XJ.here hx (hb hby d_jdk_123_m3_13) rfl rfl rfl ?_
   refine s_iload (pc' := 16) XJ.here hx (hb hby d_jdk_123_m3_14) rfl rfl ?_
   obtain ⟨cl270, Ar270, Aq270, As270, An270, Ah270, Ag270⟩ := id Axt
   have in271 := inb_of (j := (Int32.ofNat dd.length)) As270 (at_mid hs hus .null).2
   have at271 : cl270.slots[((Int32.ofNat dd.length)).toNatClampNeg]? = some (.int bb) := Ah270.at in271 (at_mid hs hus _).1
   refine Go.st (XJ.baloadBytes hx (j := (Int32.ofNat dd.length)) (v := (.int bb)) (by rw [eJ]; exact Ar270.1) (State.isArrayOf_alike hZ.alike Ar270.2.1) Ar270.2.2 in271 at271 (g := (mkF m 16 #[vr xt, vi 0, .val (.int (Int32.ofNat us.length)), .val (.int (Int32.ofNat us.length)), .val (.int (Int32.ofNat dd.length))] [(.int (Int32.ofNat dd.length)), (.ref xt)])) rfl rfl (hb hby d_jdk_123_m3_16)) ?_
   show Go p.tables e below Kx _ (mkF m 17 _ [(.int bb)])
   by_cases hc272 : bb < (0 : Int32)
   ·
    refine s_ifN (pc' := 20) XJ.here hx (hb hby d_jdk_123_m3_17) rfl ((if0 _ _).trans (tlt hc272).2.1) ?_
    refine s_iload (pc' := 22) XJ.here hx (hb hby d_jdk_123_m3_20) rfl rfl ?_
    refine s_iloadN (pc' := 23) XJ.here hx (hb hby d_jdk_123_m3_22) rfl rfl ?_
    refine s_isub (pc' := 24) (z := (Int32.ofNat dd.length)) XJ.here hx (hb hby d_jdk_123_m3_23) rfl (Int32.sub_zero _) ?_
    obtain ⟨fs, hr, hrun, hended, hW, hsame⟩ := XJ.leave (v := (some (.int (Int32.ofNat dd.length)))) (fun h => by rw [Bd.returns] at h; cases h)
    refine Go.fin (retI XJ hx Bd.returns (hb hby d_jdk_123_m3_24) hr) (hF _ _ hrun hended ⟨_, _, rfl, ?_, ⟨_, rfl⟩, hW, hsame.mono (by decide) (by decide)⟩)
    ·
     show QGcp Z xt kt us h0 n0 ((some (.int (Int32.ofNat dd.length))) : Option Value) TJ.heap _
     rw [eJ]
     exact ⟨⟨_, rfl, Or.inr ⟨ne_mid hs hus, fun q => q bb (by rw [hs]; simp) hc272⟩⟩, NJ, rfl⟩
   ·
    refine s_ifY (pc' := 25) XJ.here hx (hb hby d_jdk_123_m3_17) ((if0 _ _).trans (flt hc272).2.1) (by decide) (by decide) ?_
    refine s_iinc (pc' := 28) (Ls' := #[vr xt, vi 0, .val (.int (Int32.ofNat us.length)), .val (.int (Int32.ofNat us.length)), .val (.int (Int32.ofNat (dd ++ [bb]).length))]) (z := (Int32.ofNat (dd ++ [bb]).length)) XJ.here hx (hb hby d_jdk_123_m3_25) rfl rfl (lsucc _ _) rfl ?_
    refine s_goto (pc' := 7) XJ.here hx (hb hby d_jdk_123_m3_28) (by decide) (by decide) ?_
    exact ih _ _ _ XJ NJ eJ (app_mid hs) (fun b hb => (List.mem_append.mp hb).elim (ha b) (fun q => by rw [List.mem_singleton.mp q]; exact hc272))
 exact J us [] _ _ X0 N0 e0 rfl (fun _ hb => nomatch hb)
theorem pd_27 : parseMethodDescriptor "([BII)I" = some ⟨[(.array .byte), .int, .int], some .int⟩ := by decide +kernel
theorem d_jdk_123_m2_3 : decode jdk_123_method_2_code 3 = .ok (.invokestatic 7, 3) := by decide +kernel
theorem d_jdk_123_m2_6 : decode jdk_123_method_2_code 6 = .ok (.iload_n 2, 1) := by decide +kernel
theorem d_jdk_123_m2_7 : decode jdk_123_method_2_code 7 = .ok (.if_icmp .eq 7, 3) := by decide +kernel
theorem d_jdk_123_m2_14 : decode jdk_123_method_2_code 14 = .ok (.iconst 0, 1) := by decide +kernel
theorem d_jdk_123_m2_15 : decode jdk_123_method_2_code 15 = .ok (.ireturn, 1) := by decide +kernel
theorem d_jdk_123_m2_10 : decode jdk_123_method_2_code 10 = .ok (.iconst 1, 1) := by decide +kernel
theorem d_jdk_123_m2_11 : decode jdk_123_method_2_code 11 = .ok (.goto 4, 3) := by decide +kernel
def QGhn (Z : State) (xt : Addr) (kt : ClassId) (us : List Int32) (h0 : Heap) (n0 : Nat) (v : Option Value) (h : Heap) (L : List Loc) : Prop := (∃ r : Int32, v = some (.int r) ∧ ((r = 0 ∧ (∀ b ∈ us, ¬ b < 0)) ∨ (r = 1 ∧ ¬ (∀ b ∈ us, ¬ b < 0)))) ∧ Fr n0 L ∧ h = h0
set_option maxRecDepth 65536 in
set_option maxHeartbeats 40000000 in
theorem rmGhn (l : Launch) (Z : State) (a0 : Array Value) (hw : ∀ d ∈ tables_1, d.before a0 Z = true) (ws : List Jvm.Cond) (xt : Addr) (kt : ClassId) (us : List Int32) (h0 : Heap) (n0 : Nat) (X00 : Old Z n0 h0) (Axt : Arv Z h0 xt kt .byte (Int32.ofNat us.length) (us.map Value.int) (.int 0)) (hus : us.length ≤ 4000) :
  MetFree l yN36 (head1 (Jvm.Cond.code yN36 jdk_123_method_2_code 3 (some .boolean) :: ws) ({ frames := 1, cells := 0, slots := 0, locals := 16 } : Room)) (fun aa U => aa = #[(.ref xt), (.int 0), (.int (Int32.ofNat us.length))] ∧ Z.Warmed39 U.vm ∧ U.heap = h0) (fun _ _ _ _ _ => True) (fun _ U o U' => ∃ v L, o = .returned v ∧ QGhn Z xt kt us h0 n0 v U'.heap L ∧ FrameEnd U o U' L ({ frames := 1, cells := 0, slots := 0, locals := 16 } : Room).cells ({ frames := 1, cells := 0, slots := 0, locals := 16 } : Room).slots) := by
 refine MetFree.of_bodySF (plainFor_of_name pn_8) hisR ?_
 intro p e s m args below meth c s₁ Bd hml0 hP hK
 obtain ⟨rfl, hZ, hh⟩ := hP
 have hx := Bd.exec
 have hby := Bd.bytes
 have hml : c.maxLocals = 3 := hml0
 have hown : s.vm.findClass "java/lang/StringCoding" = some m.cls := findClass_of_methodNamed Bd.named
 have hnm := (name_of_methodNamed Bd.named Bd.method).1
 have X0 : Stand p l e ({ frames := 1, cells := 0, slots := 0, locals := 16 } : Room) s m #[(.ref xt), (.int 0), (.int (Int32.ofNat us.length))] below meth c s₁ [] 0 0 := Stand.of_body Bd
 have e0 : s₁.heap = h0 := by rw [← hh, Bd.state]; rfl
 have N0 := Fr.nil n0
 have K0 := Keep.refl h0 []
 have ef : entryFrame m #[(.ref xt), (.int 0), (.int (Int32.ofNat us.length))] 3 = mkF m 0 #[vr xt, vi 0, .val (.int (Int32.ofNat us.length))] [] := (by first | (simp [entryFrame, mkF, argsToLocals, Value.category]; done) | rfl : entryFrame m #[(.ref xt), (.int 0), (.int (Int32.ofNat us.length))] 3 = mkF m 0 #[vr xt, vi 0, .val (.int (Int32.ofNat us.length))] [])
 rw [ef]
 refine fin_of fun Kx hF => ?_
 show Go p.tables e below Kx _ (mkF m 0 _ [])
 refine s_aloadN (pc' := 1) X0.here hx (hb hby d_jdk_123_m2_0) rfl rfl rfl ?_
 refine s_iloadN (pc' := 2) X0.here hx (hb hby d_jdk_123_m2_1) rfl rfl ?_
 refine s_iloadN (pc' := 3) X0.here hx (hb hby d_jdk_123_m2_2) rfl rfl ?_
 obtain ⟨_, _, ⟨T273, L273, k273, n273⟩, -, X273, ⟨Lc273, hQ273, l273, y273, z273⟩, st273⟩ := Jvm.LawKit.callS X0 hx (y := yN35) hown (mvT hZ (hv hw 239 rfl)) (mvT hZ (hv hw 240 rfl)) (mvT hZ (hv hw 237 rfl)) (mvT hZ (hv hw 241 rfl)) (by decide) (backOf (W := 0) (rmGcp l Z a0 hw [] xt kt us h0 n0 X00 Axt hus) hZ (hv hw 241 rfl) (hv hw 237 rfl) (by decide) (by decide)) (g := (mkF m 3 #[vr xt, vi 0, .val (.int (Int32.ofNat us.length))] [(.int (Int32.ofNat us.length)), (.int 0), (.ref xt)])) rfl (by rw [hml]; rfl) (argsL := [(.ref xt), (.int 0), (.int (Int32.ofNat us.length))]) (rest := []) (lenOf pd_27 rfl) rfl (by exact Nat.le_of_eq rfl) (hb hby d_jdk_123_m2_3) (fun _ _ => ⟨rfl, e0, (by decide : 0 + 0 ≤ _), (by decide : 0 + 0 ≤ _)⟩)
 dsimp only [Pt.U, Pt.locs, Pt.cells, Pt.slots] at X273 l273 y273 z273 st273 hQ273
 rw [l273, y273, z273] at X273
 obtain ⟨⟨r273, rfl, hr273⟩, Nq273, hE273⟩ := hQ273
 rcases hr273 with ⟨hn273, hr273⟩ | ⟨hn273, hr273⟩
 ·
  have N273 := Fr.app N0 Nq273
  refine Go.st st273 ?_
  show Go p.tables e below Kx _ (mkF m 6 _ [(.int r273)])
  refine s_iloadN (pc' := 7) X273.here hx (hb hby d_jdk_123_m2_6) rfl rfl ?_
  refine s_icmpY (pc' := 14) X273.here hx (hb hby d_jdk_123_m2_7) (teq hn273).1 (by decide) (by decide) ?_
  refine s_iconst (pc' := 15) (v := 0) X273.here hx (hb hby d_jdk_123_m2_14) rfl rfl ?_
  obtain ⟨fs, hr, hrun, hended, hW, hsame⟩ := X273.leave (v := (some (.int 0))) (fun h => by rw [Bd.returns] at h; cases h)
  refine Go.fin (retN X273 hx (t := .boolean) Bd.returns (by simp) (hb hby d_jdk_123_m2_15) hr) (hF _ _ hrun hended ⟨_, _, rfl, ?_, ⟨_, rfl⟩, hW, hsame.mono (by decide) (by decide)⟩)
  ·
   show QGhn Z xt kt us h0 n0 ((some (.int 0)) : Option Value) T273.heap _
   rw [hE273]
   exact ⟨⟨_, rfl, Or.inl ⟨rfl, hr273⟩⟩, N273, rfl⟩
 ·
  have N273 := Fr.app N0 Nq273
  refine Go.st st273 ?_
  show Go p.tables e below Kx _ (mkF m 6 _ [(.int r273)])
  refine s_iloadN (pc' := 7) X273.here hx (hb hby d_jdk_123_m2_6) rfl rfl ?_
  refine s_icmpN (pc' := 10) X273.here hx (hb hby d_jdk_123_m2_7) rfl (feq hn273).1 ?_
  refine s_iconst (pc' := 11) (v := 1) X273.here hx (hb hby d_jdk_123_m2_10) rfl rfl ?_
  refine s_goto (pc' := 15) X273.here hx (hb hby d_jdk_123_m2_11) (by decide) (by decide) ?_
  obtain ⟨fs, hr, hrun, hended, hW, hsame⟩ := X273.leave (v := (some (.int 1))) (fun h => by rw [Bd.returns] at h; cases h)
  refine Go.fin (retN X273 hx (t := .boolean) Bd.returns (by simp) (hb hby d_jdk_123_m2_15) hr) (hF _ _ hrun hended ⟨_, _, rfl, ?_, ⟨_, rfl⟩, hW, hsame.mono (by decide) (by decide)⟩)
  ·
   show QGhn Z xt kt us h0 n0 ((some (.int 1)) : Option Value) T273.heap _
   rw [hE273]
   exact ⟨⟨_, rfl, Or.inr ⟨rfl, hr273⟩⟩, N273, rfl⟩
theorem pd_28 : parseMethodDescriptor "([BII)Z" = some ⟨[(.array .byte), .int, .int], some .boolean⟩ := by decide +kernel
theorem d_jdk_42_m46_15 : decode jdk_42_method_46_code 15 = .ok (.invokestatic 128, 3) := by decide +kernel
theorem d_jdk_42_m46_18 : decode jdk_42_method_46_code 18 = .ok (.ifCond .ne 11, 3) := by decide +kernel
theorem d_jdk_42_m46_21 : decode jdk_42_method_46_code 21 = .ok (.aload_n 1, 1) := by decide +kernel
theorem d_jdk_42_m46_22 : decode jdk_42_method_46_code 22 = .ok (.invokevirtual 279, 3) := by decide +kernel
theorem d_jdk_42_m46_25 : decode jdk_42_method_46_code 25 = .ok (.checkcast 280, 3) := by decide +kernel
theorem d_jdk_42_m46_28 : decode jdk_42_method_46_code 28 = .ok (.areturn, 1) := by decide +kernel
theorem d_jdk_42_m46_29 : decode jdk_42_method_46_code 29 = .ok (.iconst 0, 1) := by decide +kernel
theorem d_jdk_42_m46_30 : decode jdk_42_method_46_code 30 = .ok (.istore_n 3, 1) := by decide +kernel
theorem d_jdk_42_m46_31 : decode jdk_42_method_46_code 31 = .ok (.aload_n 1, 1) := by decide +kernel
theorem d_jdk_42_m46_32 : decode jdk_42_method_46_code 32 = .ok (.arraylength, 1) := by decide +kernel
theorem pn_9 : plainName "java/lang/StringUTF16" = true := by first | (simp [plainName, overriddenIn]; done) | decide +kernel
theorem d_jdk_52_m2_0 : decode jdk_52_method_2_code 0 = .ok (.iload_n 0, 1) := by decide +kernel
theorem d_jdk_52_m3_0 : decode jdk_52_method_3_code 0 = .ok (.iload_n 0, 1) := by decide +kernel
theorem d_jdk_52_m3_1 : decode jdk_52_method_3_code 1 = .ok (.ifCond .ge 11, 3) := by decide +kernel
theorem d_jdk_52_m3_12 : decode jdk_52_method_3_code 12 = .ok (.iload_n 0, 1) := by decide +kernel
theorem d_jdk_52_m3_13 : decode jdk_52_method_3_code 13 = .ok (.ldc 20, 2) := by decide +kernel
theorem d_jdk_52_m3_15 : decode jdk_52_method_3_code 15 = .ok (.if_icmp .lt 40, 3) := by decide +kernel
theorem d_jdk_52_m3_55 : decode jdk_52_method_3_code 55 = .ok (.iload_n 0, 1) := by decide +kernel
theorem d_jdk_52_m3_56 : decode jdk_52_method_3_code 56 = .ok (.iconst 1, 1) := by decide +kernel
theorem d_jdk_52_m3_57 : decode jdk_52_method_3_code 57 = .ok (.ishl, 1) := by decide +kernel
theorem d_jdk_52_m3_58 : decode jdk_52_method_3_code 58 = .ok (.ireturn, 1) := by decide +kernel
def QGnl (Z : State) (us : List Int32) (h0 : Heap) (n0 : Nat) (v : Option Value) (h : Heap) (L : List Loc) : Prop := v = some (.int (Int32.ofNat (us ++ us).length)) ∧ Fr n0 L ∧ h = h0
set_option maxRecDepth 65536 in
set_option maxHeartbeats 40000000 in
theorem rmGnl (l : Launch) (Z : State) (a0 : Array Value) (hw : ∀ d ∈ tables_1, d.before a0 Z = true) (ws : List Jvm.Cond) (us : List Int32) (h0 : Heap) (n0 : Nat) (X00 : Old Z n0 h0) (hl : us.length < 16) :
  MetFree l yN41 (head1 (Jvm.Cond.code yN41 jdk_52_method_3_code 1 (some .int) :: ws) ({ frames := 0, cells := 0, slots := 0, locals := 0 } : Room)) (fun aa U => aa = #[(.int (Int32.ofNat us.length))] ∧ Z.Warmed39 U.vm ∧ U.heap = h0) (fun _ _ _ _ _ => True) (fun _ U o U' => ∃ v L, o = .returned v ∧ QGnl Z us h0 n0 v U'.heap L ∧ FrameEnd U o U' L ({ frames := 0, cells := 0, slots := 0, locals := 0 } : Room).cells ({ frames := 0, cells := 0, slots := 0, locals := 0 } : Room).slots) := by
 refine MetFree.of_bodySF (plainFor_of_name pn_9) hisR ?_
 intro p e s m args below meth c s₁ Bd hml0 hP hK
 obtain ⟨rfl, hZ, hh⟩ := hP
 have hx := Bd.exec
 have hby := Bd.bytes
 have hml : c.maxLocals = 1 := hml0
 have hown : s.vm.findClass "java/lang/StringUTF16" = some m.cls := findClass_of_methodNamed Bd.named
 have hnm := (name_of_methodNamed Bd.named Bd.method).1
 have X0 : Stand p l e ({ frames := 0, cells := 0, slots := 0, locals := 0 } : Room) s m #[(.int (Int32.ofNat us.length))] below meth c s₁ [] 0 0 := Stand.of_body Bd
 have e0 : s₁.heap = h0 := by rw [← hh, Bd.state]; rfl
 have N0 := Fr.nil n0
 have K0 := Keep.refl h0 []
 have ef : entryFrame m #[(.int (Int32.ofNat us.length))] 1 = mkF m 0 #[.val (.int (Int32.ofNat us.length))] [] := (by first | (simp [entryFrame, mkF, argsToLocals, Value.category]; done) | rfl : entryFrame m #[(.int (Int32.ofNat us.length))] 1 = mkF m 0 #[.val (.int (Int32.ofNat us.length))] [])
 rw [ef]
 refine fin_of fun Kx hF => ?_
 show Go p.tables e below Kx _ (mkF m 0 _ [])
 refine s_iloadN (pc' := 1) X0.here hx (hb hby d_jdk_52_m3_0) rfl rfl ?_
 refine s_ifY (pc' := 12) X0.here hx (hb hby d_jdk_52_m3_1) ((if0 _ _).trans (flt (nn0 (le4 hl))).2.1) (by decide) (by decide) ?_
 refine s_iloadN (pc' := 13) X0.here hx (hb hby d_jdk_52_m3_12) rfl rfl ?_
 refine Go.st (X0.ldcInt hx hown (mvT hZ (hv hw 260 rfl)) (g := (mkF m 13 #[.val (.int (Int32.ofNat us.length))] [(.int (Int32.ofNat us.length))])) rfl (hb hby d_jdk_52_m3_13)) ?_
 show Go p.tables e below Kx _ (mkF m 15 _ [(.int 1073741823), (.int (Int32.ofNat us.length))])
 refine s_icmpY (pc' := 55) X0.here hx (hb hby d_jdk_52_m3_15) (tlt (lt_big hl)).1 (by decide) (by decide) ?_
 refine s_iloadN (pc' := 56) X0.here hx (hb hby d_jdk_52_m3_55) rfl rfl ?_
 refine s_iconst (pc' := 57) (v := 1) X0.here hx (hb hby d_jdk_52_m3_56) rfl rfl ?_
 refine s_ishl (pc' := 58) (z := (Int32.ofNat (us ++ us).length)) X0.here hx (hb hby d_jdk_52_m3_57) rfl shl1 ?_
 obtain ⟨fs, hr, hrun, hended, hW, hsame⟩ := X0.leave (v := (some (.int (Int32.ofNat (us ++ us).length)))) (fun h => by rw [Bd.returns] at h; cases h)
 refine Go.fin (retI X0 hx Bd.returns (hb hby d_jdk_52_m3_58) hr) (hF _ _ hrun hended ⟨_, _, rfl, ?_, ⟨_, rfl⟩, hW, hsame.mono (by decide) (by decide)⟩)
 ·
  show QGnl Z us h0 n0 ((some (.int (Int32.ofNat (us ++ us).length))) : Option Value) s₁.heap _
  rw [e0]
  exact ⟨rfl, N0, rfl⟩
theorem d_jdk_52_m2_1 : decode jdk_52_method_2_code 1 = .ok (.invokestatic 11, 3) := by decide +kernel
theorem d_jdk_52_m2_4 : decode jdk_52_method_2_code 4 = .ok (.newarray .byte, 2) := by decide +kernel
theorem d_jdk_52_m2_6 : decode jdk_52_method_2_code 6 = .ok (.areturn, 1) := by decide +kernel
def QGnb (Z : State) (us : List Int32) (h0 : Heap) (n0 : Nat) (v : Option Value) (h : Heap) (L : List Loc) : Prop := ∃ (t : Addr) (k : ClassId), v = some (.ref t) ∧ Fr n0 L ∧ Keep h0 h [] ∧ h0.size ≤ t ∧ Exa Z h t "[B" ∧ Arv Z h t k .byte (Int32.ofNat (us ++ us).length) (pad (us ++ us).length []) (.int 0)
set_option maxRecDepth 65536 in
set_option maxHeartbeats 40000000 in
theorem rmGnb (l : Launch) (Z : State) (a0 : Array Value) (hw : ∀ d ∈ tables_1, d.before a0 Z = true) (ws : List Jvm.Cond) (us : List Int32) (h0 : Heap) (n0 : Nat) (X00 : Old Z n0 h0) (hl : us.length < 16) :
  MetFree l yN40 (head1 (Jvm.Cond.code yN40 jdk_52_method_2_code 1 (some (.array .byte)) :: ws) ({ frames := 1, cells := 1, slots := 30, locals := 12 } : Room)) (fun aa U => aa = #[(.int (Int32.ofNat us.length))] ∧ Z.Warmed39 U.vm ∧ U.heap = h0) (fun _ _ _ _ _ => True) (fun _ U o U' => ∃ v L, o = .returned v ∧ QGnb Z us h0 n0 v U'.heap L ∧ FrameEnd U o U' L ({ frames := 1, cells := 1, slots := 30, locals := 12 } : Room).cells ({ frames := 1, cells := 1, slots := 30, locals := 12 } : Room).slots) := by
 refine MetFree.of_bodySF (plainFor_of_name pn_9) hisR ?_
 intro p e s m args below meth c s₁ Bd hml0 hP hK
 obtain ⟨rfl, hZ, hh⟩ := hP
 have hx := Bd.exec
 have hby := Bd.bytes
 have hml : c.maxLocals = 1 := hml0
 have hown : s.vm.findClass "java/lang/StringUTF16" = some m.cls := findClass_of_methodNamed Bd.named
 have hnm := (name_of_methodNamed Bd.named Bd.method).1
 have X0 : Stand p l e ({ frames := 1, cells := 1, slots := 30, locals := 12 } : Room) s m #[(.int (Int32.ofNat us.length))] below meth c s₁ [] 0 0 := Stand.of_body Bd
 have e0 : s₁.heap = h0 := by rw [← hh, Bd.state]; rfl
 have N0 := Fr.nil n0
 have K0 := Keep.refl h0 []
 have ef : entryFrame m #[(.int (Int32.ofNat us.length))] 1 = mkF m 0 #[.val (.int (Int32.ofNat us.length))] [] := (by first | (simp [entryFrame, mkF, argsToLocals, Value.category]; done) | rfl : entryFrame m #[(.int (Int32.ofNat us.length))] 1 = mkF m 0 #[.val (.int (Int32.ofNat us.length))] [])
 rw [ef]
 refine fin_of fun Kx hF => ?_
 show Go p.tables e below Kx _ (mkF m 0 _ [])
 refine s_iloadN (pc' := 1) X0.here hx (hb hby d_jdk_52_m2_0) rfl rfl ?_
 obtain ⟨_, _, ⟨T278, L278, k278, n278⟩, -, X278, ⟨Lc278, hQ278, l278, y278, z278⟩, st278⟩ := Jvm.LawKit.callS X0 hx (y := yN41) hown (mvT hZ (hv hw 257 rfl)) (mvT hZ (hv hw 258 rfl)) (mvT hZ (hv hw 21 rfl)) (mvT hZ (hv hw 259 rfl)) (by decide) (backOf (W := 0) (rmGnl l Z a0 hw [] us h0 n0 X00 hl) hZ (hv hw 259 rfl) (hv hw 21 rfl) (by decide) (by decide)) (g := (mkF m 1 #[.val (.int (Int32.ofNat us.length))] [(.int (Int32.ofNat us.length))])) rfl (by rw [hml]; rfl) (argsL := [(.int (Int32.ofNat us.length))]) (rest := []) (lenOf pd_10 rfl) rfl (by exact Nat.le_of_eq rfl) (hb hby d_jdk_52_m2_1) (fun _ _ => ⟨rfl, e0, (by decide : 0 + 0 ≤ _), (by decide : 0 + 0 ≤ _)⟩)
 dsimp only [Pt.U, Pt.locs, Pt.cells, Pt.slots] at X278 l278 y278 z278 st278 hQ278
 rw [l278, y278, z278] at X278
 obtain ⟨rfl, Nq278, hE278⟩ := hQ278
 have N278 := Fr.app N0 Nq278
 refine Go.st st278 ?_
 show Go p.tables e below Kx _ (mkF m 4 _ [(.int (Int32.ofNat (us ++ us).length))])
 obtain ⟨T279, h279, k279, X279, e279, E279, A279, B279, st279⟩ := newPE X278 hx hZ (hv hw 23 rfl) hE278 (g := (mkF m 4 #[.val (.int (Int32.ofNat us.length))] [(.int (Int32.ofNat (us ++ us).length))])) rfl (hb hby d_jdk_52_m2_4) rfl (nn0 (len2k hl)) (cap := 30) (by rw [nl (len2k hl)]; exact len2 hl) (by decide) (by decide) (by decide) (ad := "[B") (by decide)
 obtain ⟨b279, g279⟩ : ∃ z, z = h0.size := ⟨_, rfl⟩
 rw [← g279] at A279 B279 st279
 have sz279 : h0.size ≤ b279 := Nat.le_trans K0.1 (Nat.le_of_eq g279.symm)
 have ge279 : n0 ≤ b279 := Nat.le_trans (X00.1 ▸ X00.2.1) (Nat.le_of_eq g279.symm)
 have K279 : Keep h0 h279 [] := K0.ext E279
 have O279 : Old Z n0 h279 := X00.ext E279
 have V279 : Arv Z h279 b279 k279 .byte (Int32.ofNat (us ++ us).length) (pad (us ++ us).length []) (.int 0) := newPad (n := (us ++ us).length) A279 (len2k hl)
 refine Go.st st279 ?_
 show Go p.tables e below Kx _ (mkF m 6 _ [(.ref b279)])
 obtain ⟨fs, hr, hrun, hended, hW, hsame⟩ := X279.leave (v := (some (.ref b279))) (fun h => by rw [Bd.returns] at h; cases h)
 refine Go.fin (retOut X279 hx Bd.returns rfl (Or.inr (Or.inr (Or.inr (Or.inr ⟨rfl, rfl, rfl⟩)))) (hb hby d_jdk_52_m2_6) hr) (hF _ _ hrun hended ⟨_, _, rfl, ?_, ⟨_, rfl⟩, hW, hsame.mono (by decide) (by decide)⟩)
 ·
  show QGnb Z us h0 n0 ((some (.ref b279)) : Option Value) T279.heap _
  rw [e279]
  exact ⟨_, _, rfl, N278, K279, sz279, B279, V279⟩
theorem pd_29 : parseMethodDescriptor "(I)[B" = some ⟨[.int], some (.array .byte)⟩ := by decide +kernel
theorem d_jdk_42_m46_33 : decode jdk_42_method_46_code 33 = .ok (.invokestatic 60, 3) := by decide +kernel
theorem d_jdk_42_m46_36 : decode jdk_42_method_46_code 36 = .ok (.astore 4, 2) := by decide +kernel
theorem d_jdk_42_m46_38 : decode jdk_42_method_46_code 38 = .ok (.aload_n 1, 1) := by decide +kernel
theorem d_jdk_42_m46_39 : decode jdk_42_method_46_code 39 = .ok (.astore 5, 2) := by decide +kernel
theorem d_jdk_42_m46_41 : decode jdk_42_method_46_code 41 = .ok (.aload 5, 2) := by decide +kernel
theorem d_jdk_42_m46_43 : decode jdk_42_method_46_code 43 = .ok (.arraylength, 1) := by decide +kernel
theorem d_jdk_42_m46_44 : decode jdk_42_method_46_code 44 = .ok (.istore 6, 2) := by decide +kernel
theorem d_jdk_42_m46_46 : decode jdk_42_method_46_code 46 = .ok (.iconst 0, 1) := by decide +kernel
theorem d_jdk_42_m46_47 : decode jdk_42_method_46_code 47 = .ok (.istore 7, 2) := by decide +kernel
theorem d_jdk_42_m46_49 : decode jdk_42_method_46_code 49 = .ok (.iload 7, 2) := by decide +kernel
theorem d_jdk_42_m46_51 : decode jdk_42_method_46_code 51 = .ok (.iload 6, 2) := by decide +kernel
theorem d_jdk_42_m46_53 : decode jdk_42_method_46_code 53 = .ok (.if_icmp .ge 71, 3) := by decide +kernel
theorem d_jdk_42_m46_124 : decode jdk_42_method_46_code 124 = .ok (.iload_n 3, 1) := by decide +kernel
theorem d_jdk_42_m46_125 : decode jdk_42_method_46_code 125 = .ok (.aload 4, 2) := by decide +kernel
theorem d_jdk_42_m46_127 : decode jdk_42_method_46_code 127 = .ok (.arraylength, 1) := by decide +kernel
theorem d_jdk_42_m46_128 : decode jdk_42_method_46_code 128 = .ok (.if_icmp .ne 6, 3) := by decide +kernel
theorem d_jdk_42_m46_134 : decode jdk_42_method_46_code 134 = .ok (.aload 4, 2) := by decide +kernel
theorem d_jdk_42_m46_136 : decode jdk_42_method_46_code 136 = .ok (.iload_n 3, 1) := by decide +kernel
theorem d_jdk_65_m121_0 : decode jdk_65_method_121_code 0 = .ok (.iload_n 1, 1) := by decide +kernel
theorem d_jdk_65_m121_1 : decode jdk_65_method_121_code 1 = .ok (.aload_n 0, 1) := by decide +kernel
theorem d_jdk_65_m121_2 : decode jdk_65_method_121_code 2 = .ok (.arraylength, 1) := by decide +kernel
theorem d_jdk_65_m121_3 : decode jdk_65_method_121_code 3 = .ok (.if_icmp .ne 11, 3) := by decide +kernel
theorem d_jdk_65_m121_14 : decode jdk_65_method_121_code 14 = .ok (.iload_n 1, 1) := by decide +kernel
theorem d_jdk_65_m121_15 : decode jdk_65_method_121_code 15 = .ok (.newarray .byte, 2) := by decide +kernel
theorem d_jdk_65_m121_17 : decode jdk_65_method_121_code 17 = .ok (.astore_n 2, 1) := by decide +kernel
theorem d_jdk_65_m121_18 : decode jdk_65_method_121_code 18 = .ok (.aload_n 0, 1) := by decide +kernel
theorem d_jdk_65_m121_19 : decode jdk_65_method_121_code 19 = .ok (.iconst 0, 1) := by decide +kernel
theorem d_jdk_65_m121_20 : decode jdk_65_method_121_code 20 = .ok (.aload_n 2, 1) := by decide +kernel
theorem d_jdk_65_m121_21 : decode jdk_65_method_121_code 21 = .ok (.iconst 0, 1) := by decide +kernel
theorem d_jdk_65_m121_22 : decode jdk_65_method_121_code 22 = .ok (.aload_n 0, 1) := by decide +kernel
theorem d_jdk_65_m121_23 : decode jdk_65_method_121_code 23 = .ok (.arraylength, 1) := by decide +kernel
theorem d_jdk_65_m121_24 : decode jdk_65_method_121_code 24 = .ok (.iload_n 1, 1) := by decide +kernel
theorem d_jdk_65_m121_25 : decode jdk_65_method_121_code 25 = .ok (.invokestatic 304, 3) := by decide +kernel
theorem d_jdk_65_m121_28 : decode jdk_65_method_121_code 28 = .ok (.invokestatic 150, 3) := by decide +kernel
theorem d_jdk_65_m121_31 : decode jdk_65_method_121_code 31 = .ok (.aload_n 2, 1) := by decide +kernel
theorem d_jdk_65_m121_32 : decode jdk_65_method_121_code 32 = .ok (.areturn, 1) := by decide +kernel
def QGco (Z : State) (xt : Addr) (kt : ClassId) (NN X : List Int32) (h0 : Heap) (n0 : Nat) (v : Option Value) (h : Heap) (L : List Loc) : Prop := ∃ (t : Addr) (k : ClassId), v = some (.ref t) ∧ Fr n0 L ∧ Keep h0 h [] ∧ h0.size ≤ t ∧ Exa Z h t "[B" ∧ Arv Z h t k .byte (Int32.ofNat X.length) (X.map Value.int) (.int 0)
set_option maxRecDepth 65536 in
set_option maxHeartbeats 40000000 in
theorem rmGco (l : Launch) (Z : State) (a0 : Array Value) (hw : ∀ d ∈ tables_1, d.before a0 Z = true) (ws : List Jvm.Cond) (xt : Addr) (kt : ClassId) (NN X : List Int32) (h0 : Heap) (n0 : Nat) (X00 : Old Z n0 h0) (Axt : Arv Z h0 xt kt .byte (Int32.ofNat NN.length) (pad NN.length X) (.int 0)) (hlt : X.length < NN.length) (hN : NN.length ≤ 30) :
  MetFree l yN43 (head1 (Jvm.Cond.code yN43 jdk_65_method_121_code 3 (some (.array .byte)) :: ws) ({ frames := 1, cells := 1, slots := 30, locals := 18 } : Room)) (fun aa U => aa = #[(.ref xt), (.int (Int32.ofNat X.length))] ∧ Z.Warmed39 U.vm ∧ U.heap = h0) (fun _ _ _ _ _ => True) (fun _ U o U' => ∃ v L, o = .returned v ∧ QGco Z xt kt NN X h0 n0 v U'.heap L ∧ FrameEnd U o U' L ({ frames := 1, cells := 1, slots := 30, locals := 18 } : Room).cells ({ frames := 1, cells := 1, slots := 30, locals := 18 } : Room).slots) := by
 refine MetFree.of_bodySF (plainFor_of_name pn_7) hisR ?_
 intro p e s m args below meth c s₁ Bd hml0 hP hK
 obtain ⟨rfl, hZ, hh⟩ := hP
 have hx := Bd.exec
 have hby := Bd.bytes
 have hml : c.maxLocals = 3 := hml0
 have hown : s.vm.findClass "java/util/Arrays" = some m.cls := findClass_of_methodNamed Bd.named
 have hnm := (name_of_methodNamed Bd.named Bd.method).1
 have X0 : Stand p l e ({ frames := 1, cells := 1, slots := 30, locals := 18 } : Room) s m #[(.ref xt), (.int (Int32.ofNat X.length))] below meth c s₁ [] 0 0 := Stand.of_body Bd
 have e0 : s₁.heap = h0 := by rw [← hh, Bd.state]; rfl
 have N0 := Fr.nil n0
 have K0 := Keep.refl h0 []
 have ef : entryFrame m #[(.ref xt), (.int (Int32.ofNat X.length))] 3 = mkF m 0 #[vr xt, .val (.int (Int32.ofNat X.length)), un] [] := (by first | (simp [entryFrame, mkF, argsToLocals, Value.category]; done) | rfl : entryFrame m #[(.ref xt), (.int (Int32.ofNat X.length))] 3 = mkF m 0 #[vr xt, .val (.int (Int32.ofNat X.length)), un] [])
 rw [ef]
 refine fin_of fun Kx hF => ?_
 show Go p.tables e below Kx _ (mkF m 0 _ [])
 refine s_iloadN (pc' := 1) X0.here hx (hb hby d_jdk_65_m121_0) rfl rfl ?_
 refine s_aloadN (pc' := 2) X0.here hx (hb hby d_jdk_65_m121_1) rfl rfl rfl ?_
 obtain ⟨cl284, Ar284, Aq284, As284, An284, Ah284, Ag284⟩ := id Axt
 refine Go.st (X0.arraylength hx (by rw [e0]; exact Ar284.1) (State.isArrayOf_alike hZ.alike Ar284.2.1) (g := (mkF m 2 #[vr xt, .val (.int (Int32.ofNat X.length)), un] [(.ref xt), (.int (Int32.ofNat X.length))])) rfl rfl (hb hby d_jdk_65_m121_2)) ?_
 rw [len_of As284 An284]
 show Go p.tables e below Kx _ (mkF m 3 _ [(.int (Int32.ofNat NN.length)), (.int (Int32.ofNat X.length))])
 refine s_icmpY (pc' := 14) X0.here hx (hb hby d_jdk_65_m121_3) (feq (ne_len hlt (Nat.le_trans hN (by decide)))).2 (by decide) (by decide) ?_
 refine s_iloadN (pc' := 15) X0.here hx (hb hby d_jdk_65_m121_14) rfl rfl ?_
 obtain ⟨T285, h285, k285, X285, e285, E285, A285, B285, st285⟩ := newPE X0 hx hZ (hv hw 23 rfl) e0 (g := (mkF m 15 #[vr xt, .val (.int (Int32.ofNat X.length)), un] [(.int (Int32.ofNat X.length))])) rfl (hb hby d_jdk_65_m121_15) rfl (nn0 (Nat.le_trans (Nat.le_of_lt hlt) (Nat.le_trans hN (by decide)))) (cap := 30) (by rw [nl (Nat.le_trans (Nat.le_of_lt hlt) (Nat.le_trans hN (by decide)))]; exact Nat.le_trans (Nat.le_of_lt hlt) hN) (by decide) (by decide) (by decide) (ad := "[B") (by decide)
 obtain ⟨b285, g285⟩ : ∃ z, z = h0.size := ⟨_, rfl⟩
 rw [← g285] at A285 B285 st285
 have sz285 : h0.size ≤ b285 := Nat.le_trans K0.1 (Nat.le_of_eq g285.symm)
 have ge285 : n0 ≤ b285 := Nat.le_trans (X00.1 ▸ X00.2.1) (Nat.le_of_eq g285.symm)
 have K285 : Keep h0 h285 [] := K0.ext E285
 have O285 : Old Z n0 h285 := X00.ext E285
 have V285 : Arv Z h285 b285 k285 .byte (Int32.ofNat X.length) (pad X.length []) (.int 0) := newPad (n := X.length) A285 (Nat.le_trans (Nat.le_of_lt hlt) (Nat.le_trans hN (by decide)))
 refine Go.st st285 ?_
 show Go p.tables e below Kx _ (mkF m 17 _ [(.ref b285)])
 refine s_astoreN (pc' := 18) (Ls' := #[vr xt, .val (.int (Int32.ofNat X.length)), vr b285]) X285.here hx (hb hby d_jdk_65_m121_17) rfl rfl rfl ?_
 refine s_aloadN (pc' := 19) X285.here hx (hb hby d_jdk_65_m121_18) rfl rfl rfl ?_
 refine s_iconst (pc' := 20) (v := 0) X285.here hx (hb hby d_jdk_65_m121_19) rfl rfl ?_
 refine s_aloadN (pc' := 21) X285.here hx (hb hby d_jdk_65_m121_20) rfl rfl rfl ?_
 refine s_iconst (pc' := 22) (v := 0) X285.here hx (hb hby d_jdk_65_m121_21) rfl rfl ?_
 refine s_aloadN (pc' := 23) X285.here hx (hb hby d_jdk_65_m121_22) rfl rfl rfl ?_
 have f286 : Arv Z h285 xt kt .byte (Int32.ofNat NN.length) (pad NN.length X) (.int 0) := (Axt.ext E285)
 obtain ⟨cl287, Ar287, Aq287, As287, An287, Ah287, Ag287⟩ := id f286
 refine Go.st (X285.arraylength hx (by rw [e285]; exact Ar287.1) (State.isArrayOf_alike hZ.alike Ar287.2.1) (g := (mkF m 23 #[vr xt, .val (.int (Int32.ofNat X.length)), vr b285] [(.ref xt), (.int 0), (.ref b285), (.int 0), (.ref xt)])) rfl rfl (hb hby d_jdk_65_m121_23)) ?_
 rw [len_of As287 An287]
 show Go p.tables e below Kx _ (mkF m 24 _ [(.int (Int32.ofNat NN.length)), (.int 0), (.ref b285), (.int 0), (.ref xt)])
 refine s_iloadN (pc' := 25) X285.here hx (hb hby d_jdk_65_m121_24) rfl rfl ?_
 obtain ⟨_, _, ⟨T288, L288, k288, n288⟩, -, X288, ⟨Lc288, hQ288, l288, y288, z288⟩, st288⟩ := Jvm.LawKit.callS X285 hx (y := yN16) hown (mvT hZ (hv hw 218 rfl)) (mvT hZ (hv hw 91 rfl)) (mvT hZ (hv hw 88 rfl)) (mvT hZ (hv hw 92 rfl)) (by decide) (backOf (W := 4) (rmGmin l Z a0 hw [] (Int32.ofNat NN.length) (Int32.ofNat X.length) h285 n0 O285 (inpad hlt (Nat.le_trans hN (by decide))).2) hZ (hv hw 92 rfl) (hv hw 88 rfl) (by decide) (by decide)) (g := (mkF m 25 #[vr xt, .val (.int (Int32.ofNat X.length)), vr b285] [(.int (Int32.ofNat X.length)), (.int (Int32.ofNat NN.length)), (.int 0), (.ref b285), (.int 0), (.ref xt)])) rfl (by rw [hml]; rfl) (argsL := [(.int (Int32.ofNat NN.length)), (.int (Int32.ofNat X.length))]) (rest := [(.int 0), (.ref b285), (.int 0), (.ref xt)]) (lenOf pd_8 rfl) rfl (by exact Nat.le_of_eq rfl) (hb hby d_jdk_65_m121_25) (fun _ _ => ⟨rfl, e285, (by decide : 1 + 0 ≤ _), (by decide : 30 + 0 ≤ _)⟩)
 dsimp only [Pt.U, Pt.locs, Pt.cells, Pt.slots] at X288 l288 y288 z288 st288 hQ288
 rw [l288, y288, z288] at X288
 obtain ⟨rfl, Nq288, hE288⟩ := hQ288
 have N288 := Fr.app N0 Nq288
 refine Go.st st288 ?_
 show Go p.tables e below Kx _ (mkF m 28 _ [(.int (Int32.ofNat X.length)), (.int 0), (.ref b285), (.int 0), (.ref xt)])
 obtain ⟨T289, h289, L289, X289, e289, N289, KK289, V289, st289⟩ := cpPre X288 hx hZ hown (hv hw 219 rfl) (hv hw 176 rfl) (hv hw 174 rfl) (hv hw 175 rfl) hE288 (Nat.le_trans (Nat.le_of_lt hlt) (Nat.le_trans hN (by decide))) (Nat.le_trans hN (by decide)) (Nat.le_of_lt hlt) f286 V285 N288 ge285 (g := (mkF m 28 #[vr xt, .val (.int (Int32.ofNat X.length)), vr b285] [(.int (Int32.ofNat X.length)), (.int 0), (.ref b285), (.int 0), (.ref xt)])) rfl (by rw [hml]; rfl) rfl (hb hby d_jdk_65_m121_28) (by decide) (W := 0) (by exact Nat.le_of_eq rfl) (by decide)
 have K289 : Keep h0 h289 [] := K285.trans KK289 (allS (P := fun zz => zz ∈ [] ∨ h0.size ≤ zz) (Or.inr sz285) all0)
 have O289 : Old Z n0 h289 := O285.keep KK289 (allS ge285 all0)
 refine Go.st st289 ?_
 show Go p.tables e below Kx _ (mkF m 31 _ [])
 refine s_aloadN (pc' := 32) X289.here hx (hb hby d_jdk_65_m121_31) rfl rfl rfl ?_
 have f290 : Exa Z h289 b285 "[B" := (B285.keep KK289)
 obtain ⟨fs, hr, hrun, hended, hW, hsame⟩ := X289.leave (v := (some (.ref b285))) (fun h => by rw [Bd.returns] at h; cases h)
 refine Go.fin (retOut X289 hx Bd.returns rfl (Or.inr (Or.inr (Or.inr (Or.inr ⟨rfl, rfl, rfl⟩)))) (hb hby d_jdk_65_m121_32) hr) (hF _ _ hrun hended ⟨_, _, rfl, ?_, ⟨_, rfl⟩, hW, hsame.mono (by decide) (by decide)⟩)
 ·
  show QGco Z xt kt NN X h0 n0 ((some (.ref b285)) : Option Value) T289.heap _
  rw [e289]
  exact ⟨_, _, rfl, N289, K289, sz285, f290, V289⟩
theorem pd_30 : parseMethodDescriptor "([BI)[B" = some ⟨[(.array .byte), .int], some (.array .byte)⟩ := by decide +kernel
theorem d_jdk_42_m46_137 : decode jdk_42_method_46_code 137 = .ok (.invokestatic 102, 3) := by decide +kernel
theorem d_jdk_42_m46_140 : decode jdk_42_method_46_code 140 = .ok (.areturn, 1) := by decide +kernel
theorem d_jdk_42_m46_56 : decode jdk_42_method_46_code 56 = .ok (.aload 5, 2) := by decide +kernel
theorem d_jdk_42_m46_58 : decode jdk_42_method_46_code 58 = .ok (.iload 7, 2) := by decide +kernel
theorem d_jdk_42_m46_60 : decode jdk_42_method_46_code 60 = .ok (.baload, 1) := by decide +kernel
theorem d_jdk_42_m46_61 : decode jdk_42_method_46_code 61 = .ok (.istore 8, 2) := by decide +kernel
theorem d_jdk_42_m46_63 : decode jdk_42_method_46_code 63 = .ok (.iload 8, 2) := by decide +kernel
theorem d_jdk_42_m46_65 : decode jdk_42_method_46_code 65 = .ok (.ifCond .ge 44, 3) := by decide +kernel
theorem d_jdk_42_m46_68 : decode jdk_42_method_46_code 68 = .ok (.aload 4, 2) := by decide +kernel
theorem d_jdk_42_m46_70 : decode jdk_42_method_46_code 70 = .ok (.iload_n 3, 1) := by decide +kernel
theorem d_jdk_42_m46_71 : decode jdk_42_method_46_code 71 = .ok (.iinc 3 1, 3) := by decide +kernel
theorem d_jdk_42_m46_74 : decode jdk_42_method_46_code 74 = .ok (.sipush 192, 3) := by decide +kernel
theorem d_jdk_42_m46_77 : decode jdk_42_method_46_code 77 = .ok (.iload 8, 2) := by decide +kernel
theorem d_jdk_42_m46_79 : decode jdk_42_method_46_code 79 = .ok (.sipush 255, 3) := by decide +kernel
theorem d_jdk_42_m46_82 : decode jdk_42_method_46_code 82 = .ok (.iand, 1) := by decide +kernel
theorem d_jdk_42_m46_83 : decode jdk_42_method_46_code 83 = .ok (.bipush 6, 2) := by decide +kernel
theorem d_jdk_42_m46_85 : decode jdk_42_method_46_code 85 = .ok (.ishr, 1) := by decide +kernel
theorem d_jdk_42_m46_86 : decode jdk_42_method_46_code 86 = .ok (.ior, 1) := by decide +kernel
theorem d_jdk_42_m46_87 : decode jdk_42_method_46_code 87 = .ok (.i2b, 1) := by decide +kernel
theorem d_jdk_42_m46_88 : decode jdk_42_method_46_code 88 = .ok (.bastore, 1) := by decide +kernel
theorem d_jdk_42_m46_89 : decode jdk_42_method_46_code 89 = .ok (.aload 4, 2) := by decide +kernel
theorem d_jdk_42_m46_91 : decode jdk_42_method_46_code 91 = .ok (.iload_n 3, 1) := by decide +kernel
theorem d_jdk_42_m46_92 : decode jdk_42_method_46_code 92 = .ok (.iinc 3 1, 3) := by decide +kernel
theorem d_jdk_42_m46_95 : decode jdk_42_method_46_code 95 = .ok (.sipush 128, 3) := by decide +kernel
theorem d_jdk_42_m46_98 : decode jdk_42_method_46_code 98 = .ok (.iload 8, 2) := by decide +kernel
theorem d_jdk_42_m46_100 : decode jdk_42_method_46_code 100 = .ok (.bipush 63, 2) := by decide +kernel
theorem d_jdk_42_m46_102 : decode jdk_42_method_46_code 102 = .ok (.iand, 1) := by decide +kernel
theorem d_jdk_42_m46_103 : decode jdk_42_method_46_code 103 = .ok (.ior, 1) := by decide +kernel
theorem d_jdk_42_m46_104 : decode jdk_42_method_46_code 104 = .ok (.i2b, 1) := by decide +kernel
theorem d_jdk_42_m46_105 : decode jdk_42_method_46_code 105 = .ok (.bastore, 1) := by decide +kernel
theorem d_jdk_42_m46_106 : decode jdk_42_method_46_code 106 = .ok (.goto 12, 3) := by decide +kernel
theorem d_jdk_42_m46_118 : decode jdk_42_method_46_code 118 = .ok (.iinc 7 1, 3) := by decide +kernel
theorem d_jdk_42_m46_121 : decode jdk_42_method_46_code 121 = .ok (.goto (-72), 3) := by decide +kernel
theorem d_jdk_42_m46_109 : decode jdk_42_method_46_code 109 = .ok (.aload 4, 2) := by decide +kernel
theorem d_jdk_42_m46_111 : decode jdk_42_method_46_code 111 = .ok (.iload_n 3, 1) := by decide +kernel
theorem d_jdk_42_m46_112 : decode jdk_42_method_46_code 112 = .ok (.iinc 3 1, 3) := by decide +kernel
theorem d_jdk_42_m46_115 : decode jdk_42_method_46_code 115 = .ok (.iload 8, 2) := by decide +kernel
theorem d_jdk_42_m46_117 : decode jdk_42_method_46_code 117 = .ok (.bastore, 1) := by decide +kernel
def QGu8 (Z : State) (xt : Addr) (kt : ClassId) (us : List Int32) (h0 : Heap) (n0 : Nat) (v : Option Value) (h : Heap) (L : List Loc) : Prop := ∃ (t : Addr) (k : ClassId), v = some (.ref t) ∧ Fr n0 L ∧ Keep h0 h [] ∧ h0.size ≤ t ∧ Arv Z h t k .byte (Int32.ofNat (enc us).length) ((enc us).map Value.int) (.int 0)
set_option maxRecDepth 65536 in
set_option maxHeartbeats 40000000 in
theorem rmGu8 (l : Launch) (Z : State) (a0 : Array Value) (hw : ∀ d ∈ tables_1, d.before a0 Z = true) (ws : List Jvm.Cond) (xt : Addr) (kt : ClassId) (us : List Int32) (h0 : Heap) (n0 : Nat) (X00 : Old Z n0 h0) (Bxt : Exa Z h0 xt "[B") (Axt : Arv Z h0 xt kt .byte (Int32.ofNat us.length) (us.map Value.int) (.int 0)) (hl : us.length < 16) (hbt : ∀ b ∈ us, b.toInt8.toInt32 = b) (hen : (enc us).length < (us ++ us).length) :
  MetFree l yN22 (head1 (Jvm.Cond.code yN22 jdk_42_method_46_code 9 (some (.array .byte)) :: ws) ({ frames := 2, cells := 2, slots := 60, locals := 32 } : Room)) (fun aa U => aa = #[(.int 0), (.ref xt), (.int 1)] ∧ Z.Warmed39 U.vm ∧ U.heap = h0) (fun _ _ _ _ _ => True) (fun _ U o U' => ∃ v L, o = .returned v ∧ QGu8 Z xt kt us h0 n0 v U'.heap L ∧ FrameEnd U o U' L ({ frames := 2, cells := 2, slots := 60, locals := 32 } : Room).cells ({ frames := 2, cells := 2, slots := 60, locals := 32 } : Room).slots) := by
 refine MetFree.of_bodySF (plainFor_of_name pn_3) hisR ?_
 intro p e s m args below meth c s₁ Bd hml0 hP hK
 obtain ⟨rfl, hZ, hh⟩ := hP
 have hx := Bd.exec
 have hby := Bd.bytes
 have hml : c.maxLocals = 9 := hml0
 have hown : s.vm.findClass "java/lang/String" = some m.cls := findClass_of_methodNamed Bd.named
 have hnm := (name_of_methodNamed Bd.named Bd.method).1
 have X0 : Stand p l e ({ frames := 2, cells := 2, slots := 60, locals := 32 } : Room) s m #[(.int 0), (.ref xt), (.int 1)] below meth c s₁ [] 0 0 := Stand.of_body Bd
 have e0 : s₁.heap = h0 := by rw [← hh, Bd.state]; rfl
 have N0 := Fr.nil n0
 have K0 := Keep.refl h0 []
 have ef : entryFrame m #[(.int 0), (.ref xt), (.int 1)] 9 = mkF m 0 #[vi 0, vr xt, vi 1, un, un, un, un, un, un] [] := (by first | (simp [entryFrame, mkF, argsToLocals, Value.category]; done) | rfl : entryFrame m #[(.int 0), (.ref xt), (.int 1)] 9 = mkF m 0 #[vi 0, vr xt, vi 1, un, un, un, un, un, un] [])
 rw [ef]
 refine fin_of fun Kx hF => ?_
 show Go p.tables e below Kx _ (mkF m 0 _ [])
 refine s_iloadN (pc' := 1) X0.here hx (hb hby d_jdk_42_m46_0) rfl rfl ?_
 refine s_iconst (pc' := 2) (v := 1) X0.here hx (hb hby d_jdk_42_m46_1) rfl rfl ?_
 refine s_icmpY (pc' := 11) X0.here hx (hb hby d_jdk_42_m46_2) (feq (by decide)).2 (by decide) (by decide) ?_
 refine s_aloadN (pc' := 12) X0.here hx (hb hby d_jdk_42_m46_11) rfl rfl rfl ?_
 refine s_iconst (pc' := 13) (v := 0) X0.here hx (hb hby d_jdk_42_m46_12) rfl rfl ?_
 refine s_aloadN (pc' := 14) X0.here hx (hb hby d_jdk_42_m46_13) rfl rfl rfl ?_
 obtain ⟨cl269, Ar269, Aq269, As269, An269, Ah269, Ag269⟩ := id Axt
 refine Go.st (X0.arraylength hx (by rw [e0]; exact Ar269.1) (State.isArrayOf_alike hZ.alike Ar269.2.1) (g := (mkF m 14 #[vi 0, vr xt, vi 1, un, un, un, un, un, un] [(.ref xt), (.int 0), (.ref xt)])) rfl rfl (hb hby d_jdk_42_m46_14)) ?_
 rw [len_of As269 An269]
 show Go p.tables e below Kx _ (mkF m 15 _ [(.int (Int32.ofNat us.length)), (.int 0), (.ref xt)])
 obtain ⟨_, _, ⟨T274, L274, k274, n274⟩, -, X274, ⟨Lc274, hQ274, l274, y274, z274⟩, st274⟩ := Jvm.LawKit.callS X0 hx (y := yN36) hown (mvT hZ (hv hw 235 rfl)) (mvT hZ (hv hw 236 rfl)) (mvT hZ (hv hw 237 rfl)) (mvT hZ (hv hw 238 rfl)) (by decide) (backOf (W := 0) (rmGhn l Z a0 hw [] xt kt us h0 n0 X00 Axt (le4 hl)) hZ (hv hw 238 rfl) (hv hw 237 rfl) (by decide) (by decide)) (g := (mkF m 15 #[vi 0, vr xt, vi 1, un, un, un, un, un, un] [(.int (Int32.ofNat us.length)), (.int 0), (.ref xt)])) rfl (by rw [hml]; rfl) (argsL := [(.ref xt), (.int 0), (.int (Int32.ofNat us.length))]) (rest := []) (lenOf pd_28 rfl) rfl (by exact Nat.le_of_eq rfl) (hb hby d_jdk_42_m46_15) (fun _ _ => ⟨rfl, e0, (by decide : 0 + 0 ≤ _), (by decide : 0 + 0 ≤ _)⟩)
 dsimp only [Pt.U, Pt.locs, Pt.cells, Pt.slots] at X274 l274 y274 z274 st274 hQ274
 rw [l274, y274, z274] at X274
 obtain ⟨⟨r274, rfl, hr274⟩, Nq274, hE274⟩ := hQ274
 rcases hr274 with ⟨rfl, hr274⟩ | ⟨rfl, hr274⟩
 ·
  have N274 := Fr.app N0 Nq274
  refine Go.st st274 ?_
  show Go p.tables e below Kx _ (mkF m 18 _ [(.int 0)])
  refine s_ifN (pc' := 21) X274.here hx (hb hby d_jdk_42_m46_18) rfl ((if0 _ _).trans (teq (by decide)).2) ?_
  refine s_aloadN (pc' := 22) X274.here hx (hb hby d_jdk_42_m46_21) rfl rfl rfl ?_
  obtain ⟨T275, h275, X275, e275, E275, C275, A275, st275⟩ := cloneH X274 hx hZ hown (hv hw 242 rfl) (hv hw 243 rfl) (hv hw 247 rfl) (hv hw 245 rfl) (hv hw 246 rfl) (hv hw 248 rfl) hE274 Axt.arh Bxt (g := (mkF m 22 #[vi 0, vr xt, vi 1, un, un, un, un, un, un] [(.ref xt)])) rfl (by rw [hml]; rfl) rfl (hb hby d_jdk_42_m46_22) (by decide) (W := 0) (by exact Nat.le_of_eq rfl) (by decide) (cap := 16) (by rw [nl (le4 hl)]; exact Nat.le_of_lt hl) (by decide) (by decide)
  obtain ⟨b275, g275⟩ : ∃ z, z = h0.size := ⟨_, rfl⟩
  rw [← g275] at C275 A275 st275
  have sz275 : h0.size ≤ b275 := Nat.le_trans K0.1 (Nat.le_of_eq g275.symm)
  have ge275 : n0 ≤ b275 := Nat.le_trans (X00.1 ▸ X00.2.1) (Nat.le_of_eq g275.symm)
  have K275 : Keep h0 h275 [] := K0.ext E275
  have O275 : Old Z n0 h275 := X00.ext E275
  have V275 : Arv Z h275 b275 kt .byte (Int32.ofNat us.length) (us.map Value.int) (.int 0) := C275
  refine Go.st st275 ?_
  show Go p.tables e below Kx _ (mkF m 25 _ [(.ref b275)])
  obtain ⟨T276, X276, e276, st276⟩ := castY X275 hx hZ hown (hv hw 249 rfl) e275 (Ins.self A275) (g := (mkF m 25 #[vi 0, vr xt, vi 1, un, un, un, un, un, un] [(.ref b275)])) rfl rfl (hb hby d_jdk_42_m46_25)
  refine Go.st st276 ?_
  show Go p.tables e below Kx _ (mkF m 28 _ [(.ref b275)])
  obtain ⟨fs, hr, hrun, hended, hW, hsame⟩ := X276.leave (v := (some (.ref b275))) (fun h => by rw [Bd.returns] at h; cases h)
  refine Go.fin (retOut X276 hx Bd.returns rfl (Or.inr (Or.inr (Or.inr (Or.inr ⟨rfl, rfl, rfl⟩)))) (hb hby d_jdk_42_m46_28) hr) (hF _ _ hrun hended ⟨_, _, rfl, ?_, ⟨_, rfl⟩, hW, hsame.mono (by decide) (by decide)⟩)
  ·
   show QGu8 Z xt kt us h0 n0 ((some (.ref b275)) : Option Value) T276.heap _
   rw [e276]
   exact ⟨_, _, rfl, N274, K275, sz275, by rw [enc_all hr274]; exact V275⟩
 ·
  have N274 := Fr.app N0 Nq274
  refine Go.st st274 ?_
  show Go p.tables e below Kx _ (mkF m 18 _ [(.int 1)])
  refine s_ifY (pc' := 29) X274.here hx (hb hby d_jdk_42_m46_18) ((if0 _ _).trans (feq (by decide)).2) (by decide) (by decide) ?_
  refine s_iconst (pc' := 30) (v := 0) X274.here hx (hb hby d_jdk_42_m46_29) rfl rfl ?_
  refine s_istoreN (pc' := 31) (Ls' := #[vi 0, vr xt, vi 1, vi 0, un, un, un, un, un]) X274.here hx (hb hby d_jdk_42_m46_30) rfl  rfl ?_
  refine s_aloadN (pc' := 32) X274.here hx (hb hby d_jdk_42_m46_31) rfl rfl rfl ?_
  obtain ⟨cl277, Ar277, Aq277, As277, An277, Ah277, Ag277⟩ := id Axt
  refine Go.st (X274.arraylength hx (by rw [hE274]; exact Ar277.1) (State.isArrayOf_alike hZ.alike Ar277.2.1) (g := (mkF m 32 #[vi 0, vr xt, vi 1, vi 0, un, un, un, un, un] [(.ref xt)])) rfl rfl (hb hby d_jdk_42_m46_32)) ?_
  rw [len_of As277 An277]
  show Go p.tables e below Kx _ (mkF m 33 _ [(.int (Int32.ofNat us.length))])
  obtain ⟨_, _, ⟨T280, L280, k280, n280⟩, -, X280, ⟨Lc280, hQ280, l280, y280, z280⟩, st280⟩ := Jvm.LawKit.callS X274 hx (y := yN40) hown (mvT hZ (hv hw 254 rfl)) (mvT hZ (hv hw 255 rfl)) (mvT hZ (hv hw 21 rfl)) (mvT hZ (hv hw 256 rfl)) (by decide) (backOf (W := 0) (rmGnb l Z a0 hw [] us h0 n0 X00 hl) hZ (hv hw 256 rfl) (hv hw 21 rfl) (by decide) (by decide)) (g := (mkF m 33 #[vi 0, vr xt, vi 1, vi 0, un, un, un, un, un] [(.int (Int32.ofNat us.length))])) rfl (by rw [hml]; rfl) (argsL := [(.int (Int32.ofNat us.length))]) (rest := []) (lenOf pd_29 rfl) rfl (by exact Nat.le_of_eq rfl) (hb hby d_jdk_42_m46_33) (fun _ _ => ⟨rfl, hE274, (by decide : 0 + 1 ≤ _), (by decide : 0 + 30 ≤ _)⟩)
  dsimp only [Pt.U, Pt.locs, Pt.cells, Pt.slots] at X280 l280 y280 z280 st280 hQ280
  rw [l280, y280, z280] at X280
  obtain ⟨t280, kt280, rfl, Nq280, Kq280, le280, q0_280, q1_280⟩ := hQ280
  have sz280 : h0.size ≤ t280 := Nat.le_trans K0.1 le280
  have ge280 : n0 ≤ t280 := Nat.le_trans (X00.1 ▸ X00.2.1) le280
  have N280 := Fr.app N274 Nq280
  have K280 : Keep h0 T280.heap [] := K0.trans Kq280 all0
  have O280 : Old Z n0 T280.heap := X00.keep Kq280 all0
  refine Go.st st280 ?_
  show Go p.tables e below Kx _ (mkF m 36 _ [(.ref t280)])
  refine s_astore (pc' := 38) (Ls' := #[vi 0, vr xt, vi 1, vi 0, vr t280, un, un, un, un]) X280.here hx (hb hby d_jdk_42_m46_36) rfl rfl rfl ?_
  refine s_aloadN (pc' := 39) X280.here hx (hb hby d_jdk_42_m46_38) rfl rfl rfl ?_
  refine s_astore (pc' := 41) (Ls' := #[vi 0, vr xt, vi 1, vi 0, vr t280, vr xt, un, un, un]) X280.here hx (hb hby d_jdk_42_m46_39) rfl rfl rfl ?_
  refine s_aload (pc' := 43) X280.here hx (hb hby d_jdk_42_m46_41) rfl rfl rfl ?_
  have f281 : Arv Z T280.heap xt kt .byte (Int32.ofNat us.length) (us.map Value.int) (.int 0) := (Axt.keep Kq280 nin0)
  obtain ⟨cl282, Ar282, Aq282, As282, An282, Ah282, Ag282⟩ := id f281
  refine Go.st (X280.arraylength hx (by  exact Ar282.1) (State.isArrayOf_alike hZ.alike Ar282.2.1) (g := (mkF m 43 #[vi 0, vr xt, vi 1, vi 0, vr t280, vr xt, un, un, un] [(.ref xt)])) rfl rfl (hb hby d_jdk_42_m46_43)) ?_
  rw [len_of As282 An282]
  show Go p.tables e below Kx _ (mkF m 44 _ [(.int (Int32.ofNat us.length))])
  refine s_istore (pc' := 46) (Ls' := #[vi 0, vr xt, vi 1, vi 0, vr t280, vr xt, .val (.int (Int32.ofNat us.length)), un, un]) X280.here hx (hb hby d_jdk_42_m46_44) rfl  rfl ?_
  refine s_iconst (pc' := 47) (v := 0) X280.here hx (hb hby d_jdk_42_m46_46) rfl rfl ?_
  refine s_istore (pc' := 49) (Ls' := #[vi 0, vr xt, vi 1, vi 0, vr t280, vr xt, .val (.int (Int32.ofNat us.length)), vi 0, un]) X280.here hx (hb hby d_jdk_42_m46_47) rfl  rfl ?_
  have ne_t : xt ≠ t280 := (Nat.ne_of_lt (Nat.lt_of_lt_of_le Axt.lt le280))
  have J : ∀ (rr dd ee : List Int32) (s8 : Slot) (TJ : State) (LJ : List Loc) (hJ : Heap), Stand p l e ({ frames := 2, cells := 2, slots := 60, locals := 32 } : Room) s m #[(.int 0), (.ref xt), (.int 1)] below meth c TJ LJ 1 30 → Fr n0 LJ → TJ.heap = hJ → Keep h0 hJ [] → Old Z n0 hJ → us = dd ++ rr → ee = enc dd → Arv Z hJ t280 kt280 .byte (Int32.ofNat (us ++ us).length) (pad (us ++ us).length ee) (.int 0) → (s8 = un ∨ ∃ q : Int32, s8 = vi q) → Go p.tables e below Kx TJ (mkF m 49 #[vi 0, vr xt, vi 1, .val (.int (Int32.ofNat ee.length)), vr t280, vr xt, .val (.int (Int32.ofNat us.length)), .val (.int (Int32.ofNat dd.length)), s8] []) := by
   intro rr
   induction rr with
   | nil =>
    intro dd ee s8 TJ LJ hJ XJ NJ eJ KJ OJ hs he AJ h8
    have hll : ee.length < (us ++ us).length := by rw [enc_end hs he]; exact hen
    show Go p.tables e below Kx _ (mkF m 49 _ [])
    refine s_iload (pc' := 51) XJ.here hx (hb hby d_jdk_42_m46_49) rfl rfl ?_
    refine s_iload (pc' := 53) XJ.here hx (hb hby d_jdk_42_m46_51) rfl rfl ?_
    refine s_icmpY (pc' := 124) XJ.here hx (hb hby d_jdk_42_m46_53) (flt (lt_end hs)).2.1 (by decide) (by decide) ?_
    refine s_iloadN (pc' := 125) XJ.here hx (hb hby d_jdk_42_m46_124) rfl rfl ?_
    refine s_aload (pc' := 127) XJ.here hx (hb hby d_jdk_42_m46_125) rfl rfl rfl ?_
    obtain ⟨cl283, Ar283, Aq283, As283, An283, Ah283, Ag283⟩ := id AJ
    refine Go.st (XJ.arraylength hx (by rw [eJ]; exact Ar283.1) (State.isArrayOf_alike hZ.alike Ar283.2.1) (g := (mkF m 127 #[vi 0, vr xt, vi 1, .val (.int (Int32.ofNat ee.length)), vr t280, vr xt, .val (.int (Int32.ofNat us.length)), .val (.int (Int32.ofNat dd.length)), s8] [(.ref t280), (.int (Int32.ofNat ee.length))])) rfl rfl (hb hby d_jdk_42_m46_127)) ?_
    rw [len_of As283 An283]
    show Go p.tables e below Kx _ (mkF m 128 _ [(.int (Int32.ofNat (us ++ us).length)), (.int (Int32.ofNat ee.length))])
    refine s_icmpY (pc' := 134) XJ.here hx (hb hby d_jdk_42_m46_128) (feq (ne_len hll (len2k hl))).2 (by decide) (by decide) ?_
    refine s_aload (pc' := 136) XJ.here hx (hb hby d_jdk_42_m46_134) rfl rfl rfl ?_
    refine s_iloadN (pc' := 137) XJ.here hx (hb hby d_jdk_42_m46_136) rfl rfl ?_
    obtain ⟨_, _, ⟨T291, L291, k291, n291⟩, -, X291, ⟨Lc291, hQ291, l291, y291, z291⟩, st291⟩ := Jvm.LawKit.callS XJ hx (y := yN43) hown (mvT hZ (hv hw 261 rfl)) (mvT hZ (hv hw 262 rfl)) (mvT hZ (hv hw 210 rfl)) (mvT hZ (hv hw 263 rfl)) (by decide) (backOf (W := 0) (rmGco l Z a0 hw [] t280 _ (us ++ us) ee hJ n0 OJ AJ hll (len2 hl)) hZ (hv hw 263 rfl) (hv hw 210 rfl) (by decide) (by decide)) (g := (mkF m 137 #[vi 0, vr xt, vi 1, .val (.int (Int32.ofNat ee.length)), vr t280, vr xt, .val (.int (Int32.ofNat us.length)), .val (.int (Int32.ofNat dd.length)), s8] [(.int (Int32.ofNat ee.length)), (.ref t280)])) rfl (by rw [hml]; rfl) (argsL := [(.ref t280), (.int (Int32.ofNat ee.length))]) (rest := []) (lenOf pd_30 rfl) rfl (by exact Nat.le_of_eq rfl) (hb hby d_jdk_42_m46_137) (fun _ _ => ⟨rfl, eJ, (by decide : 1 + 1 ≤ _), (by decide : 30 + 30 ≤ _)⟩)
    dsimp only [Pt.U, Pt.locs, Pt.cells, Pt.slots] at X291 l291 y291 z291 st291 hQ291
    rw [l291, y291, z291] at X291
    obtain ⟨t291, kt291, rfl, Nq291, Kq291, le291, q0_291, q1_291⟩ := hQ291
    have sz291 : h0.size ≤ t291 := Nat.le_trans KJ.1 le291
    have ge291 : n0 ≤ t291 := Nat.le_trans (OJ.1 ▸ OJ.2.1) le291
    have N291 := Fr.app NJ Nq291
    have K291 : Keep h0 T291.heap [] := KJ.trans Kq291 all0
    have O291 : Old Z n0 T291.heap := OJ.keep Kq291 all0
    refine Go.st st291 ?_
    show Go p.tables e below Kx _ (mkF m 140 _ [(.ref t291)])
    obtain ⟨fs, hr, hrun, hended, hW, hsame⟩ := X291.leave (v := (some (.ref t291))) (fun h => by rw [Bd.returns] at h; cases h)
    refine Go.fin (retOut X291 hx Bd.returns rfl (Or.inr (Or.inr (Or.inr (Or.inr ⟨rfl, rfl, rfl⟩)))) (hb hby d_jdk_42_m46_140) hr) (hF _ _ hrun hended ⟨_, _, rfl, ?_, ⟨_, rfl⟩, hW, hsame.mono (by decide) (by decide)⟩)
    ·
     show QGu8 Z xt kt us h0 n0 ((some (.ref t291)) : Option Value) T291.heap _
     skip
     exact ⟨_, _, rfl, N291, K291, sz291, by rw [← enc_end hs he]; exact q1_291⟩
   | cons bb rr ih =>
    intro dd ee s8 TJ LJ hJ XJ NJ eJ KJ OJ hs he AJ h8
    have hin : ee.length + 1 < (us ++ us).length := enc_in hs he
    have hbb : bb.toInt8.toInt32 = bb := hbt bb (by rw [hs]; simp)
    show Go p.tables e below Kx _ (mkF m 49 _ [])
    refine s_iload (pc' := 51) XJ.here hx (hb hby d_jdk_42_m46_49) rfl rfl ?_
    refine s_iload (pc' := 53) XJ.here hx (hb hby d_jdk_42_m46_51) rfl rfl ?_
    refine s_icmpN (pc' := 56) XJ.here hx (hb hby d_jdk_42_m46_53) rfl (tlt (at_mid hs (le4 hl) .null).2.2).2.1 ?_
    refine s_aload (pc' := 58) XJ.here hx (hb hby d_jdk_42_m46_56) rfl rfl rfl ?_
    refine s_iload (pc' := 60) XJ.here hx (hb hby d_jdk_42_m46_58) rfl rfl ?_
    obtain ⟨cl292, Ar292, Aq292, As292, An292, Ah292, Ag292⟩ := id (Axt.keep KJ nin0)
    have in293 := inb_of (j := (Int32.ofNat dd.length)) As292 (at_mid hs (le4 hl) .null).2
    have at293 : cl292.slots[((Int32.ofNat dd.length)).toNatClampNeg]? = some (.int bb) := Ah292.at in293 (at_mid hs (le4 hl) _).1
    refine Go.st (XJ.baloadBytes hx (j := (Int32.ofNat dd.length)) (v := (.int bb)) (by rw [eJ]; exact Ar292.1) (State.isArrayOf_alike hZ.alike Ar292.2.1) Ar292.2.2 in293 at293 (g := (mkF m 60 #[vi 0, vr xt, vi 1, .val (.int (Int32.ofNat ee.length)), vr t280, vr xt, .val (.int (Int32.ofNat us.length)), .val (.int (Int32.ofNat dd.length)), s8] [(.int (Int32.ofNat dd.length)), (.ref xt)])) rfl rfl (hb hby d_jdk_42_m46_60)) ?_
    show Go p.tables e below Kx _ (mkF m 61 _ [(.int bb)])
    refine s_istore (pc' := 63) (Ls' := #[vi 0, vr xt, vi 1, .val (.int (Int32.ofNat ee.length)), vr t280, vr xt, .val (.int (Int32.ofNat us.length)), .val (.int (Int32.ofNat dd.length)), vi bb]) XJ.here hx (hb hby d_jdk_42_m46_61) rfl  (by rcases h8 with rfl | ⟨_, rfl⟩ <;> rfl) ?_
    refine s_iload (pc' := 65) XJ.here hx (hb hby d_jdk_42_m46_63) rfl rfl ?_
    by_cases hc294 : bb < (0 : Int32)
    ·
     refine s_ifN (pc' := 68) XJ.here hx (hb hby d_jdk_42_m46_65) rfl ((if0 _ _).trans (tlt hc294).2.1) ?_
     refine s_aload (pc' := 70) XJ.here hx (hb hby d_jdk_42_m46_68) rfl rfl rfl ?_
     refine s_iloadN (pc' := 71) XJ.here hx (hb hby d_jdk_42_m46_70) rfl rfl ?_
     refine s_iinc (pc' := 74) (Ls' := #[vi 0, vr xt, vi 1, .val (.int (Int32.ofNat (ee ++ [(((192 : Int32) ||| ((bb &&& 255) >>> ((6 : Int32) &&& 31))).toInt8.toInt32)]).length)), vr t280, vr xt, .val (.int (Int32.ofNat us.length)), .val (.int (Int32.ofNat dd.length)), vi bb]) (z := (Int32.ofNat (ee ++ [(((192 : Int32) ||| ((bb &&& 255) >>> ((6 : Int32) &&& 31))).toInt8.toInt32)]).length)) XJ.here hx (hb hby d_jdk_42_m46_71) rfl rfl (lsucc _ (((192 : Int32) ||| ((bb &&& 255) >>> ((6 : Int32) &&& 31))).toInt8.toInt32)) rfl ?_
     refine s_sipush (pc' := 77) (v := 192) XJ.here hx (hb hby d_jdk_42_m46_74) rfl rfl ?_
     refine s_iload (pc' := 79) XJ.here hx (hb hby d_jdk_42_m46_77) rfl rfl ?_
     refine s_sipush (pc' := 82) (v := 255) XJ.here hx (hb hby d_jdk_42_m46_79) rfl rfl ?_
     refine s_iand (pc' := 83) XJ.here hx (hb hby d_jdk_42_m46_82) rfl rfl ?_
     refine s_bipush (pc' := 85) (v := 6) XJ.here hx (hb hby d_jdk_42_m46_83) rfl rfl ?_
     refine s_ishr (pc' := 86) XJ.here hx (hb hby d_jdk_42_m46_85) rfl rfl ?_
     refine s_ior (pc' := 87) XJ.here hx (hb hby d_jdk_42_m46_86) rfl rfl ?_
     refine s_i2b (pc' := 88) XJ.here hx (hb hby d_jdk_42_m46_87) rfl rfl ?_
     obtain ⟨cl295, Ar295, Aq295, As295, An295, Ah295, Ag295⟩ := id AJ
     have rm296 : ee.length < (us ++ us).length := (Nat.lt_of_succ_lt hin)
     have in296 := inb_of (j := (Int32.ofNat ee.length)) As295 (inpad (n := (us ++ us).length) rm296 (len2k hl))
     obtain ⟨T296, h296, X296, e296, W296, st296⟩ := stB XJ hx hZ eJ Ar295 (j := (Int32.ofNat ee.length)) in296 (g := (mkF m 88 #[vi 0, vr xt, vi 1, .val (.int (Int32.ofNat (ee ++ [(((192 : Int32) ||| ((bb &&& 255) >>> ((6 : Int32) &&& 31))).toInt8.toInt32)]).length)), vr t280, vr xt, .val (.int (Int32.ofNat us.length)), .val (.int (Int32.ofNat dd.length)), vi bb] [(.int (((192 : Int32) ||| ((bb &&& 255) >>> ((6 : Int32) &&& 31))).toInt8.toInt32)), (.int (Int32.ofNat ee.length)), (.ref t280)])) rfl rfl (hb hby d_jdk_42_m46_88)
     have V296 : Arv Z h296 t280 kt280 .byte (Int32.ofNat (us ++ us).length) (pad (us ++ us).length (ee ++ [(((192 : Int32) ||| ((bb &&& 255) >>> ((6 : Int32) &&& 31))).toInt8.toInt32)])) (.int 0) := by
      have q := Arv.set Ar295 Aq295 As295 An295 Ah295 Ag295 (fits_nar_byte _) W296 ee.length (nl (Nat.le_trans (Nat.le_of_lt rm296) (len2k hl))) (by rw [pad_len (Nat.le_of_lt rm296)]; exact rm296)
      rw [i8i8 ((192 : Int32) ||| ((bb &&& 255) >>> ((6 : Int32) &&& 31))), pad_set rm296] at q; exact q
     have K296 : Keep h0 h296 [] := KJ.wr W296 (Or.inr sz280)
     have O296 : Old Z n0 h296 := OJ.wr W296 ge280
     have N296 := Fr.snoc X296 NJ ge280
     refine Go.st st296 ?_
     show Go p.tables e below Kx _ (mkF m 89 _ [])
     refine s_aload (pc' := 91) X296.here hx (hb hby d_jdk_42_m46_89) rfl rfl rfl ?_
     refine s_iloadN (pc' := 92) X296.here hx (hb hby d_jdk_42_m46_91) rfl rfl ?_
     refine s_iinc (pc' := 95) (Ls' := #[vi 0, vr xt, vi 1, .val (.int (Int32.ofNat ((ee ++ [(((192 : Int32) ||| ((bb &&& 255) >>> ((6 : Int32) &&& 31))).toInt8.toInt32)]) ++ [(((128 : Int32) ||| (bb &&& 63)).toInt8.toInt32)]).length)), vr t280, vr xt, .val (.int (Int32.ofNat us.length)), .val (.int (Int32.ofNat dd.length)), vi bb]) (z := (Int32.ofNat ((ee ++ [(((192 : Int32) ||| ((bb &&& 255) >>> ((6 : Int32) &&& 31))).toInt8.toInt32)]) ++ [(((128 : Int32) ||| (bb &&& 63)).toInt8.toInt32)]).length)) X296.here hx (hb hby d_jdk_42_m46_92) rfl rfl (lsucc _ (((128 : Int32) ||| (bb &&& 63)).toInt8.toInt32)) rfl ?_
     refine s_sipush (pc' := 98) (v := 128) X296.here hx (hb hby d_jdk_42_m46_95) rfl rfl ?_
     refine s_iload (pc' := 100) X296.here hx (hb hby d_jdk_42_m46_98) rfl rfl ?_
     refine s_bipush (pc' := 102) (v := 63) X296.here hx (hb hby d_jdk_42_m46_100) rfl rfl ?_
     refine s_iand (pc' := 103) X296.here hx (hb hby d_jdk_42_m46_102) rfl rfl ?_
     refine s_ior (pc' := 104) X296.here hx (hb hby d_jdk_42_m46_103) rfl rfl ?_
     refine s_i2b (pc' := 105) X296.here hx (hb hby d_jdk_42_m46_104) rfl rfl ?_
     obtain ⟨cl297, Ar297, Aq297, As297, An297, Ah297, Ag297⟩ := id V296
     have rm298 : (ee ++ [(((192 : Int32) ||| ((bb &&& 255) >>> ((6 : Int32) &&& 31))).toInt8.toInt32)]).length < (us ++ us).length := (by rw [List.length_append]; exact hin)
     have in298 := inb_of (j := (Int32.ofNat (ee ++ [(((192 : Int32) ||| ((bb &&& 255) >>> ((6 : Int32) &&& 31))).toInt8.toInt32)]).length)) As297 (inpad (n := (us ++ us).length) rm298 (len2k hl))
     obtain ⟨T298, h298, X298, e298, W298, st298⟩ := stB X296 hx hZ e296 Ar297 (j := (Int32.ofNat (ee ++ [(((192 : Int32) ||| ((bb &&& 255) >>> ((6 : Int32) &&& 31))).toInt8.toInt32)]).length)) in298 (g := (mkF m 105 #[vi 0, vr xt, vi 1, .val (.int (Int32.ofNat ((ee ++ [(((192 : Int32) ||| ((bb &&& 255) >>> ((6 : Int32) &&& 31))).toInt8.toInt32)]) ++ [(((128 : Int32) ||| (bb &&& 63)).toInt8.toInt32)]).length)), vr t280, vr xt, .val (.int (Int32.ofNat us.length)), .val (.int (Int32.ofNat dd.length)), vi bb] [(.int (((128 : Int32) ||| (bb &&& 63)).toInt8.toInt32)), (.int (Int32.ofNat (ee ++ [(((192 : Int32) ||| ((bb &&& 255) >>> ((6 : Int32) &&& 31))).toInt8.toInt32)]).length)), (.ref t280)])) rfl rfl (hb hby d_jdk_42_m46_105)
     have V298 : Arv Z h298 t280 kt280 .byte (Int32.ofNat (us ++ us).length) (pad (us ++ us).length ((ee ++ [(((192 : Int32) ||| ((bb &&& 255) >>> ((6 : Int32) &&& 31))).toInt8.toInt32)]) ++ [(((128 : Int32) ||| (bb &&& 63)).toInt8.toInt32)])) (.int 0) := by
      have q := Arv.set Ar297 Aq297 As297 An297 Ah297 Ag297 (fits_nar_byte _) W298 (ee ++ [(((192 : Int32) ||| ((bb &&& 255) >>> ((6 : Int32) &&& 31))).toInt8.toInt32)]).length (nl (Nat.le_trans (Nat.le_of_lt rm298) (len2k hl))) (by rw [pad_len (Nat.le_of_lt rm298)]; exact rm298)
      rw [i8i8 ((128 : Int32) ||| (bb &&& 63)), pad_set rm298] at q; exact q
     have K298 : Keep h0 h298 [] := K296.wr W298 (Or.inr sz280)
     have O298 : Old Z n0 h298 := O296.wr W298 ge280
     have N298 := Fr.snoc X298 N296 ge280
     refine Go.st st298 ?_
     show Go p.tables e below Kx _ (mkF m 106 _ [])
     refine s_goto (pc' := 118) X298.here hx (hb hby d_jdk_42_m46_106) (by decide) (by decide) ?_
     refine s_iinc (pc' := 121) (Ls' := #[vi 0, vr xt, vi 1, .val (.int (Int32.ofNat ((ee ++ [(((192 : Int32) ||| ((bb &&& 255) >>> ((6 : Int32) &&& 31))).toInt8.toInt32)]) ++ [(((128 : Int32) ||| (bb &&& 63)).toInt8.toInt32)]).length)), vr t280, vr xt, .val (.int (Int32.ofNat us.length)), .val (.int (Int32.ofNat (dd ++ [bb]).length)), vi bb]) (z := (Int32.ofNat (dd ++ [bb]).length)) X298.here hx (hb hby d_jdk_42_m46_118) rfl rfl (lsucc _ bb) rfl ?_
     refine s_goto (pc' := 49) X298.here hx (hb hby d_jdk_42_m46_121) (by decide) (by decide) ?_
     exact ih _ _ _ _ _ _ X298 N298 e298 K298 O298 (app_mid hs) (enc_p hc294 he) V298 (Or.inr ⟨_, rfl⟩)
    ·
     refine s_ifY (pc' := 109) XJ.here hx (hb hby d_jdk_42_m46_65) ((if0 _ _).trans (flt hc294).2.1) (by decide) (by decide) ?_
     refine s_aload (pc' := 111) XJ.here hx (hb hby d_jdk_42_m46_109) rfl rfl rfl ?_
     refine s_iloadN (pc' := 112) XJ.here hx (hb hby d_jdk_42_m46_111) rfl rfl ?_
     refine s_iinc (pc' := 115) (Ls' := #[vi 0, vr xt, vi 1, .val (.int (Int32.ofNat (ee ++ [bb]).length)), vr t280, vr xt, .val (.int (Int32.ofNat us.length)), .val (.int (Int32.ofNat dd.length)), vi bb]) (z := (Int32.ofNat (ee ++ [bb]).length)) XJ.here hx (hb hby d_jdk_42_m46_112) rfl rfl (lsucc _ bb) rfl ?_
     refine s_iload (pc' := 117) XJ.here hx (hb hby d_jdk_42_m46_115) rfl rfl ?_
     obtain ⟨cl299, Ar299, Aq299, As299, An299, Ah299, Ag299⟩ := id AJ
     have rm300 : ee.length < (us ++ us).length := (Nat.lt_of_succ_lt hin)
     have in300 := inb_of (j := (Int32.ofNat ee.length)) As299 (inpad (n := (us ++ us).length) rm300 (len2k hl))
     obtain ⟨T300, h300, X300, e300, W300, st300⟩ := stB XJ hx hZ eJ Ar299 (j := (Int32.ofNat ee.length)) in300 (g := (mkF m 117 #[vi 0, vr xt, vi 1, .val (.int (Int32.ofNat (ee ++ [bb]).length)), vr t280, vr xt, .val (.int (Int32.ofNat us.length)), .val (.int (Int32.ofNat dd.length)), vi bb] [(.int bb), (.int (Int32.ofNat ee.length)), (.ref t280)])) rfl rfl (hb hby d_jdk_42_m46_117)
     have V300 : Arv Z h300 t280 kt280 .byte (Int32.ofNat (us ++ us).length) (pad (us ++ us).length (ee ++ [bb])) (.int 0) := by
      have q := Arv.set Ar299 Aq299 As299 An299 Ah299 Ag299 (fits_nar_byte _) W300 ee.length (nl (Nat.le_trans (Nat.le_of_lt rm300) (len2k hl))) (by rw [pad_len (Nat.le_of_lt rm300)]; exact rm300)
      rw [hbb, pad_set rm300] at q; exact q
     have K300 : Keep h0 h300 [] := KJ.wr W300 (Or.inr sz280)
     have O300 : Old Z n0 h300 := OJ.wr W300 ge280
     have N300 := Fr.snoc X300 NJ ge280
     refine Go.st st300 ?_
     show Go p.tables e below Kx _ (mkF m 118 _ [])
     refine s_iinc (pc' := 121) (Ls' := #[vi 0, vr xt, vi 1, .val (.int (Int32.ofNat (ee ++ [bb]).length)), vr t280, vr xt, .val (.int (Int32.ofNat us.length)), .val (.int (Int32.ofNat (dd ++ [bb]).length)), vi bb]) (z := (Int32.ofNat (dd ++ [bb]).length)) X300.here hx (hb hby d_jdk_42_m46_118) rfl rfl (lsucc _ bb) rfl ?_
     refine s_goto (pc' := 49) X300.here hx (hb hby d_jdk_42_m46_121) (by decide) (by decide) ?_
     exact ih _ _ _ _ _ _ X300 N300 e300 K300 O300 (app_mid hs) (enc_n hc294 he) V300 (Or.inr ⟨_, rfl⟩)
  exact J us [] [] _ _ _ _ X280 N280 rfl K280 O280 rfl rfl q1_280 (Or.inl rfl)
theorem pd_31 : parseMethodDescriptor "(B[BZ)[B" = some ⟨[.byte, (.array .byte), .boolean], some (.array .byte)⟩ := by decide +kernel
theorem d_jdk_42_m18_10 : decode jdk_42_method_18_code 10 = .ok (.invokestatic 252, 3) := by decide +kernel
theorem d_jdk_42_m18_13 : decode jdk_42_method_18_code 13 = .ok (.areturn, 1) := by decide +kernel
def QGen (Z : State) (xt u8 : Addr) (kt : ClassId) (us : List Int32) (h0 : Heap) (n0 : Nat) (v : Option Value) (h : Heap) (L : List Loc) : Prop := ∃ (t : Addr) (k : ClassId), v = some (.ref t) ∧ Fr n0 L ∧ Keep h0 h [] ∧ h0.size ≤ t ∧ Arv Z h t k .byte (Int32.ofNat (enc us).length) ((enc us).map Value.int) (.int 0)
set_option maxRecDepth 65536 in
set_option maxHeartbeats 40000000 in
theorem rmGen (l : Launch) (Z : State) (a0 : Array Value) (hw : ∀ d ∈ tables_1, d.before a0 Z = true) (ws : List Jvm.Cond) (xt u8 : Addr) (kt : ClassId) (us : List Int32) (h0 : Heap) (n0 : Nat) (X00 : Old Z n0 h0) (SU : Sta Z Z.heap "sun/nio/cs/UTF_8" "INSTANCE" "Lsun/nio/cs/UTF_8;" (.ref u8)) (Bxt : Exa Z h0 xt "[B") (Axt : Arv Z h0 xt kt .byte (Int32.ofNat us.length) (us.map Value.int) (.int 0)) (hl : us.length < 16) (hbt : ∀ b ∈ us, b.toInt8.toInt32 = b) (hen : (enc us).length < (us ++ us).length) :
  MetFree l yN21 (head1 (Jvm.Cond.code yN21 jdk_42_method_18_code 3 (some (.array .byte)) :: ws) ({ frames := 3, cells := 2, slots := 60, locals := 52 } : Room)) (fun aa U => aa = #[(.ref u8), (.int 0), (.ref xt)] ∧ Z.Warmed39 U.vm ∧ U.heap = h0) (fun _ _ _ _ _ => True) (fun _ U o U' => ∃ v L, o = .returned v ∧ QGen Z xt u8 kt us h0 n0 v U'.heap L ∧ FrameEnd U o U' L ({ frames := 3, cells := 2, slots := 60, locals := 52 } : Room).cells ({ frames := 3, cells := 2, slots := 60, locals := 52 } : Room).slots) := by
 refine MetFree.of_bodySF (plainFor_of_name pn_3) hisR ?_
 intro p e s m args below meth c s₁ Bd hml0 hP hK
 obtain ⟨rfl, hZ, hh⟩ := hP
 have hx := Bd.exec
 have hby := Bd.bytes
 have hml : c.maxLocals = 3 := hml0
 have hown : s.vm.findClass "java/lang/String" = some m.cls := findClass_of_methodNamed Bd.named
 have hnm := (name_of_methodNamed Bd.named Bd.method).1
 have X0 : Stand p l e ({ frames := 3, cells := 2, slots := 60, locals := 52 } : Room) s m #[(.ref u8), (.int 0), (.ref xt)] below meth c s₁ [] 0 0 := Stand.of_body Bd
 have e0 : s₁.heap = h0 := by rw [← hh, Bd.state]; rfl
 have N0 := Fr.nil n0
 have K0 := Keep.refl h0 []
 have ef : entryFrame m #[(.ref u8), (.int 0), (.ref xt)] 3 = mkF m 0 #[vr u8, vi 0, vr xt] [] := (by first | (simp [entryFrame, mkF, argsToLocals, Value.category]; done) | rfl : entryFrame m #[(.ref u8), (.int 0), (.ref xt)] 3 = mkF m 0 #[vr u8, vi 0, vr xt] [])
 rw [ef]
 refine fin_of fun Kx hF => ?_
 show Go p.tables e below Kx _ (mkF m 0 _ [])
 refine s_aloadN (pc' := 1) X0.here hx (hb hby d_jdk_42_m18_0) rfl rfl rfl ?_
 obtain ⟨T268, X268, e268, st268⟩ := getS2 X0 hx hZ hown (host := "") (Or.inl (hv hw 230 rfl)) Via.refl e0 (SU.ext X00.2) (g := (mkF m 1 #[vr u8, vi 0, vr xt] [(.ref u8)])) rfl (hb hby d_jdk_42_m18_1)
 refine Go.st st268 ?_
 show Go p.tables e below Kx _ (mkF m 4 _ [(.ref u8), (.ref u8)])
 refine Go.st (fun _ r => Jvm.RoadKit.acmp (g := (mkF m 4 #[vr u8, vi 0, vr xt] [(.ref u8), (.ref u8)])) X268 hx rfl rfl rfl (pc0 := 4) (pc' := 7) (same := true) rfl (hb hby d_jdk_42_m18_4) rfl (decide_eq_true rfl) (by decide) (by decide) r) ?_
 show Go p.tables e below Kx _ (mkF m 7 _ [])
 refine s_iloadN (pc' := 8) X268.here hx (hb hby d_jdk_42_m18_7) rfl rfl ?_
 refine s_aloadN (pc' := 9) X268.here hx (hb hby d_jdk_42_m18_8) rfl rfl rfl ?_
 refine s_iconst (pc' := 10) (v := 1) X268.here hx (hb hby d_jdk_42_m18_9) rfl rfl ?_
 obtain ⟨_, _, ⟨T301, L301, k301, n301⟩, -, X301, ⟨Lc301, hQ301, l301, y301, z301⟩, st301⟩ := Jvm.LawKit.callS X268 hx (y := yN22) hown (mvT hZ (hv hw 232 rfl)) (mvT hZ (hv hw 233 rfl)) (mvT hZ (hv hw 7 rfl)) (mvT hZ (hv hw 234 rfl)) (by decide) (backOf (W := 0) (rmGu8 l Z a0 hw [] xt kt us h0 n0 X00 Bxt Axt hl hbt hen) hZ (hv hw 234 rfl) (hv hw 7 rfl) (by decide) (by decide)) (g := (mkF m 10 #[vr u8, vi 0, vr xt] [(.int 1), (.ref xt), (.int 0)])) rfl (by rw [hml]; rfl) (argsL := [(.int 0), (.ref xt), (.int 1)]) (rest := []) (lenOf pd_31 rfl) rfl (by exact Nat.le_of_eq rfl) (hb hby d_jdk_42_m18_10) (fun _ _ => ⟨rfl, e268, (by decide : 0 + 2 ≤ _), (by decide : 0 + 60 ≤ _)⟩)
 dsimp only [Pt.U, Pt.locs, Pt.cells, Pt.slots] at X301 l301 y301 z301 st301 hQ301
 rw [l301, y301, z301] at X301
 obtain ⟨t301, kt301, rfl, Nq301, Kq301, le301, q1_301⟩ := hQ301
 have sz301 : h0.size ≤ t301 := Nat.le_trans K0.1 le301
 have ge301 : n0 ≤ t301 := Nat.le_trans (X00.1 ▸ X00.2.1) le301
 have N301 := Fr.app N0 Nq301
 have K301 : Keep h0 T301.heap [] := K0.trans Kq301 all0
 have O301 : Old Z n0 T301.heap := X00.keep Kq301 all0
 refine Go.st st301 ?_
 show Go p.tables e below Kx _ (mkF m 13 _ [(.ref t301)])
 obtain ⟨fs, hr, hrun, hended, hW, hsame⟩ := X301.leave (v := (some (.ref t301))) (fun h => by rw [Bd.returns] at h; cases h)
 refine Go.fin (retOut X301 hx Bd.returns rfl (Or.inr (Or.inr (Or.inr (Or.inr ⟨rfl, rfl, rfl⟩)))) (hb hby d_jdk_42_m18_13) hr) (hF _ _ hrun hended ⟨_, _, rfl, ?_, ⟨_, rfl⟩, hW, hsame.mono (by decide) (by decide)⟩)
 ·
  show QGen Z xt u8 kt us h0 n0 ((some (.ref t301)) : Option Value) T301.heap _
  skip
  exact ⟨_, _, rfl, N301, K301, sz301, q1_301⟩
theorem pd_32 : parseMethodDescriptor "(Ljava/nio/charset/Charset;B[B)[B" = some ⟨[(.object "java/nio/charset/Charset"), .byte, (.array .byte)], some (.array .byte)⟩ := by decide +kernel
theorem d_jdk_42_m64_21 : decode jdk_42_method_64_code 21 = .ok (.invokestatic 535, 3) := by decide +kernel
theorem d_jdk_42_m64_24 : decode jdk_42_method_64_code 24 = .ok (.areturn, 1) := by decide +kernel
def QGgU (Z : State) (xy yb u8 : Addr) (ky : ClassId) (us : List Int32) (h0 : Heap) (n0 : Nat) (v : Option Value) (h : Heap) (L : List Loc) : Prop := ∃ (t : Addr) (k : ClassId), v = some (.ref t) ∧ Fr n0 L ∧ Keep h0 h [] ∧ h0.size ≤ t ∧ Arv Z h t k .byte (Int32.ofNat (enc us).length) ((enc us).map Value.int) (.int 0)
set_option maxRecDepth 65536 in
set_option maxHeartbeats 40000000 in
theorem rmGgU (l : Launch) (Z : State) (a0 : Array Value) (hw : ∀ d ∈ tables_1, d.before a0 Z = true) (ws : List Jvm.Cond) (xy yb u8 : Addr) (ky : ClassId) (us : List Int32) (h0 : Heap) (n0 : Nat) (X00 : Old Z n0 h0) (G1 : Int32) (S1 : Sta Z Z.heap "java/lang/String" "COMPACT_STRINGS" "Z" (.int G1)) (P1 : ¬ G1 = 0) (SU : Sta Z Z.heap "sun/nio/cs/UTF_8" "INSTANCE" "Lsun/nio/cs/UTF_8;" (.ref u8)) (Exy : Exa Z h0 xy "java/lang/String") (Cxy : Fld Z h0 xy "java/lang/String" "coder" "B" (.int 0)) (Vxy : Fld Z h0 xy "java/lang/String" "value" "[B" (.ref yb)) (Axy : Arv Z h0 yb ky .byte (Int32.ofNat us.length) (us.map Value.int) (.int 0)) (Byb : Exa Z h0 yb "[B") (hl : us.length < 16) (hbt : ∀ b ∈ us, b.toInt8.toInt32 = b) (hen : (enc us).length < (us ++ us).length) :
  MetFree l yN24 (head1 (Jvm.Cond.code yN24 jdk_42_method_64_code 2 (some (.array .byte)) :: ws) ({ frames := 4, cells := 2, slots := 60, locals := 66 } : Room)) (fun aa U => aa = #[(.ref xy), (.ref u8)] ∧ Z.Warmed39 U.vm ∧ U.heap = h0) (fun _ _ _ _ _ => True) (fun _ U o U' => ∃ v L, o = .returned v ∧ QGgU Z xy yb u8 ky us h0 n0 v U'.heap L ∧ FrameEnd U o U' L ({ frames := 4, cells := 2, slots := 60, locals := 66 } : Room).cells ({ frames := 4, cells := 2, slots := 60, locals := 66 } : Room).slots) := by
 refine MetFree.of_bodySF (plainFor_of_name pn_3) hisR ?_
 intro p e s m args below meth c s₁ Bd hml0 hP hK
 obtain ⟨rfl, hZ, hh⟩ := hP
 have hx := Bd.exec
 have hby := Bd.bytes
 have hml : c.maxLocals = 2 := hml0
 have hown : s.vm.findClass "java/lang/String" = some m.cls := findClass_of_methodNamed Bd.named
 have hnm := (name_of_methodNamed Bd.named Bd.method).1
 have X0 : Stand p l e ({ frames := 4, cells := 2, slots := 60, locals := 66 } : Room) s m #[(.ref xy), (.ref u8)] below meth c s₁ [] 0 0 := Stand.of_body Bd
 have e0 : s₁.heap = h0 := by rw [← hh, Bd.state]; rfl
 have N0 := Fr.nil n0
 have K0 := Keep.refl h0 []
 have ef : entryFrame m #[(.ref xy), (.ref u8)] 2 = mkF m 0 #[vr xy, vr u8] [] := (by first | (simp [entryFrame, mkF, argsToLocals, Value.category]; done) | rfl : entryFrame m #[(.ref xy), (.ref u8)] 2 = mkF m 0 #[vr xy, vr u8] [])
 rw [ef]
 refine fin_of fun Kx hF => ?_
 show Go p.tables e below Kx _ (mkF m 0 _ [])
 refine s_aloadN (pc' := 1) X0.here hx (hb hby d_jdk_42_m64_0) rfl rfl rfl ?_
 refine s_ifnonnullY (pc' := 12) X0.here hx (hb hby d_jdk_42_m64_1) (by decide) (by decide) ?_
 refine s_aloadN (pc' := 13) X0.here hx (hb hby d_jdk_42_m64_12) rfl rfl rfl ?_
 refine s_aloadN (pc' := 14) X0.here hx (hb hby d_jdk_42_m64_13) rfl rfl rfl ?_
 obtain ⟨cq266, kq266, q266a, q266b, q266c⟩ := isOf hZ e0 Exy
 obtain ⟨_, _, ⟨T266, L266, k266, n266⟩, -, X266, ⟨Lc266, hQ266, l266, y266, z266⟩, st266⟩ := X0.virtualBack hx (y := yN20) (z := yN20) hown (mvT hZ (hv hw 74 rfl)) (mvT hZ (hv hw 75 rfl)) (notFace_of_selects (args := #[]) (mvT hZ (hv hw 77 rfl))) (mvT hZ (hv hw 77 rfl)) (mvT hZ (hv hw 76 rfl)) (by decide) (backOf (W := 1) (rmKc l Z a0 hw [] xy h0 n0 X00 G1 S1 P1 Cxy) hZ (hv hw 78 rfl) (hv hw 7 rfl) (by decide) (by decide)) q266a q266c (g := (mkF m 14 #[vr xy, vr u8] [(.ref xy), (.ref u8)])) rfl (by rw [hml]; rfl) (Steps.refl _) (argsL := []) (rest := [(.ref u8)]) (lenOf pd_5 rfl) rfl (by exact Nat.le_of_eq rfl) (hb hby d_jdk_42_m64_14) (fun _ _ => ⟨rfl, e0, (by decide : 0 + 0 ≤ _), (by decide : 0 + 0 ≤ _)⟩)
 dsimp only [Pt.U, Pt.locs, Pt.cells, Pt.slots] at X266 l266 y266 z266 st266 hQ266
 rw [l266, y266, z266] at X266
 obtain ⟨rfl, Nq266, hE266⟩ := hQ266
 have N266 := Fr.app N0 Nq266
 refine Go.tr st266 ?_
 show Go p.tables e below Kx _ (mkF m 17 _ [(.int 0), (.ref u8)])
 refine s_aloadN (pc' := 18) X266.here hx (hb hby d_jdk_42_m64_17) rfl rfl rfl ?_
 obtain ⟨T267, X267, e267, st267⟩ := getF X266 hx hZ hown (host := "") (Or.inl (hv hw 32 rfl)) Via.refl hE266 Vxy (g := (mkF m 18 #[vr xy, vr u8] [(.ref xy), (.int 0), (.ref u8)])) rfl rfl (hb hby d_jdk_42_m64_18)
 refine Go.st st267 ?_
 show Go p.tables e below Kx _ (mkF m 21 _ [(.ref yb), (.int 0), (.ref u8)])
 obtain ⟨_, _, ⟨T302, L302, k302, n302⟩, -, X302, ⟨Lc302, hQ302, l302, y302, z302⟩, st302⟩ := Jvm.LawKit.callS X267 hx (y := yN21) hown (mvT hZ (hv hw 227 rfl)) (mvT hZ (hv hw 228 rfl)) (mvT hZ (hv hw 7 rfl)) (mvT hZ (hv hw 229 rfl)) (by decide) (backOf (W := 0) (rmGen l Z a0 hw [] yb u8 ky us h0 n0 X00 SU Byb Axy hl hbt hen) hZ (hv hw 229 rfl) (hv hw 7 rfl) (by decide) (by decide)) (g := (mkF m 21 #[vr xy, vr u8] [(.ref yb), (.int 0), (.ref u8)])) rfl (by rw [hml]; rfl) (argsL := [(.ref u8), (.int 0), (.ref yb)]) (rest := []) (lenOf pd_32 rfl) rfl (by exact Nat.le_of_eq rfl) (hb hby d_jdk_42_m64_21) (fun _ _ => ⟨rfl, e267, (by decide : 0 + 2 ≤ _), (by decide : 0 + 60 ≤ _)⟩)
 dsimp only [Pt.U, Pt.locs, Pt.cells, Pt.slots] at X302 l302 y302 z302 st302 hQ302
 rw [l302, y302, z302] at X302
 obtain ⟨t302, kt302, rfl, Nq302, Kq302, le302, q1_302⟩ := hQ302
 have sz302 : h0.size ≤ t302 := Nat.le_trans K0.1 le302
 have ge302 : n0 ≤ t302 := Nat.le_trans (X00.1 ▸ X00.2.1) le302
 have N302 := Fr.app N266 Nq302
 have K302 : Keep h0 T302.heap [] := K0.trans Kq302 all0
 have O302 : Old Z n0 T302.heap := X00.keep Kq302 all0
 refine Go.st st302 ?_
 show Go p.tables e below Kx _ (mkF m 24 _ [(.ref t302)])
 obtain ⟨fs, hr, hrun, hended, hW, hsame⟩ := X302.leave (v := (some (.ref t302))) (fun h => by rw [Bd.returns] at h; cases h)
 refine Go.fin (retOut X302 hx Bd.returns rfl (Or.inr (Or.inr (Or.inr (Or.inr ⟨rfl, rfl, rfl⟩)))) (hb hby d_jdk_42_m64_24) hr) (hF _ _ hrun hended ⟨_, _, rfl, ?_, ⟨_, rfl⟩, hW, hsame.mono (by decide) (by decide)⟩)
 ·
  show QGgU Z xy yb u8 ky us h0 n0 ((some (.ref t302)) : Option Value) T302.heap _
  skip
  exact ⟨_, _, rfl, N302, K302, sz302, q1_302⟩
theorem pd_33 : parseMethodDescriptor "(Ljava/nio/charset/Charset;)[B" = some ⟨[(.object "java/nio/charset/Charset")], some (.array .byte)⟩ := by decide +kernel
theorem d_prog_15_m5_32 : decode prog_15_method_5_code 32 = .ok (.invokevirtual 86, 3) := by decide +kernel
theorem d_prog_15_m5_35 : decode prog_15_method_5_code 35 = .ok (.areturn, 1) := by decide +kernel
def QDa (Z : State) (xd yu yp u8 : Addr) (bu bp : Nat) (cu cp : List Int32) (h0 : Heap) (n0 : Nat) (v : Option Value) (h : Heap) (L : List Loc) : Prop := ∃ (t : Addr) (k : ClassId), v = some (.ref t) ∧ Fr n0 L ∧ Keep h0 h [] ∧ h0.size ≤ t ∧ Arv Z h t k .byte (Int32.ofNat (enc (((([] : List Int32) ++ (i8s cu)) ++ [(58 : Int32)]) ++ (i8s cp))).length) ((enc (((([] : List Int32) ++ (i8s cu)) ++ [(58 : Int32)]) ++ (i8s cp))).map Value.int) (.int 0)
set_option maxRecDepth 65536 in
set_option maxHeartbeats 40000000 in
theorem rmDa (l : Launch) (Z : State) (a0 : Array Value) (hw : ∀ d ∈ tables_1, d.before a0 Z = true) (ws : List Jvm.Cond) (xd yu yp u8 : Addr) (bu bp : Nat) (cu cp : List Int32) (h0 : Heap) (n0 : Nat) (X00 : Old Z n0 h0) (hEL : EW Z a0 consts_1) (wS : ∀ a ∈ Bundle.stringAtoms, a.before a0 Z = true) (G1 : Int32) (S1 : Sta Z Z.heap "java/lang/String" "COMPACT_STRINGS" "Z" (.int G1)) (P1 : ¬ G1 = 0) (SU : Sta Z Z.heap "sun/nio/cs/UTF_8" "INSTANCE" "Lsun/nio/cs/UTF_8;" (.ref u8)) (SC : Sta Z Z.heap "java/nio/charset/StandardCharsets" "UTF_8" "Ljava/nio/charset/Charset;" (.ref u8)) (Exd : Exa Z h0 xd "com/example/turnlock/turnlock/session/DigestCredentials") (F1 : Fld Z h0 xd "com/example/turnlock/turnlock/session/DigestCredentials" "user" "Ljava/lang/String;" (.ref yu)) (F2 : Fld Z h0 xd "com/example/turnlock/turnlock/session/DigestCredentials" "password" "Ljava/lang/String;" (.ref yp)) (TU : Str Z h0 bu yu cu) (TP : Str Z h0 bp yp cp) (hcl : cu.length + cp.length < 15) :
  MetFree l yN1 (head1 (Jvm.Cond.code yN1 prog_15_method_5_code 1 (some (.array .byte)) :: ws) ({ frames := 6, cells := 8, slots := 120, locals := 91 } : Room)) (fun aa U => aa = #[(.ref xd)] ∧ Z.Warmed39 U.vm ∧ U.heap = h0 ∧ CHv Z consts_1 U.vm h0) (fun _ _ _ _ _ => True) (fun _ U o U' => ∃ v L, o = .returned v ∧ QDa Z xd yu yp u8 bu bp cu cp h0 n0 v U'.heap L ∧ CHr Z consts_1 U.vm U.heap U'.vm U'.heap ∧ ReturnedEndW U o U' L ({ frames := 6, cells := 8, slots := 120, locals := 91 } : Room).cells ({ frames := 6, cells := 8, slots := 120, locals := 91 } : Room).slots) := by
 refine MetFree.of_bodySF (plainFor_of_name pn_1) hisR ?_
 intro p e s m args below meth c s₁ Bd hml0 hP hK
 obtain ⟨rfl, hZ, hh, H0⟩ := hP
 have hx := Bd.exec
 have hby := Bd.bytes
 have hml : c.maxLocals = 1 := hml0
 have hown : s.vm.findClass "com/example/turnlock/turnlock/session/DigestCredentials" = some m.cls := findClass_of_methodNamed Bd.named
 have hnm := (name_of_methodNamed Bd.named Bd.method).1
 have X0 : Stand p l e ({ frames := 6, cells := 8, slots := 120, locals := 91 } : Room) (s.setVm s.vm) m #[(.ref xd)] below meth c s₁ [] 0 0 := Stand.of_body Bd
 have e0 : s₁.heap = h0 := by rw [← hh, Bd.state]; rfl
 have N0 := Fr.nil n0
 have K0 := Keep.refl h0 []
 have hS0 : s.Since s.vm h0.size := (State.WarmedH.refl s).since _
 have hk0 := Nat.le_refl h0.size
 have C0 : CHr Z consts_1 s.vm h0 s.vm h0 := CHr.refl H0
 have ef : entryFrame m #[(.ref xd)] 1 = mkF m 0 #[vr xd] [] := (by first | (simp [entryFrame, mkF, argsToLocals, Value.category]; done) | rfl : entryFrame m #[(.ref xd)] 1 = mkF m 0 #[vr xd] [])
 rw [ef]
 refine fin_of fun Kx hF => ?_
 show Go p.tables e below Kx _ (mkF m 0 _ [])
 obtain ⟨-, sEyu, sCyu, ⟨sbyu, skyu, -, sFyu, sAyu⟩, spyu, slyu⟩ := id TU
 have sVyu : Arv Z h0 sbyu skyu .byte (Int32.ofNat (i8s cu).length) ((i8s cu).map Value.int) (.int 0) := i8arv sAyu
 obtain ⟨-, sEyp, sCyp, ⟨sbyp, skyp, -, sFyp, sAyp⟩, spyp, slyp⟩ := id TP
 have sVyp : Arv Z h0 sbyp skyp .byte (Int32.ofNat (i8s cp).length) ((i8s cp).map Value.int) (.int 0) := i8arv sAyp
 have k1 : ([] : List Int32).length + (i8s cu).length ≤ 16 := by simp only [List.length_append, List.length_nil, List.length_cons, i8s_len]; omega
 have k2 : (([] : List Int32) ++ (i8s cu)).length + [(58 : Int32)].length ≤ 16 := by simp only [List.length_append, List.length_nil, List.length_cons, i8s_len]; omega
 have k3 : ((([] : List Int32) ++ (i8s cu)) ++ [(58 : Int32)]).length + (i8s cp).length ≤ 16 := by simp only [List.length_append, List.length_nil, List.length_cons, i8s_len]; omega
 have k4 : (((([] : List Int32) ++ (i8s cu)) ++ [(58 : Int32)]) ++ (i8s cp)).length < 16 := by simp only [List.length_append, List.length_nil, List.length_cons, i8s_len]; omega
 have k5 : ∀ b ∈ (((([] : List Int32) ++ (i8s cu)) ++ [(58 : Int32)]) ++ (i8s cp)), b.toInt8.toInt32 = b := by
  intro b hb
  simp only [List.mem_append, List.mem_singleton, List.not_mem_nil, false_or] at hb
  rcases hb with (hb | rfl) | hb
  ·
   exact i8s_bt b hb
  ·
   decide
  ·
   exact i8s_bt b hb
 have k6 : (enc (((([] : List Int32) ++ (i8s cu)) ++ [(58 : Int32)]) ++ (i8s cp))).length < ((((([] : List Int32) ++ (i8s cu)) ++ [(58 : Int32)]) ++ (i8s cp)) ++ (((([] : List Int32) ++ (i8s cu)) ++ [(58 : Int32)]) ++ (i8s cp))).length := enc_lt (by simp)
 show Go p.tables e below Kx _ (mkF m 0 _ [])
 obtain ⟨T145, h145, X145, e145, E145, A145, D145, -, st145⟩ := newO X0 hx hZ hown (hv hw 121 rfl) (hv hw 122 rfl) (hv hw 123 rfl) e0 (g := (mkF m 0 #[vr xd] [])) rfl (hb hby d_prog_15_m5_0) (by decide) (by decide)
 obtain ⟨b145, g145⟩ : ∃ z, z = h0.size := ⟨_, rfl⟩
 rw [← g145] at A145 D145 st145
 have sz145 : h0.size ≤ b145 := Nat.le_trans K0.1 (Nat.le_of_eq g145.symm)
 have ge145 : n0 ≤ b145 := Nat.le_trans (X00.1 ▸ X00.2.1) (Nat.le_of_eq g145.symm)
 have sn145 : Safe Z consts_1 s.vm h0 b145 := Safe.new (Nat.le_of_eq g145.symm)
 have K145 : Keep h0 h145 [] := K0.ext E145
 have O145 : Old Z n0 h145 := X00.ext E145
 have sf146 : Safe Z consts_1 s.vm h145 b145 := (Safe.ext E145 H0 sn145)
 have H145 : CHv Z consts_1 s.vm h145 := H0.ext E145
 have C145 : CHr Z consts_1 s.vm h0 s.vm h145 := C0.trans (CHr.ext E145 H0)
 have hk145 := Nat.le_trans hk0 E145.1
 have F145_value : Fld Z h145 b145 "java/lang/AbstractStringBuilder" "value" "[B" .null := D145 (Or.inl (hv hw 136 rfl)) (ty := (.array .byte)) (by decide)
 have F145_coder : Fld Z h145 b145 "java/lang/AbstractStringBuilder" "coder" "B" (.int 0) := D145 (Or.inl (hv hw 138 rfl)) (ty := .byte) (by decide)
 have F145_count : Fld Z h145 b145 "java/lang/AbstractStringBuilder" "count" "I" (.int 0) := D145 (Or.inl (hv hw 151 rfl)) (ty := .int) (by decide)
 refine Go.st st145 ?_
 show Go p.tables e below Kx _ (mkF m 3 _ [(.ref b145)])
 refine s_dup (pc' := 4) X145.here hx (hb hby d_prog_15_m5_3) rfl rfl ?_
 obtain ⟨_, _, ⟨T161, L161, k161, n161⟩, -, X161, ⟨Lc161, hQ161, l161, y161, z161⟩, st161⟩ := X145.specialBack hx (y := yN31) rfl hown (mvT hZ (hv hw 124 rfl)) (mvT hZ (hv hw 125 rfl)) (mvT hZ (hv hw 126 rfl)) (by decide) (backOf (W := 1) (rmKn1 l Z a0 hw [] b145 h145 n0 O145 G1 S1 P1 ge145 A145 F145_value F145_coder F145_count) hZ (hv hw 126 rfl) (hv hw 123 rfl) (by decide) (by decide)) (g := (mkF m 4 #[vr xd] [(.ref b145), (.ref b145)])) rfl (by rw [hml]; rfl) (Steps.refl _) (a := b145) (argsL := []) (rest := [(.ref b145)]) (lenOf pd_16 rfl) rfl (by exact Nat.le_of_eq rfl) (hb hby d_prog_15_m5_4) (fun _ _ => ⟨rfl, e145, (by decide : 1 + 1 ≤ _), (by decide : 4 + 16 ≤ _)⟩)
 dsimp only [Pt.U, Pt.locs, Pt.cells, Pt.slots] at X161 l161 y161 z161 st161 hQ161
 rw [l161, y161, z161] at X161
 obtain ⟨rfl, Nq161, Kq161, q1_161, t161, kt161, le161, q2_161, q3_161, q4_161, q5_161⟩ := hQ161
 have sz161 : h0.size ≤ t161 := Nat.le_trans K145.1 le161
 have ge161 : n0 ≤ t161 := Nat.le_trans (O145.1 ▸ O145.2.1) le161
 have sn161 : Safe Z consts_1 s.vm h145 t161 := Safe.new le161
 have N161 := Fr.app N0 Nq161
 have K161 : Keep h0 T161.heap [] := K145.trans Kq161 (allS (P := fun zz => zz ∈ [] ∨ h0.size ≤ zz) (Or.inr sz145) all0)
 have O161 : Old Z n0 T161.heap := O145.keep Kq161 (allS ge145 all0)
 have sf162 : Safe Z consts_1 s.vm T161.heap b145 := (Safe.keep Kq161 (sfS sf146 sf0) H145 sf146)
 have sf163 : Safe Z consts_1 s.vm T161.heap t161 := (Safe.keep Kq161 (sfS sf146 sf0) H145 sn161)
 have H161 : CHv Z consts_1 s.vm T161.heap := H145.keep Kq161 (sfS sf146 sf0)
 have C161 : CHr Z consts_1 s.vm h0 s.vm T161.heap := C145.trans (CHr.keep Kq161 (sfS sf146 sf0) H145)
 have hk161 := Nat.le_trans hk145 Kq161.1
 refine Go.tr st161 ?_
 show Go p.tables e below Kx _ (mkF m 7 _ [(.ref b145)])
 have V164 : Arv Z T161.heap t161 kt161 .byte 16 (pad 16 ([] : List Int32)) (.int 0) := q5_161
 have F164 : Fld Z T161.heap b145 "java/lang/AbstractStringBuilder" "count" "I" (.int (Int32.ofNat ([] : List Int32).length)) := q4_161
 refine s_aloadN (pc' := 8) X161.here hx (hb hby d_prog_15_m5_7) rfl rfl rfl ?_
 have f165 : Fld Z T161.heap xd "com/example/turnlock/turnlock/session/DigestCredentials" "user" "Ljava/lang/String;" (.ref yu) := ((F1.ext E145).keep Kq161 (ninS (Nat.ne_of_lt (Nat.lt_of_lt_of_le Exd.lt (Nat.le_of_eq g145.symm))) nin0))
 obtain ⟨T166, X166, e166, st166⟩ := getF X161 hx hZ hown (host := "") (Or.inl (hv hw 102 rfl)) Via.refl rfl f165 (g := (mkF m 8 #[vr xd] [(.ref xd), (.ref b145)])) rfl rfl (hb hby d_prog_15_m5_8)
 refine Go.st st166 ?_
 show Go p.tables e below Kx _ (mkF m 11 _ [(.ref yu), (.ref b145)])
 have f196 : Exa Z T161.heap yu "java/lang/String" := ((sEyu.ext E145).keep Kq161)
 have f197 : Fld Z T161.heap yu "java/lang/String" "coder" "B" (.int 0) := ((sCyu.ext E145).keep Kq161 (ninS (Nat.ne_of_lt (Nat.lt_of_lt_of_le sEyu.lt (Nat.le_of_eq g145.symm))) nin0))
 have f198 : Fld Z T161.heap yu "java/lang/String" "value" "[B" (.ref sbyu) := ((sFyu.ext E145).keep Kq161 (ninS (Nat.ne_of_lt (Nat.lt_of_lt_of_le sEyu.lt (Nat.le_of_eq g145.symm))) nin0))
 have f199 : Arv Z T161.heap sbyu skyu .byte (Int32.ofNat (i8s cu).length) ((i8s cu).map Value.int) (.int 0) := ((sVyu.ext E145).keep Kq161 (ninS (Nat.ne_of_lt (Nat.lt_of_lt_of_le sVyu.lt (Nat.le_of_eq g145.symm))) nin0))
 obtain ⟨cq200, kq200, q200a, q200b, q200c⟩ := isOf hZ e166 q1_161
 obtain ⟨_, _, ⟨T200, L200, k200, n200⟩, -, X200, ⟨Lc200, hQ200, l200, y200, z200⟩, st200⟩ := X166.virtualBack hx (y := yN32) (z := yN32) hown (mvT hZ (hv hw 139 rfl)) (mvT hZ (hv hw 140 rfl)) (notFace_of_selects (args := #[]) (mvT hZ (hv hw 142 rfl))) (mvT hZ (hv hw 142 rfl)) (mvT hZ (hv hw 141 rfl)) (by decide) (backOf (W := 0) (rmGs l Z a0 hw [] b145 t161 yu sbyu _ _ ([] : List Int32) (i8s cu) T161.heap n0 O161 G1 S1 P1 q1_161 q2_161 q3_161 F164 V164 f196 f197 f198 f199 ge145 ge161 (Nat.ne_of_lt (Nat.lt_of_lt_of_le A145.lt le161)) k1) hZ (hv hw 143 rfl) (hv hw 123 rfl) (by decide) (by decide)) q200a q200c (g := (mkF m 11 #[vr xd] [(.ref yu), (.ref b145)])) rfl (by rw [hml]; rfl) (Steps.refl _) (argsL := [(.ref yu)]) (rest := []) (lenOf pd_21 rfl) rfl (by exact Nat.le_of_eq rfl) (hb hby d_prog_15_m5_11) (fun _ _ => ⟨rfl, e166, (by decide : 2 + 0 ≤ _), (by decide : 20 + 0 ≤ _)⟩)
 dsimp only [Pt.U, Pt.locs, Pt.cells, Pt.slots] at X200 l200 y200 z200 st200 hQ200
 rw [l200, y200, z200] at X200
 obtain ⟨rfl, Nq200, Kq200, q1_200, q2_200, q3_200, q4_200, q5_200⟩ := hQ200
 have N200 := Fr.app N161 Nq200
 have K200 : Keep h0 T200.heap [] := K161.trans Kq200 (allS (P := fun zz => zz ∈ [] ∨ h0.size ≤ zz) (Or.inr sz145) (allS (P := fun zz => zz ∈ [] ∨ h0.size ≤ zz) (Or.inr sz161) all0))
 have O200 : Old Z n0 T200.heap := O161.keep Kq200 (allS ge145 (allS ge161 all0))
 have sf201 : Safe Z consts_1 s.vm T200.heap b145 := (Safe.keep Kq200 (sfS sf162 (sfS sf163 sf0)) H161 sf162)
 have sf202 : Safe Z consts_1 s.vm T200.heap t161 := (Safe.keep Kq200 (sfS sf162 (sfS sf163 sf0)) H161 sf163)
 have H200 : CHv Z consts_1 s.vm T200.heap := H161.keep Kq200 (sfS sf162 (sfS sf163 sf0))
 have C200 : CHr Z consts_1 s.vm h0 s.vm T200.heap := C161.trans (CHr.keep Kq200 (sfS sf162 (sfS sf163 sf0)) H161)
 have hk200 := Nat.le_trans hk161 Kq200.1
 refine Go.tr st200 ?_
 show Go p.tables e below Kx _ (mkF m 14 _ [(.ref b145)])
 obtain ⟨a203, T203, h203, k1203, b203, k203, X203, e203, E203, hS203, hk203, hZ203, hown203, A203, FC203, FV203, V203, la203, lb203, Cr203, Lt203, sx203, st203⟩ := ldcCH X200 hx hZ hown (hv hw 177 rfl) wS rfl hS0 hk200 hEL (List.mem_of_getElem? (i := 2) rfl) H200 (vs := [(.int 58)]) (z := 1) (by decide) (by decide) (by decide) (g := (mkF m 14 #[vr xd] [(.ref b145)])) rfl (hb hby d_prog_15_m5_14) (n := 4) (by decide) (by decide) (by decide) (by decide)
 have sf204 : Safe Z consts_1 T203.vm h203 b145 := Cr203.safe (Nat.lt_of_lt_of_le A145.lt (Nat.le_trans Kq161.1 Kq200.1)) sf201
 have sf205 : Safe Z consts_1 T203.vm h203 t161 := Cr203.safe (Nat.lt_of_lt_of_le q5_161.lt Kq200.1) sf202
 have C203 := C200.trans Cr203
 have K203 : Keep h0 h203 [] := K200.ext E203
 have O203 : Old Z n0 h203 := O200.ext E203
 refine Go.st st203 ?_
 show Go p.tables e below Kx _ (mkF m 16 _ [(.ref a203), (.ref b145)])
 have V206 : Arv Z h203 b203 k203 .byte (Int32.ofNat [(58 : Int32)].length) ([(58 : Int32)].map Value.int) (.int 0) := V203
 have f207 : Exa Z h203 b145 "java/lang/StringBuilder" := (q1_200.ext E203)
 have f208 : Fld Z h203 b145 "java/lang/AbstractStringBuilder" "value" "[B" (.ref t161) := (q2_200.ext E203)
 have f209 : Fld Z h203 b145 "java/lang/AbstractStringBuilder" "coder" "B" (.int 0) := (q3_200.ext E203)
 have f210 : Fld Z h203 b145 "java/lang/AbstractStringBuilder" "count" "I" (.int (Int32.ofNat (([] : List Int32) ++ (i8s cu)).length)) := (q4_200.ext E203)
 have f211 : Arv Z h203 t161 kt161 .byte 16 (pad 16 (([] : List Int32) ++ (i8s cu))) (.int 0) := (q5_200.ext E203)
 obtain ⟨cq212, kq212, q212a, q212b, q212c⟩ := isOf hZ203 e203 f207
 obtain ⟨_, _, ⟨T212, L212, k212, n212⟩, -, X212, ⟨Lc212, hQ212, l212, y212, z212⟩, st212⟩ := X203.virtualBack hx (y := yN32) (z := yN32) hown203 (mvT hZ203 (hv hw 139 rfl)) (mvT hZ203 (hv hw 140 rfl)) (notFace_of_selects (args := #[]) (mvT hZ203 (hv hw 142 rfl))) (mvT hZ203 (hv hw 142 rfl)) (mvT hZ203 (hv hw 141 rfl)) (by decide) (backOf (W := 0) (rmGs l Z a0 hw [] b145 t161 a203 b203 _ _ (([] : List Int32) ++ (i8s cu)) [(58 : Int32)] h203 n0 O203 G1 S1 P1 f207 f208 f209 f210 f211 A203 FC203 FV203 V206 ge145 ge161 (Nat.ne_of_lt (Nat.lt_of_lt_of_le A145.lt le161)) k2) hZ203 (hv hw 143 rfl) (hv hw 123 rfl) (by decide) (by decide)) q212a q212c (g := (mkF m 16 #[vr xd] [(.ref a203), (.ref b145)])) rfl (by rw [hml]; rfl) (Steps.refl _) (argsL := [(.ref a203)]) (rest := []) (lenOf pd_21 rfl) rfl (by exact Nat.le_of_eq rfl) (hb hby d_prog_15_m5_16) (fun _ _ => ⟨rfl, e203, (by decide : 4 + 0 ≤ _), (by decide : 28 + 0 ≤ _)⟩)
 dsimp only [Pt.U, Pt.locs, Pt.cells, Pt.slots] at X212 l212 y212 z212 st212 hQ212
 rw [l212, y212, z212] at X212
 obtain ⟨rfl, Nq212, Kq212, q1_212, q2_212, q3_212, q4_212, q5_212⟩ := hQ212
 have N212 := Fr.app N200 Nq212
 have K212 : Keep h0 T212.heap [] := K203.trans Kq212 (allS (P := fun zz => zz ∈ [] ∨ h0.size ≤ zz) (Or.inr sz145) (allS (P := fun zz => zz ∈ [] ∨ h0.size ≤ zz) (Or.inr sz161) all0))
 have O212 : Old Z n0 T212.heap := O203.keep Kq212 (allS ge145 (allS ge161 all0))
 have sf213 : Safe Z consts_1 T203.vm T212.heap b145 := (Safe.keep Kq212 (sfS sf204 (sfS sf205 sf0)) Cr203.1 sf204)
 have sf214 : Safe Z consts_1 T203.vm T212.heap t161 := (Safe.keep Kq212 (sfS sf204 (sfS sf205 sf0)) Cr203.1 sf205)
 have H212 : CHv Z consts_1 T203.vm T212.heap := Cr203.1.keep Kq212 (sfS sf204 (sfS sf205 sf0))
 have C212 : CHr Z consts_1 s.vm h0 T203.vm T212.heap := C203.trans (CHr.keep Kq212 (sfS sf204 (sfS sf205 sf0)) Cr203.1)
 have hk212 := Nat.le_trans hk203 Kq212.1
 refine Go.tr st212 ?_
 show Go p.tables e below Kx _ (mkF m 19 _ [(.ref b145)])
 refine s_aloadN (pc' := 20) X212.here hx (hb hby d_prog_15_m5_19) rfl rfl rfl ?_
 have f215 : Fld Z T212.heap xd "com/example/turnlock/turnlock/session/DigestCredentials" "password" "Ljava/lang/String;" (.ref yp) := (((((F2.ext E145).keep Kq161 (ninS (Nat.ne_of_lt (Nat.lt_of_lt_of_le Exd.lt (Nat.le_of_eq g145.symm))) nin0)).keep Kq200 (ninS (Nat.ne_of_lt (Nat.lt_of_lt_of_le Exd.lt (Nat.le_of_eq g145.symm))) (ninS (Nat.ne_of_lt (Nat.lt_of_lt_of_le (Nat.lt_of_lt_of_le Exd.lt E145.1) le161)) nin0))).ext E203).keep Kq212 (ninS (Nat.ne_of_lt (Nat.lt_of_lt_of_le Exd.lt (Nat.le_of_eq g145.symm))) (ninS (Nat.ne_of_lt (Nat.lt_of_lt_of_le (Nat.lt_of_lt_of_le Exd.lt E145.1) le161)) nin0)))
 obtain ⟨T216, X216, e216, st216⟩ := getF X212 hx hZ203 hown203 (host := "") (Or.inl (hv hw 104 rfl)) Via.refl rfl f215 (g := (mkF m 20 #[vr xd] [(.ref xd), (.ref b145)])) rfl rfl (hb hby d_prog_15_m5_20)
 refine Go.st st216 ?_
 show Go p.tables e below Kx _ (mkF m 23 _ [(.ref yp), (.ref b145)])
 have f217 : Exa Z T212.heap yp "java/lang/String" := (((((sEyp.ext E145).keep Kq161).keep Kq200).ext E203).keep Kq212)
 have f218 : Fld Z T212.heap yp "java/lang/String" "coder" "B" (.int 0) := (((((sCyp.ext E145).keep Kq161 (ninS (Nat.ne_of_lt (Nat.lt_of_lt_of_le sEyp.lt (Nat.le_of_eq g145.symm))) nin0)).keep Kq200 (ninS (Nat.ne_of_lt (Nat.lt_of_lt_of_le sEyp.lt (Nat.le_of_eq g145.symm))) (ninS (Nat.ne_of_lt (Nat.lt_of_lt_of_le (Nat.lt_of_lt_of_le sEyp.lt E145.1) le161)) nin0))).ext E203).keep Kq212 (ninS (Nat.ne_of_lt (Nat.lt_of_lt_of_le sEyp.lt (Nat.le_of_eq g145.symm))) (ninS (Nat.ne_of_lt (Nat.lt_of_lt_of_le (Nat.lt_of_lt_of_le sEyp.lt E145.1) le161)) nin0)))
 have f219 : Fld Z T212.heap yp "java/lang/String" "value" "[B" (.ref sbyp) := (((((sFyp.ext E145).keep Kq161 (ninS (Nat.ne_of_lt (Nat.lt_of_lt_of_le sEyp.lt (Nat.le_of_eq g145.symm))) nin0)).keep Kq200 (ninS (Nat.ne_of_lt (Nat.lt_of_lt_of_le sEyp.lt (Nat.le_of_eq g145.symm))) (ninS (Nat.ne_of_lt (Nat.lt_of_lt_of_le (Nat.lt_of_lt_of_le sEyp.lt E145.1) le161)) nin0))).ext E203).keep Kq212 (ninS (Nat.ne_of_lt (Nat.lt_of_lt_of_le sEyp.lt (Nat.le_of_eq g145.symm))) (ninS (Nat.ne_of_lt (Nat.lt_of_lt_of_le (Nat.lt_of_lt_of_le sEyp.lt E145.1) le161)) nin0)))
 have f220 : Arv Z T212.heap sbyp skyp .byte (Int32.ofNat (i8s cp).length) ((i8s cp).map Value.int) (.int 0) := (((((sVyp.ext E145).keep Kq161 (ninS (Nat.ne_of_lt (Nat.lt_of_lt_of_le sVyp.lt (Nat.le_of_eq g145.symm))) nin0)).keep Kq200 (ninS (Nat.ne_of_lt (Nat.lt_of_lt_of_le sVyp.lt (Nat.le_of_eq g145.symm))) (ninS (Nat.ne_of_lt (Nat.lt_of_lt_of_le (Nat.lt_of_lt_of_le sVyp.lt E145.1) le161)) nin0))).ext E203).keep Kq212 (ninS (Nat.ne_of_lt (Nat.lt_of_lt_of_le sVyp.lt (Nat.le_of_eq g145.symm))) (ninS (Nat.ne_of_lt (Nat.lt_of_lt_of_le (Nat.lt_of_lt_of_le sVyp.lt E145.1) le161)) nin0)))
 obtain ⟨cq221, kq221, q221a, q221b, q221c⟩ := isOf hZ203 e216 q1_212
 obtain ⟨_, _, ⟨T221, L221, k221, n221⟩, -, X221, ⟨Lc221, hQ221, l221, y221, z221⟩, st221⟩ := X216.virtualBack hx (y := yN32) (z := yN32) hown203 (mvT hZ203 (hv hw 139 rfl)) (mvT hZ203 (hv hw 140 rfl)) (notFace_of_selects (args := #[]) (mvT hZ203 (hv hw 142 rfl))) (mvT hZ203 (hv hw 142 rfl)) (mvT hZ203 (hv hw 141 rfl)) (by decide) (backOf (W := 0) (rmGs l Z a0 hw [] b145 t161 yp sbyp _ _ ((([] : List Int32) ++ (i8s cu)) ++ [(58 : Int32)]) (i8s cp) T212.heap n0 O212 G1 S1 P1 q1_212 q2_212 q3_212 q4_212 q5_212 f217 f218 f219 f220 ge145 ge161 (Nat.ne_of_lt (Nat.lt_of_lt_of_le A145.lt le161)) k3) hZ203 (hv hw 143 rfl) (hv hw 123 rfl) (by decide) (by decide)) q221a q221c (g := (mkF m 23 #[vr xd] [(.ref yp), (.ref b145)])) rfl (by rw [hml]; rfl) (Steps.refl _) (argsL := [(.ref yp)]) (rest := []) (lenOf pd_21 rfl) rfl (by exact Nat.le_of_eq rfl) (hb hby d_prog_15_m5_23) (fun _ _ => ⟨rfl, e216, (by decide : 4 + 0 ≤ _), (by decide : 28 + 0 ≤ _)⟩)
 dsimp only [Pt.U, Pt.locs, Pt.cells, Pt.slots] at X221 l221 y221 z221 st221 hQ221
 rw [l221, y221, z221] at X221
 obtain ⟨rfl, Nq221, Kq221, q1_221, q2_221, q3_221, q4_221, q5_221⟩ := hQ221
 have N221 := Fr.app N212 Nq221
 have K221 : Keep h0 T221.heap [] := K212.trans Kq221 (allS (P := fun zz => zz ∈ [] ∨ h0.size ≤ zz) (Or.inr sz145) (allS (P := fun zz => zz ∈ [] ∨ h0.size ≤ zz) (Or.inr sz161) all0))
 have O221 : Old Z n0 T221.heap := O212.keep Kq221 (allS ge145 (allS ge161 all0))
 have sf222 : Safe Z consts_1 T203.vm T221.heap b145 := (Safe.keep Kq221 (sfS sf213 (sfS sf214 sf0)) H212 sf213)
 have sf223 : Safe Z consts_1 T203.vm T221.heap t161 := (Safe.keep Kq221 (sfS sf213 (sfS sf214 sf0)) H212 sf214)
 have H221 : CHv Z consts_1 T203.vm T221.heap := H212.keep Kq221 (sfS sf213 (sfS sf214 sf0))
 have C221 : CHr Z consts_1 s.vm h0 T203.vm T221.heap := C212.trans (CHr.keep Kq221 (sfS sf213 (sfS sf214 sf0)) H212)
 have hk221 := Nat.le_trans hk212 Kq221.1
 refine Go.tr st221 ?_
 show Go p.tables e below Kx _ (mkF m 26 _ [(.ref b145)])
 obtain ⟨cq260, kq260, q260a, q260b, q260c⟩ := isOf hZ203 rfl q1_221
 obtain ⟨_, _, ⟨T260, L260, k260, n260⟩, -, X260, ⟨Lc260, hQ260, l260, y260, z260⟩, st260⟩ := X221.virtualBack hx (y := yN34) (z := yN34) hown203 (mvT hZ203 (hv hw 178 rfl)) (mvT hZ203 (hv hw 179 rfl)) (notFace_of_selects (args := #[]) (mvT hZ203 (hv hw 181 rfl))) (mvT hZ203 (hv hw 181 rfl)) (mvT hZ203 (hv hw 180 rfl)) (by decide) (backOf (W := 0) (rmGts l Z a0 hw [] b145 t161 _ (((([] : List Int32) ++ (i8s cu)) ++ [(58 : Int32)]) ++ (i8s cp)) T221.heap n0 O221 G1 S1 P1 q1_221 q2_221 q3_221 q4_221 q5_221 k4) hZ203 (hv hw 182 rfl) (hv hw 123 rfl) (by decide) (by decide)) q260a q260c (g := (mkF m 26 #[vr xd] [(.ref b145)])) rfl (by rw [hml]; rfl) (Steps.refl _) (argsL := []) (rest := []) (lenOf pd_13 rfl) rfl (by exact Nat.le_of_eq rfl) (hb hby d_prog_15_m5_26) (fun _ _ => ⟨rfl, rfl, (by decide : 4 + 2 ≤ _), (by decide : 28 + 20 ≤ _)⟩)
 dsimp only [Pt.U, Pt.locs, Pt.cells, Pt.slots] at X260 l260 y260 z260 st260 hQ260
 rw [l260, y260, z260] at X260
 obtain ⟨y260, t260, kt260, rfl, Nq260, Kq260, ly260, le260, q0_260, q1_260, q2_260, q3_260, q4_260⟩ := hQ260
 have sz260 : h0.size ≤ t260 := Nat.le_trans K221.1 le260
 have ge260 : n0 ≤ t260 := Nat.le_trans (O221.1 ▸ O221.2.1) le260
 have sn260 : Safe Z consts_1 T203.vm T221.heap t260 := Safe.new le260
 have sz260y : h0.size ≤ y260 := Nat.le_trans K221.1 ly260
 have ge260y : n0 ≤ y260 := Nat.le_trans (O221.1 ▸ O221.2.1) ly260
 have sn260y : Safe Z consts_1 T203.vm T221.heap y260 := Safe.new ly260
 have N260 := Fr.app N221 Nq260
 have K260 : Keep h0 T260.heap [] := K221.trans Kq260 all0
 have O260 : Old Z n0 T260.heap := O221.keep Kq260 all0
 have sf261 : Safe Z consts_1 T203.vm T260.heap b145 := (Safe.keep Kq260 sf0 H221 sf222)
 have sf262 : Safe Z consts_1 T203.vm T260.heap t161 := (Safe.keep Kq260 sf0 H221 sf223)
 have sf263 : Safe Z consts_1 T203.vm T260.heap t260 := (Safe.keep Kq260 sf0 H221 sn260)
 have sf264 : Safe Z consts_1 T203.vm T260.heap y260 := (Safe.keep Kq260 sf0 H221 sn260y)
 have H260 : CHv Z consts_1 T203.vm T260.heap := H221.keep Kq260 sf0
 have C260 : CHr Z consts_1 s.vm h0 T203.vm T260.heap := C221.trans (CHr.keep Kq260 sf0 H221)
 have hk260 := Nat.le_trans hk221 Kq260.1
 refine Go.tr st260 ?_
 show Go p.tables e below Kx _ (mkF m 29 _ [(.ref y260)])
 obtain ⟨T265, X265, e265, st265⟩ := getS2 X260 hx hZ203 hown203 (host := "") (Or.inl (hv hw 220 rfl)) Via.refl rfl (SC.ext O260.2) (g := (mkF m 29 #[vr xd] [(.ref y260)])) rfl (hb hby d_prog_15_m5_29)
 refine Go.st st265 ?_
 show Go p.tables e below Kx _ (mkF m 32 _ [(.ref u8), (.ref y260)])
 obtain ⟨cq303, kq303, q303a, q303b, q303c⟩ := isOf hZ203 e265 q1_260
 obtain ⟨_, _, ⟨T303, L303, k303, n303⟩, -, X303, ⟨Lc303, hQ303, l303, y303, z303⟩, st303⟩ := X265.virtualBack hx (y := yN24) (z := yN24) hown203 (mvT hZ203 (hv hw 222 rfl)) (mvT hZ203 (hv hw 223 rfl)) (notFace_of_selects (args := #[]) (mvT hZ203 (hv hw 225 rfl))) (mvT hZ203 (hv hw 225 rfl)) (mvT hZ203 (hv hw 224 rfl)) (by decide) (backOf (W := 0) (rmGgU l Z a0 hw [] y260 t260 u8 _ (((([] : List Int32) ++ (i8s cu)) ++ [(58 : Int32)]) ++ (i8s cp)) T260.heap n0 O260 G1 S1 P1 SU q1_260 q2_260 q3_260 q4_260 q0_260 k4 k5 k6) hZ203 (hv hw 226 rfl) (hv hw 7 rfl) (by decide) (by decide)) q303a q303c (g := (mkF m 32 #[vr xd] [(.ref u8), (.ref y260)])) rfl (by rw [hml]; rfl) (Steps.refl _) (argsL := [(.ref u8)]) (rest := []) (lenOf pd_33 rfl) rfl (by exact Nat.le_of_eq rfl) (hb hby d_prog_15_m5_32) (fun _ _ => ⟨rfl, e265, (by decide : 6 + 2 ≤ _), (by decide : 48 + 60 ≤ _)⟩)
 dsimp only [Pt.U, Pt.locs, Pt.cells, Pt.slots] at X303 l303 y303 z303 st303 hQ303
 rw [l303, y303, z303] at X303
 obtain ⟨t303, kt303, rfl, Nq303, Kq303, le303, q1_303⟩ := hQ303
 have sz303 : h0.size ≤ t303 := Nat.le_trans K260.1 le303
 have ge303 : n0 ≤ t303 := Nat.le_trans (O260.1 ▸ O260.2.1) le303
 have sn303 : Safe Z consts_1 T203.vm T260.heap t303 := Safe.new le303
 have N303 := Fr.app N260 Nq303
 have K303 : Keep h0 T303.heap [] := K260.trans Kq303 all0
 have O303 : Old Z n0 T303.heap := O260.keep Kq303 all0
 have sf304 : Safe Z consts_1 T203.vm T303.heap b145 := (Safe.keep Kq303 sf0 H260 sf261)
 have sf305 : Safe Z consts_1 T203.vm T303.heap t161 := (Safe.keep Kq303 sf0 H260 sf262)
 have sf306 : Safe Z consts_1 T203.vm T303.heap t260 := (Safe.keep Kq303 sf0 H260 sf263)
 have sf307 : Safe Z consts_1 T203.vm T303.heap y260 := (Safe.keep Kq303 sf0 H260 sf264)
 have sf308 : Safe Z consts_1 T203.vm T303.heap t303 := (Safe.keep Kq303 sf0 H260 sn303)
 have H303 : CHv Z consts_1 T203.vm T303.heap := H260.keep Kq303 sf0
 have C303 : CHr Z consts_1 s.vm h0 T203.vm T303.heap := C260.trans (CHr.keep Kq303 sf0 H260)
 have hk303 := Nat.le_trans hk260 Kq303.1
 refine Go.tr st303 ?_
 show Go p.tables e below Kx _ (mkF m 35 _ [(.ref t303)])
 obtain ⟨fs, hr, hrun, hended, hRW⟩ := X303.leaveW hS203 hk303 (v := (some (.ref t303))) (fun h => by rw [Bd.returns] at h; cases h)
 have hCx := C303.trans (CHv.at X303 hZ203 hEL H303)
 refine Go.fin (retOut X303 hx Bd.returns rfl (Or.inr (Or.inr (Or.inr (Or.inr ⟨rfl, rfl, rfl⟩)))) (hb hby d_prog_15_m5_35) hr) (hF _ _ hrun hended ⟨_, _, rfl, ?_, ?_, hRW.1, hRW.2.1, hRW.2.2.1, hRW.2.2.2.mono (by decide) (by decide)⟩)
 ·
  show QDa Z xd yu yp u8 bu bp cu cp h0 n0 ((some (.ref t303)) : Option Value) T303.heap _
  skip
  exact ⟨_, _, rfl, N303, K303, sz303, q1_303⟩
 ·
  show CHr Z consts_1 s.vm s.heap T303.vm T303.heap
  rw [hh]; exact hCx
theorem d_m5_0 : decode method_5_code 0 = .ok (.iload_n 3, 1) := by decide +kernel
theorem d_m5_1 : decode method_5_code 1 = .ok (.iload_n 2, 1) := by decide +kernel
theorem d_m5_2 : decode method_5_code 2 = .ok (.if_icmp .ge 12, 3) := by decide +kernel
theorem d_m5_5 : decode method_5_code 5 = .ok (.aload_n 0, 1) := by decide +kernel
theorem d_m5_6 : decode method_5_code 6 = .ok (.iload_n 3, 1) := by decide +kernel
theorem d_m5_7 : decode method_5_code 7 = .ok (.baload, 1) := by decide +kernel
theorem d_m5_8 : decode method_5_code 8 = .ok (.aload_n 1, 1) := by decide +kernel
theorem d_m5_9 : decode method_5_code 9 = .ok (.iload_n 3, 1) := by decide +kernel
theorem d_m5_10 : decode method_5_code 10 = .ok (.baload, 1) := by decide +kernel
theorem d_m5_11 : decode method_5_code 11 = .ok (.if_icmp .ne 7, 3) := by decide +kernel
theorem d_m5_14 : decode method_5_code 14 = .ok (.iconst 1, 1) := by decide +kernel
theorem d_m5_15 : decode method_5_code 15 = .ok (.goto 4, 3) := by decide +kernel
theorem d_m5_19 : decode method_5_code 19 = .ok (.ireturn, 1) := by decide +kernel
def QDs (Z : State) (xg xe : Addr) (kg ke : ClassId) (X : List Int32) (ii : Int32) (h0 : Heap) (n0 : Nat) (v : Option Value) (h : Heap) (L : List Loc) : Prop := v = some (.int 1) ∧ Fr n0 L ∧ h = h0
set_option maxRecDepth 65536 in
set_option maxHeartbeats 40000000 in
theorem rmDs (l : Launch) (Z : State) (a0 : Array Value) (hw : ∀ d ∈ tables_1, d.before a0 Z = true) (ws : List Jvm.Cond) (xg xe : Addr) (kg ke : ClassId) (X : List Int32) (ii : Int32) (h0 : Heap) (n0 : Nat) (X00 : Old Z n0 h0) (Axg : Arv Z h0 xg kg .byte (Int32.ofNat X.length) (X.map Value.int) (.int 0)) (Axe : Arv Z h0 xe ke .byte 9 (pad 9 X) (.int 0)) (hX : X.length ≤ 9) (hii : ¬ ii < 0) :
  MetFree l yN5 (head1 (Jvm.Cond.code yN5 method_5_code 4 (some .boolean) :: ws) ({ frames := 0, cells := 0, slots := 0, locals := 0 } : Room)) (fun aa U => aa = #[(.ref xg), (.ref xe), (.int (Int32.ofNat X.length)), (.int ii)] ∧ Z.Warmed39 U.vm ∧ U.heap = h0) (fun _ _ _ _ _ => True) (fun _ U o U' => ∃ v L, o = .returned v ∧ QDs Z xg xe kg ke X ii h0 n0 v U'.heap L ∧ FrameEnd U o U' L ({ frames := 0, cells := 0, slots := 0, locals := 0 } : Room).cells ({ frames := 0, cells := 0, slots := 0, locals := 0 } : Room).slots) := by
 refine MetFree.of_bodySF (plainFor_of_name pn_0) hisR ?_
 intro p e s m args below meth c s₁ Bd hml0 hP hK
 obtain ⟨rfl, hZ, hh⟩ := hP
 have hx := Bd.exec
 have hby := Bd.bytes
 have hml : c.maxLocals = 4 := hml0
 have hown : s.vm.findClass "com/example/turnlock/turnlock/session/DigestCredentialsOfPinLaw" = some m.cls := findClass_of_methodNamed Bd.named
 have hnm := (name_of_methodNamed Bd.named Bd.method).1
 have X0 : Stand p l e ({ frames := 0, cells := 0, slots := 0, locals := 0 } : Room) s m #[(.ref xg), (.ref xe), (.int (Int32.ofNat X.length)), (.int ii)] below meth c s₁ [] 0 0 := Stand.of_body Bd
 have e0 : s₁.heap = h0 := by rw [← hh, Bd.state]; rfl
 have N0 := Fr.nil n0
 have K0 := Keep.refl h0 []
 have ef : entryFrame m #[(.ref xg), (.ref xe), (.int (Int32.ofNat X.length)), (.int ii)] 4 = mkF m 0 #[vr xg, vr xe, .val (.int (Int32.ofNat X.length)), vi ii] [] := (by first | (simp [entryFrame, mkF, argsToLocals, Value.category]; done) | rfl : entryFrame m #[(.ref xg), (.ref xe), (.int (Int32.ofNat X.length)), (.int ii)] 4 = mkF m 0 #[vr xg, vr xe, .val (.int (Int32.ofNat X.length)), vi ii] [])
 rw [ef]
 refine fin_of fun Kx hF => ?_
 show Go p.tables e below Kx _ (mkF m 0 _ [])
 refine s_iloadN (pc' := 1) X0.here hx (hb hby d_m5_0) rfl rfl ?_
 refine s_iloadN (pc' := 2) X0.here hx (hb hby d_m5_1) rfl rfl ?_
 by_cases hc321 : ii < (Int32.ofNat X.length)
 ·
  refine s_icmpN (pc' := 5) X0.here hx (hb hby d_m5_2) rfl (tlt hc321).2.1 ?_
  refine s_aloadN (pc' := 6) X0.here hx (hb hby d_m5_5) rfl rfl rfl ?_
  refine s_iloadN (pc' := 7) X0.here hx (hb hby d_m5_6) rfl rfl ?_
  obtain ⟨cl322, Ar322, Aq322, As322, An322, Ah322, Ag322⟩ := id Axg
  have in323 := inb_of (j := ii) As322 ⟨hii, hc321⟩
  have at323 : cl322.slots[(ii).toNatClampNeg]? = some (.int (atg X ii)) := Ah322.at in323 (atg_B hii hc321 (Nat.le_trans hX (by decide)) _)
  refine Go.st (X0.baloadBytes hx (j := ii) (v := (.int (atg X ii))) (by rw [e0]; exact Ar322.1) (State.isArrayOf_alike hZ.alike Ar322.2.1) Ar322.2.2 in323 at323 (g := (mkF m 7 #[vr xg, vr xe, .val (.int (Int32.ofNat X.length)), vi ii] [(.int ii), (.ref xg)])) rfl rfl (hb hby d_m5_7)) ?_
  show Go p.tables e below Kx _ (mkF m 8 _ [(.int (atg X ii))])
  refine s_aloadN (pc' := 9) X0.here hx (hb hby d_m5_8) rfl rfl rfl ?_
  refine s_iloadN (pc' := 10) X0.here hx (hb hby d_m5_9) rfl rfl ?_
  obtain ⟨cl324, Ar324, Aq324, As324, An324, Ah324, Ag324⟩ := id Axe
  have in325 := inb_of (j := ii) As324 ⟨hii, lt_pad (n := 9) hc321 hX (by decide)⟩
  have at325 : cl324.slots[(ii).toNatClampNeg]? = some (.int (atg X ii)) := Ah324.at in325 (atg_P hii hc321 (Nat.le_trans hX (by decide)) _)
  refine Go.st (X0.baloadBytes hx (j := ii) (v := (.int (atg X ii))) (by rw [e0]; exact Ar324.1) (State.isArrayOf_alike hZ.alike Ar324.2.1) Ar324.2.2 in325 at325 (g := (mkF m 10 #[vr xg, vr xe, .val (.int (Int32.ofNat X.length)), vi ii] [(.int ii), (.ref xe), (.int (atg X ii))])) rfl rfl (hb hby d_m5_10)) ?_
  show Go p.tables e below Kx _ (mkF m 11 _ [(.int (atg X ii)), (.int (atg X ii))])
  refine s_icmpN (pc' := 14) X0.here hx (hb hby d_m5_11) rfl (teq rfl).2 ?_
  refine s_iconst (pc' := 15) (v := 1) X0.here hx (hb hby d_m5_14) rfl rfl ?_
  refine s_goto (pc' := 19) X0.here hx (hb hby d_m5_15) (by decide) (by decide) ?_
  obtain ⟨fs, hr, hrun, hended, hW, hsame⟩ := X0.leave (v := (some (.int 1))) (fun h => by rw [Bd.returns] at h; cases h)
  refine Go.fin (retN X0 hx (t := .boolean) Bd.returns (by simp) (hb hby d_m5_19) hr) (hF _ _ hrun hended ⟨_, _, rfl, ?_, ⟨_, rfl⟩, hW, hsame.mono (by decide) (by decide)⟩)
  ·
   show QDs Z xg xe kg ke X ii h0 n0 ((some (.int 1)) : Option Value) s₁.heap _
   rw [e0]
   exact ⟨rfl, N0, rfl⟩
 ·
  refine s_icmpY (pc' := 14) X0.here hx (hb hby d_m5_2) (flt hc321).2.1 (by decide) (by decide) ?_
  refine s_iconst (pc' := 15) (v := 1) X0.here hx (hb hby d_m5_14) rfl rfl ?_
  refine s_goto (pc' := 19) X0.here hx (hb hby d_m5_15) (by decide) (by decide) ?_
  obtain ⟨fs, hr, hrun, hended, hW, hsame⟩ := X0.leave (v := (some (.int 1))) (fun h => by rw [Bd.returns] at h; cases h)
  refine Go.fin (retN X0 hx (t := .boolean) Bd.returns (by simp) (hb hby d_m5_19) hr) (hF _ _ hrun hended ⟨_, _, rfl, ?_, ⟨_, rfl⟩, hW, hsame.mono (by decide) (by decide)⟩)
  ·
   show QDs Z xg xe kg ke X ii h0 n0 ((some (.int 1)) : Option Value) s₁.heap _
   rw [e0]
   exact ⟨rfl, N0, rfl⟩
theorem pd_34 : parseMethodDescriptor "([B[BII)Z" = some ⟨[(.array .byte), (.array .byte), .int, .int], some .boolean⟩ := by decide +kernel
def QL (Z : State) (p0 p1 p2 p3 p4 : Int32) (u8 : Addr) (h0 : Heap) (n0 : Nat) (v : Option Value) (h : Heap) (L : List Loc) : Prop := v = some (.int 1) ∧ Fr n0 L
set_option maxRecDepth 65536 in
set_option maxHeartbeats 40000000 in
theorem rmL (l : Launch) (Z : State) (a0 : Array Value) (hw : ∀ d ∈ tables_1, d.before a0 Z = true) (ws : List Jvm.Cond) (p0 p1 p2 p3 p4 : Int32) (u8 : Addr) (h0 : Heap) (n0 : Nat) (X00 : Old Z n0 h0) (hEL : EW Z a0 consts_1) (wS : ∀ a ∈ Bundle.stringAtoms, a.before a0 Z = true) (G1 : Int32) (S1 : Sta Z Z.heap "java/lang/String" "COMPACT_STRINGS" "Z" (.int G1)) (P1 : ¬ G1 = 0) (SU : Sta Z Z.heap "sun/nio/cs/UTF_8" "INSTANCE" "Lsun/nio/cs/UTF_8;" (.ref u8)) (SC : Sta Z Z.heap "java/nio/charset/StandardCharsets" "UTF_8" "Ljava/nio/charset/Charset;" (.ref u8)) :
  MetFree l x (head1 (Jvm.Cond.code x code maxLocals ret :: ws) room_1) (fun aa U => aa = #[(.int p0), (.int p1), (.int p2), (.int p3), (.int p4)] ∧ Z.Warmed39 U.vm ∧ U.heap = h0 ∧ CHv Z consts_1 U.vm h0) (fun _ _ _ _ _ => True) (fun _ U o U' => ∃ v L, o = .returned v ∧ QL Z p0 p1 p2 p3 p4 u8 h0 n0 v U'.heap L ∧ CHr Z consts_1 U.vm U.heap U'.vm U'.heap ∧ ReturnedEndW U o U' L room_1.cells room_1.slots) := by
 refine MetFree.of_bodySF (plainFor_of_name pn_0) hisR ?_
 intro p e s m args below meth c s₁ Bd hml0 hP hK
 obtain ⟨rfl, hZ, hh, H0⟩ := hP
 have hx := Bd.exec
 have hby := Bd.bytes
 have hml : c.maxLocals = 19 := hml0
 have hown : s.vm.findClass "com/example/turnlock/turnlock/session/DigestCredentialsOfPinLaw" = some m.cls := findClass_of_methodNamed Bd.named
 have hnm := (name_of_methodNamed Bd.named Bd.method).1
 have X0 : Stand p l e room_1 (s.setVm s.vm) m #[(.int p0), (.int p1), (.int p2), (.int p3), (.int p4)] below meth c s₁ [] 0 0 := Stand.of_body Bd
 have e0 : s₁.heap = h0 := by rw [← hh, Bd.state]; rfl
 have N0 := Fr.nil n0
 have K0 := Keep.refl h0 []
 have hS0 : s.Since s.vm h0.size := (State.WarmedH.refl s).since _
 have hk0 := Nat.le_refl h0.size
 have C0 : CHr Z consts_1 s.vm h0 s.vm h0 := CHr.refl H0
 have ef : entryFrame m #[(.int p0), (.int p1), (.int p2), (.int p3), (.int p4)] maxLocals = mkF m 0 #[vi p0, vi p1, vi p2, vi p3, vi p4, un, un, un, un, un, un, un, un, un, un, un, un, un, un] [] := (by first | (simp [entryFrame, mkF, argsToLocals, Value.category, maxLocals]; done) | rfl : entryFrame m #[(.int p0), (.int p1), (.int p2), (.int p3), (.int p4)] maxLocals = mkF m 0 #[vi p0, vi p1, vi p2, vi p3, vi p4, un, un, un, un, un, un, un, un, un, un, un, un, un, un] [])
 rw [ef]
 refine fin_of fun Kx hF => ?_
 show Go p.tables e below Kx _ (mkF m 0 _ [])
 refine s_iload (pc' := 2) X0.here hx (hb hby at_0) rfl rfl ?_
 refine s_iconst (pc' := 3) (v := 1) X0.here hx (hb hby at_2) rfl rfl ?_
 refine s_iand (pc' := 4) X0.here hx (hb hby at_3) rfl rfl ?_
 by_cases hc2 : (p4 &&& 1) = (0 : Int32)
 ·
  refine s_ifY (pc' := 11) X0.here hx (hb hby at_4) ((if0 _ _).trans (teq hc2).1) (by decide) (by decide) ?_
  refine s_iconst (pc' := 12) (v := 0) X0.here hx (hb hby at_11) rfl rfl ?_
  refine s_istore (pc' := 14) (Ls' := #[vi p0, vi p1, vi p2, vi p3, vi p4, vi 0, un, un, un, un, un, un, un, un, un, un, un, un, un]) X0.here hx (hb hby at_12) rfl  rfl ?_
  refine s_iload (pc' := 16) X0.here hx (hb hby at_14) rfl rfl ?_
  refine s_iconst (pc' := 17) (v := 2) X0.here hx (hb hby at_16) rfl rfl ?_
  refine s_iand (pc' := 18) X0.here hx (hb hby at_17) rfl rfl ?_
  by_cases hc3 : (p4 &&& 2) = (0 : Int32)
  ·
   refine s_ifY (pc' := 25) X0.here hx (hb hby at_18) ((if0 _ _).trans (teq hc3).1) (by decide) (by decide) ?_
   refine s_iconst (pc' := 26) (v := 0) X0.here hx (hb hby at_25) rfl rfl ?_
   refine s_istore (pc' := 28) (Ls' := #[vi p0, vi p1, vi p2, vi p3, vi p4, vi 0, vi 0, un, un, un, un, un, un, un, un, un, un, un, un]) X0.here hx (hb hby at_26) rfl  rfl ?_
   refine s_iloadN (pc' := 29) X0.here hx (hb hby at_28) rfl rfl ?_
   obtain ⟨_, _, ⟨T4, L4, k4, n4⟩, -, X4, ⟨Lc4, hQ4, l4, y4, z4⟩, st4⟩ := Jvm.LawKit.callS X0 hx (y := yN6) hown (mvT hZ (hv hw 0 rfl)) (mvT hZ (hv hw 1 rfl)) (mvT hZ (hv hw 2 rfl)) (mvT hZ (hv hw 3 rfl)) (by decide) (backOf (W := 0) (rmU l Z a0 hw [] p0 h0 n0 X00 ) hZ (hv hw 3 rfl) (hv hw 2 rfl) (by decide) (by decide)) (g := (mkF m 29 #[vi p0, vi p1, vi p2, vi p3, vi p4, vi 0, vi 0, un, un, un, un, un, un, un, un, un, un, un, un] [(.int p0)])) rfl (by rw [hml]; rfl) (argsL := [(.int p0)]) (rest := []) (lenOf pd_0 rfl) rfl (by exact Nat.le_of_eq rfl) (hb hby at_29) (fun _ _ => ⟨rfl, e0, (by decide : 0 + 0 ≤ _), (by decide : 0 + 0 ≤ _)⟩)
   dsimp only [Pt.U, Pt.locs, Pt.cells, Pt.slots] at X4 l4 y4 z4 st4 hQ4
   rw [l4, y4, z4] at X4
   obtain ⟨⟨r4, rfl, hr4⟩, Nq4, hE4⟩ := hQ4
   have N4 := Fr.app N0 Nq4
   refine Go.st st4 ?_
   show Go p.tables e below Kx _ (mkF m 32 _ [(.int r4)])
   refine s_istore (pc' := 34) (Ls' := #[vi p0, vi p1, vi p2, vi p3, vi p4, vi 0, vi 0, vi r4, un, un, un, un, un, un, un, un, un, un, un]) X4.here hx (hb hby at_32) rfl  rfl ?_
   refine s_iloadN (pc' := 35) X4.here hx (hb hby at_34) rfl rfl ?_
   obtain ⟨_, _, ⟨T5, L5, k5, n5⟩, -, X5, ⟨Lc5, hQ5, l5, y5, z5⟩, st5⟩ := Jvm.LawKit.callS X4 hx (y := yN6) hown (mvT hZ (hv hw 0 rfl)) (mvT hZ (hv hw 1 rfl)) (mvT hZ (hv hw 2 rfl)) (mvT hZ (hv hw 3 rfl)) (by decide) (backOf (W := 0) (rmU l Z a0 hw [] p1 h0 n0 X00 ) hZ (hv hw 3 rfl) (hv hw 2 rfl) (by decide) (by decide)) (g := (mkF m 35 #[vi p0, vi p1, vi p2, vi p3, vi p4, vi 0, vi 0, vi r4, un, un, un, un, un, un, un, un, un, un, un] [(.int p1)])) rfl (by rw [hml]; rfl) (argsL := [(.int p1)]) (rest := []) (lenOf pd_0 rfl) rfl (by exact Nat.le_of_eq rfl) (hb hby at_35) (fun _ _ => ⟨rfl, hE4, (by decide : 0 + 0 ≤ _), (by decide : 0 + 0 ≤ _)⟩)
   dsimp only [Pt.U, Pt.locs, Pt.cells, Pt.slots] at X5 l5 y5 z5 st5 hQ5
   rw [l5, y5, z5] at X5
   obtain ⟨⟨r5, rfl, hr5⟩, Nq5, hE5⟩ := hQ5
   have N5 := Fr.app N4 Nq5
   refine Go.st st5 ?_
   show Go p.tables e below Kx _ (mkF m 38 _ [(.int r5)])
   refine s_istore (pc' := 40) (Ls' := #[vi p0, vi p1, vi p2, vi p3, vi p4, vi 0, vi 0, vi r4, vi r5, un, un, un, un, un, un, un, un, un, un]) X5.here hx (hb hby at_38) rfl  rfl ?_
   refine s_iloadN (pc' := 41) X5.here hx (hb hby at_40) rfl rfl ?_
   refine s_sipush (pc' := 44) (v := 255) X5.here hx (hb hby at_41) rfl rfl ?_
   refine s_iand (pc' := 45) X5.here hx (hb hby at_44) rfl rfl ?_
   have ch6 := chr_mask p2
   refine s_i2c (pc' := 46) (z := (p2 &&& 255)) X5.here hx (hb hby at_45) rfl (chr_i2c ch6) ?_
   have hcp : ¬ (p2 &&& 255) < 0 ∧ ¬ 255 < (p2 &&& 255) := chr_mask p2
   revert hcp
   generalize (p2 &&& 255) = cp
   intro hcp
   show Go p.tables e below Kx _ (mkF m 46 _ [(.int cp)])
   refine s_istore (pc' := 48) (Ls' := #[vi p0, vi p1, vi p2, vi p3, vi p4, vi 0, vi 0, vi r4, vi r5, vi cp, un, un, un, un, un, un, un, un, un]) X5.here hx (hb hby at_46) rfl  rfl ?_
   refine s_iloadN (pc' := 49) X5.here hx (hb hby at_48) rfl rfl ?_
   refine s_sipush (pc' := 52) (v := 255) X5.here hx (hb hby at_49) rfl rfl ?_
   refine s_iand (pc' := 53) X5.here hx (hb hby at_52) rfl rfl ?_
   have ch7 := chr_mask p3
   refine s_i2c (pc' := 54) (z := (p3 &&& 255)) X5.here hx (hb hby at_53) rfl (chr_i2c ch7) ?_
   have hdp : ¬ (p3 &&& 255) < 0 ∧ ¬ 255 < (p3 &&& 255) := chr_mask p3
   revert hdp
   generalize (p3 &&& 255) = dp
   intro hdp
   show Go p.tables e below Kx _ (mkF m 54 _ [(.int dp)])
   refine s_istore (pc' := 56) (Ls' := #[vi p0, vi p1, vi p2, vi p3, vi p4, vi 0, vi 0, vi r4, vi r5, vi cp, vi dp, un, un, un, un, un, un, un, un]) X5.here hx (hb hby at_54) rfl  rfl ?_
   refine s_iload (pc' := 58) X5.here hx (hb hby at_56) rfl rfl ?_
   refine s_ifY (pc' := 81) X5.here hx (hb hby at_58) ((if0 _ _).trans (teq (by decide)).1) (by decide) (by decide) ?_
   refine s_iconst (pc' := 82) (v := 1) X5.here hx (hb hby at_81) rfl rfl ?_
   obtain ⟨T8, h8, k8, X8, e8, E8, A8, st8⟩ := newP X5 hx hZ (hv hw 4 rfl) hE5 (g := (mkF m 82 #[vi p0, vi p1, vi p2, vi p3, vi p4, vi 0, vi 0, vi r4, vi r5, vi cp, vi dp, un, un, un, un, un, un, un, un] [(.int 1)])) rfl (hb hby at_82) rfl (by decide) (cap := 1) (by decide) (by decide) (by decide) (by decide)
   obtain ⟨b8, g8⟩ : ∃ z, z = h0.size := ⟨_, rfl⟩
   rw [← g8] at A8 st8
   have sz8 : h0.size ≤ b8 := Nat.le_trans K0.1 (Nat.le_of_eq g8.symm)
   have ge8 : n0 ≤ b8 := Nat.le_trans (X00.1 ▸ X00.2.1) (Nat.le_of_eq g8.symm)
   have sn8 : Safe Z consts_1 s.vm h0 b8 := Safe.new (Nat.le_of_eq g8.symm)
   have K8 : Keep h0 h8 [] := K0.ext E8
   have O8 : Old Z n0 h8 := X00.ext E8
   have sf9 : Safe Z consts_1 s.vm h8 b8 := (Safe.ext E8 H0 sn8)
   have H8 : CHv Z consts_1 s.vm h8 := H0.ext E8
   have C8 : CHr Z consts_1 s.vm h0 s.vm h8 := C0.trans (CHr.ext E8 H0)
   have hk8 := Nat.le_trans hk0 E8.1
   have V8 : Arv Z h8 b8 k8 .char 1 [(.int 0)] (.int 0) := (Arv.new A8 (by decide)).pad (pad_rep [] (.int 0) 1)
   refine Go.st st8 ?_
   show Go p.tables e below Kx _ (mkF m 84 _ [(.ref b8)])
   refine s_astore (pc' := 86) (Ls' := #[vi p0, vi p1, vi p2, vi p3, vi p4, vi 0, vi 0, vi r4, vi r5, vi cp, vi dp, vr b8, un, un, un, un, un, un, un]) X8.here hx (hb hby at_84) rfl rfl rfl ?_
   refine s_aload (pc' := 88) X8.here hx (hb hby at_86) rfl rfl rfl ?_
   refine s_iconst (pc' := 89) (v := 0) X8.here hx (hb hby at_88) rfl rfl ?_
   refine s_iload (pc' := 91) X8.here hx (hb hby at_89) rfl rfl ?_
   obtain ⟨cl10, Ar10, Aq10, As10, An10, Ah10, Ag10⟩ := id V8
   have in11 := inb_of (j := 0) As10 (by decide)
   obtain ⟨T11, h11, X11, e11, W11, st11⟩ := stC X8 hx hZ e8 Ar10 (j := 0) in11 (g := (mkF m 91 #[vi p0, vi p1, vi p2, vi p3, vi p4, vi 0, vi 0, vi r4, vi r5, vi cp, vi dp, vr b8, un, un, un, un, un, un, un] [(.int r4), (.int 0), (.ref b8)])) rfl rfl (hb hby at_91)
   have V11 : Arv Z h11 b8 k8 .char 1 [(.int r4)] (.int 0) := by
    have q := Arv.set Ar10 Aq10 As10 An10 Ah10 Ag10 (fits_nar_char _) W11 0 rfl (Nat.le_of_ble_eq_true rfl)
    rw [chr_nar hr4.1] at q; exact q
   have K11 : Keep h0 h11 [] := K8.wr W11 (Or.inr sz8)
   have O11 : Old Z n0 h11 := O8.wr W11 ge8
   have sf12 : Safe Z consts_1 s.vm h11 b8 := (Safe.wr W11 sf9 H8 sf9)
   have H11 : CHv Z consts_1 s.vm h11 := H8.wr W11 sf9
   have C11 : CHr Z consts_1 s.vm h0 s.vm h11 := C8.trans (CHr.wr W11 sf9 H8)
   have hk11 := Nat.le_trans hk8 (Nat.le_of_eq W11.size.symm)
   have N11 := Fr.snoc X11 N5 ge8
   refine Go.st st11 ?_
   show Go p.tables e below Kx _ (mkF m 92 _ [])
   refine s_iload (pc' := 94) X11.here hx (hb hby at_92) rfl rfl ?_
   refine s_ifY (pc' := 117) X11.here hx (hb hby at_94) ((if0 _ _).trans (teq (by decide)).1) (by decide) (by decide) ?_
   refine s_iconst (pc' := 118) (v := 1) X11.here hx (hb hby at_117) rfl rfl ?_
   obtain ⟨T13, h13, k13, X13, e13, E13, A13, st13⟩ := newP X11 hx hZ (hv hw 4 rfl) e11 (g := (mkF m 118 #[vi p0, vi p1, vi p2, vi p3, vi p4, vi 0, vi 0, vi r4, vi r5, vi cp, vi dp, vr b8, un, un, un, un, un, un, un] [(.int 1)])) rfl (hb hby at_118) rfl (by decide) (cap := 1) (by decide) (by decide) (by decide) (by decide)
   obtain ⟨b13, g13⟩ : ∃ z, z = h11.size := ⟨_, rfl⟩
   rw [← g13] at A13 st13
   have sz13 : h0.size ≤ b13 := Nat.le_trans K11.1 (Nat.le_of_eq g13.symm)
   have ge13 : n0 ≤ b13 := Nat.le_trans (O11.1 ▸ O11.2.1) (Nat.le_of_eq g13.symm)
   have sn13 : Safe Z consts_1 s.vm h11 b13 := Safe.new (Nat.le_of_eq g13.symm)
   have K13 : Keep h0 h13 [] := K11.ext E13
   have O13 : Old Z n0 h13 := O11.ext E13
   have sf14 : Safe Z consts_1 s.vm h13 b8 := (Safe.ext E13 H11 sf12)
   have sf15 : Safe Z consts_1 s.vm h13 b13 := (Safe.ext E13 H11 sn13)
   have H13 : CHv Z consts_1 s.vm h13 := H11.ext E13
   have C13 : CHr Z consts_1 s.vm h0 s.vm h13 := C11.trans (CHr.ext E13 H11)
   have hk13 := Nat.le_trans hk11 E13.1
   have V13 : Arv Z h13 b13 k13 .char 1 [(.int 0)] (.int 0) := (Arv.new A13 (by decide)).pad (pad_rep [] (.int 0) 1)
   refine Go.st st13 ?_
   show Go p.tables e below Kx _ (mkF m 120 _ [(.ref b13)])
   refine s_astore (pc' := 122) (Ls' := #[vi p0, vi p1, vi p2, vi p3, vi p4, vi 0, vi 0, vi r4, vi r5, vi cp, vi dp, vr b8, vr b13, un, un, un, un, un, un]) X13.here hx (hb hby at_120) rfl rfl rfl ?_
   refine s_aload (pc' := 124) X13.here hx (hb hby at_122) rfl rfl rfl ?_
   refine s_iconst (pc' := 125) (v := 0) X13.here hx (hb hby at_124) rfl rfl ?_
   refine s_iload (pc' := 127) X13.here hx (hb hby at_125) rfl rfl ?_
   obtain ⟨cl16, Ar16, Aq16, As16, An16, Ah16, Ag16⟩ := id V13
   have in17 := inb_of (j := 0) As16 (by decide)
   obtain ⟨T17, h17, X17, e17, W17, st17⟩ := stC X13 hx hZ e13 Ar16 (j := 0) in17 (g := (mkF m 127 #[vi p0, vi p1, vi p2, vi p3, vi p4, vi 0, vi 0, vi r4, vi r5, vi cp, vi dp, vr b8, vr b13, un, un, un, un, un, un] [(.int cp), (.int 0), (.ref b13)])) rfl rfl (hb hby at_127)
   have V17 : Arv Z h17 b13 k13 .char 1 [(.int cp)] (.int 0) := by
    have q := Arv.set Ar16 Aq16 As16 An16 Ah16 Ag16 (fits_nar_char _) W17 0 rfl (Nat.le_of_ble_eq_true rfl)
    rw [chr_nar hcp] at q; exact q
   have K17 : Keep h0 h17 [] := K13.wr W17 (Or.inr sz13)
   have O17 : Old Z n0 h17 := O13.wr W17 ge13
   have sf18 : Safe Z consts_1 s.vm h17 b8 := (Safe.wr W17 sf15 H13 sf14)
   have sf19 : Safe Z consts_1 s.vm h17 b13 := (Safe.wr W17 sf15 H13 sf15)
   have H17 : CHv Z consts_1 s.vm h17 := H13.wr W17 sf15
   have C17 : CHr Z consts_1 s.vm h0 s.vm h17 := C13.trans (CHr.wr W17 sf15 H13)
   have hk17 := Nat.le_trans hk13 (Nat.le_of_eq W17.size.symm)
   have N17 := Fr.snoc X17 N11 ge13
   refine Go.st st17 ?_
   show Go p.tables e below Kx _ (mkF m 128 _ [])
   obtain ⟨T20, h20, X20, e20, E20, A20, D20, -, st20⟩ := newO X17 hx hZ hown (hv hw 5 rfl) (hv hw 6 rfl) (hv hw 7 rfl) e17 (g := (mkF m 128 #[vi p0, vi p1, vi p2, vi p3, vi p4, vi 0, vi 0, vi r4, vi r5, vi cp, vi dp, vr b8, vr b13, un, un, un, un, un, un] [])) rfl (hb hby at_128) (by decide) (by decide)
   obtain ⟨b20, g20⟩ : ∃ z, z = h17.size := ⟨_, rfl⟩
   rw [← g20] at A20 D20 st20
   have sz20 : h0.size ≤ b20 := Nat.le_trans K17.1 (Nat.le_of_eq g20.symm)
   have ge20 : n0 ≤ b20 := Nat.le_trans (O17.1 ▸ O17.2.1) (Nat.le_of_eq g20.symm)
   have sn20 : Safe Z consts_1 s.vm h17 b20 := Safe.new (Nat.le_of_eq g20.symm)
   have K20 : Keep h0 h20 [] := K17.ext E20
   have O20 : Old Z n0 h20 := O17.ext E20
   have sf21 : Safe Z consts_1 s.vm h20 b8 := (Safe.ext E20 H17 sf18)
   have sf22 : Safe Z consts_1 s.vm h20 b13 := (Safe.ext E20 H17 sf19)
   have sf23 : Safe Z consts_1 s.vm h20 b20 := (Safe.ext E20 H17 sn20)
   have H20 : CHv Z consts_1 s.vm h20 := H17.ext E20
   have C20 : CHr Z consts_1 s.vm h0 s.vm h20 := C17.trans (CHr.ext E20 H17)
   have hk20 := Nat.le_trans hk17 E20.1
   have F20_coder : Fld Z h20 b20 "java/lang/String" "coder" "B" (.int 0) := D20 (Or.inr (hv hw 31 rfl)) (ty := .byte) (by decide)
   have F20_value : Fld Z h20 b20 "java/lang/String" "value" "[B" .null := D20 (Or.inr (hv hw 33 rfl)) (ty := (.array .byte)) (by decide)
   refine Go.st st20 ?_
   show Go p.tables e below Kx _ (mkF m 131 _ [(.ref b20)])
   refine s_dup (pc' := 132) X20.here hx (hb hby at_131) rfl rfl ?_
   refine s_aload (pc' := 134) X20.here hx (hb hby at_132) rfl rfl rfl ?_
   have hp24 : ∀ c ∈ ([r4] : List Int32), ¬ c < 0 ∧ ¬ 255 < c := by
    intro c hc
    simp only [List.mem_cons, List.not_mem_nil, or_false] at hc
    rcases hc with rfl
    ·
     exact hr4.1
   have f25 : Arv Z h20 b8 k8 .char 1 [(.int r4)] (.int 0) := (((V11.ext E13).other W17 (Nat.ne_of_lt (Nat.lt_of_lt_of_le (Nat.lt_of_lt_of_le A8.lt (Nat.le_of_eq W11.size.symm)) (Nat.le_of_eq g13.symm)))).ext E20)
   obtain ⟨_, _, ⟨T26, L26, k26, n26⟩, -, X26, ⟨Lc26, hQ26, l26, y26, z26⟩, st26⟩ := X20.specialBack hx (y := yN19) rfl hown (mvT hZ (hv hw 8 rfl)) (mvT hZ (hv hw 9 rfl)) (mvT hZ (hv hw 10 rfl)) (by decide) (StrChars.Road.backV (W := 1) hZ (hwsV Z a0 hw) (kI := 4) (hv hw 6 rfl) (cs := [r4]) (bs := ([r4] : List Int32).map (fun c => c.toInt8.toInt32)) (n := 1) ge20 (O20.1 ▸ O20.2.1) A20 F20_value F20_coder f25 (S1.ext O20.2) P1 rfl rfl (by decide) (by decide) hp24 rfl (by decide) (by decide)) (g := (mkF m 134 #[vi p0, vi p1, vi p2, vi p3, vi p4, vi 0, vi 0, vi r4, vi r5, vi cp, vi dp, vr b8, vr b13, un, un, un, un, un, un] [(.ref b8), (.ref b20), (.ref b20)])) rfl (by rw [hml]; rfl) (Steps.refl _) (a := b20) (argsL := [(.ref b8)]) (rest := [(.ref b20)]) (lenOf pd_1 rfl) rfl (by exact Nat.le_of_eq rfl) (hb hby at_134) (fun _ _ => ⟨rfl, e20, (by decide : 3 + 1 ≤ _), (by decide : 6 + 1 ≤ _)⟩)
   dsimp only [Pt.U, Pt.locs, Pt.cells, Pt.slots] at X26 l26 y26 z26 st26 hQ26
   rw [l26, y26, z26] at X26
   obtain ⟨rfl, Nq26, Kq26, q1_26, q2_26, t26, kt26, -, -, -, q3_26, q4_26⟩ := hQ26
   have N26 := Fr.app N17 Nq26
   have K26 : Keep h0 T26.heap [] := K20.trans Kq26 (allS (P := fun zz => zz ∈ [] ∨ h0.size ≤ zz) (Or.inr sz20) all0)
   have O26 : Old Z n0 T26.heap := O20.keep Kq26 (allS ge20 all0)
   have sf27 : Safe Z consts_1 s.vm T26.heap b8 := (Safe.keep Kq26 (sfS sf23 sf0) H20 sf21)
   have sf28 : Safe Z consts_1 s.vm T26.heap b13 := (Safe.keep Kq26 (sfS sf23 sf0) H20 sf22)
   have sf29 : Safe Z consts_1 s.vm T26.heap b20 := (Safe.keep Kq26 (sfS sf23 sf0) H20 sf23)
   have H26 : CHv Z consts_1 s.vm T26.heap := H20.keep Kq26 (sfS sf23 sf0)
   have C26 : CHr Z consts_1 s.vm h0 s.vm T26.heap := C20.trans (CHr.keep Kq26 (sfS sf23 sf0) H20)
   have hk26 := Nat.le_trans hk20 Kq26.1
   refine Go.tr st26 ?_
   show Go p.tables e below Kx _ (mkF m 137 _ [(.ref b20)])
   have St26 : Str Z T26.heap T26.heap.size b20 [r4] := Str.of q1_26 q2_26 q3_26 q4_26 rfl rfl hp24 (Nat.le_of_ble_eq_true rfl)
   refine s_astore (pc' := 139) (Ls' := #[vi p0, vi p1, vi p2, vi p3, vi p4, vi 0, vi 0, vi r4, vi r5, vi cp, vi dp, vr b8, vr b13, vr b20, un, un, un, un, un]) X26.here hx (hb hby at_137) rfl rfl rfl ?_
   obtain ⟨T30, h30, X30, e30, E30, A30, D30, -, st30⟩ := newO X26 hx hZ hown (hv hw 5 rfl) (hv hw 6 rfl) (hv hw 7 rfl) rfl (g := (mkF m 139 #[vi p0, vi p1, vi p2, vi p3, vi p4, vi 0, vi 0, vi r4, vi r5, vi cp, vi dp, vr b8, vr b13, vr b20, un, un, un, un, un] [])) rfl (hb hby at_139) (by decide) (by decide)
   obtain ⟨b30, g30⟩ : ∃ z, z = T26.heap.size := ⟨_, rfl⟩
   rw [← g30] at A30 D30 st30
   have sz30 : h0.size ≤ b30 := Nat.le_trans K26.1 (Nat.le_of_eq g30.symm)
   have ge30 : n0 ≤ b30 := Nat.le_trans (O26.1 ▸ O26.2.1) (Nat.le_of_eq g30.symm)
   have sn30 : Safe Z consts_1 s.vm T26.heap b30 := Safe.new (Nat.le_of_eq g30.symm)
   have K30 : Keep h0 h30 [] := K26.ext E30
   have O30 : Old Z n0 h30 := O26.ext E30
   have sf31 : Safe Z consts_1 s.vm h30 b8 := (Safe.ext E30 H26 sf27)
   have sf32 : Safe Z consts_1 s.vm h30 b13 := (Safe.ext E30 H26 sf28)
   have sf33 : Safe Z consts_1 s.vm h30 b20 := (Safe.ext E30 H26 sf29)
   have sf34 : Safe Z consts_1 s.vm h30 b30 := (Safe.ext E30 H26 sn30)
   have H30 : CHv Z consts_1 s.vm h30 := H26.ext E30
   have C30 : CHr Z consts_1 s.vm h0 s.vm h30 := C26.trans (CHr.ext E30 H26)
   have hk30 := Nat.le_trans hk26 E30.1
   have F30_coder : Fld Z h30 b30 "java/lang/String" "coder" "B" (.int 0) := D30 (Or.inr (hv hw 31 rfl)) (ty := .byte) (by decide)
   have F30_value : Fld Z h30 b30 "java/lang/String" "value" "[B" .null := D30 (Or.inr (hv hw 33 rfl)) (ty := (.array .byte)) (by decide)
   refine Go.st st30 ?_
   show Go p.tables e below Kx _ (mkF m 142 _ [(.ref b30)])
   refine s_dup (pc' := 143) X30.here hx (hb hby at_142) rfl rfl ?_
   refine s_aload (pc' := 145) X30.here hx (hb hby at_143) rfl rfl rfl ?_
   have hp35 : ∀ c ∈ ([cp] : List Int32), ¬ c < 0 ∧ ¬ 255 < c := by
    intro c hc
    simp only [List.mem_cons, List.not_mem_nil, or_false] at hc
    rcases hc with rfl
    ·
     exact hcp
   have f36 : Arv Z h30 b13 k13 .char 1 [(.int cp)] (.int 0) := (((V17.ext E20).keep Kq26 (ninS (Nat.ne_of_lt (Nat.lt_of_lt_of_le (Nat.lt_of_lt_of_le A13.lt (Nat.le_of_eq W17.size.symm)) (Nat.le_of_eq g20.symm))) nin0)).ext E30)
   obtain ⟨_, _, ⟨T37, L37, k37, n37⟩, -, X37, ⟨Lc37, hQ37, l37, y37, z37⟩, st37⟩ := X30.specialBack hx (y := yN19) rfl hown (mvT hZ (hv hw 8 rfl)) (mvT hZ (hv hw 9 rfl)) (mvT hZ (hv hw 10 rfl)) (by decide) (StrChars.Road.backV (W := 1) hZ (hwsV Z a0 hw) (kI := 4) (hv hw 6 rfl) (cs := [cp]) (bs := ([cp] : List Int32).map (fun c => c.toInt8.toInt32)) (n := 1) ge30 (O30.1 ▸ O30.2.1) A30 F30_value F30_coder f36 (S1.ext O30.2) P1 rfl rfl (by decide) (by decide) hp35 rfl (by decide) (by decide)) (g := (mkF m 145 #[vi p0, vi p1, vi p2, vi p3, vi p4, vi 0, vi 0, vi r4, vi r5, vi cp, vi dp, vr b8, vr b13, vr b20, un, un, un, un, un] [(.ref b13), (.ref b30), (.ref b30)])) rfl (by rw [hml]; rfl) (Steps.refl _) (a := b30) (argsL := [(.ref b13)]) (rest := [(.ref b30)]) (lenOf pd_1 rfl) rfl (by exact Nat.le_of_eq rfl) (hb hby at_145) (fun _ _ => ⟨rfl, e30, (by decide : 5 + 1 ≤ _), (by decide : 11 + 1 ≤ _)⟩)
   dsimp only [Pt.U, Pt.locs, Pt.cells, Pt.slots] at X37 l37 y37 z37 st37 hQ37
   rw [l37, y37, z37] at X37
   obtain ⟨rfl, Nq37, Kq37, q1_37, q2_37, t37, kt37, -, -, -, q3_37, q4_37⟩ := hQ37
   have N37 := Fr.app N26 Nq37
   have K37 : Keep h0 T37.heap [] := K30.trans Kq37 (allS (P := fun zz => zz ∈ [] ∨ h0.size ≤ zz) (Or.inr sz30) all0)
   have O37 : Old Z n0 T37.heap := O30.keep Kq37 (allS ge30 all0)
   have sf38 : Safe Z consts_1 s.vm T37.heap b8 := (Safe.keep Kq37 (sfS sf34 sf0) H30 sf31)
   have sf39 : Safe Z consts_1 s.vm T37.heap b13 := (Safe.keep Kq37 (sfS sf34 sf0) H30 sf32)
   have sf40 : Safe Z consts_1 s.vm T37.heap b20 := (Safe.keep Kq37 (sfS sf34 sf0) H30 sf33)
   have sf41 : Safe Z consts_1 s.vm T37.heap b30 := (Safe.keep Kq37 (sfS sf34 sf0) H30 sf34)
   have H37 : CHv Z consts_1 s.vm T37.heap := H30.keep Kq37 (sfS sf34 sf0)
   have C37 : CHr Z consts_1 s.vm h0 s.vm T37.heap := C30.trans (CHr.keep Kq37 (sfS sf34 sf0) H30)
   have hk37 := Nat.le_trans hk30 Kq37.1
   refine Go.tr st37 ?_
   show Go p.tables e below Kx _ (mkF m 148 _ [(.ref b30)])
   have St37 : Str Z T37.heap T37.heap.size b30 [cp] := Str.of q1_37 q2_37 q3_37 q4_37 rfl rfl hp35 (Nat.le_of_ble_eq_true rfl)
   refine s_astore (pc' := 150) (Ls' := #[vi p0, vi p1, vi p2, vi p3, vi p4, vi 0, vi 0, vi r4, vi r5, vi cp, vi dp, vr b8, vr b13, vr b20, vr b30, un, un, un, un]) X37.here hx (hb hby at_148) rfl rfl rfl ?_
   refine s_bipush (pc' := 152) (v := 9) X37.here hx (hb hby at_150) rfl rfl ?_
   obtain ⟨T42, h42, k42, X42, e42, E42, A42, B42, st42⟩ := newPE X37 hx hZ (hv hw 23 rfl) rfl (g := (mkF m 152 #[vi p0, vi p1, vi p2, vi p3, vi p4, vi 0, vi 0, vi r4, vi r5, vi cp, vi dp, vr b8, vr b13, vr b20, vr b30, un, un, un, un] [(.int 9)])) rfl (hb hby at_152) rfl (by decide) (cap := 9) (by decide) (by decide) (by decide) (by decide) (ad := "[B") (by decide)
   obtain ⟨b42, g42⟩ : ∃ z, z = T37.heap.size := ⟨_, rfl⟩
   rw [← g42] at A42 B42 st42
   have sz42 : h0.size ≤ b42 := Nat.le_trans K37.1 (Nat.le_of_eq g42.symm)
   have ge42 : n0 ≤ b42 := Nat.le_trans (O37.1 ▸ O37.2.1) (Nat.le_of_eq g42.symm)
   have sn42 : Safe Z consts_1 s.vm T37.heap b42 := Safe.new (Nat.le_of_eq g42.symm)
   have K42 : Keep h0 h42 [] := K37.ext E42
   have O42 : Old Z n0 h42 := O37.ext E42
   have sf43 : Safe Z consts_1 s.vm h42 b8 := (Safe.ext E42 H37 sf38)
   have sf44 : Safe Z consts_1 s.vm h42 b13 := (Safe.ext E42 H37 sf39)
   have sf45 : Safe Z consts_1 s.vm h42 b20 := (Safe.ext E42 H37 sf40)
   have sf46 : Safe Z consts_1 s.vm h42 b30 := (Safe.ext E42 H37 sf41)
   have sf47 : Safe Z consts_1 s.vm h42 b42 := (Safe.ext E42 H37 sn42)
   have H42 : CHv Z consts_1 s.vm h42 := H37.ext E42
   have C42 : CHr Z consts_1 s.vm h0 s.vm h42 := C37.trans (CHr.ext E42 H37)
   have hk42 := Nat.le_trans hk37 E42.1
   have V42 : Arv Z h42 b42 k42 .byte 9 [(.int 0), (.int 0), (.int 0), (.int 0), (.int 0), (.int 0), (.int 0), (.int 0), (.int 0)] (.int 0) := (Arv.new A42 (by decide)).pad (pad_rep [] (.int 0) 9)
   refine Go.st st42 ?_
   show Go p.tables e below Kx _ (mkF m 154 _ [(.ref b42)])
   have V48 : Arv Z h42 b42 k42 .byte 9 (pad 9 ([] : List Int32)) (.int 0) := V42
   refine s_astore (pc' := 156) (Ls' := #[vi p0, vi p1, vi p2, vi p3, vi p4, vi 0, vi 0, vi r4, vi r5, vi cp, vi dp, vr b8, vr b13, vr b20, vr b30, vr b42, un, un, un]) X42.here hx (hb hby at_154) rfl rfl rfl ?_
   refine s_aload (pc' := 158) X42.here hx (hb hby at_156) rfl rfl rfl ?_
   refine s_iconst (pc' := 159) (v := 0) X42.here hx (hb hby at_158) rfl rfl ?_
   refine s_iload (pc' := 161) X42.here hx (hb hby at_159) rfl rfl ?_
   obtain ⟨_, _, ⟨T56, L56, k56, n56⟩, -, X56, ⟨Lc56, hQ56, l56, y56, z56⟩, st56⟩ := Jvm.LawKit.callS X42 hx (y := yN4) hown (mvT hZ (hv hw 34 rfl)) (mvT hZ (hv hw 35 rfl)) (mvT hZ (hv hw 2 rfl)) (mvT hZ (hv hw 36 rfl)) (by decide) (backOf (W := 0) (rmDp l Z a0 hw [] b42 k42 ([] : List Int32) r4 h42 n0 O42 ge42 V48 hr4.1 (by decide)) hZ (hv hw 36 rfl) (hv hw 2 rfl) (by decide) (by decide)) (g := (mkF m 161 #[vi p0, vi p1, vi p2, vi p3, vi p4, vi 0, vi 0, vi r4, vi r5, vi cp, vi dp, vr b8, vr b13, vr b20, vr b30, vr b42, un, un, un] [(.int r4), (.int 0), (.ref b42)])) rfl (by rw [hml]; rfl) (argsL := [(.ref b42), (.int 0), (.int r4)]) (rest := []) (lenOf pd_2 rfl) rfl (by exact Nat.le_of_eq rfl) (hb hby at_161) (fun _ _ => ⟨rfl, e42, (by decide : 7 + 0 ≤ _), (by decide : 21 + 0 ≤ _)⟩)
   dsimp only [Pt.U, Pt.locs, Pt.cells, Pt.slots] at X56 l56 y56 z56 st56 hQ56
   rw [l56, y56, z56] at X56
   obtain ⟨rfl, Nq56, Kq56, q1_56⟩ := hQ56
   have N56 := Fr.app N37 Nq56
   have K56 : Keep h0 T56.heap [] := K42.trans Kq56 (allS (P := fun zz => zz ∈ [] ∨ h0.size ≤ zz) (Or.inr sz42) all0)
   have O56 : Old Z n0 T56.heap := O42.keep Kq56 (allS ge42 all0)
   have sf57 : Safe Z consts_1 s.vm T56.heap b8 := (Safe.keep Kq56 (sfS sf47 sf0) H42 sf43)
   have sf58 : Safe Z consts_1 s.vm T56.heap b13 := (Safe.keep Kq56 (sfS sf47 sf0) H42 sf44)
   have sf59 : Safe Z consts_1 s.vm T56.heap b20 := (Safe.keep Kq56 (sfS sf47 sf0) H42 sf45)
   have sf60 : Safe Z consts_1 s.vm T56.heap b30 := (Safe.keep Kq56 (sfS sf47 sf0) H42 sf46)
   have sf61 : Safe Z consts_1 s.vm T56.heap b42 := (Safe.keep Kq56 (sfS sf47 sf0) H42 sf47)
   have H56 : CHv Z consts_1 s.vm T56.heap := H42.keep Kq56 (sfS sf47 sf0)
   have C56 : CHr Z consts_1 s.vm h0 s.vm T56.heap := C42.trans (CHr.keep Kq56 (sfS sf47 sf0) H42)
   have hk56 := Nat.le_trans hk42 Kq56.1
   refine Go.st st56 ?_
   show Go p.tables e below Kx _ (mkF m 164 _ [(.int (Int32.ofNat (([] : List Int32) ++ encB (r4.toInt8.toInt32)).length))])
   have hp62 : (([] : List Int32) ++ encB (r4.toInt8.toInt32)).length ≤ 2 := by
    have q0 := encB_len (r4.toInt8.toInt32)
    simp only [List.length_append, List.length_nil, List.length_cons]; omega
   refine s_istore (pc' := 166) (Ls' := #[vi p0, vi p1, vi p2, vi p3, vi p4, vi 0, vi 0, vi r4, vi r5, vi cp, vi dp, vr b8, vr b13, vr b20, vr b30, vr b42, .val (.int (Int32.ofNat (([] : List Int32) ++ encB (r4.toInt8.toInt32)).length)), un, un]) X56.here hx (hb hby at_164) rfl  rfl ?_
   refine s_iload (pc' := 168) X56.here hx (hb hby at_166) rfl rfl ?_
   refine s_ifY (pc' := 182) X56.here hx (hb hby at_168) ((if0 _ _).trans (teq (by decide)).1) (by decide) (by decide) ?_
   refine s_aload (pc' := 184) X56.here hx (hb hby at_182) rfl rfl rfl ?_
   refine s_iload (pc' := 186) X56.here hx (hb hby at_184) rfl rfl ?_
   refine s_bipush (pc' := 188) (v := 58) X56.here hx (hb hby at_186) rfl rfl ?_
   obtain ⟨cl63, Ar63, Aq63, As63, An63, Ah63, Ag63⟩ := id q1_56
   have rm64 : (([] : List Int32) ++ encB (r4.toInt8.toInt32)).length < 9 := (Nat.lt_of_le_of_lt hp62 (by decide))
   have in64 := inb_of (j := (Int32.ofNat (([] : List Int32) ++ encB (r4.toInt8.toInt32)).length)) As63 (inpad (n := 9) rm64 (by decide : 9 ≤ 4000))
   obtain ⟨T64, h64, X64, e64, W64, st64⟩ := stB X56 hx hZ rfl Ar63 (j := (Int32.ofNat (([] : List Int32) ++ encB (r4.toInt8.toInt32)).length)) in64 (g := (mkF m 188 #[vi p0, vi p1, vi p2, vi p3, vi p4, vi 0, vi 0, vi r4, vi r5, vi cp, vi dp, vr b8, vr b13, vr b20, vr b30, vr b42, .val (.int (Int32.ofNat (([] : List Int32) ++ encB (r4.toInt8.toInt32)).length)), un, un] [(.int 58), (.int (Int32.ofNat (([] : List Int32) ++ encB (r4.toInt8.toInt32)).length)), (.ref b42)])) rfl rfl (hb hby at_188)
   have V64 : Arv Z h64 b42 k42 .byte 9 (pad 9 ((([] : List Int32) ++ encB (r4.toInt8.toInt32)) ++ [(58 : Int32)])) (.int 0) := by
    have q := Arv.set Ar63 Aq63 As63 An63 Ah63 Ag63 (fits_nar_byte _) W64 (([] : List Int32) ++ encB (r4.toInt8.toInt32)).length (nl (Nat.le_trans (Nat.le_of_lt rm64) (by decide : 9 ≤ 4000))) (by rw [pad_len (Nat.le_of_lt rm64)]; exact rm64)
    rw [show ((58 : Int32)).toInt8.toInt32 = 58 from by decide, pad_set rm64] at q; exact q
   have K64 : Keep h0 h64 [] := K56.wr W64 (Or.inr sz42)
   have O64 : Old Z n0 h64 := O56.wr W64 ge42
   have sf65 : Safe Z consts_1 s.vm h64 b8 := (Safe.wr W64 sf61 H56 sf57)
   have sf66 : Safe Z consts_1 s.vm h64 b13 := (Safe.wr W64 sf61 H56 sf58)
   have sf67 : Safe Z consts_1 s.vm h64 b20 := (Safe.wr W64 sf61 H56 sf59)
   have sf68 : Safe Z consts_1 s.vm h64 b30 := (Safe.wr W64 sf61 H56 sf60)
   have sf69 : Safe Z consts_1 s.vm h64 b42 := (Safe.wr W64 sf61 H56 sf61)
   have H64 : CHv Z consts_1 s.vm h64 := H56.wr W64 sf61
   have C64 : CHr Z consts_1 s.vm h0 s.vm h64 := C56.trans (CHr.wr W64 sf61 H56)
   have hk64 := Nat.le_trans hk56 (Nat.le_of_eq W64.size.symm)
   have N64 := Fr.snoc X64 N56 ge42
   refine Go.st st64 ?_
   show Go p.tables e below Kx _ (mkF m 189 _ [])
   refine s_iload (pc' := 191) X64.here hx (hb hby at_189) rfl rfl ?_
   refine s_iconst (pc' := 192) (v := 1) X64.here hx (hb hby at_191) rfl rfl ?_
   refine s_iadd (pc' := 193) (z := (Int32.ofNat ((([] : List Int32) ++ encB (r4.toInt8.toInt32)) ++ [(58 : Int32)]).length)) X64.here hx (hb hby at_192) rfl (lsucc _ _) ?_
   refine s_istore (pc' := 195) (Ls' := #[vi p0, vi p1, vi p2, vi p3, vi p4, vi 0, vi 0, vi r4, vi r5, vi cp, vi dp, vr b8, vr b13, vr b20, vr b30, vr b42, .val (.int (Int32.ofNat ((([] : List Int32) ++ encB (r4.toInt8.toInt32)) ++ [(58 : Int32)]).length)), un, un]) X64.here hx (hb hby at_193) rfl  rfl ?_
   refine s_aload (pc' := 197) X64.here hx (hb hby at_195) rfl rfl rfl ?_
   refine s_iload (pc' := 199) X64.here hx (hb hby at_197) rfl rfl ?_
   refine s_iload (pc' := 201) X64.here hx (hb hby at_199) rfl rfl ?_
   obtain ⟨_, _, ⟨T70, L70, k70, n70⟩, -, X70, ⟨Lc70, hQ70, l70, y70, z70⟩, st70⟩ := Jvm.LawKit.callS X64 hx (y := yN4) hown (mvT hZ (hv hw 34 rfl)) (mvT hZ (hv hw 35 rfl)) (mvT hZ (hv hw 2 rfl)) (mvT hZ (hv hw 36 rfl)) (by decide) (backOf (W := 0) (rmDp l Z a0 hw [] b42 k42 ((([] : List Int32) ++ encB (r4.toInt8.toInt32)) ++ [(58 : Int32)]) cp h64 n0 O64 ge42 V64 hcp (by rw [List.length_append]; exact Nat.lt_of_le_of_lt (Nat.succ_le_succ (Nat.succ_le_succ hp62)) (by decide))) hZ (hv hw 36 rfl) (hv hw 2 rfl) (by decide) (by decide)) (g := (mkF m 201 #[vi p0, vi p1, vi p2, vi p3, vi p4, vi 0, vi 0, vi r4, vi r5, vi cp, vi dp, vr b8, vr b13, vr b20, vr b30, vr b42, .val (.int (Int32.ofNat ((([] : List Int32) ++ encB (r4.toInt8.toInt32)) ++ [(58 : Int32)]).length)), un, un] [(.int cp), (.int (Int32.ofNat ((([] : List Int32) ++ encB (r4.toInt8.toInt32)) ++ [(58 : Int32)]).length)), (.ref b42)])) rfl (by rw [hml]; rfl) (argsL := [(.ref b42), (.int (Int32.ofNat ((([] : List Int32) ++ encB (r4.toInt8.toInt32)) ++ [(58 : Int32)]).length)), (.int cp)]) (rest := []) (lenOf pd_2 rfl) rfl (by exact Nat.le_of_eq rfl) (hb hby at_201) (fun _ _ => ⟨rfl, e64, (by decide : 7 + 0 ≤ _), (by decide : 21 + 0 ≤ _)⟩)
   dsimp only [Pt.U, Pt.locs, Pt.cells, Pt.slots] at X70 l70 y70 z70 st70 hQ70
   rw [l70, y70, z70] at X70
   obtain ⟨rfl, Nq70, Kq70, q1_70⟩ := hQ70
   have N70 := Fr.app N64 Nq70
   have K70 : Keep h0 T70.heap [] := K64.trans Kq70 (allS (P := fun zz => zz ∈ [] ∨ h0.size ≤ zz) (Or.inr sz42) all0)
   have O70 : Old Z n0 T70.heap := O64.keep Kq70 (allS ge42 all0)
   have sf71 : Safe Z consts_1 s.vm T70.heap b8 := (Safe.keep Kq70 (sfS sf69 sf0) H64 sf65)
   have sf72 : Safe Z consts_1 s.vm T70.heap b13 := (Safe.keep Kq70 (sfS sf69 sf0) H64 sf66)
   have sf73 : Safe Z consts_1 s.vm T70.heap b20 := (Safe.keep Kq70 (sfS sf69 sf0) H64 sf67)
   have sf74 : Safe Z consts_1 s.vm T70.heap b30 := (Safe.keep Kq70 (sfS sf69 sf0) H64 sf68)
   have sf75 : Safe Z consts_1 s.vm T70.heap b42 := (Safe.keep Kq70 (sfS sf69 sf0) H64 sf69)
   have H70 : CHv Z consts_1 s.vm T70.heap := H64.keep Kq70 (sfS sf69 sf0)
   have C70 : CHr Z consts_1 s.vm h0 s.vm T70.heap := C64.trans (CHr.keep Kq70 (sfS sf69 sf0) H64)
   have hk70 := Nat.le_trans hk64 Kq70.1
   refine Go.st st70 ?_
   show Go p.tables e below Kx _ (mkF m 204 _ [(.int (Int32.ofNat (((([] : List Int32) ++ encB (r4.toInt8.toInt32)) ++ [(58 : Int32)]) ++ encB (cp.toInt8.toInt32)).length))])
   have hp76 : (((([] : List Int32) ++ encB (r4.toInt8.toInt32)) ++ [(58 : Int32)]) ++ encB (cp.toInt8.toInt32)).length ≤ 5 := by
    have q0 := encB_len (r4.toInt8.toInt32)
    have q1 := encB_len (cp.toInt8.toInt32)
    simp only [List.length_append, List.length_nil, List.length_cons]; omega
   refine s_istore (pc' := 206) (Ls' := #[vi p0, vi p1, vi p2, vi p3, vi p4, vi 0, vi 0, vi r4, vi r5, vi cp, vi dp, vr b8, vr b13, vr b20, vr b30, vr b42, .val (.int (Int32.ofNat (((([] : List Int32) ++ encB (r4.toInt8.toInt32)) ++ [(58 : Int32)]) ++ encB (cp.toInt8.toInt32)).length)), un, un]) X70.here hx (hb hby at_204) rfl  rfl ?_
   refine s_iload (pc' := 208) X70.here hx (hb hby at_206) rfl rfl ?_
   refine s_ifY (pc' := 222) X70.here hx (hb hby at_208) ((if0 _ _).trans (teq (by decide)).1) (by decide) (by decide) ?_
   have f77 : Exa Z T70.heap b20 "java/lang/String" := ((((((q1_26.ext E30).keep Kq37).ext E42).keep Kq56).wr W64).keep Kq70)
   have f78 : Str Z T70.heap T26.heap.size b20 [r4] := ((((((St26.ext E30).keep Kq37 (allS (Nat.le_of_eq g30.symm) all0)).ext E42).keep Kq56 (allS (Nat.le_trans (Nat.le_trans E30.1 Kq37.1) (Nat.le_of_eq g42.symm)) all0)).wr W64 (Nat.le_trans (Nat.le_trans E30.1 Kq37.1) (Nat.le_of_eq g42.symm))).keep Kq70 (allS (Nat.le_trans (Nat.le_trans E30.1 Kq37.1) (Nat.le_of_eq g42.symm)) all0))
   have f79 : Exa Z T70.heap b30 "java/lang/String" := ((((q1_37.ext E42).keep Kq56).wr W64).keep Kq70)
   have f80 : Str Z T70.heap T37.heap.size b30 [cp] := ((((St37.ext E42).keep Kq56 (allS (Nat.le_of_eq g42.symm) all0)).wr W64 (Nat.le_of_eq g42.symm)).keep Kq70 (allS (Nat.le_of_eq g42.symm) all0))
   have f81 : Exa Z T70.heap b42 "[B" := (((B42.keep Kq56).wr W64).keep Kq70)
   have lt82 : b20 < T70.heap.size := (Nat.lt_of_lt_of_le A20.lt (Nat.le_trans (Nat.le_trans (Nat.le_trans (Nat.le_trans (Nat.le_trans (Nat.le_trans Kq26.1 E30.1) Kq37.1) E42.1) Kq56.1) (Nat.le_of_eq W64.size.symm)) Kq70.1))
   have lt83 : b30 < T70.heap.size := (Nat.lt_of_lt_of_le A30.lt (Nat.le_trans (Nat.le_trans (Nat.le_trans (Nat.le_trans Kq37.1 E42.1) Kq56.1) (Nat.le_of_eq W64.size.symm)) Kq70.1))
   have lt84 : b42 < T70.heap.size := (Nat.lt_of_lt_of_le A42.lt (Nat.le_trans (Nat.le_trans Kq56.1 (Nat.le_of_eq W64.size.symm)) Kq70.1))
   have ne85 : b20 ≠ b30 := (Nat.ne_of_lt (Nat.lt_of_lt_of_le (Nat.lt_of_lt_of_le A20.lt Kq26.1) (Nat.le_of_eq g30.symm)))
   have ne86 : b20 ≠ b42 := (Nat.ne_of_lt (Nat.lt_of_lt_of_le (Nat.lt_of_lt_of_le A20.lt (Nat.le_trans (Nat.le_trans Kq26.1 E30.1) Kq37.1)) (Nat.le_of_eq g42.symm)))
   have ne87 : b30 ≠ b42 := (Nat.ne_of_lt (Nat.lt_of_lt_of_le (Nat.lt_of_lt_of_le A30.lt Kq37.1) (Nat.le_of_eq g42.symm)))
   (try clear q1); (try clear sf72); (try clear sf71); (try clear Kq70); (try clear Nq70); (try clear st70); (try clear z70); (try clear y70); (try clear l70); (try clear hQ70); (try clear Lc70); (try clear n70)
   (try clear k70); (try clear L70); (try clear N64); (try clear hk64); (try clear C64); (try clear H64); (try clear sf69); (try clear sf68); (try clear sf67); (try clear sf66); (try clear sf65); (try clear O64)
   (try clear K64); (try clear V64); (try clear st64); (try clear W64); (try clear e64); (try clear X64); (try clear h64); (try clear T64); (try clear in64); (try clear rm64); (try clear Ag63); (try clear Ah63)
   (try clear An63); (try clear As63); (try clear Aq63); (try clear Ar63); (try clear cl63); (try clear q0); (try clear hk56); (try clear C56); (try clear H56); (try clear sf61); (try clear sf60); (try clear sf59)
   (try clear sf58); (try clear sf57); (try clear O56); (try clear K56); (try clear N56); (try clear q1_56); (try clear Kq56); (try clear Nq56); (try clear st56); (try clear z56); (try clear y56); (try clear l56)
   (try clear hQ56); (try clear Lc56); (try clear X56); (try clear n56); (try clear k56); (try clear L56); (try clear T56); (try clear V48); (try clear V42); (try clear hk42); (try clear C42); (try clear H42)
   (try clear sf47); (try clear sf46); (try clear sf45); (try clear sf44); (try clear sf43); (try clear O42); (try clear K42); (try clear sn42); (try clear st42); (try clear B42); (try clear A42); (try clear E42)
   (try clear e42); (try clear X42); (try clear h42); (try clear T42); (try clear St37); (try clear hk37); (try clear C37); (try clear H37); (try clear sf41); (try clear sf40); (try clear sf39); (try clear sf38)
   (try clear O37); (try clear K37); (try clear N37); (try clear q4_37); (try clear q3_37); (try clear kt37); (try clear t37); (try clear q2_37); (try clear q1_37); (try clear Kq37); (try clear Nq37); (try clear st37)
   (try clear z37); (try clear y37); (try clear l37); (try clear hQ37); (try clear Lc37); (try clear X37); (try clear n37); (try clear k37); (try clear L37); (try clear f36); (try clear hp35); (try clear F30_value)
   (try clear F30_coder); (try clear hk30); (try clear C30); (try clear H30); (try clear sf34); (try clear sf33); (try clear sf32); (try clear sf31); (try clear O30); (try clear K30); (try clear sn30); (try clear st30)
   (try clear D30); (try clear A30); (try clear E30); (try clear e30); (try clear X30); (try clear h30); (try clear T30); (try clear St26); (try clear hk26); (try clear C26); (try clear H26); (try clear sf29)
   (try clear sf28); (try clear sf27); (try clear O26); (try clear K26); (try clear N26); (try clear q4_26); (try clear q3_26); (try clear kt26); (try clear t26); (try clear q2_26); (try clear q1_26); (try clear Kq26)
   (try clear Nq26); (try clear st26); (try clear z26); (try clear y26); (try clear l26); (try clear hQ26); (try clear Lc26); (try clear X26); (try clear n26); (try clear k26); (try clear L26); (try clear f25)
   (try clear hp24); (try clear F20_value); (try clear F20_coder); (try clear hk20); (try clear C20); (try clear H20); (try clear sf23); (try clear sf22); (try clear sf21); (try clear O20); (try clear K20); (try clear sn20)
   (try clear st20); (try clear D20); (try clear A20); (try clear E20); (try clear e20); (try clear X20); (try clear h20); (try clear T20); (try clear N17); (try clear hk17); (try clear C17); (try clear H17)
   (try clear sf19); (try clear sf18); (try clear O17); (try clear K17); (try clear V17); (try clear st17); (try clear W17); (try clear e17); (try clear X17); (try clear h17); (try clear T17); (try clear in17)
   (try clear Ag16); (try clear Ah16); (try clear An16); (try clear As16); (try clear Aq16); (try clear Ar16); (try clear cl16); (try clear V13); (try clear hk13); (try clear C13); (try clear H13); (try clear sf15)
   (try clear sf14); (try clear O13); (try clear K13); (try clear sn13); (try clear ge13); (try clear sz13); (try clear g13); (try clear st13); (try clear A13); (try clear E13); (try clear e13); (try clear X13)
   (try clear k13); (try clear h13); (try clear T13); (try clear N11); (try clear hk11); (try clear C11); (try clear H11); (try clear sf12); (try clear O11); (try clear K11); (try clear q); (try clear V11)
   (try clear st11); (try clear W11); (try clear e11); (try clear X11); (try clear h11); (try clear T11); (try clear in11); (try clear Ag10); (try clear Ah10); (try clear An10); (try clear As10); (try clear Aq10)
   (try clear Ar10); (try clear cl10); (try clear V8); (try clear hk8); (try clear C8); (try clear H8); (try clear sf9); (try clear O8); (try clear K8); (try clear sn8); (try clear ge8); (try clear sz8)
   (try clear g8); (try clear st8); (try clear A8); (try clear E8); (try clear e8); (try clear X8); (try clear k8); (try clear h8); (try clear T8); (try clear N5); (try clear hE5); (try clear Nq5)
   (try clear st5); (try clear z5); (try clear y5); (try clear l5); (try clear hQ5); (try clear Lc5); (try clear X5); (try clear n5); (try clear k5); (try clear L5); (try clear T5); (try clear N4)
   (try clear hE4); (try clear Nq4); (try clear st4); (try clear z4); (try clear y4); (try clear l4); (try clear hQ4); (try clear Lc4); (try clear X4); (try clear n4); (try clear k4); (try clear L4)
   (try clear T4); (try clear _); (try clear C0); (try clear hk0); (try clear e0); (try clear X0)
   show Go p.tables e below Kx _ (mkF m 222 _ [])
   refine s_aload (pc' := 224) X70.here hx (hb hby at_222) rfl rfl rfl ?_
   refine s_aload (pc' := 226) X70.here hx (hb hby at_224) rfl rfl rfl ?_
   have hno88 : ∀ c ∈ ([r4] : List Int32), ¬ c = 58 := by
    intro c hc
    simp only [List.mem_cons, List.not_mem_nil, or_false] at hc
    rcases hc with rfl
    ·
     exact hr4.2
   obtain ⟨_, _, ⟨T137, L137, k137, n137⟩, -, X137, hS'137, hg'137, ⟨Lc137, hQ137, l137, y137, z137, Cr137⟩, st137⟩ := callSS X70 hx (y := yN2) hown (mvT hZ (hv hw 37 rfl)) (mvT hZ (hv hw 38 rfl)) (mvT hZ (hv hw 39 rfl)) (mvT hZ (hv hw 40 rfl)) (by decide) (backOfSH (W := 0) (rmDo l Z a0 hw [] b20 b30 _ _ [r4] [cp] T70.heap n0 O70 hEL wS G1 S1 P1 f78 f80 hno88 (by simp) (by simp)) hZ (hv hw 40 rfl) (hv hw 39 rfl) (by decide) (by decide) hEL H70) (g := (mkF m 226 #[vi p0, vi p1, vi p2, vi p3, vi p4, vi 0, vi 0, vi r4, vi r5, vi cp, vi dp, vr b8, vr b13, vr b20, vr b30, vr b42, .val (.int (Int32.ofNat (((([] : List Int32) ++ encB (r4.toInt8.toInt32)) ++ [(58 : Int32)]) ++ encB (cp.toInt8.toInt32)).length)), un, un] [(.ref b30), (.ref b20)])) rfl (by rw [hml]; rfl) (argsL := [(.ref b20), (.ref b30)]) (rest := []) (lenOf pd_12 rfl) rfl (by exact Nat.le_of_eq rfl) (hb hby at_226) (fun _ _ => ⟨rfl, rfl, (by decide : 7 + 5 ≤ _), (by decide : 21 + 58 ≤ _)⟩)
   dsimp only [Pt.U, Pt.locs, Pt.cells, Pt.slots] at X137 l137 y137 z137 st137 hQ137 hS'137 hg'137 Cr137
   rw [l137, y137, z137] at X137
   obtain ⟨d137, rfl, Nq137, Kq137, q1_137, q2_137, q3_137⟩ := hQ137
   have N137 := Fr.app N70 Nq137
   have X137 : Stand p l e _ (s.setVm T137.vm) m _ below meth c T137 _ _ _ := X137
   obtain ⟨hZ137, hown137⟩ := wideOn hZ hS'137 hown
   have hS137 : s.Since T137.vm T137.heap.size := hS0.trans hS'137 (Nat.le_trans hk70 hg'137)
   have hk137 := Nat.le_refl T137.heap.size
   have sf138 : Safe Z consts_1 T137.vm T137.heap b20 := Cr137.safe lt82 sf73
   have sf139 : Safe Z consts_1 T137.vm T137.heap b30 := Cr137.safe lt83 sf74
   have sf140 : Safe Z consts_1 T137.vm T137.heap b42 := Cr137.safe lt84 sf75
   have C137 := C70.trans Cr137
   have K137 : Keep h0 T137.heap [] := K70.trans Kq137 all0
   have O137 : Old Z n0 T137.heap := O70.keep Kq137 all0
   refine Go.tr st137 ?_
   show Go p.tables e below Kx _ (mkF m 229 _ [(.ref d137)])
   refine s_astore (pc' := 231) (Ls' := #[vi p0, vi p1, vi p2, vi p3, vi p4, vi 0, vi 0, vi r4, vi r5, vi cp, vi dp, vr b8, vr b13, vr b20, vr b30, vr b42, .val (.int (Int32.ofNat (((([] : List Int32) ++ encB (r4.toInt8.toInt32)) ++ [(58 : Int32)]) ++ encB (cp.toInt8.toInt32)).length)), vr d137, un]) X137.here hx (hb hby at_229) rfl rfl rfl ?_
   refine s_aload (pc' := 233) X137.here hx (hb hby at_231) rfl rfl rfl ?_
   refine s_ifnonnullY (pc' := 238) X137.here hx (hb hby at_233) (by decide) (by decide) ?_
   refine s_aload (pc' := 240) X137.here hx (hb hby at_238) rfl rfl rfl ?_
   refine s_aload (pc' := 242) X137.here hx (hb hby at_240) rfl rfl rfl ?_
   obtain ⟨cq142, kq142, q142a, q142b, q142c⟩ := isOf hZ137 rfl q1_137
   obtain ⟨_, _, ⟨T142, L142, k142, n142⟩, -, X142, ⟨Lc142, hQ142, l142, y142, z142⟩, st142⟩ := X137.virtualBack hx (y := yN3) (z := yN3) hown137 (mvT hZ137 (hv hw 106 rfl)) (mvT hZ137 (hv hw 107 rfl)) (notFace_of_selects (args := #[]) (mvT hZ137 (hv hw 109 rfl))) (mvT hZ137 (hv hw 109 rfl)) (mvT hZ137 (hv hw 108 rfl)) (by decide) (backOf (W := 1) (rmDu l Z a0 hw [] d137 b20 T137.heap n0 O137 q2_137) hZ137 (hv hw 110 rfl) (hv hw 39 rfl) (by decide) (by decide)) q142a q142c (g := (mkF m 242 #[vi p0, vi p1, vi p2, vi p3, vi p4, vi 0, vi 0, vi r4, vi r5, vi cp, vi dp, vr b8, vr b13, vr b20, vr b30, vr b42, .val (.int (Int32.ofNat (((([] : List Int32) ++ encB (r4.toInt8.toInt32)) ++ [(58 : Int32)]) ++ encB (cp.toInt8.toInt32)).length)), vr d137, un] [(.ref d137), (.ref b20)])) rfl (by rw [hml]; rfl) (Steps.refl _) (argsL := []) (rest := [(.ref b20)]) (lenOf pd_13 rfl) rfl (by exact Nat.le_of_eq rfl) (hb hby at_242) (fun _ _ => ⟨rfl, rfl, (by decide : 12 + 0 ≤ _), (by decide : 79 + 0 ≤ _)⟩)
   dsimp only [Pt.U, Pt.locs, Pt.cells, Pt.slots] at X142 l142 y142 z142 st142 hQ142
   rw [l142, y142, z142] at X142
   obtain ⟨rfl, Nq142, hE142⟩ := hQ142
   have N142 := Fr.app N137 Nq142
   refine Go.tr st142 ?_
   show Go p.tables e below Kx _ (mkF m 245 _ [(.ref b20), (.ref b20)])
   have f144 : Exa Z T137.heap b20 "java/lang/String" := (f77.keep Kq137)
   obtain ⟨cq143, kq143, q143a, q143b, q143c⟩ := isOf hZ137 hE142 f144
   obtain ⟨_, _, ⟨T143, L143, k143, n143⟩, -, X143, ⟨Lc143, hQ143, l143, y143, z143⟩, st143⟩ := X142.virtualBack hx (y := yN23) (z := yN23) hown137 (mvT hZ137 (hv hw 111 rfl)) (mvT hZ137 (hv hw 112 rfl)) (notFace_of_selects (args := #[]) (mvT hZ137 (hv hw 114 rfl))) (mvT hZ137 (hv hw 114 rfl)) (mvT hZ137 (hv hw 113 rfl)) (by decide) (backOf (W := 0) (rmKes l Z a0 hw [] b20 T137.heap n0 O137 ) hZ137 (hv hw 115 rfl) (hv hw 7 rfl) (by decide) (by decide)) q143a q143c (g := (mkF m 245 #[vi p0, vi p1, vi p2, vi p3, vi p4, vi 0, vi 0, vi r4, vi r5, vi cp, vi dp, vr b8, vr b13, vr b20, vr b30, vr b42, .val (.int (Int32.ofNat (((([] : List Int32) ++ encB (r4.toInt8.toInt32)) ++ [(58 : Int32)]) ++ encB (cp.toInt8.toInt32)).length)), vr d137, un] [(.ref b20), (.ref b20)])) rfl (by rw [hml]; rfl) (Steps.refl _) (argsL := [(.ref b20)]) (rest := []) (lenOf pd_14 rfl) rfl (by exact Nat.le_of_eq rfl) (hb hby at_245) (fun _ _ => ⟨rfl, hE142, (by decide : 12 + 0 ≤ _), (by decide : 79 + 0 ≤ _)⟩)
   dsimp only [Pt.U, Pt.locs, Pt.cells, Pt.slots] at X143 l143 y143 z143 st143 hQ143
   rw [l143, y143, z143] at X143
   obtain ⟨rfl, Nq143, hE143⟩ := hQ143
   have N143 := Fr.app N142 Nq143
   refine Go.tr st143 ?_
   show Go p.tables e below Kx _ (mkF m 248 _ [(.int 1)])
   refine s_ifY (pc' := 253) X143.here hx (hb hby at_248) ((if0 _ _).trans (feq (by decide)).2) (by decide) (by decide) ?_
   refine s_aload (pc' := 255) X143.here hx (hb hby at_253) rfl rfl rfl ?_
   have f309 : Str Z T137.heap T26.heap.size b20 [r4] := (f78.keep Kq137 all0)
   have f310 : Str Z T137.heap T37.heap.size b30 [cp] := (f80.keep Kq137 all0)
   obtain ⟨cq311, kq311, q311a, q311b, q311c⟩ := isOf hZ137 hE143 q1_137
   obtain ⟨_, _, ⟨T311, L311, k311, n311⟩, -, X311, hS'311, hg'311, ⟨Lc311, hQ311, l311, y311, z311, Cr311⟩, st311⟩ := X143.virtualBackS hx (y := yN1) (z := yN1) hown137 (mvT hZ137 (hv hw 116 rfl)) (mvT hZ137 (hv hw 117 rfl)) (notFace_of_selects (args := #[]) (mvT hZ137 (hv hw 119 rfl))) (mvT hZ137 (hv hw 119 rfl)) (mvT hZ137 (hv hw 118 rfl)) (by decide) (backOfSH (W := 0) (rmDa l Z a0 hw [] d137 b20 b30 u8 _ _ [r4] [cp] T137.heap n0 O137 hEL wS G1 S1 P1 SU SC q1_137 q2_137 q3_137 f309 f310 (by simp)) hZ137 (hv hw 120 rfl) (hv hw 39 rfl) (by decide) (by decide) hEL Cr137.1) q311a q311c (g := (mkF m 255 #[vi p0, vi p1, vi p2, vi p3, vi p4, vi 0, vi 0, vi r4, vi r5, vi cp, vi dp, vr b8, vr b13, vr b20, vr b30, vr b42, .val (.int (Int32.ofNat (((([] : List Int32) ++ encB (r4.toInt8.toInt32)) ++ [(58 : Int32)]) ++ encB (cp.toInt8.toInt32)).length)), vr d137, un] [(.ref d137)])) rfl (by rw [hml]; rfl) (Steps.refl _) (argsL := []) (rest := []) (lenOf pd_22 rfl) rfl (by exact Nat.le_of_eq rfl) (hb hby at_255) (fun _ _ => ⟨rfl, hE143, (by decide : 12 + 8 ≤ _), (by decide : 79 + 120 ≤ _)⟩)
   dsimp only [Pt.U, Pt.locs, Pt.cells, Pt.slots] at X311 l311 y311 z311 st311 hQ311 hS'311 hg'311 Cr311
   rw [l311, y311, z311] at X311
   obtain ⟨t311, kt311, rfl, Nq311, Kq311, le311, q1_311⟩ := hQ311
   have sz311 : h0.size ≤ t311 := Nat.le_trans K137.1 le311
   have ge311 : n0 ≤ t311 := Nat.le_trans (O137.1 ▸ O137.2.1) le311
   have sn311 : Safe Z consts_1 T137.vm T137.heap t311 := Safe.new le311
   have N311 := Fr.app N143 Nq311
   have X311 : Stand p l e _ (s.setVm T311.vm) m _ below meth c T311 _ _ _ := X311
   obtain ⟨hZ311, hown311⟩ := wideOn hZ137 hS'311 hown137
   have hS311 : s.Since T311.vm T311.heap.size := hS137.trans hS'311 (Nat.le_trans hk137 (by rw [hE143] at hg'311; exact hg'311))
   have hk311 := Nat.le_refl T311.heap.size
   have sf312 : Safe Z consts_1 T311.vm T311.heap b20 := Cr311.safe (Nat.lt_of_lt_of_le lt82 Kq137.1) sf138
   have sf313 : Safe Z consts_1 T311.vm T311.heap b30 := Cr311.safe (Nat.lt_of_lt_of_le lt83 Kq137.1) sf139
   have sf314 : Safe Z consts_1 T311.vm T311.heap b42 := Cr311.safe (Nat.lt_of_lt_of_le lt84 Kq137.1) sf140
   have C311 := C137.trans Cr311
   have K311 : Keep h0 T311.heap [] := K137.trans Kq311 all0
   have O311 : Old Z n0 T311.heap := O137.keep Kq311 all0
   refine Go.tr st311 ?_
   show Go p.tables e below Kx _ (mkF m 258 _ [(.ref t311)])
   have hX311 : enc (((([] : List Int32) ++ (i8s [r4])) ++ [(58 : Int32)]) ++ (i8s [cp])) = (((([] : List Int32) ++ encB (r4.toInt8.toInt32)) ++ [(58 : Int32)]) ++ encB (cp.toInt8.toInt32)) := by simp [i8s, enc, encB58, t58]
   rw [hX311] at q1_311
   refine s_astore (pc' := 260) (Ls' := #[vi p0, vi p1, vi p2, vi p3, vi p4, vi 0, vi 0, vi r4, vi r5, vi cp, vi dp, vr b8, vr b13, vr b20, vr b30, vr b42, .val (.int (Int32.ofNat (((([] : List Int32) ++ encB (r4.toInt8.toInt32)) ++ [(58 : Int32)]) ++ encB (cp.toInt8.toInt32)).length)), vr d137, vr t311]) X311.here hx (hb hby at_258) rfl rfl rfl ?_
   have f315 : Arv Z T311.heap b42 k42 .byte 9 (pad 9 (((([] : List Int32) ++ encB (r4.toInt8.toInt32)) ++ [(58 : Int32)]) ++ encB (cp.toInt8.toInt32))) (.int 0) := ((q1_70.keep Kq137 nin0).keep Kq311 nin0)
   have f316 : Exa Z T311.heap b42 "[B" := ((f81.keep Kq137).keep Kq311)
   have lt317 : b42 < T311.heap.size := (Nat.lt_of_lt_of_le lt84 (Nat.le_trans Kq137.1 Kq311.1))
   have lt318 : t311 < T311.heap.size := q1_311.lt
   have ne319 : b42 ≠ t311 := (Nat.ne_of_lt (Nat.lt_of_lt_of_le (Nat.lt_of_lt_of_le lt84 Kq137.1) le311))
   (try clear hX311); (try clear sf313); (try clear sf312); (try clear sn311); (try clear Kq311); (try clear Nq311); (try clear st311); (try clear z311); (try clear y311); (try clear l311); (try clear hQ311); (try clear Lc311)
   (try clear hg'311); (try clear hS'311); (try clear n311); (try clear k311); (try clear L311); (try clear q311c); (try clear q311b); (try clear q311a); (try clear kq311); (try clear cq311); (try clear f310); (try clear f309)
   (try clear N143); (try clear hE143); (try clear Nq143); (try clear st143); (try clear z143); (try clear y143); (try clear l143); (try clear hQ143); (try clear Lc143); (try clear X143); (try clear n143); (try clear k143)
   (try clear L143); (try clear T143); (try clear q143c); (try clear q143b); (try clear q143a); (try clear kq143); (try clear cq143); (try clear f144); (try clear N142); (try clear hE142); (try clear Nq142); (try clear st142)
   (try clear z142); (try clear y142); (try clear l142); (try clear hQ142); (try clear Lc142); (try clear X142); (try clear n142); (try clear k142); (try clear L142); (try clear T142); (try clear q142c); (try clear q142b)
   (try clear q142a); (try clear kq142); (try clear cq142); (try clear O137); (try clear K137); (try clear C137); (try clear sf140); (try clear sf139); (try clear sf138); (try clear hk137); (try clear hS137); (try clear hown137)
   (try clear hZ137); (try clear N137); (try clear q3_137); (try clear q2_137); (try clear q1_137); (try clear Kq137); (try clear Nq137); (try clear st137); (try clear Cr137); (try clear z137); (try clear y137); (try clear l137)
   (try clear hQ137); (try clear Lc137); (try clear hg'137); (try clear hS'137); (try clear X137); (try clear n137); (try clear k137); (try clear L137); (try clear T137); (try clear _); (try clear hno88); (try clear ne87)
   (try clear ne86); (try clear ne85); (try clear lt84); (try clear lt83); (try clear lt82); (try clear f81); (try clear f80); (try clear f79); (try clear f78); (try clear f77); (try clear hk70); (try clear C70)
   (try clear H70); (try clear sf75); (try clear sf74); (try clear sf73); (try clear O70); (try clear K70); (try clear N70); (try clear q1_70); (try clear X70); (try clear T70); (try clear T37); (try clear ge30)
   (try clear sz30); (try clear g30); (try clear T26); (try clear ge20); (try clear sz20); (try clear g20); (try clear hS0)
   show Go p.tables e below Kx _ (mkF m 260 _ [])
   refine s_aload (pc' := 262) X311.here hx (hb hby at_260) rfl rfl rfl ?_
   refine s_ifnullN (pc' := 265) X311.here hx (hb hby at_262) rfl ?_
   refine s_aload (pc' := 267) X311.here hx (hb hby at_265) rfl rfl rfl ?_
   obtain ⟨cl320, Ar320, Aq320, As320, An320, Ah320, Ag320⟩ := id q1_311
   refine Go.st (X311.arraylength hx (by  exact Ar320.1) (State.isArrayOf_alike hZ311.alike Ar320.2.1) (g := (mkF m 267 #[vi p0, vi p1, vi p2, vi p3, vi p4, vi 0, vi 0, vi r4, vi r5, vi cp, vi dp, vr b8, vr b13, vr b20, vr b30, vr b42, .val (.int (Int32.ofNat (((([] : List Int32) ++ encB (r4.toInt8.toInt32)) ++ [(58 : Int32)]) ++ encB (cp.toInt8.toInt32)).length)), vr d137, vr t311] [(.ref t311)])) rfl rfl (hb hby at_267)) ?_
   rw [len_of As320 An320]
   show Go p.tables e below Kx _ (mkF m 268 _ [(.int (Int32.ofNat (((([] : List Int32) ++ encB (r4.toInt8.toInt32)) ++ [(58 : Int32)]) ++ encB (cp.toInt8.toInt32)).length))])
   refine s_iload (pc' := 270) X311.here hx (hb hby at_268) rfl rfl ?_
   refine s_icmpY (pc' := 275) X311.here hx (hb hby at_270) (teq rfl).1 (by decide) (by decide) ?_
   refine s_aload (pc' := 277) X311.here hx (hb hby at_275) rfl rfl rfl ?_
   refine s_aload (pc' := 279) X311.here hx (hb hby at_277) rfl rfl rfl ?_
   refine s_iload (pc' := 281) X311.here hx (hb hby at_279) rfl rfl ?_
   refine s_iconst (pc' := 282) (v := 0) X311.here hx (hb hby at_281) rfl rfl ?_
   obtain ⟨_, _, ⟨T326, L326, k326, n326⟩, -, X326, ⟨Lc326, hQ326, l326, y326, z326⟩, st326⟩ := Jvm.LawKit.callS X311 hx (y := yN5) hown311 (mvT hZ311 (hv hw 251 rfl)) (mvT hZ311 (hv hw 252 rfl)) (mvT hZ311 (hv hw 2 rfl)) (mvT hZ311 (hv hw 253 rfl)) (by decide) (backOf (W := 0) (rmDs l Z a0 hw [] t311 b42 _ _ (((([] : List Int32) ++ encB (r4.toInt8.toInt32)) ++ [(58 : Int32)]) ++ encB (cp.toInt8.toInt32)) 0 T311.heap n0 O311 q1_311 f315 (Nat.le_trans hp76 (by decide)) (by decide)) hZ311 (hv hw 253 rfl) (hv hw 2 rfl) (by decide) (by decide)) (g := (mkF m 282 #[vi p0, vi p1, vi p2, vi p3, vi p4, vi 0, vi 0, vi r4, vi r5, vi cp, vi dp, vr b8, vr b13, vr b20, vr b30, vr b42, .val (.int (Int32.ofNat (((([] : List Int32) ++ encB (r4.toInt8.toInt32)) ++ [(58 : Int32)]) ++ encB (cp.toInt8.toInt32)).length)), vr d137, vr t311] [(.int 0), (.int (Int32.ofNat (((([] : List Int32) ++ encB (r4.toInt8.toInt32)) ++ [(58 : Int32)]) ++ encB (cp.toInt8.toInt32)).length)), (.ref b42), (.ref t311)])) rfl (by rw [hml]; rfl) (argsL := [(.ref t311), (.ref b42), (.int (Int32.ofNat (((([] : List Int32) ++ encB (r4.toInt8.toInt32)) ++ [(58 : Int32)]) ++ encB (cp.toInt8.toInt32)).length)), (.int 0)]) (rest := []) (lenOf pd_34 rfl) rfl (by exact Nat.le_of_eq rfl) (hb hby at_282) (fun _ _ => ⟨rfl, rfl, (by decide : 20 + 0 ≤ _), (by decide : 199 + 0 ≤ _)⟩)
   dsimp only [Pt.U, Pt.locs, Pt.cells, Pt.slots] at X326 l326 y326 z326 st326 hQ326
   rw [l326, y326, z326] at X326
   obtain ⟨rfl, Nq326, hE326⟩ := hQ326
   have N326 := Fr.app N311 Nq326
   refine Go.st st326 ?_
   show Go p.tables e below Kx _ (mkF m 285 _ [(.int 1)])
   refine s_ifN (pc' := 288) X326.here hx (hb hby at_285) rfl ((if0 _ _).trans (feq (by decide)).1) ?_
   refine s_aload (pc' := 290) X326.here hx (hb hby at_288) rfl rfl rfl ?_
   refine s_aload (pc' := 292) X326.here hx (hb hby at_290) rfl rfl rfl ?_
   refine s_iload (pc' := 294) X326.here hx (hb hby at_292) rfl rfl ?_
   refine s_iconst (pc' := 295) (v := 1) X326.here hx (hb hby at_294) rfl rfl ?_
   obtain ⟨_, _, ⟨T327, L327, k327, n327⟩, -, X327, ⟨Lc327, hQ327, l327, y327, z327⟩, st327⟩ := Jvm.LawKit.callS X326 hx (y := yN5) hown311 (mvT hZ311 (hv hw 251 rfl)) (mvT hZ311 (hv hw 252 rfl)) (mvT hZ311 (hv hw 2 rfl)) (mvT hZ311 (hv hw 253 rfl)) (by decide) (backOf (W := 0) (rmDs l Z a0 hw [] t311 b42 _ _ (((([] : List Int32) ++ encB (r4.toInt8.toInt32)) ++ [(58 : Int32)]) ++ encB (cp.toInt8.toInt32)) 1 T311.heap n0 O311 q1_311 f315 (Nat.le_trans hp76 (by decide)) (by decide)) hZ311 (hv hw 253 rfl) (hv hw 2 rfl) (by decide) (by decide)) (g := (mkF m 295 #[vi p0, vi p1, vi p2, vi p3, vi p4, vi 0, vi 0, vi r4, vi r5, vi cp, vi dp, vr b8, vr b13, vr b20, vr b30, vr b42, .val (.int (Int32.ofNat (((([] : List Int32) ++ encB (r4.toInt8.toInt32)) ++ [(58 : Int32)]) ++ encB (cp.toInt8.toInt32)).length)), vr d137, vr t311] [(.int 1), (.int (Int32.ofNat (((([] : List Int32) ++ encB (r4.toInt8.toInt32)) ++ [(58 : Int32)]) ++ encB (cp.toInt8.toInt32)).length)), (.ref b42), (.ref t311)])) rfl (by rw [hml]; rfl) (argsL := [(.ref t311), (.ref b42), (.int (Int32.ofNat (((([] : List Int32) ++ encB (r4.toInt8.toInt32)) ++ [(58 : Int32)]) ++ encB (cp.toInt8.toInt32)).length)), (.int 1)]) (rest := []) (lenOf pd_34 rfl) rfl (by exact Nat.le_of_eq rfl) (hb hby at_295) (fun _ _ => ⟨rfl, hE326, (by decide : 20 + 0 ≤ _), (by decide : 199 + 0 ≤ _)⟩)
   dsimp only [Pt.U, Pt.locs, Pt.cells, Pt.slots] at X327 l327 y327 z327 st327 hQ327
   rw [l327, y327, z327] at X327
   obtain ⟨rfl, Nq327, hE327⟩ := hQ327
   have N327 := Fr.app N326 Nq327
   refine Go.st st327 ?_
   show Go p.tables e below Kx _ (mkF m 298 _ [(.int 1)])
   refine s_ifN (pc' := 301) X327.here hx (hb hby at_298) rfl ((if0 _ _).trans (feq (by decide)).1) ?_
   refine s_aload (pc' := 303) X327.here hx (hb hby at_301) rfl rfl rfl ?_
   refine s_aload (pc' := 305) X327.here hx (hb hby at_303) rfl rfl rfl ?_
   refine s_iload (pc' := 307) X327.here hx (hb hby at_305) rfl rfl ?_
   refine s_iconst (pc' := 308) (v := 2) X327.here hx (hb hby at_307) rfl rfl ?_
   obtain ⟨_, _, ⟨T328, L328, k328, n328⟩, -, X328, ⟨Lc328, hQ328, l328, y328, z328⟩, st328⟩ := Jvm.LawKit.callS X327 hx (y := yN5) hown311 (mvT hZ311 (hv hw 251 rfl)) (mvT hZ311 (hv hw 252 rfl)) (mvT hZ311 (hv hw 2 rfl)) (mvT hZ311 (hv hw 253 rfl)) (by decide) (backOf (W := 0) (rmDs l Z a0 hw [] t311 b42 _ _ (((([] : List Int32) ++ encB (r4.toInt8.toInt32)) ++ [(58 : Int32)]) ++ encB (cp.toInt8.toInt32)) 2 T311.heap n0 O311 q1_311 f315 (Nat.le_trans hp76 (by decide)) (by decide)) hZ311 (hv hw 253 rfl) (hv hw 2 rfl) (by decide) (by decide)) (g := (mkF m 308 #[vi p0, vi p1, vi p2, vi p3, vi p4, vi 0, vi 0, vi r4, vi r5, vi cp, vi dp, vr b8, vr b13, vr b20, vr b30, vr b42, .val (.int (Int32.ofNat (((([] : List Int32) ++ encB (r4.toInt8.toInt32)) ++ [(58 : Int32)]) ++ encB (cp.toInt8.toInt32)).length)), vr d137, vr t311] [(.int 2), (.int (Int32.ofNat (((([] : List Int32) ++ encB (r4.toInt8.toInt32)) ++ [(58 : Int32)]) ++ encB (cp.toInt8.toInt32)).length)), (.ref b42), (.ref t311)])) rfl (by rw [hml]; rfl) (argsL := [(.ref t311), (.ref b42), (.int (Int32.ofNat (((([] : List Int32) ++ encB (r4.toInt8.toInt32)) ++ [(58 : Int32)]) ++ encB (cp.toInt8.toInt32)).length)), (.int 2)]) (rest := []) (lenOf pd_34 rfl) rfl (by exact Nat.le_of_eq rfl) (hb hby at_308) (fun _ _ => ⟨rfl, hE327, (by decide : 20 + 0 ≤ _), (by decide : 199 + 0 ≤ _)⟩)
   dsimp only [Pt.U, Pt.locs, Pt.cells, Pt.slots] at X328 l328 y328 z328 st328 hQ328
   rw [l328, y328, z328] at X328
   obtain ⟨rfl, Nq328, hE328⟩ := hQ328
   have N328 := Fr.app N327 Nq328
   refine Go.st st328 ?_
   show Go p.tables e below Kx _ (mkF m 311 _ [(.int 1)])
   refine s_ifN (pc' := 314) X328.here hx (hb hby at_311) rfl ((if0 _ _).trans (feq (by decide)).1) ?_
   refine s_aload (pc' := 316) X328.here hx (hb hby at_314) rfl rfl rfl ?_
   refine s_aload (pc' := 318) X328.here hx (hb hby at_316) rfl rfl rfl ?_
   refine s_iload (pc' := 320) X328.here hx (hb hby at_318) rfl rfl ?_
   refine s_iconst (pc' := 321) (v := 3) X328.here hx (hb hby at_320) rfl rfl ?_
   obtain ⟨_, _, ⟨T329, L329, k329, n329⟩, -, X329, ⟨Lc329, hQ329, l329, y329, z329⟩, st329⟩ := Jvm.LawKit.callS X328 hx (y := yN5) hown311 (mvT hZ311 (hv hw 251 rfl)) (mvT hZ311 (hv hw 252 rfl)) (mvT hZ311 (hv hw 2 rfl)) (mvT hZ311 (hv hw 253 rfl)) (by decide) (backOf (W := 0) (rmDs l Z a0 hw [] t311 b42 _ _ (((([] : List Int32) ++ encB (r4.toInt8.toInt32)) ++ [(58 : Int32)]) ++ encB (cp.toInt8.toInt32)) 3 T311.heap n0 O311 q1_311 f315 (Nat.le_trans hp76 (by decide)) (by decide)) hZ311 (hv hw 253 rfl) (hv hw 2 rfl) (by decide) (by decide)) (g := (mkF m 321 #[vi p0, vi p1, vi p2, vi p3, vi p4, vi 0, vi 0, vi r4, vi r5, vi cp, vi dp, vr b8, vr b13, vr b20, vr b30, vr b42, .val (.int (Int32.ofNat (((([] : List Int32) ++ encB (r4.toInt8.toInt32)) ++ [(58 : Int32)]) ++ encB (cp.toInt8.toInt32)).length)), vr d137, vr t311] [(.int 3), (.int (Int32.ofNat (((([] : List Int32) ++ encB (r4.toInt8.toInt32)) ++ [(58 : Int32)]) ++ encB (cp.toInt8.toInt32)).length)), (.ref b42), (.ref t311)])) rfl (by rw [hml]; rfl) (argsL := [(.ref t311), (.ref b42), (.int (Int32.ofNat (((([] : List Int32) ++ encB (r4.toInt8.toInt32)) ++ [(58 : Int32)]) ++ encB (cp.toInt8.toInt32)).length)), (.int 3)]) (rest := []) (lenOf pd_34 rfl) rfl (by exact Nat.le_of_eq rfl) (hb hby at_321) (fun _ _ => ⟨rfl, hE328, (by decide : 20 + 0 ≤ _), (by decide : 199 + 0 ≤ _)⟩)
   dsimp only [Pt.U, Pt.locs, Pt.cells, Pt.slots] at X329 l329 y329 z329 st329 hQ329
   rw [l329, y329, z329] at X329
   obtain ⟨rfl, Nq329, hE329⟩ := hQ329
   have N329 := Fr.app N328 Nq329
   refine Go.st st329 ?_
   show Go p.tables e below Kx _ (mkF m 324 _ [(.int 1)])
   refine s_ifN (pc' := 327) X329.here hx (hb hby at_324) rfl ((if0 _ _).trans (feq (by decide)).1) ?_
   refine s_aload (pc' := 329) X329.here hx (hb hby at_327) rfl rfl rfl ?_
   refine s_aload (pc' := 331) X329.here hx (hb hby at_329) rfl rfl rfl ?_
   refine s_iload (pc' := 333) X329.here hx (hb hby at_331) rfl rfl ?_
   refine s_iconst (pc' := 334) (v := 4) X329.here hx (hb hby at_333) rfl rfl ?_
   obtain ⟨_, _, ⟨T330, L330, k330, n330⟩, -, X330, ⟨Lc330, hQ330, l330, y330, z330⟩, st330⟩ := Jvm.LawKit.callS X329 hx (y := yN5) hown311 (mvT hZ311 (hv hw 251 rfl)) (mvT hZ311 (hv hw 252 rfl)) (mvT hZ311 (hv hw 2 rfl)) (mvT hZ311 (hv hw 253 rfl)) (by decide) (backOf (W := 0) (rmDs l Z a0 hw [] t311 b42 _ _ (((([] : List Int32) ++ encB (r4.toInt8.toInt32)) ++ [(58 : Int32)]) ++ encB (cp.toInt8.toInt32)) 4 T311.heap n0 O311 q1_311 f315 (Nat.le_trans hp76 (by decide)) (by decide)) hZ311 (hv hw 253 rfl) (hv hw 2 rfl) (by decide) (by decide)) (g := (mkF m 334 #[vi p0, vi p1, vi p2, vi p3, vi p4, vi 0, vi 0, vi r4, vi r5, vi cp, vi dp, vr b8, vr b13, vr b20, vr b30, vr b42, .val (.int (Int32.ofNat (((([] : List Int32) ++ encB (r4.toInt8.toInt32)) ++ [(58 : Int32)]) ++ encB (cp.toInt8.toInt32)).length)), vr d137, vr t311] [(.int 4), (.int (Int32.ofNat (((([] : List Int32) ++ encB (r4.toInt8.toInt32)) ++ [(58 : Int32)]) ++ encB (cp.toInt8.toInt32)).length)), (.ref b42), (.ref t311)])) rfl (by rw [hml]; rfl) (argsL := [(.ref t311), (.ref b42), (.int (Int32.ofNat (((([] : List Int32) ++ encB (r4.toInt8.toInt32)) ++ [(58 : Int32)]) ++ encB (cp.toInt8.toInt32)).length)), (.int 4)]) (rest := []) (lenOf pd_34 rfl) rfl (by exact Nat.le_of_eq rfl) (hb hby at_334) (fun _ _ => ⟨rfl, hE329, (by decide : 20 + 0 ≤ _), (by decide : 199 + 0 ≤ _)⟩)
   dsimp only [Pt.U, Pt.locs, Pt.cells, Pt.slots] at X330 l330 y330 z330 st330 hQ330
   rw [l330, y330, z330] at X330
   obtain ⟨rfl, Nq330, hE330⟩ := hQ330
   have N330 := Fr.app N329 Nq330
   refine Go.st st330 ?_
   show Go p.tables e below Kx _ (mkF m 337 _ [(.int 1)])
   refine s_ifN (pc' := 340) X330.here hx (hb hby at_337) rfl ((if0 _ _).trans (feq (by decide)).1) ?_
   refine s_aload (pc' := 342) X330.here hx (hb hby at_340) rfl rfl rfl ?_
   refine s_aload (pc' := 344) X330.here hx (hb hby at_342) rfl rfl rfl ?_
   refine s_iload (pc' := 346) X330.here hx (hb hby at_344) rfl rfl ?_
   refine s_iconst (pc' := 347) (v := 5) X330.here hx (hb hby at_346) rfl rfl ?_
   obtain ⟨_, _, ⟨T331, L331, k331, n331⟩, -, X331, ⟨Lc331, hQ331, l331, y331, z331⟩, st331⟩ := Jvm.LawKit.callS X330 hx (y := yN5) hown311 (mvT hZ311 (hv hw 251 rfl)) (mvT hZ311 (hv hw 252 rfl)) (mvT hZ311 (hv hw 2 rfl)) (mvT hZ311 (hv hw 253 rfl)) (by decide) (backOf (W := 0) (rmDs l Z a0 hw [] t311 b42 _ _ (((([] : List Int32) ++ encB (r4.toInt8.toInt32)) ++ [(58 : Int32)]) ++ encB (cp.toInt8.toInt32)) 5 T311.heap n0 O311 q1_311 f315 (Nat.le_trans hp76 (by decide)) (by decide)) hZ311 (hv hw 253 rfl) (hv hw 2 rfl) (by decide) (by decide)) (g := (mkF m 347 #[vi p0, vi p1, vi p2, vi p3, vi p4, vi 0, vi 0, vi r4, vi r5, vi cp, vi dp, vr b8, vr b13, vr b20, vr b30, vr b42, .val (.int (Int32.ofNat (((([] : List Int32) ++ encB (r4.toInt8.toInt32)) ++ [(58 : Int32)]) ++ encB (cp.toInt8.toInt32)).length)), vr d137, vr t311] [(.int 5), (.int (Int32.ofNat (((([] : List Int32) ++ encB (r4.toInt8.toInt32)) ++ [(58 : Int32)]) ++ encB (cp.toInt8.toInt32)).length)), (.ref b42), (.ref t311)])) rfl (by rw [hml]; rfl) (argsL := [(.ref t311), (.ref b42), (.int (Int32.ofNat (((([] : List Int32) ++ encB (r4.toInt8.toInt32)) ++ [(58 : Int32)]) ++ encB (cp.toInt8.toInt32)).length)), (.int 5)]) (rest := []) (lenOf pd_34 rfl) rfl (by exact Nat.le_of_eq rfl) (hb hby at_347) (fun _ _ => ⟨rfl, hE330, (by decide : 20 + 0 ≤ _), (by decide : 199 + 0 ≤ _)⟩)
   dsimp only [Pt.U, Pt.locs, Pt.cells, Pt.slots] at X331 l331 y331 z331 st331 hQ331
   rw [l331, y331, z331] at X331
   obtain ⟨rfl, Nq331, hE331⟩ := hQ331
   have N331 := Fr.app N330 Nq331
   refine Go.st st331 ?_
   show Go p.tables e below Kx _ (mkF m 350 _ [(.int 1)])
   refine s_ifN (pc' := 353) X331.here hx (hb hby at_350) rfl ((if0 _ _).trans (feq (by decide)).1) ?_
   refine s_aload (pc' := 355) X331.here hx (hb hby at_353) rfl rfl rfl ?_
   refine s_aload (pc' := 357) X331.here hx (hb hby at_355) rfl rfl rfl ?_
   refine s_iload (pc' := 359) X331.here hx (hb hby at_357) rfl rfl ?_
   refine s_bipush (pc' := 361) (v := 6) X331.here hx (hb hby at_359) rfl rfl ?_
   obtain ⟨_, _, ⟨T332, L332, k332, n332⟩, -, X332, ⟨Lc332, hQ332, l332, y332, z332⟩, st332⟩ := Jvm.LawKit.callS X331 hx (y := yN5) hown311 (mvT hZ311 (hv hw 251 rfl)) (mvT hZ311 (hv hw 252 rfl)) (mvT hZ311 (hv hw 2 rfl)) (mvT hZ311 (hv hw 253 rfl)) (by decide) (backOf (W := 0) (rmDs l Z a0 hw [] t311 b42 _ _ (((([] : List Int32) ++ encB (r4.toInt8.toInt32)) ++ [(58 : Int32)]) ++ encB (cp.toInt8.toInt32)) 6 T311.heap n0 O311 q1_311 f315 (Nat.le_trans hp76 (by decide)) (by decide)) hZ311 (hv hw 253 rfl) (hv hw 2 rfl) (by decide) (by decide)) (g := (mkF m 361 #[vi p0, vi p1, vi p2, vi p3, vi p4, vi 0, vi 0, vi r4, vi r5, vi cp, vi dp, vr b8, vr b13, vr b20, vr b30, vr b42, .val (.int (Int32.ofNat (((([] : List Int32) ++ encB (r4.toInt8.toInt32)) ++ [(58 : Int32)]) ++ encB (cp.toInt8.toInt32)).length)), vr d137, vr t311] [(.int 6), (.int (Int32.ofNat (((([] : List Int32) ++ encB (r4.toInt8.toInt32)) ++ [(58 : Int32)]) ++ encB (cp.toInt8.toInt32)).length)), (.ref b42), (.ref t311)])) rfl (by rw [hml]; rfl) (argsL := [(.ref t311), (.ref b42), (.int (Int32.ofNat (((([] : List Int32) ++ encB (r4.toInt8.toInt32)) ++ [(58 : Int32)]) ++ encB (cp.toInt8.toInt32)).length)), (.int 6)]) (rest := []) (lenOf pd_34 rfl) rfl (by exact Nat.le_of_eq rfl) (hb hby at_361) (fun _ _ => ⟨rfl, hE331, (by decide : 20 + 0 ≤ _), (by decide : 199 + 0 ≤ _)⟩)
   dsimp only [Pt.U, Pt.locs, Pt.cells, Pt.slots] at X332 l332 y332 z332 st332 hQ332
   rw [l332, y332, z332] at X332
   obtain ⟨rfl, Nq332, hE332⟩ := hQ332
   have N332 := Fr.app N331 Nq332
   refine Go.st st332 ?_
   show Go p.tables e below Kx _ (mkF m 364 _ [(.int 1)])
   refine s_ifN (pc' := 367) X332.here hx (hb hby at_364) rfl ((if0 _ _).trans (feq (by decide)).1) ?_
   refine s_aload (pc' := 369) X332.here hx (hb hby at_367) rfl rfl rfl ?_
   refine s_aload (pc' := 371) X332.here hx (hb hby at_369) rfl rfl rfl ?_
   refine s_iload (pc' := 373) X332.here hx (hb hby at_371) rfl rfl ?_
   refine s_bipush (pc' := 375) (v := 7) X332.here hx (hb hby at_373) rfl rfl ?_
   obtain ⟨_, _, ⟨T333, L333, k333, n333⟩, -, X333, ⟨Lc333, hQ333, l333, y333, z333⟩, st333⟩ := Jvm.LawKit.callS X332 hx (y := yN5) hown311 (mvT hZ311 (hv hw 251 rfl)) (mvT hZ311 (hv hw 252 rfl)) (mvT hZ311 (hv hw 2 rfl)) (mvT hZ311 (hv hw 253 rfl)) (by decide) (backOf (W := 0) (rmDs l Z a0 hw [] t311 b42 _ _ (((([] : List Int32) ++ encB (r4.toInt8.toInt32)) ++ [(58 : Int32)]) ++ encB (cp.toInt8.toInt32)) 7 T311.heap n0 O311 q1_311 f315 (Nat.le_trans hp76 (by decide)) (by decide)) hZ311 (hv hw 253 rfl) (hv hw 2 rfl) (by decide) (by decide)) (g := (mkF m 375 #[vi p0, vi p1, vi p2, vi p3, vi p4, vi 0, vi 0, vi r4, vi r5, vi cp, vi dp, vr b8, vr b13, vr b20, vr b30, vr b42, .val (.int (Int32.ofNat (((([] : List Int32) ++ encB (r4.toInt8.toInt32)) ++ [(58 : Int32)]) ++ encB (cp.toInt8.toInt32)).length)), vr d137, vr t311] [(.int 7), (.int (Int32.ofNat (((([] : List Int32) ++ encB (r4.toInt8.toInt32)) ++ [(58 : Int32)]) ++ encB (cp.toInt8.toInt32)).length)), (.ref b42), (.ref t311)])) rfl (by rw [hml]; rfl) (argsL := [(.ref t311), (.ref b42), (.int (Int32.ofNat (((([] : List Int32) ++ encB (r4.toInt8.toInt32)) ++ [(58 : Int32)]) ++ encB (cp.toInt8.toInt32)).length)), (.int 7)]) (rest := []) (lenOf pd_34 rfl) rfl (by exact Nat.le_of_eq rfl) (hb hby at_375) (fun _ _ => ⟨rfl, hE332, (by decide : 20 + 0 ≤ _), (by decide : 199 + 0 ≤ _)⟩)
   dsimp only [Pt.U, Pt.locs, Pt.cells, Pt.slots] at X333 l333 y333 z333 st333 hQ333
   rw [l333, y333, z333] at X333
   obtain ⟨rfl, Nq333, hE333⟩ := hQ333
   have N333 := Fr.app N332 Nq333
   refine Go.st st333 ?_
   show Go p.tables e below Kx _ (mkF m 378 _ [(.int 1)])
   refine s_ifN (pc' := 381) X333.here hx (hb hby at_378) rfl ((if0 _ _).trans (feq (by decide)).1) ?_
   refine s_aload (pc' := 383) X333.here hx (hb hby at_381) rfl rfl rfl ?_
   refine s_aload (pc' := 385) X333.here hx (hb hby at_383) rfl rfl rfl ?_
   refine s_iload (pc' := 387) X333.here hx (hb hby at_385) rfl rfl ?_
   refine s_bipush (pc' := 389) (v := 8) X333.here hx (hb hby at_387) rfl rfl ?_
   obtain ⟨_, _, ⟨T334, L334, k334, n334⟩, -, X334, ⟨Lc334, hQ334, l334, y334, z334⟩, st334⟩ := Jvm.LawKit.callS X333 hx (y := yN5) hown311 (mvT hZ311 (hv hw 251 rfl)) (mvT hZ311 (hv hw 252 rfl)) (mvT hZ311 (hv hw 2 rfl)) (mvT hZ311 (hv hw 253 rfl)) (by decide) (backOf (W := 0) (rmDs l Z a0 hw [] t311 b42 _ _ (((([] : List Int32) ++ encB (r4.toInt8.toInt32)) ++ [(58 : Int32)]) ++ encB (cp.toInt8.toInt32)) 8 T311.heap n0 O311 q1_311 f315 (Nat.le_trans hp76 (by decide)) (by decide)) hZ311 (hv hw 253 rfl) (hv hw 2 rfl) (by decide) (by decide)) (g := (mkF m 389 #[vi p0, vi p1, vi p2, vi p3, vi p4, vi 0, vi 0, vi r4, vi r5, vi cp, vi dp, vr b8, vr b13, vr b20, vr b30, vr b42, .val (.int (Int32.ofNat (((([] : List Int32) ++ encB (r4.toInt8.toInt32)) ++ [(58 : Int32)]) ++ encB (cp.toInt8.toInt32)).length)), vr d137, vr t311] [(.int 8), (.int (Int32.ofNat (((([] : List Int32) ++ encB (r4.toInt8.toInt32)) ++ [(58 : Int32)]) ++ encB (cp.toInt8.toInt32)).length)), (.ref b42), (.ref t311)])) rfl (by rw [hml]; rfl) (argsL := [(.ref t311), (.ref b42), (.int (Int32.ofNat (((([] : List Int32) ++ encB (r4.toInt8.toInt32)) ++ [(58 : Int32)]) ++ encB (cp.toInt8.toInt32)).length)), (.int 8)]) (rest := []) (lenOf pd_34 rfl) rfl (by exact Nat.le_of_eq rfl) (hb hby at_389) (fun _ _ => ⟨rfl, hE333, (by decide : 20 + 0 ≤ _), (by decide : 199 + 0 ≤ _)⟩)
   dsimp only [Pt.U, Pt.locs, Pt.cells, Pt.slots] at X334 l334 y334 z334 st334 hQ334
   rw [l334, y334, z334] at X334
   obtain ⟨rfl, Nq334, hE334⟩ := hQ334
   have N334 := Fr.app N333 Nq334
   refine Go.st st334 ?_
   show Go p.tables e below Kx _ (mkF m 392 _ [(.int 1)])
   refine s_ifN (pc' := 395) X334.here hx (hb hby at_392) rfl ((if0 _ _).trans (feq (by decide)).1) ?_
   refine s_iconst (pc' := 396) (v := 1) X334.here hx (hb hby at_395) rfl rfl ?_
   refine s_goto (pc' := 400) X334.here hx (hb hby at_396) (by decide) (by decide) ?_
   obtain ⟨fs, hr, hrun, hended, hRW⟩ := X334.leaveW hS311 (by rw [hE334]; exact hk311) (v := (some (.int 1))) (fun h => by rw [Bd.returns] at h; cases h)
   have hCx := C311.trans (CHv.at X334 hZ311 hEL Cr311.1)
   refine Go.fin (retN X334 hx (t := .boolean) Bd.returns (by simp) (hb hby at_400) hr) (hF _ _ hrun hended ⟨_, _, rfl, ?_, ?_, hRW.1, hRW.2.1, hRW.2.2.1, hRW.2.2.2.mono (by decide) (by decide)⟩)
   ·
    show QL Z p0 p1 p2 p3 p4 u8 h0 n0 ((some (.int 1)) : Option Value) T334.heap _
    rw [hE334]
    exact ⟨rfl, N334⟩
   ·
    show CHr Z consts_1 s.vm s.heap T334.vm T334.heap
    rw [hE334, hh]; exact hCx
  ·
   refine s_ifN (pc' := 21) X0.here hx (hb hby at_18) rfl ((if0 _ _).trans (feq hc3).1) ?_
   refine s_iconst (pc' := 22) (v := 1) X0.here hx (hb hby at_21) rfl rfl ?_
   refine s_goto (pc' := 26) X0.here hx (hb hby at_22) (by decide) (by decide) ?_
   refine s_istore (pc' := 28) (Ls' := #[vi p0, vi p1, vi p2, vi p3, vi p4, vi 0, vi 1, un, un, un, un, un, un, un, un, un, un, un, un]) X0.here hx (hb hby at_26) rfl  rfl ?_
   refine s_iloadN (pc' := 29) X0.here hx (hb hby at_28) rfl rfl ?_
   obtain ⟨_, _, ⟨T335, L335, k335, n335⟩, -, X335, ⟨Lc335, hQ335, l335, y335, z335⟩, st335⟩ := Jvm.LawKit.callS X0 hx (y := yN6) hown (mvT hZ (hv hw 0 rfl)) (mvT hZ (hv hw 1 rfl)) (mvT hZ (hv hw 2 rfl)) (mvT hZ (hv hw 3 rfl)) (by decide) (backOf (W := 0) (rmU l Z a0 hw [] p0 h0 n0 X00 ) hZ (hv hw 3 rfl) (hv hw 2 rfl) (by decide) (by decide)) (g := (mkF m 29 #[vi p0, vi p1, vi p2, vi p3, vi p4, vi 0, vi 1, un, un, un, un, un, un, un, un, un, un, un, un] [(.int p0)])) rfl (by rw [hml]; rfl) (argsL := [(.int p0)]) (rest := []) (lenOf pd_0 rfl) rfl (by exact Nat.le_of_eq rfl) (hb hby at_29) (fun _ _ => ⟨rfl, e0, (by decide : 0 + 0 ≤ _), (by decide : 0 + 0 ≤ _)⟩)
   dsimp only [Pt.U, Pt.locs, Pt.cells, Pt.slots] at X335 l335 y335 z335 st335 hQ335
   rw [l335, y335, z335] at X335
   obtain ⟨⟨r335, rfl, hr335⟩, Nq335, hE335⟩ := hQ335
   have N335 := Fr.app N0 Nq335
   refine Go.st st335 ?_
   show Go p.tables e below Kx _ (mkF m 32 _ [(.int r335)])
   refine s_istore (pc' := 34) (Ls' := #[vi p0, vi p1, vi p2, vi p3, vi p4, vi 0, vi 1, vi r335, un, un, un, un, un, un, un, un, un, un, un]) X335.here hx (hb hby at_32) rfl  rfl ?_
   refine s_iloadN (pc' := 35) X335.here hx (hb hby at_34) rfl rfl ?_
   obtain ⟨_, _, ⟨T336, L336, k336, n336⟩, -, X336, ⟨Lc336, hQ336, l336, y336, z336⟩, st336⟩ := Jvm.LawKit.callS X335 hx (y := yN6) hown (mvT hZ (hv hw 0 rfl)) (mvT hZ (hv hw 1 rfl)) (mvT hZ (hv hw 2 rfl)) (mvT hZ (hv hw 3 rfl)) (by decide) (backOf (W := 0) (rmU l Z a0 hw [] p1 h0 n0 X00 ) hZ (hv hw 3 rfl) (hv hw 2 rfl) (by decide) (by decide)) (g := (mkF m 35 #[vi p0, vi p1, vi p2, vi p3, vi p4, vi 0, vi 1, vi r335, un, un, un, un, un, un, un, un, un, un, un] [(.int p1)])) rfl (by rw [hml]; rfl) (argsL := [(.int p1)]) (rest := []) (lenOf pd_0 rfl) rfl (by exact Nat.le_of_eq rfl) (hb hby at_35) (fun _ _ => ⟨rfl, hE335, (by decide : 0 + 0 ≤ _), (by decide : 0 + 0 ≤ _)⟩)
   dsimp only [Pt.U, Pt.locs, Pt.cells, Pt.slots] at X336 l336 y336 z336 st336 hQ336
   rw [l336, y336, z336] at X336
   obtain ⟨⟨r336, rfl, hr336⟩, Nq336, hE336⟩ := hQ336
   have N336 := Fr.app N335 Nq336
   refine Go.st st336 ?_
   show Go p.tables e below Kx _ (mkF m 38 _ [(.int r336)])
   refine s_istore (pc' := 40) (Ls' := #[vi p0, vi p1, vi p2, vi p3, vi p4, vi 0, vi 1, vi r335, vi r336, un, un, un, un, un, un, un, un, un, un]) X336.here hx (hb hby at_38) rfl  rfl ?_
   refine s_iloadN (pc' := 41) X336.here hx (hb hby at_40) rfl rfl ?_
   refine s_sipush (pc' := 44) (v := 255) X336.here hx (hb hby at_41) rfl rfl ?_
   refine s_iand (pc' := 45) X336.here hx (hb hby at_44) rfl rfl ?_
   have ch337 := chr_mask p2
   refine s_i2c (pc' := 46) (z := (p2 &&& 255)) X336.here hx (hb hby at_45) rfl (chr_i2c ch337) ?_
   have hcp : ¬ (p2 &&& 255) < 0 ∧ ¬ 255 < (p2 &&& 255) := chr_mask p2
   revert hcp
   generalize (p2 &&& 255) = cp
   intro hcp
   show Go p.tables e below Kx _ (mkF m 46 _ [(.int cp)])
   refine s_istore (pc' := 48) (Ls' := #[vi p0, vi p1, vi p2, vi p3, vi p4, vi 0, vi 1, vi r335, vi r336, vi cp, un, un, un, un, un, un, un, un, un]) X336.here hx (hb hby at_46) rfl  rfl ?_
   refine s_iloadN (pc' := 49) X336.here hx (hb hby at_48) rfl rfl ?_
   refine s_sipush (pc' := 52) (v := 255) X336.here hx (hb hby at_49) rfl rfl ?_
   refine s_iand (pc' := 53) X336.here hx (hb hby at_52) rfl rfl ?_
   have ch338 := chr_mask p3
   refine s_i2c (pc' := 54) (z := (p3 &&& 255)) X336.here hx (hb hby at_53) rfl (chr_i2c ch338) ?_
   have hdp : ¬ (p3 &&& 255) < 0 ∧ ¬ 255 < (p3 &&& 255) := chr_mask p3
   revert hdp
   generalize (p3 &&& 255) = dp
   intro hdp
   show Go p.tables e below Kx _ (mkF m 54 _ [(.int dp)])
   refine s_istore (pc' := 56) (Ls' := #[vi p0, vi p1, vi p2, vi p3, vi p4, vi 0, vi 1, vi r335, vi r336, vi cp, vi dp, un, un, un, un, un, un, un, un]) X336.here hx (hb hby at_54) rfl  rfl ?_
   refine s_iload (pc' := 58) X336.here hx (hb hby at_56) rfl rfl ?_
   refine s_ifY (pc' := 81) X336.here hx (hb hby at_58) ((if0 _ _).trans (teq (by decide)).1) (by decide) (by decide) ?_
   refine s_iconst (pc' := 82) (v := 1) X336.here hx (hb hby at_81) rfl rfl ?_
   obtain ⟨T339, h339, k339, X339, e339, E339, A339, st339⟩ := newP X336 hx hZ (hv hw 4 rfl) hE336 (g := (mkF m 82 #[vi p0, vi p1, vi p2, vi p3, vi p4, vi 0, vi 1, vi r335, vi r336, vi cp, vi dp, un, un, un, un, un, un, un, un] [(.int 1)])) rfl (hb hby at_82) rfl (by decide) (cap := 1) (by decide) (by decide) (by decide) (by decide)
   obtain ⟨b339, g339⟩ : ∃ z, z = h0.size := ⟨_, rfl⟩
   rw [← g339] at A339 st339
   have sz339 : h0.size ≤ b339 := Nat.le_trans K0.1 (Nat.le_of_eq g339.symm)
   have ge339 : n0 ≤ b339 := Nat.le_trans (X00.1 ▸ X00.2.1) (Nat.le_of_eq g339.symm)
   have sn339 : Safe Z consts_1 s.vm h0 b339 := Safe.new (Nat.le_of_eq g339.symm)
   have K339 : Keep h0 h339 [] := K0.ext E339
   have O339 : Old Z n0 h339 := X00.ext E339
   have sf340 : Safe Z consts_1 s.vm h339 b339 := (Safe.ext E339 H0 sn339)
   have H339 : CHv Z consts_1 s.vm h339 := H0.ext E339
   have C339 : CHr Z consts_1 s.vm h0 s.vm h339 := C0.trans (CHr.ext E339 H0)
   have hk339 := Nat.le_trans hk0 E339.1
   have V339 : Arv Z h339 b339 k339 .char 1 [(.int 0)] (.int 0) := (Arv.new A339 (by decide)).pad (pad_rep [] (.int 0) 1)
   refine Go.st st339 ?_
   show Go p.tables e below Kx _ (mkF m 84 _ [(.ref b339)])
   refine s_astore (pc' := 86) (Ls' := #[vi p0, vi p1, vi p2, vi p3, vi p4, vi 0, vi 1, vi r335, vi r336, vi cp, vi dp, vr b339, un, un, un, un, un, un, un]) X339.here hx (hb hby at_84) rfl rfl rfl ?_
   refine s_aload (pc' := 88) X339.here hx (hb hby at_86) rfl rfl rfl ?_
   refine s_iconst (pc' := 89) (v := 0) X339.here hx (hb hby at_88) rfl rfl ?_
   refine s_iload (pc' := 91) X339.here hx (hb hby at_89) rfl rfl ?_
   obtain ⟨cl341, Ar341, Aq341, As341, An341, Ah341, Ag341⟩ := id V339
   have in342 := inb_of (j := 0) As341 (by decide)
   obtain ⟨T342, h342, X342, e342, W342, st342⟩ := stC X339 hx hZ e339 Ar341 (j := 0) in342 (g := (mkF m 91 #[vi p0, vi p1, vi p2, vi p3, vi p4, vi 0, vi 1, vi r335, vi r336, vi cp, vi dp, vr b339, un, un, un, un, un, un, un] [(.int r335), (.int 0), (.ref b339)])) rfl rfl (hb hby at_91)
   have V342 : Arv Z h342 b339 k339 .char 1 [(.int r335)] (.int 0) := by
    have q := Arv.set Ar341 Aq341 As341 An341 Ah341 Ag341 (fits_nar_char _) W342 0 rfl (Nat.le_of_ble_eq_true rfl)
    rw [chr_nar hr335.1] at q; exact q
   have K342 : Keep h0 h342 [] := K339.wr W342 (Or.inr sz339)
   have O342 : Old Z n0 h342 := O339.wr W342 ge339
   have sf343 : Safe Z consts_1 s.vm h342 b339 := (Safe.wr W342 sf340 H339 sf340)
   have H342 : CHv Z consts_1 s.vm h342 := H339.wr W342 sf340
   have C342 : CHr Z consts_1 s.vm h0 s.vm h342 := C339.trans (CHr.wr W342 sf340 H339)
   have hk342 := Nat.le_trans hk339 (Nat.le_of_eq W342.size.symm)
   have N342 := Fr.snoc X342 N336 ge339
   refine Go.st st342 ?_
   show Go p.tables e below Kx _ (mkF m 92 _ [])
   refine s_iload (pc' := 94) X342.here hx (hb hby at_92) rfl rfl ?_
   refine s_ifN (pc' := 97) X342.here hx (hb hby at_94) rfl ((if0 _ _).trans (feq (by decide)).1) ?_
   refine s_iconst (pc' := 98) (v := 2) X342.here hx (hb hby at_97) rfl rfl ?_
   obtain ⟨T344, h344, k344, X344, e344, E344, A344, st344⟩ := newP X342 hx hZ (hv hw 4 rfl) e342 (g := (mkF m 98 #[vi p0, vi p1, vi p2, vi p3, vi p4, vi 0, vi 1, vi r335, vi r336, vi cp, vi dp, vr b339, un, un, un, un, un, un, un] [(.int 2)])) rfl (hb hby at_98) rfl (by decide) (cap := 2) (by decide) (by decide) (by decide) (by decide)
   obtain ⟨b344, g344⟩ : ∃ z, z = h342.size := ⟨_, rfl⟩
   rw [← g344] at A344 st344
   have sz344 : h0.size ≤ b344 := Nat.le_trans K342.1 (Nat.le_of_eq g344.symm)
   have ge344 : n0 ≤ b344 := Nat.le_trans (O342.1 ▸ O342.2.1) (Nat.le_of_eq g344.symm)
   have sn344 : Safe Z consts_1 s.vm h342 b344 := Safe.new (Nat.le_of_eq g344.symm)
   have K344 : Keep h0 h344 [] := K342.ext E344
   have O344 : Old Z n0 h344 := O342.ext E344
   have sf345 : Safe Z consts_1 s.vm h344 b339 := (Safe.ext E344 H342 sf343)
   have sf346 : Safe Z consts_1 s.vm h344 b344 := (Safe.ext E344 H342 sn344)
   have H344 : CHv Z consts_1 s.vm h344 := H342.ext E344
   have C344 : CHr Z consts_1 s.vm h0 s.vm h344 := C342.trans (CHr.ext E344 H342)
   have hk344 := Nat.le_trans hk342 E344.1
   have V344 : Arv Z h344 b344 k344 .char 2 [(.int 0), (.int 0)] (.int 0) := (Arv.new A344 (by decide)).pad (pad_rep [] (.int 0) 2)
   refine Go.st st344 ?_
   show Go p.tables e below Kx _ (mkF m 100 _ [(.ref b344)])
   refine s_astore (pc' := 102) (Ls' := #[vi p0, vi p1, vi p2, vi p3, vi p4, vi 0, vi 1, vi r335, vi r336, vi cp, vi dp, vr b339, vr b344, un, un, un, un, un, un]) X344.here hx (hb hby at_100) rfl rfl rfl ?_
   refine s_aload (pc' := 104) X344.here hx (hb hby at_102) rfl rfl rfl ?_
   refine s_iconst (pc' := 105) (v := 0) X344.here hx (hb hby at_104) rfl rfl ?_
   refine s_iload (pc' := 107) X344.here hx (hb hby at_105) rfl rfl ?_
   obtain ⟨cl347, Ar347, Aq347, As347, An347, Ah347, Ag347⟩ := id V344
   have in348 := inb_of (j := 0) As347 (by decide)
   obtain ⟨T348, h348, X348, e348, W348, st348⟩ := stC X344 hx hZ e344 Ar347 (j := 0) in348 (g := (mkF m 107 #[vi p0, vi p1, vi p2, vi p3, vi p4, vi 0, vi 1, vi r335, vi r336, vi cp, vi dp, vr b339, vr b344, un, un, un, un, un, un] [(.int cp), (.int 0), (.ref b344)])) rfl rfl (hb hby at_107)
   have V348 : Arv Z h348 b344 k344 .char 2 [(.int cp), (.int 0)] (.int 0) := by
    have q := Arv.set Ar347 Aq347 As347 An347 Ah347 Ag347 (fits_nar_char _) W348 0 rfl (Nat.le_of_ble_eq_true rfl)
    rw [chr_nar hcp] at q; exact q
   have K348 : Keep h0 h348 [] := K344.wr W348 (Or.inr sz344)
   have O348 : Old Z n0 h348 := O344.wr W348 ge344
   have sf349 : Safe Z consts_1 s.vm h348 b339 := (Safe.wr W348 sf346 H344 sf345)
   have sf350 : Safe Z consts_1 s.vm h348 b344 := (Safe.wr W348 sf346 H344 sf346)
   have H348 : CHv Z consts_1 s.vm h348 := H344.wr W348 sf346
   have C348 : CHr Z consts_1 s.vm h0 s.vm h348 := C344.trans (CHr.wr W348 sf346 H344)
   have hk348 := Nat.le_trans hk344 (Nat.le_of_eq W348.size.symm)
   have N348 := Fr.snoc X348 N342 ge344
   refine Go.st st348 ?_
   show Go p.tables e below Kx _ (mkF m 108 _ [])
   refine s_aload (pc' := 110) X348.here hx (hb hby at_108) rfl rfl rfl ?_
   refine s_iconst (pc' := 111) (v := 1) X348.here hx (hb hby at_110) rfl rfl ?_
   refine s_iload (pc' := 113) X348.here hx (hb hby at_111) rfl rfl ?_
   obtain ⟨cl351, Ar351, Aq351, As351, An351, Ah351, Ag351⟩ := id V348
   have in352 := inb_of (j := 1) As351 (by decide)
   obtain ⟨T352, h352, X352, e352, W352, st352⟩ := stC X348 hx hZ e348 Ar351 (j := 1) in352 (g := (mkF m 113 #[vi p0, vi p1, vi p2, vi p3, vi p4, vi 0, vi 1, vi r335, vi r336, vi cp, vi dp, vr b339, vr b344, un, un, un, un, un, un] [(.int dp), (.int 1), (.ref b344)])) rfl rfl (hb hby at_113)
   have V352 : Arv Z h352 b344 k344 .char 2 [(.int cp), (.int dp)] (.int 0) := by
    have q := Arv.set Ar351 Aq351 As351 An351 Ah351 Ag351 (fits_nar_char _) W352 1 rfl (Nat.le_of_ble_eq_true rfl)
    rw [chr_nar hdp] at q; exact q
   have K352 : Keep h0 h352 [] := K348.wr W352 (Or.inr sz344)
   have O352 : Old Z n0 h352 := O348.wr W352 ge344
   have sf353 : Safe Z consts_1 s.vm h352 b339 := (Safe.wr W352 sf350 H348 sf349)
   have sf354 : Safe Z consts_1 s.vm h352 b344 := (Safe.wr W352 sf350 H348 sf350)
   have H352 : CHv Z consts_1 s.vm h352 := H348.wr W352 sf350
   have C352 : CHr Z consts_1 s.vm h0 s.vm h352 := C348.trans (CHr.wr W352 sf350 H348)
   have hk352 := Nat.le_trans hk348 (Nat.le_of_eq W352.size.symm)
   have N352 := Fr.snoc X352 N348 ge344
   refine Go.st st352 ?_
   show Go p.tables e below Kx _ (mkF m 114 _ [])
   refine s_goto (pc' := 128) X352.here hx (hb hby at_114) (by decide) (by decide) ?_
   obtain ⟨T355, h355, X355, e355, E355, A355, D355, -, st355⟩ := newO X352 hx hZ hown (hv hw 5 rfl) (hv hw 6 rfl) (hv hw 7 rfl) e352 (g := (mkF m 128 #[vi p0, vi p1, vi p2, vi p3, vi p4, vi 0, vi 1, vi r335, vi r336, vi cp, vi dp, vr b339, vr b344, un, un, un, un, un, un] [])) rfl (hb hby at_128) (by decide) (by decide)
   obtain ⟨b355, g355⟩ : ∃ z, z = h352.size := ⟨_, rfl⟩
   rw [← g355] at A355 D355 st355
   have sz355 : h0.size ≤ b355 := Nat.le_trans K352.1 (Nat.le_of_eq g355.symm)
   have ge355 : n0 ≤ b355 := Nat.le_trans (O352.1 ▸ O352.2.1) (Nat.le_of_eq g355.symm)
   have sn355 : Safe Z consts_1 s.vm h352 b355 := Safe.new (Nat.le_of_eq g355.symm)
   have K355 : Keep h0 h355 [] := K352.ext E355
   have O355 : Old Z n0 h355 := O352.ext E355
   have sf356 : Safe Z consts_1 s.vm h355 b339 := (Safe.ext E355 H352 sf353)
   have sf357 : Safe Z consts_1 s.vm h355 b344 := (Safe.ext E355 H352 sf354)
   have sf358 : Safe Z consts_1 s.vm h355 b355 := (Safe.ext E355 H352 sn355)
   have H355 : CHv Z consts_1 s.vm h355 := H352.ext E355
   have C355 : CHr Z consts_1 s.vm h0 s.vm h355 := C352.trans (CHr.ext E355 H352)
   have hk355 := Nat.le_trans hk352 E355.1
   have F355_coder : Fld Z h355 b355 "java/lang/String" "coder" "B" (.int 0) := D355 (Or.inr (hv hw 31 rfl)) (ty := .byte) (by decide)
   have F355_value : Fld Z h355 b355 "java/lang/String" "value" "[B" .null := D355 (Or.inr (hv hw 33 rfl)) (ty := (.array .byte)) (by decide)
   refine Go.st st355 ?_
   show Go p.tables e below Kx _ (mkF m 131 _ [(.ref b355)])
   refine s_dup (pc' := 132) X355.here hx (hb hby at_131) rfl rfl ?_
   refine s_aload (pc' := 134) X355.here hx (hb hby at_132) rfl rfl rfl ?_
   have hp359 : ∀ c ∈ ([r335] : List Int32), ¬ c < 0 ∧ ¬ 255 < c := by
    intro c hc
    simp only [List.mem_cons, List.not_mem_nil, or_false] at hc
    rcases hc with rfl
    ·
     exact hr335.1
   have f360 : Arv Z h355 b339 k339 .char 1 [(.int r335)] (.int 0) := ((((V342.ext E344).other W348 (Nat.ne_of_lt (Nat.lt_of_lt_of_le (Nat.lt_of_lt_of_le A339.lt (Nat.le_of_eq W342.size.symm)) (Nat.le_of_eq g344.symm)))).other W352 (Nat.ne_of_lt (Nat.lt_of_lt_of_le (Nat.lt_of_lt_of_le A339.lt (Nat.le_of_eq W342.size.symm)) (Nat.le_of_eq g344.symm)))).ext E355)
   obtain ⟨_, _, ⟨T361, L361, k361, n361⟩, -, X361, ⟨Lc361, hQ361, l361, y361, z361⟩, st361⟩ := X355.specialBack hx (y := yN19) rfl hown (mvT hZ (hv hw 8 rfl)) (mvT hZ (hv hw 9 rfl)) (mvT hZ (hv hw 10 rfl)) (by decide) (StrChars.Road.backV (W := 1) hZ (hwsV Z a0 hw) (kI := 4) (hv hw 6 rfl) (cs := [r335]) (bs := ([r335] : List Int32).map (fun c => c.toInt8.toInt32)) (n := 1) ge355 (O355.1 ▸ O355.2.1) A355 F355_value F355_coder f360 (S1.ext O355.2) P1 rfl rfl (by decide) (by decide) hp359 rfl (by decide) (by decide)) (g := (mkF m 134 #[vi p0, vi p1, vi p2, vi p3, vi p4, vi 0, vi 1, vi r335, vi r336, vi cp, vi dp, vr b339, vr b344, un, un, un, un, un, un] [(.ref b339), (.ref b355), (.ref b355)])) rfl (by rw [hml]; rfl) (Steps.refl _) (a := b355) (argsL := [(.ref b339)]) (rest := [(.ref b355)]) (lenOf pd_1 rfl) rfl (by exact Nat.le_of_eq rfl) (hb hby at_134) (fun _ _ => ⟨rfl, e355, (by decide : 3 + 1 ≤ _), (by decide : 7 + 1 ≤ _)⟩)
   dsimp only [Pt.U, Pt.locs, Pt.cells, Pt.slots] at X361 l361 y361 z361 st361 hQ361
   rw [l361, y361, z361] at X361
   obtain ⟨rfl, Nq361, Kq361, q1_361, q2_361, t361, kt361, -, -, -, q3_361, q4_361⟩ := hQ361
   have N361 := Fr.app N352 Nq361
   have K361 : Keep h0 T361.heap [] := K355.trans Kq361 (allS (P := fun zz => zz ∈ [] ∨ h0.size ≤ zz) (Or.inr sz355) all0)
   have O361 : Old Z n0 T361.heap := O355.keep Kq361 (allS ge355 all0)
   have sf362 : Safe Z consts_1 s.vm T361.heap b339 := (Safe.keep Kq361 (sfS sf358 sf0) H355 sf356)
   have sf363 : Safe Z consts_1 s.vm T361.heap b344 := (Safe.keep Kq361 (sfS sf358 sf0) H355 sf357)
   have sf364 : Safe Z consts_1 s.vm T361.heap b355 := (Safe.keep Kq361 (sfS sf358 sf0) H355 sf358)
   have H361 : CHv Z consts_1 s.vm T361.heap := H355.keep Kq361 (sfS sf358 sf0)
   have C361 : CHr Z consts_1 s.vm h0 s.vm T361.heap := C355.trans (CHr.keep Kq361 (sfS sf358 sf0) H355)
   have hk361 := Nat.le_trans hk355 Kq361.1
   refine Go.tr st361 ?_
   show Go p.tables e below Kx _ (mkF m 137 _ [(.ref b355)])
   have St361 : Str Z T361.heap T361.heap.size b355 [r335] := Str.of q1_361 q2_361 q3_361 q4_361 rfl rfl hp359 (Nat.le_of_ble_eq_true rfl)
   refine s_astore (pc' := 139) (Ls' := #[vi p0, vi p1, vi p2, vi p3, vi p4, vi 0, vi 1, vi r335, vi r336, vi cp, vi dp, vr b339, vr b344, vr b355, un, un, un, un, un]) X361.here hx (hb hby at_137) rfl rfl rfl ?_
   obtain ⟨T365, h365, X365, e365, E365, A365, D365, -, st365⟩ := newO X361 hx hZ hown (hv hw 5 rfl) (hv hw 6 rfl) (hv hw 7 rfl) rfl (g := (mkF m 139 #[vi p0, vi p1, vi p2, vi p3, vi p4, vi 0, vi 1, vi r335, vi r336, vi cp, vi dp, vr b339, vr b344, vr b355, un, un, un, un, un] [])) rfl (hb hby at_139) (by decide) (by decide)
   obtain ⟨b365, g365⟩ : ∃ z, z = T361.heap.size := ⟨_, rfl⟩
   rw [← g365] at A365 D365 st365
   have sz365 : h0.size ≤ b365 := Nat.le_trans K361.1 (Nat.le_of_eq g365.symm)
   have ge365 : n0 ≤ b365 := Nat.le_trans (O361.1 ▸ O361.2.1) (Nat.le_of_eq g365.symm)
   have sn365 : Safe Z consts_1 s.vm T361.heap b365 := Safe.new (Nat.le_of_eq g365.symm)
   have K365 : Keep h0 h365 [] := K361.ext E365
   have O365 : Old Z n0 h365 := O361.ext E365
   have sf366 : Safe Z consts_1 s.vm h365 b339 := (Safe.ext E365 H361 sf362)
   have sf367 : Safe Z consts_1 s.vm h365 b344 := (Safe.ext E365 H361 sf363)
   have sf368 : Safe Z consts_1 s.vm h365 b355 := (Safe.ext E365 H361 sf364)
   have sf369 : Safe Z consts_1 s.vm h365 b365 := (Safe.ext E365 H361 sn365)
   have H365 : CHv Z consts_1 s.vm h365 := H361.ext E365
   have C365 : CHr Z consts_1 s.vm h0 s.vm h365 := C361.trans (CHr.ext E365 H361)
   have hk365 := Nat.le_trans hk361 E365.1
   have F365_coder : Fld Z h365 b365 "java/lang/String" "coder" "B" (.int 0) := D365 (Or.inr (hv hw 31 rfl)) (ty := .byte) (by decide)
   have F365_value : Fld Z h365 b365 "java/lang/String" "value" "[B" .null := D365 (Or.inr (hv hw 33 rfl)) (ty := (.array .byte)) (by decide)
   refine Go.st st365 ?_
   show Go p.tables e below Kx _ (mkF m 142 _ [(.ref b365)])
   refine s_dup (pc' := 143) X365.here hx (hb hby at_142) rfl rfl ?_
   refine s_aload (pc' := 145) X365.here hx (hb hby at_143) rfl rfl rfl ?_
   have hp370 : ∀ c ∈ ([cp, dp] : List Int32), ¬ c < 0 ∧ ¬ 255 < c := by
    intro c hc
    simp only [List.mem_cons, List.not_mem_nil, or_false] at hc
    rcases hc with rfl | rfl
    ·
     exact hcp
    ·
     exact hdp
   have f371 : Arv Z h365 b344 k344 .char 2 [(.int cp), (.int dp)] (.int 0) := (((V352.ext E355).keep Kq361 (ninS (Nat.ne_of_lt (Nat.lt_of_lt_of_le (Nat.lt_of_lt_of_le A344.lt (Nat.le_trans (Nat.le_of_eq W348.size.symm) (Nat.le_of_eq W352.size.symm))) (Nat.le_of_eq g355.symm))) nin0)).ext E365)
   obtain ⟨_, _, ⟨T372, L372, k372, n372⟩, -, X372, ⟨Lc372, hQ372, l372, y372, z372⟩, st372⟩ := X365.specialBack hx (y := yN19) rfl hown (mvT hZ (hv hw 8 rfl)) (mvT hZ (hv hw 9 rfl)) (mvT hZ (hv hw 10 rfl)) (by decide) (StrChars.Road.backV (W := 1) hZ (hwsV Z a0 hw) (kI := 4) (hv hw 6 rfl) (cs := [cp, dp]) (bs := ([cp, dp] : List Int32).map (fun c => c.toInt8.toInt32)) (n := 2) ge365 (O365.1 ▸ O365.2.1) A365 F365_value F365_coder f371 (S1.ext O365.2) P1 rfl rfl (by decide) (by decide) hp370 rfl (by decide) (by decide)) (g := (mkF m 145 #[vi p0, vi p1, vi p2, vi p3, vi p4, vi 0, vi 1, vi r335, vi r336, vi cp, vi dp, vr b339, vr b344, vr b355, un, un, un, un, un] [(.ref b344), (.ref b365), (.ref b365)])) rfl (by rw [hml]; rfl) (Steps.refl _) (a := b365) (argsL := [(.ref b344)]) (rest := [(.ref b365)]) (lenOf pd_1 rfl) rfl (by exact Nat.le_of_eq rfl) (hb hby at_145) (fun _ _ => ⟨rfl, e365, (by decide : 5 + 1 ≤ _), (by decide : 12 + 2 ≤ _)⟩)
   dsimp only [Pt.U, Pt.locs, Pt.cells, Pt.slots] at X372 l372 y372 z372 st372 hQ372
   rw [l372, y372, z372] at X372
   obtain ⟨rfl, Nq372, Kq372, q1_372, q2_372, t372, kt372, -, -, -, q3_372, q4_372⟩ := hQ372
   have N372 := Fr.app N361 Nq372
   have K372 : Keep h0 T372.heap [] := K365.trans Kq372 (allS (P := fun zz => zz ∈ [] ∨ h0.size ≤ zz) (Or.inr sz365) all0)
   have O372 : Old Z n0 T372.heap := O365.keep Kq372 (allS ge365 all0)
   have sf373 : Safe Z consts_1 s.vm T372.heap b339 := (Safe.keep Kq372 (sfS sf369 sf0) H365 sf366)
   have sf374 : Safe Z consts_1 s.vm T372.heap b344 := (Safe.keep Kq372 (sfS sf369 sf0) H365 sf367)
   have sf375 : Safe Z consts_1 s.vm T372.heap b355 := (Safe.keep Kq372 (sfS sf369 sf0) H365 sf368)
   have sf376 : Safe Z consts_1 s.vm T372.heap b365 := (Safe.keep Kq372 (sfS sf369 sf0) H365 sf369)
   have H372 : CHv Z consts_1 s.vm T372.heap := H365.keep Kq372 (sfS sf369 sf0)
   have C372 : CHr Z consts_1 s.vm h0 s.vm T372.heap := C365.trans (CHr.keep Kq372 (sfS sf369 sf0) H365)
   have hk372 := Nat.le_trans hk365 Kq372.1
   refine Go.tr st372 ?_
   show Go p.tables e below Kx _ (mkF m 148 _ [(.ref b365)])
   have St372 : Str Z T372.heap T372.heap.size b365 [cp, dp] := Str.of q1_372 q2_372 q3_372 q4_372 rfl rfl hp370 (Nat.le_of_ble_eq_true rfl)
   refine s_astore (pc' := 150) (Ls' := #[vi p0, vi p1, vi p2, vi p3, vi p4, vi 0, vi 1, vi r335, vi r336, vi cp, vi dp, vr b339, vr b344, vr b355, vr b365, un, un, un, un]) X372.here hx (hb hby at_148) rfl rfl rfl ?_
   refine s_bipush (pc' := 152) (v := 9) X372.here hx (hb hby at_150) rfl rfl ?_
   obtain ⟨T377, h377, k377, X377, e377, E377, A377, B377, st377⟩ := newPE X372 hx hZ (hv hw 23 rfl) rfl (g := (mkF m 152 #[vi p0, vi p1, vi p2, vi p3, vi p4, vi 0, vi 1, vi r335, vi r336, vi cp, vi dp, vr b339, vr b344, vr b355, vr b365, un, un, un, un] [(.int 9)])) rfl (hb hby at_152) rfl (by decide) (cap := 9) (by decide) (by decide) (by decide) (by decide) (ad := "[B") (by decide)
   obtain ⟨b377, g377⟩ : ∃ z, z = T372.heap.size := ⟨_, rfl⟩
   rw [← g377] at A377 B377 st377
   have sz377 : h0.size ≤ b377 := Nat.le_trans K372.1 (Nat.le_of_eq g377.symm)
   have ge377 : n0 ≤ b377 := Nat.le_trans (O372.1 ▸ O372.2.1) (Nat.le_of_eq g377.symm)
   have sn377 : Safe Z consts_1 s.vm T372.heap b377 := Safe.new (Nat.le_of_eq g377.symm)
   have K377 : Keep h0 h377 [] := K372.ext E377
   have O377 : Old Z n0 h377 := O372.ext E377
   have sf378 : Safe Z consts_1 s.vm h377 b339 := (Safe.ext E377 H372 sf373)
   have sf379 : Safe Z consts_1 s.vm h377 b344 := (Safe.ext E377 H372 sf374)
   have sf380 : Safe Z consts_1 s.vm h377 b355 := (Safe.ext E377 H372 sf375)
   have sf381 : Safe Z consts_1 s.vm h377 b365 := (Safe.ext E377 H372 sf376)
   have sf382 : Safe Z consts_1 s.vm h377 b377 := (Safe.ext E377 H372 sn377)
   have H377 : CHv Z consts_1 s.vm h377 := H372.ext E377
   have C377 : CHr Z consts_1 s.vm h0 s.vm h377 := C372.trans (CHr.ext E377 H372)
   have hk377 := Nat.le_trans hk372 E377.1
   have V377 : Arv Z h377 b377 k377 .byte 9 [(.int 0), (.int 0), (.int 0), (.int 0), (.int 0), (.int 0), (.int 0), (.int 0), (.int 0)] (.int 0) := (Arv.new A377 (by decide)).pad (pad_rep [] (.int 0) 9)
   refine Go.st st377 ?_
   show Go p.tables e below Kx _ (mkF m 154 _ [(.ref b377)])
   have V383 : Arv Z h377 b377 k377 .byte 9 (pad 9 ([] : List Int32)) (.int 0) := V377
   refine s_astore (pc' := 156) (Ls' := #[vi p0, vi p1, vi p2, vi p3, vi p4, vi 0, vi 1, vi r335, vi r336, vi cp, vi dp, vr b339, vr b344, vr b355, vr b365, vr b377, un, un, un]) X377.here hx (hb hby at_154) rfl rfl rfl ?_
   refine s_aload (pc' := 158) X377.here hx (hb hby at_156) rfl rfl rfl ?_
   refine s_iconst (pc' := 159) (v := 0) X377.here hx (hb hby at_158) rfl rfl ?_
   refine s_iload (pc' := 161) X377.here hx (hb hby at_159) rfl rfl ?_
   obtain ⟨_, _, ⟨T384, L384, k384, n384⟩, -, X384, ⟨Lc384, hQ384, l384, y384, z384⟩, st384⟩ := Jvm.LawKit.callS X377 hx (y := yN4) hown (mvT hZ (hv hw 34 rfl)) (mvT hZ (hv hw 35 rfl)) (mvT hZ (hv hw 2 rfl)) (mvT hZ (hv hw 36 rfl)) (by decide) (backOf (W := 0) (rmDp l Z a0 hw [] b377 k377 ([] : List Int32) r335 h377 n0 O377 ge377 V383 hr335.1 (by decide)) hZ (hv hw 36 rfl) (hv hw 2 rfl) (by decide) (by decide)) (g := (mkF m 161 #[vi p0, vi p1, vi p2, vi p3, vi p4, vi 0, vi 1, vi r335, vi r336, vi cp, vi dp, vr b339, vr b344, vr b355, vr b365, vr b377, un, un, un] [(.int r335), (.int 0), (.ref b377)])) rfl (by rw [hml]; rfl) (argsL := [(.ref b377), (.int 0), (.int r335)]) (rest := []) (lenOf pd_2 rfl) rfl (by exact Nat.le_of_eq rfl) (hb hby at_161) (fun _ _ => ⟨rfl, e377, (by decide : 7 + 0 ≤ _), (by decide : 23 + 0 ≤ _)⟩)
   dsimp only [Pt.U, Pt.locs, Pt.cells, Pt.slots] at X384 l384 y384 z384 st384 hQ384
   rw [l384, y384, z384] at X384
   obtain ⟨rfl, Nq384, Kq384, q1_384⟩ := hQ384
   have N384 := Fr.app N372 Nq384
   have K384 : Keep h0 T384.heap [] := K377.trans Kq384 (allS (P := fun zz => zz ∈ [] ∨ h0.size ≤ zz) (Or.inr sz377) all0)
   have O384 : Old Z n0 T384.heap := O377.keep Kq384 (allS ge377 all0)
   have sf385 : Safe Z consts_1 s.vm T384.heap b339 := (Safe.keep Kq384 (sfS sf382 sf0) H377 sf378)
   have sf386 : Safe Z consts_1 s.vm T384.heap b344 := (Safe.keep Kq384 (sfS sf382 sf0) H377 sf379)
   have sf387 : Safe Z consts_1 s.vm T384.heap b355 := (Safe.keep Kq384 (sfS sf382 sf0) H377 sf380)
   have sf388 : Safe Z consts_1 s.vm T384.heap b365 := (Safe.keep Kq384 (sfS sf382 sf0) H377 sf381)
   have sf389 : Safe Z consts_1 s.vm T384.heap b377 := (Safe.keep Kq384 (sfS sf382 sf0) H377 sf382)
   have H384 : CHv Z consts_1 s.vm T384.heap := H377.keep Kq384 (sfS sf382 sf0)
   have C384 : CHr Z consts_1 s.vm h0 s.vm T384.heap := C377.trans (CHr.keep Kq384 (sfS sf382 sf0) H377)
   have hk384 := Nat.le_trans hk377 Kq384.1
   refine Go.st st384 ?_
   show Go p.tables e below Kx _ (mkF m 164 _ [(.int (Int32.ofNat (([] : List Int32) ++ encB (r335.toInt8.toInt32)).length))])
   have hp390 : (([] : List Int32) ++ encB (r335.toInt8.toInt32)).length ≤ 2 := by
    have q0 := encB_len (r335.toInt8.toInt32)
    simp only [List.length_append, List.length_nil, List.length_cons]; omega
   refine s_istore (pc' := 166) (Ls' := #[vi p0, vi p1, vi p2, vi p3, vi p4, vi 0, vi 1, vi r335, vi r336, vi cp, vi dp, vr b339, vr b344, vr b355, vr b365, vr b377, .val (.int (Int32.ofNat (([] : List Int32) ++ encB (r335.toInt8.toInt32)).length)), un, un]) X384.here hx (hb hby at_164) rfl  rfl ?_
   refine s_iload (pc' := 168) X384.here hx (hb hby at_166) rfl rfl ?_
   refine s_ifY (pc' := 182) X384.here hx (hb hby at_168) ((if0 _ _).trans (teq (by decide)).1) (by decide) (by decide) ?_
   refine s_aload (pc' := 184) X384.here hx (hb hby at_182) rfl rfl rfl ?_
   refine s_iload (pc' := 186) X384.here hx (hb hby at_184) rfl rfl ?_
   refine s_bipush (pc' := 188) (v := 58) X384.here hx (hb hby at_186) rfl rfl ?_
   obtain ⟨cl391, Ar391, Aq391, As391, An391, Ah391, Ag391⟩ := id q1_384
   have rm392 : (([] : List Int32) ++ encB (r335.toInt8.toInt32)).length < 9 := (Nat.lt_of_le_of_lt hp390 (by decide))
   have in392 := inb_of (j := (Int32.ofNat (([] : List Int32) ++ encB (r335.toInt8.toInt32)).length)) As391 (inpad (n := 9) rm392 (by decide : 9 ≤ 4000))
   obtain ⟨T392, h392, X392, e392, W392, st392⟩ := stB X384 hx hZ rfl Ar391 (j := (Int32.ofNat (([] : List Int32) ++ encB (r335.toInt8.toInt32)).length)) in392 (g := (mkF m 188 #[vi p0, vi p1, vi p2, vi p3, vi p4, vi 0, vi 1, vi r335, vi r336, vi cp, vi dp, vr b339, vr b344, vr b355, vr b365, vr b377, .val (.int (Int32.ofNat (([] : List Int32) ++ encB (r335.toInt8.toInt32)).length)), un, un] [(.int 58), (.int (Int32.ofNat (([] : List Int32) ++ encB (r335.toInt8.toInt32)).length)), (.ref b377)])) rfl rfl (hb hby at_188)
   have V392 : Arv Z h392 b377 k377 .byte 9 (pad 9 ((([] : List Int32) ++ encB (r335.toInt8.toInt32)) ++ [(58 : Int32)])) (.int 0) := by
    have q := Arv.set Ar391 Aq391 As391 An391 Ah391 Ag391 (fits_nar_byte _) W392 (([] : List Int32) ++ encB (r335.toInt8.toInt32)).length (nl (Nat.le_trans (Nat.le_of_lt rm392) (by decide : 9 ≤ 4000))) (by rw [pad_len (Nat.le_of_lt rm392)]; exact rm392)
    rw [show ((58 : Int32)).toInt8.toInt32 = 58 from by decide, pad_set rm392] at q; exact q
   have K392 : Keep h0 h392 [] := K384.wr W392 (Or.inr sz377)
   have O392 : Old Z n0 h392 := O384.wr W392 ge377
   have sf393 : Safe Z consts_1 s.vm h392 b339 := (Safe.wr W392 sf389 H384 sf385)
   have sf394 : Safe Z consts_1 s.vm h392 b344 := (Safe.wr W392 sf389 H384 sf386)
   have sf395 : Safe Z consts_1 s.vm h392 b355 := (Safe.wr W392 sf389 H384 sf387)
   have sf396 : Safe Z consts_1 s.vm h392 b365 := (Safe.wr W392 sf389 H384 sf388)
   have sf397 : Safe Z consts_1 s.vm h392 b377 := (Safe.wr W392 sf389 H384 sf389)
   have H392 : CHv Z consts_1 s.vm h392 := H384.wr W392 sf389
   have C392 : CHr Z consts_1 s.vm h0 s.vm h392 := C384.trans (CHr.wr W392 sf389 H384)
   have hk392 := Nat.le_trans hk384 (Nat.le_of_eq W392.size.symm)
   have N392 := Fr.snoc X392 N384 ge377
   refine Go.st st392 ?_
   show Go p.tables e below Kx _ (mkF m 189 _ [])
   refine s_iload (pc' := 191) X392.here hx (hb hby at_189) rfl rfl ?_
   refine s_iconst (pc' := 192) (v := 1) X392.here hx (hb hby at_191) rfl rfl ?_
   refine s_iadd (pc' := 193) (z := (Int32.ofNat ((([] : List Int32) ++ encB (r335.toInt8.toInt32)) ++ [(58 : Int32)]).length)) X392.here hx (hb hby at_192) rfl (lsucc _ _) ?_
   refine s_istore (pc' := 195) (Ls' := #[vi p0, vi p1, vi p2, vi p3, vi p4, vi 0, vi 1, vi r335, vi r336, vi cp, vi dp, vr b339, vr b344, vr b355, vr b365, vr b377, .val (.int (Int32.ofNat ((([] : List Int32) ++ encB (r335.toInt8.toInt32)) ++ [(58 : Int32)]).length)), un, un]) X392.here hx (hb hby at_193) rfl  rfl ?_
   refine s_aload (pc' := 197) X392.here hx (hb hby at_195) rfl rfl rfl ?_
   refine s_iload (pc' := 199) X392.here hx (hb hby at_197) rfl rfl ?_
   refine s_iload (pc' := 201) X392.here hx (hb hby at_199) rfl rfl ?_
   obtain ⟨_, _, ⟨T398, L398, k398, n398⟩, -, X398, ⟨Lc398, hQ398, l398, y398, z398⟩, st398⟩ := Jvm.LawKit.callS X392 hx (y := yN4) hown (mvT hZ (hv hw 34 rfl)) (mvT hZ (hv hw 35 rfl)) (mvT hZ (hv hw 2 rfl)) (mvT hZ (hv hw 36 rfl)) (by decide) (backOf (W := 0) (rmDp l Z a0 hw [] b377 k377 ((([] : List Int32) ++ encB (r335.toInt8.toInt32)) ++ [(58 : Int32)]) cp h392 n0 O392 ge377 V392 hcp (by rw [List.length_append]; exact Nat.lt_of_le_of_lt (Nat.succ_le_succ (Nat.succ_le_succ hp390)) (by decide))) hZ (hv hw 36 rfl) (hv hw 2 rfl) (by decide) (by decide)) (g := (mkF m 201 #[vi p0, vi p1, vi p2, vi p3, vi p4, vi 0, vi 1, vi r335, vi r336, vi cp, vi dp, vr b339, vr b344, vr b355, vr b365, vr b377, .val (.int (Int32.ofNat ((([] : List Int32) ++ encB (r335.toInt8.toInt32)) ++ [(58 : Int32)]).length)), un, un] [(.int cp), (.int (Int32.ofNat ((([] : List Int32) ++ encB (r335.toInt8.toInt32)) ++ [(58 : Int32)]).length)), (.ref b377)])) rfl (by rw [hml]; rfl) (argsL := [(.ref b377), (.int (Int32.ofNat ((([] : List Int32) ++ encB (r335.toInt8.toInt32)) ++ [(58 : Int32)]).length)), (.int cp)]) (rest := []) (lenOf pd_2 rfl) rfl (by exact Nat.le_of_eq rfl) (hb hby at_201) (fun _ _ => ⟨rfl, e392, (by decide : 7 + 0 ≤ _), (by decide : 23 + 0 ≤ _)⟩)
   dsimp only [Pt.U, Pt.locs, Pt.cells, Pt.slots] at X398 l398 y398 z398 st398 hQ398
   rw [l398, y398, z398] at X398
   obtain ⟨rfl, Nq398, Kq398, q1_398⟩ := hQ398
   have N398 := Fr.app N392 Nq398
   have K398 : Keep h0 T398.heap [] := K392.trans Kq398 (allS (P := fun zz => zz ∈ [] ∨ h0.size ≤ zz) (Or.inr sz377) all0)
   have O398 : Old Z n0 T398.heap := O392.keep Kq398 (allS ge377 all0)
   have sf399 : Safe Z consts_1 s.vm T398.heap b339 := (Safe.keep Kq398 (sfS sf397 sf0) H392 sf393)
   have sf400 : Safe Z consts_1 s.vm T398.heap b344 := (Safe.keep Kq398 (sfS sf397 sf0) H392 sf394)
   have sf401 : Safe Z consts_1 s.vm T398.heap b355 := (Safe.keep Kq398 (sfS sf397 sf0) H392 sf395)
   have sf402 : Safe Z consts_1 s.vm T398.heap b365 := (Safe.keep Kq398 (sfS sf397 sf0) H392 sf396)
   have sf403 : Safe Z consts_1 s.vm T398.heap b377 := (Safe.keep Kq398 (sfS sf397 sf0) H392 sf397)
   have H398 : CHv Z consts_1 s.vm T398.heap := H392.keep Kq398 (sfS sf397 sf0)
   have C398 : CHr Z consts_1 s.vm h0 s.vm T398.heap := C392.trans (CHr.keep Kq398 (sfS sf397 sf0) H392)
   have hk398 := Nat.le_trans hk392 Kq398.1
   refine Go.st st398 ?_
   show Go p.tables e below Kx _ (mkF m 204 _ [(.int (Int32.ofNat (((([] : List Int32) ++ encB (r335.toInt8.toInt32)) ++ [(58 : Int32)]) ++ encB (cp.toInt8.toInt32)).length))])
   have hp404 : (((([] : List Int32) ++ encB (r335.toInt8.toInt32)) ++ [(58 : Int32)]) ++ encB (cp.toInt8.toInt32)).length ≤ 5 := by
    have q0 := encB_len (r335.toInt8.toInt32)
    have q1 := encB_len (cp.toInt8.toInt32)
    simp only [List.length_append, List.length_nil, List.length_cons]; omega
   refine s_istore (pc' := 206) (Ls' := #[vi p0, vi p1, vi p2, vi p3, vi p4, vi 0, vi 1, vi r335, vi r336, vi cp, vi dp, vr b339, vr b344, vr b355, vr b365, vr b377, .val (.int (Int32.ofNat (((([] : List Int32) ++ encB (r335.toInt8.toInt32)) ++ [(58 : Int32)]) ++ encB (cp.toInt8.toInt32)).length)), un, un]) X398.here hx (hb hby at_204) rfl  rfl ?_
   refine s_iload (pc' := 208) X398.here hx (hb hby at_206) rfl rfl ?_
   refine s_ifN (pc' := 211) X398.here hx (hb hby at_208) rfl ((if0 _ _).trans (feq (by decide)).1) ?_
   refine s_aload (pc' := 213) X398.here hx (hb hby at_211) rfl rfl rfl ?_
   refine s_iload (pc' := 215) X398.here hx (hb hby at_213) rfl rfl ?_
   refine s_iload (pc' := 217) X398.here hx (hb hby at_215) rfl rfl ?_
   obtain ⟨_, _, ⟨T405, L405, k405, n405⟩, -, X405, ⟨Lc405, hQ405, l405, y405, z405⟩, st405⟩ := Jvm.LawKit.callS X398 hx (y := yN4) hown (mvT hZ (hv hw 34 rfl)) (mvT hZ (hv hw 35 rfl)) (mvT hZ (hv hw 2 rfl)) (mvT hZ (hv hw 36 rfl)) (by decide) (backOf (W := 0) (rmDp l Z a0 hw [] b377 k377 (((([] : List Int32) ++ encB (r335.toInt8.toInt32)) ++ [(58 : Int32)]) ++ encB (cp.toInt8.toInt32)) dp T398.heap n0 O398 ge377 q1_398 hdp (Nat.lt_of_le_of_lt (Nat.succ_le_succ hp404) (by decide))) hZ (hv hw 36 rfl) (hv hw 2 rfl) (by decide) (by decide)) (g := (mkF m 217 #[vi p0, vi p1, vi p2, vi p3, vi p4, vi 0, vi 1, vi r335, vi r336, vi cp, vi dp, vr b339, vr b344, vr b355, vr b365, vr b377, .val (.int (Int32.ofNat (((([] : List Int32) ++ encB (r335.toInt8.toInt32)) ++ [(58 : Int32)]) ++ encB (cp.toInt8.toInt32)).length)), un, un] [(.int dp), (.int (Int32.ofNat (((([] : List Int32) ++ encB (r335.toInt8.toInt32)) ++ [(58 : Int32)]) ++ encB (cp.toInt8.toInt32)).length)), (.ref b377)])) rfl (by rw [hml]; rfl) (argsL := [(.ref b377), (.int (Int32.ofNat (((([] : List Int32) ++ encB (r335.toInt8.toInt32)) ++ [(58 : Int32)]) ++ encB (cp.toInt8.toInt32)).length)), (.int dp)]) (rest := []) (lenOf pd_2 rfl) rfl (by exact Nat.le_of_eq rfl) (hb hby at_217) (fun _ _ => ⟨rfl, rfl, (by decide : 7 + 0 ≤ _), (by decide : 23 + 0 ≤ _)⟩)
   dsimp only [Pt.U, Pt.locs, Pt.cells, Pt.slots] at X405 l405 y405 z405 st405 hQ405
   rw [l405, y405, z405] at X405
   obtain ⟨rfl, Nq405, Kq405, q1_405⟩ := hQ405
   have N405 := Fr.app N398 Nq405
   have K405 : Keep h0 T405.heap [] := K398.trans Kq405 (allS (P := fun zz => zz ∈ [] ∨ h0.size ≤ zz) (Or.inr sz377) all0)
   have O405 : Old Z n0 T405.heap := O398.keep Kq405 (allS ge377 all0)
   have sf406 : Safe Z consts_1 s.vm T405.heap b339 := (Safe.keep Kq405 (sfS sf403 sf0) H398 sf399)
   have sf407 : Safe Z consts_1 s.vm T405.heap b344 := (Safe.keep Kq405 (sfS sf403 sf0) H398 sf400)
   have sf408 : Safe Z consts_1 s.vm T405.heap b355 := (Safe.keep Kq405 (sfS sf403 sf0) H398 sf401)
   have sf409 : Safe Z consts_1 s.vm T405.heap b365 := (Safe.keep Kq405 (sfS sf403 sf0) H398 sf402)
   have sf410 : Safe Z consts_1 s.vm T405.heap b377 := (Safe.keep Kq405 (sfS sf403 sf0) H398 sf403)
   have H405 : CHv Z consts_1 s.vm T405.heap := H398.keep Kq405 (sfS sf403 sf0)
   have C405 : CHr Z consts_1 s.vm h0 s.vm T405.heap := C398.trans (CHr.keep Kq405 (sfS sf403 sf0) H398)
   have hk405 := Nat.le_trans hk398 Kq405.1
   refine Go.st st405 ?_
   show Go p.tables e below Kx _ (mkF m 220 _ [(.int (Int32.ofNat ((((([] : List Int32) ++ encB (r335.toInt8.toInt32)) ++ [(58 : Int32)]) ++ encB (cp.toInt8.toInt32)) ++ encB (dp.toInt8.toInt32)).length))])
   have hp411 : ((((([] : List Int32) ++ encB (r335.toInt8.toInt32)) ++ [(58 : Int32)]) ++ encB (cp.toInt8.toInt32)) ++ encB (dp.toInt8.toInt32)).length ≤ 7 := by
    have q0 := encB_len (r335.toInt8.toInt32)
    have q1 := encB_len (cp.toInt8.toInt32)
    have q2 := encB_len (dp.toInt8.toInt32)
    simp only [List.length_append, List.length_nil, List.length_cons]; omega
   refine s_istore (pc' := 222) (Ls' := #[vi p0, vi p1, vi p2, vi p3, vi p4, vi 0, vi 1, vi r335, vi r336, vi cp, vi dp, vr b339, vr b344, vr b355, vr b365, vr b377, .val (.int (Int32.ofNat ((((([] : List Int32) ++ encB (r335.toInt8.toInt32)) ++ [(58 : Int32)]) ++ encB (cp.toInt8.toInt32)) ++ encB (dp.toInt8.toInt32)).length)), un, un]) X405.here hx (hb hby at_220) rfl  rfl ?_
   have f412 : Exa Z T405.heap b355 "java/lang/String" := (((((((q1_361.ext E365).keep Kq372).ext E377).keep Kq384).wr W392).keep Kq398).keep Kq405)
   have f413 : Str Z T405.heap T361.heap.size b355 [r335] := (((((((St361.ext E365).keep Kq372 (allS (Nat.le_of_eq g365.symm) all0)).ext E377).keep Kq384 (allS (Nat.le_trans (Nat.le_trans E365.1 Kq372.1) (Nat.le_of_eq g377.symm)) all0)).wr W392 (Nat.le_trans (Nat.le_trans E365.1 Kq372.1) (Nat.le_of_eq g377.symm))).keep Kq398 (allS (Nat.le_trans (Nat.le_trans E365.1 Kq372.1) (Nat.le_of_eq g377.symm)) all0)).keep Kq405 (allS (Nat.le_trans (Nat.le_trans E365.1 Kq372.1) (Nat.le_of_eq g377.symm)) all0))
   have f414 : Exa Z T405.heap b365 "java/lang/String" := (((((q1_372.ext E377).keep Kq384).wr W392).keep Kq398).keep Kq405)
   have f415 : Str Z T405.heap T372.heap.size b365 [cp, dp] := (((((St372.ext E377).keep Kq384 (allS (Nat.le_of_eq g377.symm) all0)).wr W392 (Nat.le_of_eq g377.symm)).keep Kq398 (allS (Nat.le_of_eq g377.symm) all0)).keep Kq405 (allS (Nat.le_of_eq g377.symm) all0))
   have f416 : Exa Z T405.heap b377 "[B" := ((((B377.keep Kq384).wr W392).keep Kq398).keep Kq405)
   have lt417 : b355 < T405.heap.size := (Nat.lt_of_lt_of_le A355.lt (Nat.le_trans (Nat.le_trans (Nat.le_trans (Nat.le_trans (Nat.le_trans (Nat.le_trans (Nat.le_trans Kq361.1 E365.1) Kq372.1) E377.1) Kq384.1) (Nat.le_of_eq W392.size.symm)) Kq398.1) Kq405.1))
   have lt418 : b365 < T405.heap.size := (Nat.lt_of_lt_of_le A365.lt (Nat.le_trans (Nat.le_trans (Nat.le_trans (Nat.le_trans (Nat.le_trans Kq372.1 E377.1) Kq384.1) (Nat.le_of_eq W392.size.symm)) Kq398.1) Kq405.1))
   have lt419 : b377 < T405.heap.size := (Nat.lt_of_lt_of_le A377.lt (Nat.le_trans (Nat.le_trans (Nat.le_trans Kq384.1 (Nat.le_of_eq W392.size.symm)) Kq398.1) Kq405.1))
   have ne420 : b355 ≠ b365 := (Nat.ne_of_lt (Nat.lt_of_lt_of_le (Nat.lt_of_lt_of_le A355.lt Kq361.1) (Nat.le_of_eq g365.symm)))
   have ne421 : b355 ≠ b377 := (Nat.ne_of_lt (Nat.lt_of_lt_of_le (Nat.lt_of_lt_of_le A355.lt (Nat.le_trans (Nat.le_trans Kq361.1 E365.1) Kq372.1)) (Nat.le_of_eq g377.symm)))
   have ne422 : b365 ≠ b377 := (Nat.ne_of_lt (Nat.lt_of_lt_of_le (Nat.lt_of_lt_of_le A365.lt Kq372.1) (Nat.le_of_eq g377.symm)))
   (try clear q2); (try clear sf407); (try clear sf406); (try clear Kq405); (try clear Nq405); (try clear st405); (try clear z405); (try clear y405); (try clear l405); (try clear hQ405); (try clear Lc405); (try clear n405)
   (try clear k405); (try clear L405); (try clear q1); (try clear hk398); (try clear C398); (try clear H398); (try clear sf403); (try clear sf402); (try clear sf401); (try clear sf400); (try clear sf399); (try clear O398)
   (try clear K398); (try clear N398); (try clear q1_398); (try clear Kq398); (try clear Nq398); (try clear st398); (try clear z398); (try clear y398); (try clear l398); (try clear hQ398); (try clear Lc398); (try clear X398)
   (try clear n398); (try clear k398); (try clear L398); (try clear T398); (try clear N392); (try clear hk392); (try clear C392); (try clear H392); (try clear sf397); (try clear sf396); (try clear sf395); (try clear sf394)
   (try clear sf393); (try clear O392); (try clear K392); (try clear V392); (try clear st392); (try clear W392); (try clear e392); (try clear X392); (try clear h392); (try clear T392); (try clear in392); (try clear rm392)
   (try clear Ag391); (try clear Ah391); (try clear An391); (try clear As391); (try clear Aq391); (try clear Ar391); (try clear cl391); (try clear q0); (try clear hk384); (try clear C384); (try clear H384); (try clear sf389)
   (try clear sf388); (try clear sf387); (try clear sf386); (try clear sf385); (try clear O384); (try clear K384); (try clear N384); (try clear q1_384); (try clear Kq384); (try clear Nq384); (try clear st384); (try clear z384)
   (try clear y384); (try clear l384); (try clear hQ384); (try clear Lc384); (try clear X384); (try clear n384); (try clear k384); (try clear L384); (try clear T384); (try clear V383); (try clear V377); (try clear hk377)
   (try clear C377); (try clear H377); (try clear sf382); (try clear sf381); (try clear sf380); (try clear sf379); (try clear sf378); (try clear O377); (try clear K377); (try clear sn377); (try clear st377); (try clear B377)
   (try clear A377); (try clear E377); (try clear e377); (try clear X377); (try clear h377); (try clear T377); (try clear St372); (try clear hk372); (try clear C372); (try clear H372); (try clear sf376); (try clear sf375)
   (try clear sf374); (try clear sf373); (try clear O372); (try clear K372); (try clear N372); (try clear q4_372); (try clear q3_372); (try clear kt372); (try clear t372); (try clear q2_372); (try clear q1_372); (try clear Kq372)
   (try clear Nq372); (try clear st372); (try clear z372); (try clear y372); (try clear l372); (try clear hQ372); (try clear Lc372); (try clear X372); (try clear n372); (try clear k372); (try clear L372); (try clear f371)
   (try clear hp370); (try clear F365_value); (try clear F365_coder); (try clear hk365); (try clear C365); (try clear H365); (try clear sf369); (try clear sf368); (try clear sf367); (try clear sf366); (try clear O365); (try clear K365)
   (try clear sn365); (try clear st365); (try clear D365); (try clear A365); (try clear E365); (try clear e365); (try clear X365); (try clear h365); (try clear T365); (try clear St361); (try clear hk361); (try clear C361)
   (try clear H361); (try clear sf364); (try clear sf363); (try clear sf362); (try clear O361); (try clear K361); (try clear N361); (try clear q4_361); (try clear q3_361); (try clear kt361); (try clear t361); (try clear q2_361)
   (try clear q1_361); (try clear Kq361); (try clear Nq361); (try clear st361); (try clear z361); (try clear y361); (try clear l361); (try clear hQ361); (try clear Lc361); (try clear X361); (try clear n361); (try clear k361)
   (try clear L361); (try clear f360); (try clear hp359); (try clear F355_value); (try clear F355_coder); (try clear hk355); (try clear C355); (try clear H355); (try clear sf358); (try clear sf357); (try clear sf356); (try clear O355)
   (try clear K355); (try clear sn355); (try clear st355); (try clear D355); (try clear A355); (try clear E355); (try clear e355); (try clear X355); (try clear h355); (try clear T355); (try clear N352); (try clear hk352)
   (try clear C352); (try clear H352); (try clear sf354); (try clear sf353); (try clear O352); (try clear K352); (try clear V352); (try clear st352); (try clear W352); (try clear e352); (try clear X352); (try clear h352)
   (try clear T352); (try clear in352); (try clear Ag351); (try clear Ah351); (try clear An351); (try clear As351); (try clear Aq351); (try clear Ar351); (try clear cl351); (try clear N348); (try clear hk348); (try clear C348)
   (try clear H348); (try clear sf350); (try clear sf349); (try clear O348); (try clear K348); (try clear V348); (try clear st348); (try clear W348); (try clear e348); (try clear X348); (try clear h348); (try clear T348)
   (try clear in348); (try clear Ag347); (try clear Ah347); (try clear An347); (try clear As347); (try clear Aq347); (try clear Ar347); (try clear cl347); (try clear V344); (try clear hk344); (try clear C344); (try clear H344)
   (try clear sf346); (try clear sf345); (try clear O344); (try clear K344); (try clear sn344); (try clear ge344); (try clear sz344); (try clear g344); (try clear st344); (try clear A344); (try clear E344); (try clear e344)
   (try clear X344); (try clear k344); (try clear h344); (try clear T344); (try clear N342); (try clear hk342); (try clear C342); (try clear H342); (try clear sf343); (try clear O342); (try clear K342); (try clear q)
   (try clear V342); (try clear st342); (try clear W342); (try clear e342); (try clear X342); (try clear h342); (try clear T342); (try clear in342); (try clear Ag341); (try clear Ah341); (try clear An341); (try clear As341)
   (try clear Aq341); (try clear Ar341); (try clear cl341); (try clear V339); (try clear hk339); (try clear C339); (try clear H339); (try clear sf340); (try clear O339); (try clear K339); (try clear sn339); (try clear ge339)
   (try clear sz339); (try clear g339); (try clear st339); (try clear A339); (try clear E339); (try clear e339); (try clear X339); (try clear k339); (try clear h339); (try clear T339); (try clear N336); (try clear hE336)
   (try clear Nq336); (try clear st336); (try clear z336); (try clear y336); (try clear l336); (try clear hQ336); (try clear Lc336); (try clear X336); (try clear n336); (try clear k336); (try clear L336); (try clear T336)
   (try clear N335); (try clear hE335); (try clear Nq335); (try clear st335); (try clear z335); (try clear y335); (try clear l335); (try clear hQ335); (try clear Lc335); (try clear X335); (try clear n335); (try clear k335)
   (try clear L335); (try clear T335); (try clear _); (try clear C0); (try clear hk0); (try clear e0); (try clear X0)
   show Go p.tables e below Kx _ (mkF m 222 _ [])
   refine s_aload (pc' := 224) X405.here hx (hb hby at_222) rfl rfl rfl ?_
   refine s_aload (pc' := 226) X405.here hx (hb hby at_224) rfl rfl rfl ?_
   have hno423 : ∀ c ∈ ([r335] : List Int32), ¬ c = 58 := by
    intro c hc
    simp only [List.mem_cons, List.not_mem_nil, or_false] at hc
    rcases hc with rfl
    ·
     exact hr335.2
   obtain ⟨_, _, ⟨T424, L424, k424, n424⟩, -, X424, hS'424, hg'424, ⟨Lc424, hQ424, l424, y424, z424, Cr424⟩, st424⟩ := callSS X405 hx (y := yN2) hown (mvT hZ (hv hw 37 rfl)) (mvT hZ (hv hw 38 rfl)) (mvT hZ (hv hw 39 rfl)) (mvT hZ (hv hw 40 rfl)) (by decide) (backOfSH (W := 0) (rmDo l Z a0 hw [] b355 b365 _ _ [r335] [cp, dp] T405.heap n0 O405 hEL wS G1 S1 P1 f413 f415 hno423 (by simp) (by simp)) hZ (hv hw 40 rfl) (hv hw 39 rfl) (by decide) (by decide) hEL H405) (g := (mkF m 226 #[vi p0, vi p1, vi p2, vi p3, vi p4, vi 0, vi 1, vi r335, vi r336, vi cp, vi dp, vr b339, vr b344, vr b355, vr b365, vr b377, .val (.int (Int32.ofNat ((((([] : List Int32) ++ encB (r335.toInt8.toInt32)) ++ [(58 : Int32)]) ++ encB (cp.toInt8.toInt32)) ++ encB (dp.toInt8.toInt32)).length)), un, un] [(.ref b365), (.ref b355)])) rfl (by rw [hml]; rfl) (argsL := [(.ref b355), (.ref b365)]) (rest := []) (lenOf pd_12 rfl) rfl (by exact Nat.le_of_eq rfl) (hb hby at_226) (fun _ _ => ⟨rfl, rfl, (by decide : 7 + 5 ≤ _), (by decide : 23 + 58 ≤ _)⟩)
   dsimp only [Pt.U, Pt.locs, Pt.cells, Pt.slots] at X424 l424 y424 z424 st424 hQ424 hS'424 hg'424 Cr424
   rw [l424, y424, z424] at X424
   obtain ⟨d424, rfl, Nq424, Kq424, q1_424, q2_424, q3_424⟩ := hQ424
   have N424 := Fr.app N405 Nq424
   have X424 : Stand p l e _ (s.setVm T424.vm) m _ below meth c T424 _ _ _ := X424
   obtain ⟨hZ424, hown424⟩ := wideOn hZ hS'424 hown
   have hS424 : s.Since T424.vm T424.heap.size := hS0.trans hS'424 (Nat.le_trans hk405 hg'424)
   have hk424 := Nat.le_refl T424.heap.size
   have sf425 : Safe Z consts_1 T424.vm T424.heap b355 := Cr424.safe lt417 sf408
   have sf426 : Safe Z consts_1 T424.vm T424.heap b365 := Cr424.safe lt418 sf409
   have sf427 : Safe Z consts_1 T424.vm T424.heap b377 := Cr424.safe lt419 sf410
   have C424 := C405.trans Cr424
   have K424 : Keep h0 T424.heap [] := K405.trans Kq424 all0
   have O424 : Old Z n0 T424.heap := O405.keep Kq424 all0
   refine Go.tr st424 ?_
   show Go p.tables e below Kx _ (mkF m 229 _ [(.ref d424)])
   refine s_astore (pc' := 231) (Ls' := #[vi p0, vi p1, vi p2, vi p3, vi p4, vi 0, vi 1, vi r335, vi r336, vi cp, vi dp, vr b339, vr b344, vr b355, vr b365, vr b377, .val (.int (Int32.ofNat ((((([] : List Int32) ++ encB (r335.toInt8.toInt32)) ++ [(58 : Int32)]) ++ encB (cp.toInt8.toInt32)) ++ encB (dp.toInt8.toInt32)).length)), vr d424, un]) X424.here hx (hb hby at_229) rfl rfl rfl ?_
   refine s_aload (pc' := 233) X424.here hx (hb hby at_231) rfl rfl rfl ?_
   refine s_ifnonnullY (pc' := 238) X424.here hx (hb hby at_233) (by decide) (by decide) ?_
   refine s_aload (pc' := 240) X424.here hx (hb hby at_238) rfl rfl rfl ?_
   refine s_aload (pc' := 242) X424.here hx (hb hby at_240) rfl rfl rfl ?_
   obtain ⟨cq428, kq428, q428a, q428b, q428c⟩ := isOf hZ424 rfl q1_424
   obtain ⟨_, _, ⟨T428, L428, k428, n428⟩, -, X428, ⟨Lc428, hQ428, l428, y428, z428⟩, st428⟩ := X424.virtualBack hx (y := yN3) (z := yN3) hown424 (mvT hZ424 (hv hw 106 rfl)) (mvT hZ424 (hv hw 107 rfl)) (notFace_of_selects (args := #[]) (mvT hZ424 (hv hw 109 rfl))) (mvT hZ424 (hv hw 109 rfl)) (mvT hZ424 (hv hw 108 rfl)) (by decide) (backOf (W := 1) (rmDu l Z a0 hw [] d424 b355 T424.heap n0 O424 q2_424) hZ424 (hv hw 110 rfl) (hv hw 39 rfl) (by decide) (by decide)) q428a q428c (g := (mkF m 242 #[vi p0, vi p1, vi p2, vi p3, vi p4, vi 0, vi 1, vi r335, vi r336, vi cp, vi dp, vr b339, vr b344, vr b355, vr b365, vr b377, .val (.int (Int32.ofNat ((((([] : List Int32) ++ encB (r335.toInt8.toInt32)) ++ [(58 : Int32)]) ++ encB (cp.toInt8.toInt32)) ++ encB (dp.toInt8.toInt32)).length)), vr d424, un] [(.ref d424), (.ref b355)])) rfl (by rw [hml]; rfl) (Steps.refl _) (argsL := []) (rest := [(.ref b355)]) (lenOf pd_13 rfl) rfl (by exact Nat.le_of_eq rfl) (hb hby at_242) (fun _ _ => ⟨rfl, rfl, (by decide : 12 + 0 ≤ _), (by decide : 81 + 0 ≤ _)⟩)
   dsimp only [Pt.U, Pt.locs, Pt.cells, Pt.slots] at X428 l428 y428 z428 st428 hQ428
   rw [l428, y428, z428] at X428
   obtain ⟨rfl, Nq428, hE428⟩ := hQ428
   have N428 := Fr.app N424 Nq428
   refine Go.tr st428 ?_
   show Go p.tables e below Kx _ (mkF m 245 _ [(.ref b355), (.ref b355)])
   have f430 : Exa Z T424.heap b355 "java/lang/String" := (f412.keep Kq424)
   obtain ⟨cq429, kq429, q429a, q429b, q429c⟩ := isOf hZ424 hE428 f430
   obtain ⟨_, _, ⟨T429, L429, k429, n429⟩, -, X429, ⟨Lc429, hQ429, l429, y429, z429⟩, st429⟩ := X428.virtualBack hx (y := yN23) (z := yN23) hown424 (mvT hZ424 (hv hw 111 rfl)) (mvT hZ424 (hv hw 112 rfl)) (notFace_of_selects (args := #[]) (mvT hZ424 (hv hw 114 rfl))) (mvT hZ424 (hv hw 114 rfl)) (mvT hZ424 (hv hw 113 rfl)) (by decide) (backOf (W := 0) (rmKes l Z a0 hw [] b355 T424.heap n0 O424 ) hZ424 (hv hw 115 rfl) (hv hw 7 rfl) (by decide) (by decide)) q429a q429c (g := (mkF m 245 #[vi p0, vi p1, vi p2, vi p3, vi p4, vi 0, vi 1, vi r335, vi r336, vi cp, vi dp, vr b339, vr b344, vr b355, vr b365, vr b377, .val (.int (Int32.ofNat ((((([] : List Int32) ++ encB (r335.toInt8.toInt32)) ++ [(58 : Int32)]) ++ encB (cp.toInt8.toInt32)) ++ encB (dp.toInt8.toInt32)).length)), vr d424, un] [(.ref b355), (.ref b355)])) rfl (by rw [hml]; rfl) (Steps.refl _) (argsL := [(.ref b355)]) (rest := []) (lenOf pd_14 rfl) rfl (by exact Nat.le_of_eq rfl) (hb hby at_245) (fun _ _ => ⟨rfl, hE428, (by decide : 12 + 0 ≤ _), (by decide : 81 + 0 ≤ _)⟩)
   dsimp only [Pt.U, Pt.locs, Pt.cells, Pt.slots] at X429 l429 y429 z429 st429 hQ429
   rw [l429, y429, z429] at X429
   obtain ⟨rfl, Nq429, hE429⟩ := hQ429
   have N429 := Fr.app N428 Nq429
   refine Go.tr st429 ?_
   show Go p.tables e below Kx _ (mkF m 248 _ [(.int 1)])
   refine s_ifY (pc' := 253) X429.here hx (hb hby at_248) ((if0 _ _).trans (feq (by decide)).2) (by decide) (by decide) ?_
   refine s_aload (pc' := 255) X429.here hx (hb hby at_253) rfl rfl rfl ?_
   have f431 : Str Z T424.heap T361.heap.size b355 [r335] := (f413.keep Kq424 all0)
   have f432 : Str Z T424.heap T372.heap.size b365 [cp, dp] := (f415.keep Kq424 all0)
   obtain ⟨cq433, kq433, q433a, q433b, q433c⟩ := isOf hZ424 hE429 q1_424
   obtain ⟨_, _, ⟨T433, L433, k433, n433⟩, -, X433, hS'433, hg'433, ⟨Lc433, hQ433, l433, y433, z433, Cr433⟩, st433⟩ := X429.virtualBackS hx (y := yN1) (z := yN1) hown424 (mvT hZ424 (hv hw 116 rfl)) (mvT hZ424 (hv hw 117 rfl)) (notFace_of_selects (args := #[]) (mvT hZ424 (hv hw 119 rfl))) (mvT hZ424 (hv hw 119 rfl)) (mvT hZ424 (hv hw 118 rfl)) (by decide) (backOfSH (W := 0) (rmDa l Z a0 hw [] d424 b355 b365 u8 _ _ [r335] [cp, dp] T424.heap n0 O424 hEL wS G1 S1 P1 SU SC q1_424 q2_424 q3_424 f431 f432 (by simp)) hZ424 (hv hw 120 rfl) (hv hw 39 rfl) (by decide) (by decide) hEL Cr424.1) q433a q433c (g := (mkF m 255 #[vi p0, vi p1, vi p2, vi p3, vi p4, vi 0, vi 1, vi r335, vi r336, vi cp, vi dp, vr b339, vr b344, vr b355, vr b365, vr b377, .val (.int (Int32.ofNat ((((([] : List Int32) ++ encB (r335.toInt8.toInt32)) ++ [(58 : Int32)]) ++ encB (cp.toInt8.toInt32)) ++ encB (dp.toInt8.toInt32)).length)), vr d424, un] [(.ref d424)])) rfl (by rw [hml]; rfl) (Steps.refl _) (argsL := []) (rest := []) (lenOf pd_22 rfl) rfl (by exact Nat.le_of_eq rfl) (hb hby at_255) (fun _ _ => ⟨rfl, hE429, (by decide : 12 + 8 ≤ _), (by decide : 81 + 120 ≤ _)⟩)
   dsimp only [Pt.U, Pt.locs, Pt.cells, Pt.slots] at X433 l433 y433 z433 st433 hQ433 hS'433 hg'433 Cr433
   rw [l433, y433, z433] at X433
   obtain ⟨t433, kt433, rfl, Nq433, Kq433, le433, q1_433⟩ := hQ433
   have sz433 : h0.size ≤ t433 := Nat.le_trans K424.1 le433
   have ge433 : n0 ≤ t433 := Nat.le_trans (O424.1 ▸ O424.2.1) le433
   have sn433 : Safe Z consts_1 T424.vm T424.heap t433 := Safe.new le433
   have N433 := Fr.app N429 Nq433
   have X433 : Stand p l e _ (s.setVm T433.vm) m _ below meth c T433 _ _ _ := X433
   obtain ⟨hZ433, hown433⟩ := wideOn hZ424 hS'433 hown424
   have hS433 : s.Since T433.vm T433.heap.size := hS424.trans hS'433 (Nat.le_trans hk424 (by rw [hE429] at hg'433; exact hg'433))
   have hk433 := Nat.le_refl T433.heap.size
   have sf434 : Safe Z consts_1 T433.vm T433.heap b355 := Cr433.safe (Nat.lt_of_lt_of_le lt417 Kq424.1) sf425
   have sf435 : Safe Z consts_1 T433.vm T433.heap b365 := Cr433.safe (Nat.lt_of_lt_of_le lt418 Kq424.1) sf426
   have sf436 : Safe Z consts_1 T433.vm T433.heap b377 := Cr433.safe (Nat.lt_of_lt_of_le lt419 Kq424.1) sf427
   have C433 := C424.trans Cr433
   have K433 : Keep h0 T433.heap [] := K424.trans Kq433 all0
   have O433 : Old Z n0 T433.heap := O424.keep Kq433 all0
   refine Go.tr st433 ?_
   show Go p.tables e below Kx _ (mkF m 258 _ [(.ref t433)])
   have hX433 : enc (((([] : List Int32) ++ (i8s [r335])) ++ [(58 : Int32)]) ++ (i8s [cp, dp])) = ((((([] : List Int32) ++ encB (r335.toInt8.toInt32)) ++ [(58 : Int32)]) ++ encB (cp.toInt8.toInt32)) ++ encB (dp.toInt8.toInt32)) := by simp [i8s, enc, encB58, t58]
   rw [hX433] at q1_433
   refine s_astore (pc' := 260) (Ls' := #[vi p0, vi p1, vi p2, vi p3, vi p4, vi 0, vi 1, vi r335, vi r336, vi cp, vi dp, vr b339, vr b344, vr b355, vr b365, vr b377, .val (.int (Int32.ofNat ((((([] : List Int32) ++ encB (r335.toInt8.toInt32)) ++ [(58 : Int32)]) ++ encB (cp.toInt8.toInt32)) ++ encB (dp.toInt8.toInt32)).length)), vr d424, vr t433]) X433.here hx (hb hby at_258) rfl rfl rfl ?_
   have f437 : Arv Z T433.heap b377 k377 .byte 9 (pad 9 ((((([] : List Int32) ++ encB (r335.toInt8.toInt32)) ++ [(58 : Int32)]) ++ encB (cp.toInt8.toInt32)) ++ encB (dp.toInt8.toInt32))) (.int 0) := ((q1_405.keep Kq424 nin0).keep Kq433 nin0)
   have f438 : Exa Z T433.heap b377 "[B" := ((f416.keep Kq424).keep Kq433)
   have lt439 : b377 < T433.heap.size := (Nat.lt_of_lt_of_le lt419 (Nat.le_trans Kq424.1 Kq433.1))
   have lt440 : t433 < T433.heap.size := q1_433.lt
   have ne441 : b377 ≠ t433 := (Nat.ne_of_lt (Nat.lt_of_lt_of_le (Nat.lt_of_lt_of_le lt419 Kq424.1) le433))
   (try clear hX433); (try clear sf435); (try clear sf434); (try clear sn433); (try clear Kq433); (try clear Nq433); (try clear st433); (try clear z433); (try clear y433); (try clear l433); (try clear hQ433); (try clear Lc433)
   (try clear hg'433); (try clear hS'433); (try clear n433); (try clear k433); (try clear L433); (try clear q433c); (try clear q433b); (try clear q433a); (try clear kq433); (try clear cq433); (try clear f432); (try clear f431)
   (try clear N429); (try clear hE429); (try clear Nq429); (try clear st429); (try clear z429); (try clear y429); (try clear l429); (try clear hQ429); (try clear Lc429); (try clear X429); (try clear n429); (try clear k429)
   (try clear L429); (try clear T429); (try clear q429c); (try clear q429b); (try clear q429a); (try clear kq429); (try clear cq429); (try clear f430); (try clear N428); (try clear hE428); (try clear Nq428); (try clear st428)
   (try clear z428); (try clear y428); (try clear l428); (try clear hQ428); (try clear Lc428); (try clear X428); (try clear n428); (try clear k428); (try clear L428); (try clear T428); (try clear q428c); (try clear q428b)
   (try clear q428a); (try clear kq428); (try clear cq428); (try clear O424); (try clear K424); (try clear C424); (try clear sf427); (try clear sf426); (try clear sf425); (try clear hk424); (try clear hS424); (try clear hown424)
   (try clear hZ424); (try clear N424); (try clear q3_424); (try clear q2_424); (try clear q1_424); (try clear Kq424); (try clear Nq424); (try clear st424); (try clear Cr424); (try clear z424); (try clear y424); (try clear l424)
   (try clear hQ424); (try clear Lc424); (try clear hg'424); (try clear hS'424); (try clear X424); (try clear n424); (try clear k424); (try clear L424); (try clear T424); (try clear _); (try clear hno423); (try clear ne422)
   (try clear ne421); (try clear ne420); (try clear lt419); (try clear lt418); (try clear lt417); (try clear f416); (try clear f415); (try clear f414); (try clear f413); (try clear f412); (try clear hk405); (try clear C405)
   (try clear H405); (try clear sf410); (try clear sf409); (try clear sf408); (try clear O405); (try clear K405); (try clear N405); (try clear q1_405); (try clear X405); (try clear T405); (try clear T372); (try clear ge365)
   (try clear sz365); (try clear g365); (try clear T361); (try clear ge355); (try clear sz355); (try clear g355); (try clear hS0)
   show Go p.tables e below Kx _ (mkF m 260 _ [])
   refine s_aload (pc' := 262) X433.here hx (hb hby at_260) rfl rfl rfl ?_
   refine s_ifnullN (pc' := 265) X433.here hx (hb hby at_262) rfl ?_
   refine s_aload (pc' := 267) X433.here hx (hb hby at_265) rfl rfl rfl ?_
   obtain ⟨cl442, Ar442, Aq442, As442, An442, Ah442, Ag442⟩ := id q1_433
   refine Go.st (X433.arraylength hx (by  exact Ar442.1) (State.isArrayOf_alike hZ433.alike Ar442.2.1) (g := (mkF m 267 #[vi p0, vi p1, vi p2, vi p3, vi p4, vi 0, vi 1, vi r335, vi r336, vi cp, vi dp, vr b339, vr b344, vr b355, vr b365, vr b377, .val (.int (Int32.ofNat ((((([] : List Int32) ++ encB (r335.toInt8.toInt32)) ++ [(58 : Int32)]) ++ encB (cp.toInt8.toInt32)) ++ encB (dp.toInt8.toInt32)).length)), vr d424, vr t433] [(.ref t433)])) rfl rfl (hb hby at_267)) ?_
   rw [len_of As442 An442]
   show Go p.tables e below Kx _ (mkF m 268 _ [(.int (Int32.ofNat ((((([] : List Int32) ++ encB (r335.toInt8.toInt32)) ++ [(58 : Int32)]) ++ encB (cp.toInt8.toInt32)) ++ encB (dp.toInt8.toInt32)).length))])
   refine s_iload (pc' := 270) X433.here hx (hb hby at_268) rfl rfl ?_
   refine s_icmpY (pc' := 275) X433.here hx (hb hby at_270) (teq rfl).1 (by decide) (by decide) ?_
   refine s_aload (pc' := 277) X433.here hx (hb hby at_275) rfl rfl rfl ?_
   refine s_aload (pc' := 279) X433.here hx (hb hby at_277) rfl rfl rfl ?_
   refine s_iload (pc' := 281) X433.here hx (hb hby at_279) rfl rfl ?_
   refine s_iconst (pc' := 282) (v := 0) X433.here hx (hb hby at_281) rfl rfl ?_
   obtain ⟨_, _, ⟨T443, L443, k443, n443⟩, -, X443, ⟨Lc443, hQ443, l443, y443, z443⟩, st443⟩ := Jvm.LawKit.callS X433 hx (y := yN5) hown433 (mvT hZ433 (hv hw 251 rfl)) (mvT hZ433 (hv hw 252 rfl)) (mvT hZ433 (hv hw 2 rfl)) (mvT hZ433 (hv hw 253 rfl)) (by decide) (backOf (W := 0) (rmDs l Z a0 hw [] t433 b377 _ _ ((((([] : List Int32) ++ encB (r335.toInt8.toInt32)) ++ [(58 : Int32)]) ++ encB (cp.toInt8.toInt32)) ++ encB (dp.toInt8.toInt32)) 0 T433.heap n0 O433 q1_433 f437 (Nat.le_trans hp411 (by decide)) (by decide)) hZ433 (hv hw 253 rfl) (hv hw 2 rfl) (by decide) (by decide)) (g := (mkF m 282 #[vi p0, vi p1, vi p2, vi p3, vi p4, vi 0, vi 1, vi r335, vi r336, vi cp, vi dp, vr b339, vr b344, vr b355, vr b365, vr b377, .val (.int (Int32.ofNat ((((([] : List Int32) ++ encB (r335.toInt8.toInt32)) ++ [(58 : Int32)]) ++ encB (cp.toInt8.toInt32)) ++ encB (dp.toInt8.toInt32)).length)), vr d424, vr t433] [(.int 0), (.int (Int32.ofNat ((((([] : List Int32) ++ encB (r335.toInt8.toInt32)) ++ [(58 : Int32)]) ++ encB (cp.toInt8.toInt32)) ++ encB (dp.toInt8.toInt32)).length)), (.ref b377), (.ref t433)])) rfl (by rw [hml]; rfl) (argsL := [(.ref t433), (.ref b377), (.int (Int32.ofNat ((((([] : List Int32) ++ encB (r335.toInt8.toInt32)) ++ [(58 : Int32)]) ++ encB (cp.toInt8.toInt32)) ++ encB (dp.toInt8.toInt32)).length)), (.int 0)]) (rest := []) (lenOf pd_34 rfl) rfl (by exact Nat.le_of_eq rfl) (hb hby at_282) (fun _ _ => ⟨rfl, rfl, (by decide : 20 + 0 ≤ _), (by decide : 201 + 0 ≤ _)⟩)
   dsimp only [Pt.U, Pt.locs, Pt.cells, Pt.slots] at X443 l443 y443 z443 st443 hQ443
   rw [l443, y443, z443] at X443
   obtain ⟨rfl, Nq443, hE443⟩ := hQ443
   have N443 := Fr.app N433 Nq443
   refine Go.st st443 ?_
   show Go p.tables e below Kx _ (mkF m 285 _ [(.int 1)])
   refine s_ifN (pc' := 288) X443.here hx (hb hby at_285) rfl ((if0 _ _).trans (feq (by decide)).1) ?_
   refine s_aload (pc' := 290) X443.here hx (hb hby at_288) rfl rfl rfl ?_
   refine s_aload (pc' := 292) X443.here hx (hb hby at_290) rfl rfl rfl ?_
   refine s_iload (pc' := 294) X443.here hx (hb hby at_292) rfl rfl ?_
   refine s_iconst (pc' := 295) (v := 1) X443.here hx (hb hby at_294) rfl rfl ?_
   obtain ⟨_, _, ⟨T444, L444, k444, n444⟩, -, X444, ⟨Lc444, hQ444, l444, y444, z444⟩, st444⟩ := Jvm.LawKit.callS X443 hx (y := yN5) hown433 (mvT hZ433 (hv hw 251 rfl)) (mvT hZ433 (hv hw 252 rfl)) (mvT hZ433 (hv hw 2 rfl)) (mvT hZ433 (hv hw 253 rfl)) (by decide) (backOf (W := 0) (rmDs l Z a0 hw [] t433 b377 _ _ ((((([] : List Int32) ++ encB (r335.toInt8.toInt32)) ++ [(58 : Int32)]) ++ encB (cp.toInt8.toInt32)) ++ encB (dp.toInt8.toInt32)) 1 T433.heap n0 O433 q1_433 f437 (Nat.le_trans hp411 (by decide)) (by decide)) hZ433 (hv hw 253 rfl) (hv hw 2 rfl) (by decide) (by decide)) (g := (mkF m 295 #[vi p0, vi p1, vi p2, vi p3, vi p4, vi 0, vi 1, vi r335, vi r336, vi cp, vi dp, vr b339, vr b344, vr b355, vr b365, vr b377, .val (.int (Int32.ofNat ((((([] : List Int32) ++ encB (r335.toInt8.toInt32)) ++ [(58 : Int32)]) ++ encB (cp.toInt8.toInt32)) ++ encB (dp.toInt8.toInt32)).length)), vr d424, vr t433] [(.int 1), (.int (Int32.ofNat ((((([] : List Int32) ++ encB (r335.toInt8.toInt32)) ++ [(58 : Int32)]) ++ encB (cp.toInt8.toInt32)) ++ encB (dp.toInt8.toInt32)).length)), (.ref b377), (.ref t433)])) rfl (by rw [hml]; rfl) (argsL := [(.ref t433), (.ref b377), (.int (Int32.ofNat ((((([] : List Int32) ++ encB (r335.toInt8.toInt32)) ++ [(58 : Int32)]) ++ encB (cp.toInt8.toInt32)) ++ encB (dp.toInt8.toInt32)).length)), (.int 1)]) (rest := []) (lenOf pd_34 rfl) rfl (by exact Nat.le_of_eq rfl) (hb hby at_295) (fun _ _ => ⟨rfl, hE443, (by decide : 20 + 0 ≤ _), (by decide : 201 + 0 ≤ _)⟩)
   dsimp only [Pt.U, Pt.locs, Pt.cells, Pt.slots] at X444 l444 y444 z444 st444 hQ444
   rw [l444, y444, z444] at X444
   obtain ⟨rfl, Nq444, hE444⟩ := hQ444
   have N444 := Fr.app N443 Nq444
   refine Go.st st444 ?_
   show Go p.tables e below Kx _ (mkF m 298 _ [(.int 1)])
   refine s_ifN (pc' := 301) X444.here hx (hb hby at_298) rfl ((if0 _ _).trans (feq (by decide)).1) ?_
   refine s_aload (pc' := 303) X444.here hx (hb hby at_301) rfl rfl rfl ?_
   refine s_aload (pc' := 305) X444.here hx (hb hby at_303) rfl rfl rfl ?_
   refine s_iload (pc' := 307) X444.here hx (hb hby at_305) rfl rfl ?_
   refine s_iconst (pc' := 308) (v := 2) X444.here hx (hb hby at_307) rfl rfl ?_
   obtain ⟨_, _, ⟨T445, L445, k445, n445⟩, -, X445, ⟨Lc445, hQ445, l445, y445, z445⟩, st445⟩ := Jvm.LawKit.callS X444 hx (y := yN5) hown433 (mvT hZ433 (hv hw 251 rfl)) (mvT hZ433 (hv hw 252 rfl)) (mvT hZ433 (hv hw 2 rfl)) (mvT hZ433 (hv hw 253 rfl)) (by decide) (backOf (W := 0) (rmDs l Z a0 hw [] t433 b377 _ _ ((((([] : List Int32) ++ encB (r335.toInt8.toInt32)) ++ [(58 : Int32)]) ++ encB (cp.toInt8.toInt32)) ++ encB (dp.toInt8.toInt32)) 2 T433.heap n0 O433 q1_433 f437 (Nat.le_trans hp411 (by decide)) (by decide)) hZ433 (hv hw 253 rfl) (hv hw 2 rfl) (by decide) (by decide)) (g := (mkF m 308 #[vi p0, vi p1, vi p2, vi p3, vi p4, vi 0, vi 1, vi r335, vi r336, vi cp, vi dp, vr b339, vr b344, vr b355, vr b365, vr b377, .val (.int (Int32.ofNat ((((([] : List Int32) ++ encB (r335.toInt8.toInt32)) ++ [(58 : Int32)]) ++ encB (cp.toInt8.toInt32)) ++ encB (dp.toInt8.toInt32)).length)), vr d424, vr t433] [(.int 2), (.int (Int32.ofNat ((((([] : List Int32) ++ encB (r335.toInt8.toInt32)) ++ [(58 : Int32)]) ++ encB (cp.toInt8.toInt32)) ++ encB (dp.toInt8.toInt32)).length)), (.ref b377), (.ref t433)])) rfl (by rw [hml]; rfl) (argsL := [(.ref t433), (.ref b377), (.int (Int32.ofNat ((((([] : List Int32) ++ encB (r335.toInt8.toInt32)) ++ [(58 : Int32)]) ++ encB (cp.toInt8.toInt32)) ++ encB (dp.toInt8.toInt32)).length)), (.int 2)]) (rest := []) (lenOf pd_34 rfl) rfl (by exact Nat.le_of_eq rfl) (hb hby at_308) (fun _ _ => ⟨rfl, hE444, (by decide : 20 + 0 ≤ _), (by decide : 201 + 0 ≤ _)⟩)
   dsimp only [Pt.U, Pt.locs, Pt.cells, Pt.slots] at X445 l445 y445 z445 st445 hQ445
   rw [l445, y445, z445] at X445
   obtain ⟨rfl, Nq445, hE445⟩ := hQ445
   have N445 := Fr.app N444 Nq445
   refine Go.st st445 ?_
   show Go p.tables e below Kx _ (mkF m 311 _ [(.int 1)])
   refine s_ifN (pc' := 314) X445.here hx (hb hby at_311) rfl ((if0 _ _).trans (feq (by decide)).1) ?_
   refine s_aload (pc' := 316) X445.here hx (hb hby at_314) rfl rfl rfl ?_
   refine s_aload (pc' := 318) X445.here hx (hb hby at_316) rfl rfl rfl ?_
   refine s_iload (pc' := 320) X445.here hx (hb hby at_318) rfl rfl ?_
   refine s_iconst (pc' := 321) (v := 3) X445.here hx (hb hby at_320) rfl rfl ?_
   obtain ⟨_, _, ⟨T446, L446, k446, n446⟩, -, X446, ⟨Lc446, hQ446, l446, y446, z446⟩, st446⟩ := Jvm.LawKit.callS X445 hx (y := yN5) hown433 (mvT hZ433 (hv hw 251 rfl)) (mvT hZ433 (hv hw 252 rfl)) (mvT hZ433 (hv hw 2 rfl)) (mvT hZ433 (hv hw 253 rfl)) (by decide) (backOf (W := 0) (rmDs l Z a0 hw [] t433 b377 _ _ ((((([] : List Int32) ++ encB (r335.toInt8.toInt32)) ++ [(58 : Int32)]) ++ encB (cp.toInt8.toInt32)) ++ encB (dp.toInt8.toInt32)) 3 T433.heap n0 O433 q1_433 f437 (Nat.le_trans hp411 (by decide)) (by decide)) hZ433 (hv hw 253 rfl) (hv hw 2 rfl) (by decide) (by decide)) (g := (mkF m 321 #[vi p0, vi p1, vi p2, vi p3, vi p4, vi 0, vi 1, vi r335, vi r336, vi cp, vi dp, vr b339, vr b344, vr b355, vr b365, vr b377, .val (.int (Int32.ofNat ((((([] : List Int32) ++ encB (r335.toInt8.toInt32)) ++ [(58 : Int32)]) ++ encB (cp.toInt8.toInt32)) ++ encB (dp.toInt8.toInt32)).length)), vr d424, vr t433] [(.int 3), (.int (Int32.ofNat ((((([] : List Int32) ++ encB (r335.toInt8.toInt32)) ++ [(58 : Int32)]) ++ encB (cp.toInt8.toInt32)) ++ encB (dp.toInt8.toInt32)).length)), (.ref b377), (.ref t433)])) rfl (by rw [hml]; rfl) (argsL := [(.ref t433), (.ref b377), (.int (Int32.ofNat ((((([] : List Int32) ++ encB (r335.toInt8.toInt32)) ++ [(58 : Int32)]) ++ encB (cp.toInt8.toInt32)) ++ encB (dp.toInt8.toInt32)).length)), (.int 3)]) (rest := []) (lenOf pd_34 rfl) rfl (by exact Nat.le_of_eq rfl) (hb hby at_321) (fun _ _ => ⟨rfl, hE445, (by decide : 20 + 0 ≤ _), (by decide : 201 + 0 ≤ _)⟩)
   dsimp only [Pt.U, Pt.locs, Pt.cells, Pt.slots] at X446 l446 y446 z446 st446 hQ446
   rw [l446, y446, z446] at X446
   obtain ⟨rfl, Nq446, hE446⟩ := hQ446
   have N446 := Fr.app N445 Nq446
   refine Go.st st446 ?_
   show Go p.tables e below Kx _ (mkF m 324 _ [(.int 1)])
   refine s_ifN (pc' := 327) X446.here hx (hb hby at_324) rfl ((if0 _ _).trans (feq (by decide)).1) ?_
   refine s_aload (pc' := 329) X446.here hx (hb hby at_327) rfl rfl rfl ?_
   refine s_aload (pc' := 331) X446.here hx (hb hby at_329) rfl rfl rfl ?_
   refine s_iload (pc' := 333) X446.here hx (hb hby at_331) rfl rfl ?_
   refine s_iconst (pc' := 334) (v := 4) X446.here hx (hb hby at_333) rfl rfl ?_
   obtain ⟨_, _, ⟨T447, L447, k447, n447⟩, -, X447, ⟨Lc447, hQ447, l447, y447, z447⟩, st447⟩ := Jvm.LawKit.callS X446 hx (y := yN5) hown433 (mvT hZ433 (hv hw 251 rfl)) (mvT hZ433 (hv hw 252 rfl)) (mvT hZ433 (hv hw 2 rfl)) (mvT hZ433 (hv hw 253 rfl)) (by decide) (backOf (W := 0) (rmDs l Z a0 hw [] t433 b377 _ _ ((((([] : List Int32) ++ encB (r335.toInt8.toInt32)) ++ [(58 : Int32)]) ++ encB (cp.toInt8.toInt32)) ++ encB (dp.toInt8.toInt32)) 4 T433.heap n0 O433 q1_433 f437 (Nat.le_trans hp411 (by decide)) (by decide)) hZ433 (hv hw 253 rfl) (hv hw 2 rfl) (by decide) (by decide)) (g := (mkF m 334 #[vi p0, vi p1, vi p2, vi p3, vi p4, vi 0, vi 1, vi r335, vi r336, vi cp, vi dp, vr b339, vr b344, vr b355, vr b365, vr b377, .val (.int (Int32.ofNat ((((([] : List Int32) ++ encB (r335.toInt8.toInt32)) ++ [(58 : Int32)]) ++ encB (cp.toInt8.toInt32)) ++ encB (dp.toInt8.toInt32)).length)), vr d424, vr t433] [(.int 4), (.int (Int32.ofNat ((((([] : List Int32) ++ encB (r335.toInt8.toInt32)) ++ [(58 : Int32)]) ++ encB (cp.toInt8.toInt32)) ++ encB (dp.toInt8.toInt32)).length)), (.ref b377), (.ref t433)])) rfl (by rw [hml]; rfl) (argsL := [(.ref t433), (.ref b377), (.int (Int32.ofNat ((((([] : List Int32) ++ encB (r335.toInt8.toInt32)) ++ [(58 : Int32)]) ++ encB (cp.toInt8.toInt32)) ++ encB (dp.toInt8.toInt32)).length)), (.int 4)]) (rest := []) (lenOf pd_34 rfl) rfl (by exact Nat.le_of_eq rfl) (hb hby at_334) (fun _ _ => ⟨rfl, hE446, (by decide : 20 + 0 ≤ _), (by decide : 201 + 0 ≤ _)⟩)
   dsimp only [Pt.U, Pt.locs, Pt.cells, Pt.slots] at X447 l447 y447 z447 st447 hQ447
   rw [l447, y447, z447] at X447
   obtain ⟨rfl, Nq447, hE447⟩ := hQ447
   have N447 := Fr.app N446 Nq447
   refine Go.st st447 ?_
   show Go p.tables e below Kx _ (mkF m 337 _ [(.int 1)])
   refine s_ifN (pc' := 340) X447.here hx (hb hby at_337) rfl ((if0 _ _).trans (feq (by decide)).1) ?_
   refine s_aload (pc' := 342) X447.here hx (hb hby at_340) rfl rfl rfl ?_
   refine s_aload (pc' := 344) X447.here hx (hb hby at_342) rfl rfl rfl ?_
   refine s_iload (pc' := 346) X447.here hx (hb hby at_344) rfl rfl ?_
   refine s_iconst (pc' := 347) (v := 5) X447.here hx (hb hby at_346) rfl rfl ?_
   obtain ⟨_, _, ⟨T448, L448, k448, n448⟩, -, X448, ⟨Lc448, hQ448, l448, y448, z448⟩, st448⟩ := Jvm.LawKit.callS X447 hx (y := yN5) hown433 (mvT hZ433 (hv hw 251 rfl)) (mvT hZ433 (hv hw 252 rfl)) (mvT hZ433 (hv hw 2 rfl)) (mvT hZ433 (hv hw 253 rfl)) (by decide) (backOf (W := 0) (rmDs l Z a0 hw [] t433 b377 _ _ ((((([] : List Int32) ++ encB (r335.toInt8.toInt32)) ++ [(58 : Int32)]) ++ encB (cp.toInt8.toInt32)) ++ encB (dp.toInt8.toInt32)) 5 T433.heap n0 O433 q1_433 f437 (Nat.le_trans hp411 (by decide)) (by decide)) hZ433 (hv hw 253 rfl) (hv hw 2 rfl) (by decide) (by decide)) (g := (mkF m 347 #[vi p0, vi p1, vi p2, vi p3, vi p4, vi 0, vi 1, vi r335, vi r336, vi cp, vi dp, vr b339, vr b344, vr b355, vr b365, vr b377, .val (.int (Int32.ofNat ((((([] : List Int32) ++ encB (r335.toInt8.toInt32)) ++ [(58 : Int32)]) ++ encB (cp.toInt8.toInt32)) ++ encB (dp.toInt8.toInt32)).length)), vr d424, vr t433] [(.int 5), (.int (Int32.ofNat ((((([] : List Int32) ++ encB (r335.toInt8.toInt32)) ++ [(58 : Int32)]) ++ encB (cp.toInt8.toInt32)) ++ encB (dp.toInt8.toInt32)).length)), (.ref b377), (.ref t433)])) rfl (by rw [hml]; rfl) (argsL := [(.ref t433), (.ref b377), (.int (Int32.ofNat ((((([] : List Int32) ++ encB (r335.toInt8.toInt32)) ++ [(58 : Int32)]) ++ encB (cp.toInt8.toInt32)) ++ encB (dp.toInt8.toInt32)).length)), (.int 5)]) (rest := []) (lenOf pd_34 rfl) rfl (by exact Nat.le_of_eq rfl) (hb hby at_347) (fun _ _ => ⟨rfl, hE447, (by decide : 20 + 0 ≤ _), (by decide : 201 + 0 ≤ _)⟩)
   dsimp only [Pt.U, Pt.locs, Pt.cells, Pt.slots] at X448 l448 y448 z448 st448 hQ448
   rw [l448, y448, z448] at X448
   obtain ⟨rfl, Nq448, hE448⟩ := hQ448
   have N448 := Fr.app N447 Nq448
   refine Go.st st448 ?_
   show Go p.tables e below Kx _ (mkF m 350 _ [(.int 1)])
   refine s_ifN (pc' := 353) X448.here hx (hb hby at_350) rfl ((if0 _ _).trans (feq (by decide)).1) ?_
   refine s_aload (pc' := 355) X448.here hx (hb hby at_353) rfl rfl rfl ?_
   refine s_aload (pc' := 357) X448.here hx (hb hby at_355) rfl rfl rfl ?_
   refine s_iload (pc' := 359) X448.here hx (hb hby at_357) rfl rfl ?_
   refine s_bipush (pc' := 361) (v := 6) X448.here hx (hb hby at_359) rfl rfl ?_
   obtain ⟨_, _, ⟨T449, L449, k449, n449⟩, -, X449, ⟨Lc449, hQ449, l449, y449, z449⟩, st449⟩ := Jvm.LawKit.callS X448 hx (y := yN5) hown433 (mvT hZ433 (hv hw 251 rfl)) (mvT hZ433 (hv hw 252 rfl)) (mvT hZ433 (hv hw 2 rfl)) (mvT hZ433 (hv hw 253 rfl)) (by decide) (backOf (W := 0) (rmDs l Z a0 hw [] t433 b377 _ _ ((((([] : List Int32) ++ encB (r335.toInt8.toInt32)) ++ [(58 : Int32)]) ++ encB (cp.toInt8.toInt32)) ++ encB (dp.toInt8.toInt32)) 6 T433.heap n0 O433 q1_433 f437 (Nat.le_trans hp411 (by decide)) (by decide)) hZ433 (hv hw 253 rfl) (hv hw 2 rfl) (by decide) (by decide)) (g := (mkF m 361 #[vi p0, vi p1, vi p2, vi p3, vi p4, vi 0, vi 1, vi r335, vi r336, vi cp, vi dp, vr b339, vr b344, vr b355, vr b365, vr b377, .val (.int (Int32.ofNat ((((([] : List Int32) ++ encB (r335.toInt8.toInt32)) ++ [(58 : Int32)]) ++ encB (cp.toInt8.toInt32)) ++ encB (dp.toInt8.toInt32)).length)), vr d424, vr t433] [(.int 6), (.int (Int32.ofNat ((((([] : List Int32) ++ encB (r335.toInt8.toInt32)) ++ [(58 : Int32)]) ++ encB (cp.toInt8.toInt32)) ++ encB (dp.toInt8.toInt32)).length)), (.ref b377), (.ref t433)])) rfl (by rw [hml]; rfl) (argsL := [(.ref t433), (.ref b377), (.int (Int32.ofNat ((((([] : List Int32) ++ encB (r335.toInt8.toInt32)) ++ [(58 : Int32)]) ++ encB (cp.toInt8.toInt32)) ++ encB (dp.toInt8.toInt32)).length)), (.int 6)]) (rest := []) (lenOf pd_34 rfl) rfl (by exact Nat.le_of_eq rfl) (hb hby at_361) (fun _ _ => ⟨rfl, hE448, (by decide : 20 + 0 ≤ _), (by decide : 201 + 0 ≤ _)⟩)
   dsimp only [Pt.U, Pt.locs, Pt.cells, Pt.slots] at X449 l449 y449 z449 st449 hQ449
   rw [l449, y449, z449] at X449
   obtain ⟨rfl, Nq449, hE449⟩ := hQ449
   have N449 := Fr.app N448 Nq449
   refine Go.st st449 ?_
   show Go p.tables e below Kx _ (mkF m 364 _ [(.int 1)])
   refine s_ifN (pc' := 367) X449.here hx (hb hby at_364) rfl ((if0 _ _).trans (feq (by decide)).1) ?_
   refine s_aload (pc' := 369) X449.here hx (hb hby at_367) rfl rfl rfl ?_
   refine s_aload (pc' := 371) X449.here hx (hb hby at_369) rfl rfl rfl ?_
   refine s_iload (pc' := 373) X449.here hx (hb hby at_371) rfl rfl ?_
   refine s_bipush (pc' := 375) (v := 7) X449.here hx (hb hby at_373) rfl rfl ?_
   obtain ⟨_, _, ⟨T450, L450, k450, n450⟩, -, X450, ⟨Lc450, hQ450, l450, y450, z450⟩, st450⟩ := Jvm.LawKit.callS X449 hx (y := yN5) hown433 (mvT hZ433 (hv hw 251 rfl)) (mvT hZ433 (hv hw 252 rfl)) (mvT hZ433 (hv hw 2 rfl)) (mvT hZ433 (hv hw 253 rfl)) (by decide) (backOf (W := 0) (rmDs l Z a0 hw [] t433 b377 _ _ ((((([] : List Int32) ++ encB (r335.toInt8.toInt32)) ++ [(58 : Int32)]) ++ encB (cp.toInt8.toInt32)) ++ encB (dp.toInt8.toInt32)) 7 T433.heap n0 O433 q1_433 f437 (Nat.le_trans hp411 (by decide)) (by decide)) hZ433 (hv hw 253 rfl) (hv hw 2 rfl) (by decide) (by decide)) (g := (mkF m 375 #[vi p0, vi p1, vi p2, vi p3, vi p4, vi 0, vi 1, vi r335, vi r336, vi cp, vi dp, vr b339, vr b344, vr b355, vr b365, vr b377, .val (.int (Int32.ofNat ((((([] : List Int32) ++ encB (r335.toInt8.toInt32)) ++ [(58 : Int32)]) ++ encB (cp.toInt8.toInt32)) ++ encB (dp.toInt8.toInt32)).length)), vr d424, vr t433] [(.int 7), (.int (Int32.ofNat ((((([] : List Int32) ++ encB (r335.toInt8.toInt32)) ++ [(58 : Int32)]) ++ encB (cp.toInt8.toInt32)) ++ encB (dp.toInt8.toInt32)).length)), (.ref b377), (.ref t433)])) rfl (by rw [hml]; rfl) (argsL := [(.ref t433), (.ref b377), (.int (Int32.ofNat ((((([] : List Int32) ++ encB (r335.toInt8.toInt32)) ++ [(58 : Int32)]) ++ encB (cp.toInt8.toInt32)) ++ encB (dp.toInt8.toInt32)).length)), (.int 7)]) (rest := []) (lenOf pd_34 rfl) rfl (by exact Nat.le_of_eq rfl) (hb hby at_375) (fun _ _ => ⟨rfl, hE449, (by decide : 20 + 0 ≤ _), (by decide : 201 + 0 ≤ _)⟩)
   dsimp only [Pt.U, Pt.locs, Pt.cells, Pt.slots] at X450 l450 y450 z450 st450 hQ450
   rw [l450, y450, z450] at X450
   obtain ⟨rfl, Nq450, hE450⟩ := hQ450
   have N450 := Fr.app N449 Nq450
   refine Go.st st450 ?_
   show Go p.tables e below Kx _ (mkF m 378 _ [(.int 1)])
   refine s_ifN (pc' := 381) X450.here hx (hb hby at_378) rfl ((if0 _ _).trans (feq (by decide)).1) ?_
   refine s_aload (pc' := 383) X450.here hx (hb hby at_381) rfl rfl rfl ?_
   refine s_aload (pc' := 385) X450.here hx (hb hby at_383) rfl rfl rfl ?_
   refine s_iload (pc' := 387) X450.here hx (hb hby at_385) rfl rfl ?_
   refine s_bipush (pc' := 389) (v := 8) X450.here hx (hb hby at_387) rfl rfl ?_
   obtain ⟨_, _, ⟨T451, L451, k451, n451⟩, -, X451, ⟨Lc451, hQ451, l451, y451, z451⟩, st451⟩ := Jvm.LawKit.callS X450 hx (y := yN5) hown433 (mvT hZ433 (hv hw 251 rfl)) (mvT hZ433 (hv hw 252 rfl)) (mvT hZ433 (hv hw 2 rfl)) (mvT hZ433 (hv hw 253 rfl)) (by decide) (backOf (W := 0) (rmDs l Z a0 hw [] t433 b377 _ _ ((((([] : List Int32) ++ encB (r335.toInt8.toInt32)) ++ [(58 : Int32)]) ++ encB (cp.toInt8.toInt32)) ++ encB (dp.toInt8.toInt32)) 8 T433.heap n0 O433 q1_433 f437 (Nat.le_trans hp411 (by decide)) (by decide)) hZ433 (hv hw 253 rfl) (hv hw 2 rfl) (by decide) (by decide)) (g := (mkF m 389 #[vi p0, vi p1, vi p2, vi p3, vi p4, vi 0, vi 1, vi r335, vi r336, vi cp, vi dp, vr b339, vr b344, vr b355, vr b365, vr b377, .val (.int (Int32.ofNat ((((([] : List Int32) ++ encB (r335.toInt8.toInt32)) ++ [(58 : Int32)]) ++ encB (cp.toInt8.toInt32)) ++ encB (dp.toInt8.toInt32)).length)), vr d424, vr t433] [(.int 8), (.int (Int32.ofNat ((((([] : List Int32) ++ encB (r335.toInt8.toInt32)) ++ [(58 : Int32)]) ++ encB (cp.toInt8.toInt32)) ++ encB (dp.toInt8.toInt32)).length)), (.ref b377), (.ref t433)])) rfl (by rw [hml]; rfl) (argsL := [(.ref t433), (.ref b377), (.int (Int32.ofNat ((((([] : List Int32) ++ encB (r335.toInt8.toInt32)) ++ [(58 : Int32)]) ++ encB (cp.toInt8.toInt32)) ++ encB (dp.toInt8.toInt32)).length)), (.int 8)]) (rest := []) (lenOf pd_34 rfl) rfl (by exact Nat.le_of_eq rfl) (hb hby at_389) (fun _ _ => ⟨rfl, hE450, (by decide : 20 + 0 ≤ _), (by decide : 201 + 0 ≤ _)⟩)
   dsimp only [Pt.U, Pt.locs, Pt.cells, Pt.slots] at X451 l451 y451 z451 st451 hQ451
   rw [l451, y451, z451] at X451
   obtain ⟨rfl, Nq451, hE451⟩ := hQ451
   have N451 := Fr.app N450 Nq451
   refine Go.st st451 ?_
   show Go p.tables e below Kx _ (mkF m 392 _ [(.int 1)])
   refine s_ifN (pc' := 395) X451.here hx (hb hby at_392) rfl ((if0 _ _).trans (feq (by decide)).1) ?_
   refine s_iconst (pc' := 396) (v := 1) X451.here hx (hb hby at_395) rfl rfl ?_
   refine s_goto (pc' := 400) X451.here hx (hb hby at_396) (by decide) (by decide) ?_
   obtain ⟨fs, hr, hrun, hended, hRW⟩ := X451.leaveW hS433 (by rw [hE451]; exact hk433) (v := (some (.int 1))) (fun h => by rw [Bd.returns] at h; cases h)
   have hCx := C433.trans (CHv.at X451 hZ433 hEL Cr433.1)
   refine Go.fin (retN X451 hx (t := .boolean) Bd.returns (by simp) (hb hby at_400) hr) (hF _ _ hrun hended ⟨_, _, rfl, ?_, ?_, hRW.1, hRW.2.1, hRW.2.2.1, hRW.2.2.2.mono (by decide) (by decide)⟩)
   ·
    show QL Z p0 p1 p2 p3 p4 u8 h0 n0 ((some (.int 1)) : Option Value) T451.heap _
    rw [hE451]
    exact ⟨rfl, N451⟩
   ·
    show CHr Z consts_1 s.vm s.heap T451.vm T451.heap
    rw [hE451, hh]; exact hCx
 ·
  refine s_ifN (pc' := 7) X0.here hx (hb hby at_4) rfl ((if0 _ _).trans (feq hc2).1) ?_
  refine s_iconst (pc' := 8) (v := 1) X0.here hx (hb hby at_7) rfl rfl ?_
  refine s_goto (pc' := 12) X0.here hx (hb hby at_8) (by decide) (by decide) ?_
  refine s_istore (pc' := 14) (Ls' := #[vi p0, vi p1, vi p2, vi p3, vi p4, vi 1, un, un, un, un, un, un, un, un, un, un, un, un, un]) X0.here hx (hb hby at_12) rfl  rfl ?_
  refine s_iload (pc' := 16) X0.here hx (hb hby at_14) rfl rfl ?_
  refine s_iconst (pc' := 17) (v := 2) X0.here hx (hb hby at_16) rfl rfl ?_
  refine s_iand (pc' := 18) X0.here hx (hb hby at_17) rfl rfl ?_
  by_cases hc452 : (p4 &&& 2) = (0 : Int32)
  ·
   refine s_ifY (pc' := 25) X0.here hx (hb hby at_18) ((if0 _ _).trans (teq hc452).1) (by decide) (by decide) ?_
   refine s_iconst (pc' := 26) (v := 0) X0.here hx (hb hby at_25) rfl rfl ?_
   refine s_istore (pc' := 28) (Ls' := #[vi p0, vi p1, vi p2, vi p3, vi p4, vi 1, vi 0, un, un, un, un, un, un, un, un, un, un, un, un]) X0.here hx (hb hby at_26) rfl  rfl ?_
   refine s_iloadN (pc' := 29) X0.here hx (hb hby at_28) rfl rfl ?_
   obtain ⟨_, _, ⟨T453, L453, k453, n453⟩, -, X453, ⟨Lc453, hQ453, l453, y453, z453⟩, st453⟩ := Jvm.LawKit.callS X0 hx (y := yN6) hown (mvT hZ (hv hw 0 rfl)) (mvT hZ (hv hw 1 rfl)) (mvT hZ (hv hw 2 rfl)) (mvT hZ (hv hw 3 rfl)) (by decide) (backOf (W := 0) (rmU l Z a0 hw [] p0 h0 n0 X00 ) hZ (hv hw 3 rfl) (hv hw 2 rfl) (by decide) (by decide)) (g := (mkF m 29 #[vi p0, vi p1, vi p2, vi p3, vi p4, vi 1, vi 0, un, un, un, un, un, un, un, un, un, un, un, un] [(.int p0)])) rfl (by rw [hml]; rfl) (argsL := [(.int p0)]) (rest := []) (lenOf pd_0 rfl) rfl (by exact Nat.le_of_eq rfl) (hb hby at_29) (fun _ _ => ⟨rfl, e0, (by decide : 0 + 0 ≤ _), (by decide : 0 + 0 ≤ _)⟩)
   dsimp only [Pt.U, Pt.locs, Pt.cells, Pt.slots] at X453 l453 y453 z453 st453 hQ453
   rw [l453, y453, z453] at X453
   obtain ⟨⟨r453, rfl, hr453⟩, Nq453, hE453⟩ := hQ453
   have N453 := Fr.app N0 Nq453
   refine Go.st st453 ?_
   show Go p.tables e below Kx _ (mkF m 32 _ [(.int r453)])
   refine s_istore (pc' := 34) (Ls' := #[vi p0, vi p1, vi p2, vi p3, vi p4, vi 1, vi 0, vi r453, un, un, un, un, un, un, un, un, un, un, un]) X453.here hx (hb hby at_32) rfl  rfl ?_
   refine s_iloadN (pc' := 35) X453.here hx (hb hby at_34) rfl rfl ?_
   obtain ⟨_, _, ⟨T454, L454, k454, n454⟩, -, X454, ⟨Lc454, hQ454, l454, y454, z454⟩, st454⟩ := Jvm.LawKit.callS X453 hx (y := yN6) hown (mvT hZ (hv hw 0 rfl)) (mvT hZ (hv hw 1 rfl)) (mvT hZ (hv hw 2 rfl)) (mvT hZ (hv hw 3 rfl)) (by decide) (backOf (W := 0) (rmU l Z a0 hw [] p1 h0 n0 X00 ) hZ (hv hw 3 rfl) (hv hw 2 rfl) (by decide) (by decide)) (g := (mkF m 35 #[vi p0, vi p1, vi p2, vi p3, vi p4, vi 1, vi 0, vi r453, un, un, un, un, un, un, un, un, un, un, un] [(.int p1)])) rfl (by rw [hml]; rfl) (argsL := [(.int p1)]) (rest := []) (lenOf pd_0 rfl) rfl (by exact Nat.le_of_eq rfl) (hb hby at_35) (fun _ _ => ⟨rfl, hE453, (by decide : 0 + 0 ≤ _), (by decide : 0 + 0 ≤ _)⟩)
   dsimp only [Pt.U, Pt.locs, Pt.cells, Pt.slots] at X454 l454 y454 z454 st454 hQ454
   rw [l454, y454, z454] at X454
   obtain ⟨⟨r454, rfl, hr454⟩, Nq454, hE454⟩ := hQ454
   have N454 := Fr.app N453 Nq454
   refine Go.st st454 ?_
   show Go p.tables e below Kx _ (mkF m 38 _ [(.int r454)])
   refine s_istore (pc' := 40) (Ls' := #[vi p0, vi p1, vi p2, vi p3, vi p4, vi 1, vi 0, vi r453, vi r454, un, un, un, un, un, un, un, un, un, un]) X454.here hx (hb hby at_38) rfl  rfl ?_
   refine s_iloadN (pc' := 41) X454.here hx (hb hby at_40) rfl rfl ?_
   refine s_sipush (pc' := 44) (v := 255) X454.here hx (hb hby at_41) rfl rfl ?_
   refine s_iand (pc' := 45) X454.here hx (hb hby at_44) rfl rfl ?_
   have ch455 := chr_mask p2
   refine s_i2c (pc' := 46) (z := (p2 &&& 255)) X454.here hx (hb hby at_45) rfl (chr_i2c ch455) ?_
   have hcp : ¬ (p2 &&& 255) < 0 ∧ ¬ 255 < (p2 &&& 255) := chr_mask p2
   revert hcp
   generalize (p2 &&& 255) = cp
   intro hcp
   show Go p.tables e below Kx _ (mkF m 46 _ [(.int cp)])
   refine s_istore (pc' := 48) (Ls' := #[vi p0, vi p1, vi p2, vi p3, vi p4, vi 1, vi 0, vi r453, vi r454, vi cp, un, un, un, un, un, un, un, un, un]) X454.here hx (hb hby at_46) rfl  rfl ?_
   refine s_iloadN (pc' := 49) X454.here hx (hb hby at_48) rfl rfl ?_
   refine s_sipush (pc' := 52) (v := 255) X454.here hx (hb hby at_49) rfl rfl ?_
   refine s_iand (pc' := 53) X454.here hx (hb hby at_52) rfl rfl ?_
   have ch456 := chr_mask p3
   refine s_i2c (pc' := 54) (z := (p3 &&& 255)) X454.here hx (hb hby at_53) rfl (chr_i2c ch456) ?_
   have hdp : ¬ (p3 &&& 255) < 0 ∧ ¬ 255 < (p3 &&& 255) := chr_mask p3
   revert hdp
   generalize (p3 &&& 255) = dp
   intro hdp
   show Go p.tables e below Kx _ (mkF m 54 _ [(.int dp)])
   refine s_istore (pc' := 56) (Ls' := #[vi p0, vi p1, vi p2, vi p3, vi p4, vi 1, vi 0, vi r453, vi r454, vi cp, vi dp, un, un, un, un, un, un, un, un]) X454.here hx (hb hby at_54) rfl  rfl ?_
   refine s_iload (pc' := 58) X454.here hx (hb hby at_56) rfl rfl ?_
   refine s_ifN (pc' := 61) X454.here hx (hb hby at_58) rfl ((if0 _ _).trans (feq (by decide)).1) ?_
   refine s_iconst (pc' := 62) (v := 2) X454.here hx (hb hby at_61) rfl rfl ?_
   obtain ⟨T457, h457, k457, X457, e457, E457, A457, st457⟩ := newP X454 hx hZ (hv hw 4 rfl) hE454 (g := (mkF m 62 #[vi p0, vi p1, vi p2, vi p3, vi p4, vi 1, vi 0, vi r453, vi r454, vi cp, vi dp, un, un, un, un, un, un, un, un] [(.int 2)])) rfl (hb hby at_62) rfl (by decide) (cap := 2) (by decide) (by decide) (by decide) (by decide)
   obtain ⟨b457, g457⟩ : ∃ z, z = h0.size := ⟨_, rfl⟩
   rw [← g457] at A457 st457
   have sz457 : h0.size ≤ b457 := Nat.le_trans K0.1 (Nat.le_of_eq g457.symm)
   have ge457 : n0 ≤ b457 := Nat.le_trans (X00.1 ▸ X00.2.1) (Nat.le_of_eq g457.symm)
   have sn457 : Safe Z consts_1 s.vm h0 b457 := Safe.new (Nat.le_of_eq g457.symm)
   have K457 : Keep h0 h457 [] := K0.ext E457
   have O457 : Old Z n0 h457 := X00.ext E457
   have sf458 : Safe Z consts_1 s.vm h457 b457 := (Safe.ext E457 H0 sn457)
   have H457 : CHv Z consts_1 s.vm h457 := H0.ext E457
   have C457 : CHr Z consts_1 s.vm h0 s.vm h457 := C0.trans (CHr.ext E457 H0)
   have hk457 := Nat.le_trans hk0 E457.1
   have V457 : Arv Z h457 b457 k457 .char 2 [(.int 0), (.int 0)] (.int 0) := (Arv.new A457 (by decide)).pad (pad_rep [] (.int 0) 2)
   refine Go.st st457 ?_
   show Go p.tables e below Kx _ (mkF m 64 _ [(.ref b457)])
   refine s_astore (pc' := 66) (Ls' := #[vi p0, vi p1, vi p2, vi p3, vi p4, vi 1, vi 0, vi r453, vi r454, vi cp, vi dp, vr b457, un, un, un, un, un, un, un]) X457.here hx (hb hby at_64) rfl rfl rfl ?_
   refine s_aload (pc' := 68) X457.here hx (hb hby at_66) rfl rfl rfl ?_
   refine s_iconst (pc' := 69) (v := 0) X457.here hx (hb hby at_68) rfl rfl ?_
   refine s_iload (pc' := 71) X457.here hx (hb hby at_69) rfl rfl ?_
   obtain ⟨cl459, Ar459, Aq459, As459, An459, Ah459, Ag459⟩ := id V457
   have in460 := inb_of (j := 0) As459 (by decide)
   obtain ⟨T460, h460, X460, e460, W460, st460⟩ := stC X457 hx hZ e457 Ar459 (j := 0) in460 (g := (mkF m 71 #[vi p0, vi p1, vi p2, vi p3, vi p4, vi 1, vi 0, vi r453, vi r454, vi cp, vi dp, vr b457, un, un, un, un, un, un, un] [(.int r453), (.int 0), (.ref b457)])) rfl rfl (hb hby at_71)
   have V460 : Arv Z h460 b457 k457 .char 2 [(.int r453), (.int 0)] (.int 0) := by
    have q := Arv.set Ar459 Aq459 As459 An459 Ah459 Ag459 (fits_nar_char _) W460 0 rfl (Nat.le_of_ble_eq_true rfl)
    rw [chr_nar hr453.1] at q; exact q
   have K460 : Keep h0 h460 [] := K457.wr W460 (Or.inr sz457)
   have O460 : Old Z n0 h460 := O457.wr W460 ge457
   have sf461 : Safe Z consts_1 s.vm h460 b457 := (Safe.wr W460 sf458 H457 sf458)
   have H460 : CHv Z consts_1 s.vm h460 := H457.wr W460 sf458
   have C460 : CHr Z consts_1 s.vm h0 s.vm h460 := C457.trans (CHr.wr W460 sf458 H457)
   have hk460 := Nat.le_trans hk457 (Nat.le_of_eq W460.size.symm)
   have N460 := Fr.snoc X460 N454 ge457
   refine Go.st st460 ?_
   show Go p.tables e below Kx _ (mkF m 72 _ [])
   refine s_aload (pc' := 74) X460.here hx (hb hby at_72) rfl rfl rfl ?_
   refine s_iconst (pc' := 75) (v := 1) X460.here hx (hb hby at_74) rfl rfl ?_
   refine s_iload (pc' := 77) X460.here hx (hb hby at_75) rfl rfl ?_
   obtain ⟨cl462, Ar462, Aq462, As462, An462, Ah462, Ag462⟩ := id V460
   have in463 := inb_of (j := 1) As462 (by decide)
   obtain ⟨T463, h463, X463, e463, W463, st463⟩ := stC X460 hx hZ e460 Ar462 (j := 1) in463 (g := (mkF m 77 #[vi p0, vi p1, vi p2, vi p3, vi p4, vi 1, vi 0, vi r453, vi r454, vi cp, vi dp, vr b457, un, un, un, un, un, un, un] [(.int r454), (.int 1), (.ref b457)])) rfl rfl (hb hby at_77)
   have V463 : Arv Z h463 b457 k457 .char 2 [(.int r453), (.int r454)] (.int 0) := by
    have q := Arv.set Ar462 Aq462 As462 An462 Ah462 Ag462 (fits_nar_char _) W463 1 rfl (Nat.le_of_ble_eq_true rfl)
    rw [chr_nar hr454.1] at q; exact q
   have K463 : Keep h0 h463 [] := K460.wr W463 (Or.inr sz457)
   have O463 : Old Z n0 h463 := O460.wr W463 ge457
   have sf464 : Safe Z consts_1 s.vm h463 b457 := (Safe.wr W463 sf461 H460 sf461)
   have H463 : CHv Z consts_1 s.vm h463 := H460.wr W463 sf461
   have C463 : CHr Z consts_1 s.vm h0 s.vm h463 := C460.trans (CHr.wr W463 sf461 H460)
   have hk463 := Nat.le_trans hk460 (Nat.le_of_eq W463.size.symm)
   have N463 := Fr.snoc X463 N460 ge457
   refine Go.st st463 ?_
   show Go p.tables e below Kx _ (mkF m 78 _ [])
   refine s_goto (pc' := 92) X463.here hx (hb hby at_78) (by decide) (by decide) ?_
   refine s_iload (pc' := 94) X463.here hx (hb hby at_92) rfl rfl ?_
   refine s_ifY (pc' := 117) X463.here hx (hb hby at_94) ((if0 _ _).trans (teq (by decide)).1) (by decide) (by decide) ?_
   refine s_iconst (pc' := 118) (v := 1) X463.here hx (hb hby at_117) rfl rfl ?_
   obtain ⟨T465, h465, k465, X465, e465, E465, A465, st465⟩ := newP X463 hx hZ (hv hw 4 rfl) e463 (g := (mkF m 118 #[vi p0, vi p1, vi p2, vi p3, vi p4, vi 1, vi 0, vi r453, vi r454, vi cp, vi dp, vr b457, un, un, un, un, un, un, un] [(.int 1)])) rfl (hb hby at_118) rfl (by decide) (cap := 1) (by decide) (by decide) (by decide) (by decide)
   obtain ⟨b465, g465⟩ : ∃ z, z = h463.size := ⟨_, rfl⟩
   rw [← g465] at A465 st465
   have sz465 : h0.size ≤ b465 := Nat.le_trans K463.1 (Nat.le_of_eq g465.symm)
   have ge465 : n0 ≤ b465 := Nat.le_trans (O463.1 ▸ O463.2.1) (Nat.le_of_eq g465.symm)
   have sn465 : Safe Z consts_1 s.vm h463 b465 := Safe.new (Nat.le_of_eq g465.symm)
   have K465 : Keep h0 h465 [] := K463.ext E465
   have O465 : Old Z n0 h465 := O463.ext E465
   have sf466 : Safe Z consts_1 s.vm h465 b457 := (Safe.ext E465 H463 sf464)
   have sf467 : Safe Z consts_1 s.vm h465 b465 := (Safe.ext E465 H463 sn465)
   have H465 : CHv Z consts_1 s.vm h465 := H463.ext E465
   have C465 : CHr Z consts_1 s.vm h0 s.vm h465 := C463.trans (CHr.ext E465 H463)
   have hk465 := Nat.le_trans hk463 E465.1
   have V465 : Arv Z h465 b465 k465 .char 1 [(.int 0)] (.int 0) := (Arv.new A465 (by decide)).pad (pad_rep [] (.int 0) 1)
   refine Go.st st465 ?_
   show Go p.tables e below Kx _ (mkF m 120 _ [(.ref b465)])
   refine s_astore (pc' := 122) (Ls' := #[vi p0, vi p1, vi p2, vi p3, vi p4, vi 1, vi 0, vi r453, vi r454, vi cp, vi dp, vr b457, vr b465, un, un, un, un, un, un]) X465.here hx (hb hby at_120) rfl rfl rfl ?_
   refine s_aload (pc' := 124) X465.here hx (hb hby at_122) rfl rfl rfl ?_
   refine s_iconst (pc' := 125) (v := 0) X465.here hx (hb hby at_124) rfl rfl ?_
   refine s_iload (pc' := 127) X465.here hx (hb hby at_125) rfl rfl ?_
   obtain ⟨cl468, Ar468, Aq468, As468, An468, Ah468, Ag468⟩ := id V465
   have in469 := inb_of (j := 0) As468 (by decide)
   obtain ⟨T469, h469, X469, e469, W469, st469⟩ := stC X465 hx hZ e465 Ar468 (j := 0) in469 (g := (mkF m 127 #[vi p0, vi p1, vi p2, vi p3, vi p4, vi 1, vi 0, vi r453, vi r454, vi cp, vi dp, vr b457, vr b465, un, un, un, un, un, un] [(.int cp), (.int 0), (.ref b465)])) rfl rfl (hb hby at_127)
   have V469 : Arv Z h469 b465 k465 .char 1 [(.int cp)] (.int 0) := by
    have q := Arv.set Ar468 Aq468 As468 An468 Ah468 Ag468 (fits_nar_char _) W469 0 rfl (Nat.le_of_ble_eq_true rfl)
    rw [chr_nar hcp] at q; exact q
   have K469 : Keep h0 h469 [] := K465.wr W469 (Or.inr sz465)
   have O469 : Old Z n0 h469 := O465.wr W469 ge465
   have sf470 : Safe Z consts_1 s.vm h469 b457 := (Safe.wr W469 sf467 H465 sf466)
   have sf471 : Safe Z consts_1 s.vm h469 b465 := (Safe.wr W469 sf467 H465 sf467)
   have H469 : CHv Z consts_1 s.vm h469 := H465.wr W469 sf467
   have C469 : CHr Z consts_1 s.vm h0 s.vm h469 := C465.trans (CHr.wr W469 sf467 H465)
   have hk469 := Nat.le_trans hk465 (Nat.le_of_eq W469.size.symm)
   have N469 := Fr.snoc X469 N463 ge465
   refine Go.st st469 ?_
   show Go p.tables e below Kx _ (mkF m 128 _ [])
   obtain ⟨T472, h472, X472, e472, E472, A472, D472, -, st472⟩ := newO X469 hx hZ hown (hv hw 5 rfl) (hv hw 6 rfl) (hv hw 7 rfl) e469 (g := (mkF m 128 #[vi p0, vi p1, vi p2, vi p3, vi p4, vi 1, vi 0, vi r453, vi r454, vi cp, vi dp, vr b457, vr b465, un, un, un, un, un, un] [])) rfl (hb hby at_128) (by decide) (by decide)
   obtain ⟨b472, g472⟩ : ∃ z, z = h469.size := ⟨_, rfl⟩
   rw [← g472] at A472 D472 st472
   have sz472 : h0.size ≤ b472 := Nat.le_trans K469.1 (Nat.le_of_eq g472.symm)
   have ge472 : n0 ≤ b472 := Nat.le_trans (O469.1 ▸ O469.2.1) (Nat.le_of_eq g472.symm)
   have sn472 : Safe Z consts_1 s.vm h469 b472 := Safe.new (Nat.le_of_eq g472.symm)
   have K472 : Keep h0 h472 [] := K469.ext E472
   have O472 : Old Z n0 h472 := O469.ext E472
   have sf473 : Safe Z consts_1 s.vm h472 b457 := (Safe.ext E472 H469 sf470)
   have sf474 : Safe Z consts_1 s.vm h472 b465 := (Safe.ext E472 H469 sf471)
   have sf475 : Safe Z consts_1 s.vm h472 b472 := (Safe.ext E472 H469 sn472)
   have H472 : CHv Z consts_1 s.vm h472 := H469.ext E472
   have C472 : CHr Z consts_1 s.vm h0 s.vm h472 := C469.trans (CHr.ext E472 H469)
   have hk472 := Nat.le_trans hk469 E472.1
   have F472_coder : Fld Z h472 b472 "java/lang/String" "coder" "B" (.int 0) := D472 (Or.inr (hv hw 31 rfl)) (ty := .byte) (by decide)
   have F472_value : Fld Z h472 b472 "java/lang/String" "value" "[B" .null := D472 (Or.inr (hv hw 33 rfl)) (ty := (.array .byte)) (by decide)
   refine Go.st st472 ?_
   show Go p.tables e below Kx _ (mkF m 131 _ [(.ref b472)])
   refine s_dup (pc' := 132) X472.here hx (hb hby at_131) rfl rfl ?_
   refine s_aload (pc' := 134) X472.here hx (hb hby at_132) rfl rfl rfl ?_
   have hp476 : ∀ c ∈ ([r453, r454] : List Int32), ¬ c < 0 ∧ ¬ 255 < c := by
    intro c hc
    simp only [List.mem_cons, List.not_mem_nil, or_false] at hc
    rcases hc with rfl | rfl
    ·
     exact hr453.1
    ·
     exact hr454.1
   have f477 : Arv Z h472 b457 k457 .char 2 [(.int r453), (.int r454)] (.int 0) := (((V463.ext E465).other W469 (Nat.ne_of_lt (Nat.lt_of_lt_of_le (Nat.lt_of_lt_of_le A457.lt (Nat.le_trans (Nat.le_of_eq W460.size.symm) (Nat.le_of_eq W463.size.symm))) (Nat.le_of_eq g465.symm)))).ext E472)
   obtain ⟨_, _, ⟨T478, L478, k478, n478⟩, -, X478, ⟨Lc478, hQ478, l478, y478, z478⟩, st478⟩ := X472.specialBack hx (y := yN19) rfl hown (mvT hZ (hv hw 8 rfl)) (mvT hZ (hv hw 9 rfl)) (mvT hZ (hv hw 10 rfl)) (by decide) (StrChars.Road.backV (W := 1) hZ (hwsV Z a0 hw) (kI := 4) (hv hw 6 rfl) (cs := [r453, r454]) (bs := ([r453, r454] : List Int32).map (fun c => c.toInt8.toInt32)) (n := 2) ge472 (O472.1 ▸ O472.2.1) A472 F472_value F472_coder f477 (S1.ext O472.2) P1 rfl rfl (by decide) (by decide) hp476 rfl (by decide) (by decide)) (g := (mkF m 134 #[vi p0, vi p1, vi p2, vi p3, vi p4, vi 1, vi 0, vi r453, vi r454, vi cp, vi dp, vr b457, vr b465, un, un, un, un, un, un] [(.ref b457), (.ref b472), (.ref b472)])) rfl (by rw [hml]; rfl) (Steps.refl _) (a := b472) (argsL := [(.ref b457)]) (rest := [(.ref b472)]) (lenOf pd_1 rfl) rfl (by exact Nat.le_of_eq rfl) (hb hby at_134) (fun _ _ => ⟨rfl, e472, (by decide : 3 + 1 ≤ _), (by decide : 7 + 2 ≤ _)⟩)
   dsimp only [Pt.U, Pt.locs, Pt.cells, Pt.slots] at X478 l478 y478 z478 st478 hQ478
   rw [l478, y478, z478] at X478
   obtain ⟨rfl, Nq478, Kq478, q1_478, q2_478, t478, kt478, -, -, -, q3_478, q4_478⟩ := hQ478
   have N478 := Fr.app N469 Nq478
   have K478 : Keep h0 T478.heap [] := K472.trans Kq478 (allS (P := fun zz => zz ∈ [] ∨ h0.size ≤ zz) (Or.inr sz472) all0)
   have O478 : Old Z n0 T478.heap := O472.keep Kq478 (allS ge472 all0)
   have sf479 : Safe Z consts_1 s.vm T478.heap b457 := (Safe.keep Kq478 (sfS sf475 sf0) H472 sf473)
   have sf480 : Safe Z consts_1 s.vm T478.heap b465 := (Safe.keep Kq478 (sfS sf475 sf0) H472 sf474)
   have sf481 : Safe Z consts_1 s.vm T478.heap b472 := (Safe.keep Kq478 (sfS sf475 sf0) H472 sf475)
   have H478 : CHv Z consts_1 s.vm T478.heap := H472.keep Kq478 (sfS sf475 sf0)
   have C478 : CHr Z consts_1 s.vm h0 s.vm T478.heap := C472.trans (CHr.keep Kq478 (sfS sf475 sf0) H472)
   have hk478 := Nat.le_trans hk472 Kq478.1
   refine Go.tr st478 ?_
   show Go p.tables e below Kx _ (mkF m 137 _ [(.ref b472)])
   have St478 : Str Z T478.heap T478.heap.size b472 [r453, r454] := Str.of q1_478 q2_478 q3_478 q4_478 rfl rfl hp476 (Nat.le_of_ble_eq_true rfl)
   refine s_astore (pc' := 139) (Ls' := #[vi p0, vi p1, vi p2, vi p3, vi p4, vi 1, vi 0, vi r453, vi r454, vi cp, vi dp, vr b457, vr b465, vr b472, un, un, un, un, un]) X478.here hx (hb hby at_137) rfl rfl rfl ?_
   obtain ⟨T482, h482, X482, e482, E482, A482, D482, -, st482⟩ := newO X478 hx hZ hown (hv hw 5 rfl) (hv hw 6 rfl) (hv hw 7 rfl) rfl (g := (mkF m 139 #[vi p0, vi p1, vi p2, vi p3, vi p4, vi 1, vi 0, vi r453, vi r454, vi cp, vi dp, vr b457, vr b465, vr b472, un, un, un, un, un] [])) rfl (hb hby at_139) (by decide) (by decide)
   obtain ⟨b482, g482⟩ : ∃ z, z = T478.heap.size := ⟨_, rfl⟩
   rw [← g482] at A482 D482 st482
   have sz482 : h0.size ≤ b482 := Nat.le_trans K478.1 (Nat.le_of_eq g482.symm)
   have ge482 : n0 ≤ b482 := Nat.le_trans (O478.1 ▸ O478.2.1) (Nat.le_of_eq g482.symm)
   have sn482 : Safe Z consts_1 s.vm T478.heap b482 := Safe.new (Nat.le_of_eq g482.symm)
   have K482 : Keep h0 h482 [] := K478.ext E482
   have O482 : Old Z n0 h482 := O478.ext E482
   have sf483 : Safe Z consts_1 s.vm h482 b457 := (Safe.ext E482 H478 sf479)
   have sf484 : Safe Z consts_1 s.vm h482 b465 := (Safe.ext E482 H478 sf480)
   have sf485 : Safe Z consts_1 s.vm h482 b472 := (Safe.ext E482 H478 sf481)
   have sf486 : Safe Z consts_1 s.vm h482 b482 := (Safe.ext E482 H478 sn482)
   have H482 : CHv Z consts_1 s.vm h482 := H478.ext E482
   have C482 : CHr Z consts_1 s.vm h0 s.vm h482 := C478.trans (CHr.ext E482 H478)
   have hk482 := Nat.le_trans hk478 E482.1
   have F482_coder : Fld Z h482 b482 "java/lang/String" "coder" "B" (.int 0) := D482 (Or.inr (hv hw 31 rfl)) (ty := .byte) (by decide)
   have F482_value : Fld Z h482 b482 "java/lang/String" "value" "[B" .null := D482 (Or.inr (hv hw 33 rfl)) (ty := (.array .byte)) (by decide)
   refine Go.st st482 ?_
   show Go p.tables e below Kx _ (mkF m 142 _ [(.ref b482)])
   refine s_dup (pc' := 143) X482.here hx (hb hby at_142) rfl rfl ?_
   refine s_aload (pc' := 145) X482.here hx (hb hby at_143) rfl rfl rfl ?_
   have hp487 : ∀ c ∈ ([cp] : List Int32), ¬ c < 0 ∧ ¬ 255 < c := by
    intro c hc
    simp only [List.mem_cons, List.not_mem_nil, or_false] at hc
    rcases hc with rfl
    ·
     exact hcp
   have f488 : Arv Z h482 b465 k465 .char 1 [(.int cp)] (.int 0) := (((V469.ext E472).keep Kq478 (ninS (Nat.ne_of_lt (Nat.lt_of_lt_of_le (Nat.lt_of_lt_of_le A465.lt (Nat.le_of_eq W469.size.symm)) (Nat.le_of_eq g472.symm))) nin0)).ext E482)
   obtain ⟨_, _, ⟨T489, L489, k489, n489⟩, -, X489, ⟨Lc489, hQ489, l489, y489, z489⟩, st489⟩ := X482.specialBack hx (y := yN19) rfl hown (mvT hZ (hv hw 8 rfl)) (mvT hZ (hv hw 9 rfl)) (mvT hZ (hv hw 10 rfl)) (by decide) (StrChars.Road.backV (W := 1) hZ (hwsV Z a0 hw) (kI := 4) (hv hw 6 rfl) (cs := [cp]) (bs := ([cp] : List Int32).map (fun c => c.toInt8.toInt32)) (n := 1) ge482 (O482.1 ▸ O482.2.1) A482 F482_value F482_coder f488 (S1.ext O482.2) P1 rfl rfl (by decide) (by decide) hp487 rfl (by decide) (by decide)) (g := (mkF m 145 #[vi p0, vi p1, vi p2, vi p3, vi p4, vi 1, vi 0, vi r453, vi r454, vi cp, vi dp, vr b457, vr b465, vr b472, un, un, un, un, un] [(.ref b465), (.ref b482), (.ref b482)])) rfl (by rw [hml]; rfl) (Steps.refl _) (a := b482) (argsL := [(.ref b465)]) (rest := [(.ref b482)]) (lenOf pd_1 rfl) rfl (by exact Nat.le_of_eq rfl) (hb hby at_145) (fun _ _ => ⟨rfl, e482, (by decide : 5 + 1 ≤ _), (by decide : 13 + 1 ≤ _)⟩)
   dsimp only [Pt.U, Pt.locs, Pt.cells, Pt.slots] at X489 l489 y489 z489 st489 hQ489
   rw [l489, y489, z489] at X489
   obtain ⟨rfl, Nq489, Kq489, q1_489, q2_489, t489, kt489, -, -, -, q3_489, q4_489⟩ := hQ489
   have N489 := Fr.app N478 Nq489
   have K489 : Keep h0 T489.heap [] := K482.trans Kq489 (allS (P := fun zz => zz ∈ [] ∨ h0.size ≤ zz) (Or.inr sz482) all0)
   have O489 : Old Z n0 T489.heap := O482.keep Kq489 (allS ge482 all0)
   have sf490 : Safe Z consts_1 s.vm T489.heap b457 := (Safe.keep Kq489 (sfS sf486 sf0) H482 sf483)
   have sf491 : Safe Z consts_1 s.vm T489.heap b465 := (Safe.keep Kq489 (sfS sf486 sf0) H482 sf484)
   have sf492 : Safe Z consts_1 s.vm T489.heap b472 := (Safe.keep Kq489 (sfS sf486 sf0) H482 sf485)
   have sf493 : Safe Z consts_1 s.vm T489.heap b482 := (Safe.keep Kq489 (sfS sf486 sf0) H482 sf486)
   have H489 : CHv Z consts_1 s.vm T489.heap := H482.keep Kq489 (sfS sf486 sf0)
   have C489 : CHr Z consts_1 s.vm h0 s.vm T489.heap := C482.trans (CHr.keep Kq489 (sfS sf486 sf0) H482)
   have hk489 := Nat.le_trans hk482 Kq489.1
   refine Go.tr st489 ?_
   show Go p.tables e below Kx _ (mkF m 148 _ [(.ref b482)])
   have St489 : Str Z T489.heap T489.heap.size b482 [cp] := Str.of q1_489 q2_489 q3_489 q4_489 rfl rfl hp487 (Nat.le_of_ble_eq_true rfl)
   refine s_astore (pc' := 150) (Ls' := #[vi p0, vi p1, vi p2, vi p3, vi p4, vi 1, vi 0, vi r453, vi r454, vi cp, vi dp, vr b457, vr b465, vr b472, vr b482, un, un, un, un]) X489.here hx (hb hby at_148) rfl rfl rfl ?_
   refine s_bipush (pc' := 152) (v := 9) X489.here hx (hb hby at_150) rfl rfl ?_
   obtain ⟨T494, h494, k494, X494, e494, E494, A494, B494, st494⟩ := newPE X489 hx hZ (hv hw 23 rfl) rfl (g := (mkF m 152 #[vi p0, vi p1, vi p2, vi p3, vi p4, vi 1, vi 0, vi r453, vi r454, vi cp, vi dp, vr b457, vr b465, vr b472, vr b482, un, un, un, un] [(.int 9)])) rfl (hb hby at_152) rfl (by decide) (cap := 9) (by decide) (by decide) (by decide) (by decide) (ad := "[B") (by decide)
   obtain ⟨b494, g494⟩ : ∃ z, z = T489.heap.size := ⟨_, rfl⟩
   rw [← g494] at A494 B494 st494
   have sz494 : h0.size ≤ b494 := Nat.le_trans K489.1 (Nat.le_of_eq g494.symm)
   have ge494 : n0 ≤ b494 := Nat.le_trans (O489.1 ▸ O489.2.1) (Nat.le_of_eq g494.symm)
   have sn494 : Safe Z consts_1 s.vm T489.heap b494 := Safe.new (Nat.le_of_eq g494.symm)
   have K494 : Keep h0 h494 [] := K489.ext E494
   have O494 : Old Z n0 h494 := O489.ext E494
   have sf495 : Safe Z consts_1 s.vm h494 b457 := (Safe.ext E494 H489 sf490)
   have sf496 : Safe Z consts_1 s.vm h494 b465 := (Safe.ext E494 H489 sf491)
   have sf497 : Safe Z consts_1 s.vm h494 b472 := (Safe.ext E494 H489 sf492)
   have sf498 : Safe Z consts_1 s.vm h494 b482 := (Safe.ext E494 H489 sf493)
   have sf499 : Safe Z consts_1 s.vm h494 b494 := (Safe.ext E494 H489 sn494)
   have H494 : CHv Z consts_1 s.vm h494 := H489.ext E494
   have C494 : CHr Z consts_1 s.vm h0 s.vm h494 := C489.trans (CHr.ext E494 H489)
   have hk494 := Nat.le_trans hk489 E494.1
   have V494 : Arv Z h494 b494 k494 .byte 9 [(.int 0), (.int 0), (.int 0), (.int 0), (.int 0), (.int 0), (.int 0), (.int 0), (.int 0)] (.int 0) := (Arv.new A494 (by decide)).pad (pad_rep [] (.int 0) 9)
   refine Go.st st494 ?_
   show Go p.tables e below Kx _ (mkF m 154 _ [(.ref b494)])
   have V500 : Arv Z h494 b494 k494 .byte 9 (pad 9 ([] : List Int32)) (.int 0) := V494
   refine s_astore (pc' := 156) (Ls' := #[vi p0, vi p1, vi p2, vi p3, vi p4, vi 1, vi 0, vi r453, vi r454, vi cp, vi dp, vr b457, vr b465, vr b472, vr b482, vr b494, un, un, un]) X494.here hx (hb hby at_154) rfl rfl rfl ?_
   refine s_aload (pc' := 158) X494.here hx (hb hby at_156) rfl rfl rfl ?_
   refine s_iconst (pc' := 159) (v := 0) X494.here hx (hb hby at_158) rfl rfl ?_
   refine s_iload (pc' := 161) X494.here hx (hb hby at_159) rfl rfl ?_
   obtain ⟨_, _, ⟨T501, L501, k501, n501⟩, -, X501, ⟨Lc501, hQ501, l501, y501, z501⟩, st501⟩ := Jvm.LawKit.callS X494 hx (y := yN4) hown (mvT hZ (hv hw 34 rfl)) (mvT hZ (hv hw 35 rfl)) (mvT hZ (hv hw 2 rfl)) (mvT hZ (hv hw 36 rfl)) (by decide) (backOf (W := 0) (rmDp l Z a0 hw [] b494 k494 ([] : List Int32) r453 h494 n0 O494 ge494 V500 hr453.1 (by decide)) hZ (hv hw 36 rfl) (hv hw 2 rfl) (by decide) (by decide)) (g := (mkF m 161 #[vi p0, vi p1, vi p2, vi p3, vi p4, vi 1, vi 0, vi r453, vi r454, vi cp, vi dp, vr b457, vr b465, vr b472, vr b482, vr b494, un, un, un] [(.int r453), (.int 0), (.ref b494)])) rfl (by rw [hml]; rfl) (argsL := [(.ref b494), (.int 0), (.int r453)]) (rest := []) (lenOf pd_2 rfl) rfl (by exact Nat.le_of_eq rfl) (hb hby at_161) (fun _ _ => ⟨rfl, e494, (by decide : 7 + 0 ≤ _), (by decide : 23 + 0 ≤ _)⟩)
   dsimp only [Pt.U, Pt.locs, Pt.cells, Pt.slots] at X501 l501 y501 z501 st501 hQ501
   rw [l501, y501, z501] at X501
   obtain ⟨rfl, Nq501, Kq501, q1_501⟩ := hQ501
   have N501 := Fr.app N489 Nq501
   have K501 : Keep h0 T501.heap [] := K494.trans Kq501 (allS (P := fun zz => zz ∈ [] ∨ h0.size ≤ zz) (Or.inr sz494) all0)
   have O501 : Old Z n0 T501.heap := O494.keep Kq501 (allS ge494 all0)
   have sf502 : Safe Z consts_1 s.vm T501.heap b457 := (Safe.keep Kq501 (sfS sf499 sf0) H494 sf495)
   have sf503 : Safe Z consts_1 s.vm T501.heap b465 := (Safe.keep Kq501 (sfS sf499 sf0) H494 sf496)
   have sf504 : Safe Z consts_1 s.vm T501.heap b472 := (Safe.keep Kq501 (sfS sf499 sf0) H494 sf497)
   have sf505 : Safe Z consts_1 s.vm T501.heap b482 := (Safe.keep Kq501 (sfS sf499 sf0) H494 sf498)
   have sf506 : Safe Z consts_1 s.vm T501.heap b494 := (Safe.keep Kq501 (sfS sf499 sf0) H494 sf499)
   have H501 : CHv Z consts_1 s.vm T501.heap := H494.keep Kq501 (sfS sf499 sf0)
   have C501 : CHr Z consts_1 s.vm h0 s.vm T501.heap := C494.trans (CHr.keep Kq501 (sfS sf499 sf0) H494)
   have hk501 := Nat.le_trans hk494 Kq501.1
   refine Go.st st501 ?_
   show Go p.tables e below Kx _ (mkF m 164 _ [(.int (Int32.ofNat (([] : List Int32) ++ encB (r453.toInt8.toInt32)).length))])
   have hp507 : (([] : List Int32) ++ encB (r453.toInt8.toInt32)).length ≤ 2 := by
    have q0 := encB_len (r453.toInt8.toInt32)
    simp only [List.length_append, List.length_nil, List.length_cons]; omega
   refine s_istore (pc' := 166) (Ls' := #[vi p0, vi p1, vi p2, vi p3, vi p4, vi 1, vi 0, vi r453, vi r454, vi cp, vi dp, vr b457, vr b465, vr b472, vr b482, vr b494, .val (.int (Int32.ofNat (([] : List Int32) ++ encB (r453.toInt8.toInt32)).length)), un, un]) X501.here hx (hb hby at_164) rfl  rfl ?_
   refine s_iload (pc' := 168) X501.here hx (hb hby at_166) rfl rfl ?_
   refine s_ifN (pc' := 171) X501.here hx (hb hby at_168) rfl ((if0 _ _).trans (feq (by decide)).1) ?_
   refine s_aload (pc' := 173) X501.here hx (hb hby at_171) rfl rfl rfl ?_
   refine s_iload (pc' := 175) X501.here hx (hb hby at_173) rfl rfl ?_
   refine s_iload (pc' := 177) X501.here hx (hb hby at_175) rfl rfl ?_
   obtain ⟨_, _, ⟨T508, L508, k508, n508⟩, -, X508, ⟨Lc508, hQ508, l508, y508, z508⟩, st508⟩ := Jvm.LawKit.callS X501 hx (y := yN4) hown (mvT hZ (hv hw 34 rfl)) (mvT hZ (hv hw 35 rfl)) (mvT hZ (hv hw 2 rfl)) (mvT hZ (hv hw 36 rfl)) (by decide) (backOf (W := 0) (rmDp l Z a0 hw [] b494 k494 (([] : List Int32) ++ encB (r453.toInt8.toInt32)) r454 T501.heap n0 O501 ge494 q1_501 hr454.1 (Nat.lt_of_le_of_lt (Nat.succ_le_succ hp507) (by decide))) hZ (hv hw 36 rfl) (hv hw 2 rfl) (by decide) (by decide)) (g := (mkF m 177 #[vi p0, vi p1, vi p2, vi p3, vi p4, vi 1, vi 0, vi r453, vi r454, vi cp, vi dp, vr b457, vr b465, vr b472, vr b482, vr b494, .val (.int (Int32.ofNat (([] : List Int32) ++ encB (r453.toInt8.toInt32)).length)), un, un] [(.int r454), (.int (Int32.ofNat (([] : List Int32) ++ encB (r453.toInt8.toInt32)).length)), (.ref b494)])) rfl (by rw [hml]; rfl) (argsL := [(.ref b494), (.int (Int32.ofNat (([] : List Int32) ++ encB (r453.toInt8.toInt32)).length)), (.int r454)]) (rest := []) (lenOf pd_2 rfl) rfl (by exact Nat.le_of_eq rfl) (hb hby at_177) (fun _ _ => ⟨rfl, rfl, (by decide : 7 + 0 ≤ _), (by decide : 23 + 0 ≤ _)⟩)
   dsimp only [Pt.U, Pt.locs, Pt.cells, Pt.slots] at X508 l508 y508 z508 st508 hQ508
   rw [l508, y508, z508] at X508
   obtain ⟨rfl, Nq508, Kq508, q1_508⟩ := hQ508
   have N508 := Fr.app N501 Nq508
   have K508 : Keep h0 T508.heap [] := K501.trans Kq508 (allS (P := fun zz => zz ∈ [] ∨ h0.size ≤ zz) (Or.inr sz494) all0)
   have O508 : Old Z n0 T508.heap := O501.keep Kq508 (allS ge494 all0)
   have sf509 : Safe Z consts_1 s.vm T508.heap b457 := (Safe.keep Kq508 (sfS sf506 sf0) H501 sf502)
   have sf510 : Safe Z consts_1 s.vm T508.heap b465 := (Safe.keep Kq508 (sfS sf506 sf0) H501 sf503)
   have sf511 : Safe Z consts_1 s.vm T508.heap b472 := (Safe.keep Kq508 (sfS sf506 sf0) H501 sf504)
   have sf512 : Safe Z consts_1 s.vm T508.heap b482 := (Safe.keep Kq508 (sfS sf506 sf0) H501 sf505)
   have sf513 : Safe Z consts_1 s.vm T508.heap b494 := (Safe.keep Kq508 (sfS sf506 sf0) H501 sf506)
   have H508 : CHv Z consts_1 s.vm T508.heap := H501.keep Kq508 (sfS sf506 sf0)
   have C508 : CHr Z consts_1 s.vm h0 s.vm T508.heap := C501.trans (CHr.keep Kq508 (sfS sf506 sf0) H501)
   have hk508 := Nat.le_trans hk501 Kq508.1
   refine Go.st st508 ?_
   show Go p.tables e below Kx _ (mkF m 180 _ [(.int (Int32.ofNat ((([] : List Int32) ++ encB (r453.toInt8.toInt32)) ++ encB (r454.toInt8.toInt32)).length))])
   have hp514 : ((([] : List Int32) ++ encB (r453.toInt8.toInt32)) ++ encB (r454.toInt8.toInt32)).length ≤ 4 := by
    have q0 := encB_len (r453.toInt8.toInt32)
    have q1 := encB_len (r454.toInt8.toInt32)
    simp only [List.length_append, List.length_nil, List.length_cons]; omega
   refine s_istore (pc' := 182) (Ls' := #[vi p0, vi p1, vi p2, vi p3, vi p4, vi 1, vi 0, vi r453, vi r454, vi cp, vi dp, vr b457, vr b465, vr b472, vr b482, vr b494, .val (.int (Int32.ofNat ((([] : List Int32) ++ encB (r453.toInt8.toInt32)) ++ encB (r454.toInt8.toInt32)).length)), un, un]) X508.here hx (hb hby at_180) rfl  rfl ?_
   refine s_aload (pc' := 184) X508.here hx (hb hby at_182) rfl rfl rfl ?_
   refine s_iload (pc' := 186) X508.here hx (hb hby at_184) rfl rfl ?_
   refine s_bipush (pc' := 188) (v := 58) X508.here hx (hb hby at_186) rfl rfl ?_
   obtain ⟨cl515, Ar515, Aq515, As515, An515, Ah515, Ag515⟩ := id q1_508
   have rm516 : ((([] : List Int32) ++ encB (r453.toInt8.toInt32)) ++ encB (r454.toInt8.toInt32)).length < 9 := (Nat.lt_of_le_of_lt hp514 (by decide))
   have in516 := inb_of (j := (Int32.ofNat ((([] : List Int32) ++ encB (r453.toInt8.toInt32)) ++ encB (r454.toInt8.toInt32)).length)) As515 (inpad (n := 9) rm516 (by decide : 9 ≤ 4000))
   obtain ⟨T516, h516, X516, e516, W516, st516⟩ := stB X508 hx hZ rfl Ar515 (j := (Int32.ofNat ((([] : List Int32) ++ encB (r453.toInt8.toInt32)) ++ encB (r454.toInt8.toInt32)).length)) in516 (g := (mkF m 188 #[vi p0, vi p1, vi p2, vi p3, vi p4, vi 1, vi 0, vi r453, vi r454, vi cp, vi dp, vr b457, vr b465, vr b472, vr b482, vr b494, .val (.int (Int32.ofNat ((([] : List Int32) ++ encB (r453.toInt8.toInt32)) ++ encB (r454.toInt8.toInt32)).length)), un, un] [(.int 58), (.int (Int32.ofNat ((([] : List Int32) ++ encB (r453.toInt8.toInt32)) ++ encB (r454.toInt8.toInt32)).length)), (.ref b494)])) rfl rfl (hb hby at_188)
   have V516 : Arv Z h516 b494 k494 .byte 9 (pad 9 (((([] : List Int32) ++ encB (r453.toInt8.toInt32)) ++ encB (r454.toInt8.toInt32)) ++ [(58 : Int32)])) (.int 0) := by
    have q := Arv.set Ar515 Aq515 As515 An515 Ah515 Ag515 (fits_nar_byte _) W516 ((([] : List Int32) ++ encB (r453.toInt8.toInt32)) ++ encB (r454.toInt8.toInt32)).length (nl (Nat.le_trans (Nat.le_of_lt rm516) (by decide : 9 ≤ 4000))) (by rw [pad_len (Nat.le_of_lt rm516)]; exact rm516)
    rw [show ((58 : Int32)).toInt8.toInt32 = 58 from by decide, pad_set rm516] at q; exact q
   have K516 : Keep h0 h516 [] := K508.wr W516 (Or.inr sz494)
   have O516 : Old Z n0 h516 := O508.wr W516 ge494
   have sf517 : Safe Z consts_1 s.vm h516 b457 := (Safe.wr W516 sf513 H508 sf509)
   have sf518 : Safe Z consts_1 s.vm h516 b465 := (Safe.wr W516 sf513 H508 sf510)
   have sf519 : Safe Z consts_1 s.vm h516 b472 := (Safe.wr W516 sf513 H508 sf511)
   have sf520 : Safe Z consts_1 s.vm h516 b482 := (Safe.wr W516 sf513 H508 sf512)
   have sf521 : Safe Z consts_1 s.vm h516 b494 := (Safe.wr W516 sf513 H508 sf513)
   have H516 : CHv Z consts_1 s.vm h516 := H508.wr W516 sf513
   have C516 : CHr Z consts_1 s.vm h0 s.vm h516 := C508.trans (CHr.wr W516 sf513 H508)
   have hk516 := Nat.le_trans hk508 (Nat.le_of_eq W516.size.symm)
   have N516 := Fr.snoc X516 N508 ge494
   refine Go.st st516 ?_
   show Go p.tables e below Kx _ (mkF m 189 _ [])
   refine s_iload (pc' := 191) X516.here hx (hb hby at_189) rfl rfl ?_
   refine s_iconst (pc' := 192) (v := 1) X516.here hx (hb hby at_191) rfl rfl ?_
   refine s_iadd (pc' := 193) (z := (Int32.ofNat (((([] : List Int32) ++ encB (r453.toInt8.toInt32)) ++ encB (r454.toInt8.toInt32)) ++ [(58 : Int32)]).length)) X516.here hx (hb hby at_192) rfl (lsucc _ _) ?_
   refine s_istore (pc' := 195) (Ls' := #[vi p0, vi p1, vi p2, vi p3, vi p4, vi 1, vi 0, vi r453, vi r454, vi cp, vi dp, vr b457, vr b465, vr b472, vr b482, vr b494, .val (.int (Int32.ofNat (((([] : List Int32) ++ encB (r453.toInt8.toInt32)) ++ encB (r454.toInt8.toInt32)) ++ [(58 : Int32)]).length)), un, un]) X516.here hx (hb hby at_193) rfl  rfl ?_
   refine s_aload (pc' := 197) X516.here hx (hb hby at_195) rfl rfl rfl ?_
   refine s_iload (pc' := 199) X516.here hx (hb hby at_197) rfl rfl ?_
   refine s_iload (pc' := 201) X516.here hx (hb hby at_199) rfl rfl ?_
   obtain ⟨_, _, ⟨T522, L522, k522, n522⟩, -, X522, ⟨Lc522, hQ522, l522, y522, z522⟩, st522⟩ := Jvm.LawKit.callS X516 hx (y := yN4) hown (mvT hZ (hv hw 34 rfl)) (mvT hZ (hv hw 35 rfl)) (mvT hZ (hv hw 2 rfl)) (mvT hZ (hv hw 36 rfl)) (by decide) (backOf (W := 0) (rmDp l Z a0 hw [] b494 k494 (((([] : List Int32) ++ encB (r453.toInt8.toInt32)) ++ encB (r454.toInt8.toInt32)) ++ [(58 : Int32)]) cp h516 n0 O516 ge494 V516 hcp (by rw [List.length_append]; exact Nat.lt_of_le_of_lt (Nat.succ_le_succ (Nat.succ_le_succ hp514)) (by decide))) hZ (hv hw 36 rfl) (hv hw 2 rfl) (by decide) (by decide)) (g := (mkF m 201 #[vi p0, vi p1, vi p2, vi p3, vi p4, vi 1, vi 0, vi r453, vi r454, vi cp, vi dp, vr b457, vr b465, vr b472, vr b482, vr b494, .val (.int (Int32.ofNat (((([] : List Int32) ++ encB (r453.toInt8.toInt32)) ++ encB (r454.toInt8.toInt32)) ++ [(58 : Int32)]).length)), un, un] [(.int cp), (.int (Int32.ofNat (((([] : List Int32) ++ encB (r453.toInt8.toInt32)) ++ encB (r454.toInt8.toInt32)) ++ [(58 : Int32)]).length)), (.ref b494)])) rfl (by rw [hml]; rfl) (argsL := [(.ref b494), (.int (Int32.ofNat (((([] : List Int32) ++ encB (r453.toInt8.toInt32)) ++ encB (r454.toInt8.toInt32)) ++ [(58 : Int32)]).length)), (.int cp)]) (rest := []) (lenOf pd_2 rfl) rfl (by exact Nat.le_of_eq rfl) (hb hby at_201) (fun _ _ => ⟨rfl, e516, (by decide : 7 + 0 ≤ _), (by decide : 23 + 0 ≤ _)⟩)
   dsimp only [Pt.U, Pt.locs, Pt.cells, Pt.slots] at X522 l522 y522 z522 st522 hQ522
   rw [l522, y522, z522] at X522
   obtain ⟨rfl, Nq522, Kq522, q1_522⟩ := hQ522
   have N522 := Fr.app N516 Nq522
   have K522 : Keep h0 T522.heap [] := K516.trans Kq522 (allS (P := fun zz => zz ∈ [] ∨ h0.size ≤ zz) (Or.inr sz494) all0)
   have O522 : Old Z n0 T522.heap := O516.keep Kq522 (allS ge494 all0)
   have sf523 : Safe Z consts_1 s.vm T522.heap b457 := (Safe.keep Kq522 (sfS sf521 sf0) H516 sf517)
   have sf524 : Safe Z consts_1 s.vm T522.heap b465 := (Safe.keep Kq522 (sfS sf521 sf0) H516 sf518)
   have sf525 : Safe Z consts_1 s.vm T522.heap b472 := (Safe.keep Kq522 (sfS sf521 sf0) H516 sf519)
   have sf526 : Safe Z consts_1 s.vm T522.heap b482 := (Safe.keep Kq522 (sfS sf521 sf0) H516 sf520)
   have sf527 : Safe Z consts_1 s.vm T522.heap b494 := (Safe.keep Kq522 (sfS sf521 sf0) H516 sf521)
   have H522 : CHv Z consts_1 s.vm T522.heap := H516.keep Kq522 (sfS sf521 sf0)
   have C522 : CHr Z consts_1 s.vm h0 s.vm T522.heap := C516.trans (CHr.keep Kq522 (sfS sf521 sf0) H516)
   have hk522 := Nat.le_trans hk516 Kq522.1
   refine Go.st st522 ?_
   show Go p.tables e below Kx _ (mkF m 204 _ [(.int (Int32.ofNat ((((([] : List Int32) ++ encB (r453.toInt8.toInt32)) ++ encB (r454.toInt8.toInt32)) ++ [(58 : Int32)]) ++ encB (cp.toInt8.toInt32)).length))])
   have hp528 : ((((([] : List Int32) ++ encB (r453.toInt8.toInt32)) ++ encB (r454.toInt8.toInt32)) ++ [(58 : Int32)]) ++ encB (cp.toInt8.toInt32)).length ≤ 7 := by
    have q0 := encB_len (r453.toInt8.toInt32)
    have q1 := encB_len (r454.toInt8.toInt32)
    have q2 := encB_len (cp.toInt8.toInt32)
    simp only [List.length_append, List.length_nil, List.length_cons]; omega
   refine s_istore (pc' := 206) (Ls' := #[vi p0, vi p1, vi p2, vi p3, vi p4, vi 1, vi 0, vi r453, vi r454, vi cp, vi dp, vr b457, vr b465, vr b472, vr b482, vr b494, .val (.int (Int32.ofNat ((((([] : List Int32) ++ encB (r453.toInt8.toInt32)) ++ encB (r454.toInt8.toInt32)) ++ [(58 : Int32)]) ++ encB (cp.toInt8.toInt32)).length)), un, un]) X522.here hx (hb hby at_204) rfl  rfl ?_
   refine s_iload (pc' := 208) X522.here hx (hb hby at_206) rfl rfl ?_
   refine s_ifY (pc' := 222) X522.here hx (hb hby at_208) ((if0 _ _).trans (teq (by decide)).1) (by decide) (by decide) ?_
   have f529 : Exa Z T522.heap b472 "java/lang/String" := (((((((q1_478.ext E482).keep Kq489).ext E494).keep Kq501).keep Kq508).wr W516).keep Kq522)
   have f530 : Str Z T522.heap T478.heap.size b472 [r453, r454] := (((((((St478.ext E482).keep Kq489 (allS (Nat.le_of_eq g482.symm) all0)).ext E494).keep Kq501 (allS (Nat.le_trans (Nat.le_trans E482.1 Kq489.1) (Nat.le_of_eq g494.symm)) all0)).keep Kq508 (allS (Nat.le_trans (Nat.le_trans E482.1 Kq489.1) (Nat.le_of_eq g494.symm)) all0)).wr W516 (Nat.le_trans (Nat.le_trans E482.1 Kq489.1) (Nat.le_of_eq g494.symm))).keep Kq522 (allS (Nat.le_trans (Nat.le_trans E482.1 Kq489.1) (Nat.le_of_eq g494.symm)) all0))
   have f531 : Exa Z T522.heap b482 "java/lang/String" := (((((q1_489.ext E494).keep Kq501).keep Kq508).wr W516).keep Kq522)
   have f532 : Str Z T522.heap T489.heap.size b482 [cp] := (((((St489.ext E494).keep Kq501 (allS (Nat.le_of_eq g494.symm) all0)).keep Kq508 (allS (Nat.le_of_eq g494.symm) all0)).wr W516 (Nat.le_of_eq g494.symm)).keep Kq522 (allS (Nat.le_of_eq g494.symm) all0))
   have f533 : Exa Z T522.heap b494 "[B" := ((((B494.keep Kq501).keep Kq508).wr W516).keep Kq522)
   have lt534 : b472 < T522.heap.size := (Nat.lt_of_lt_of_le A472.lt (Nat.le_trans (Nat.le_trans (Nat.le_trans (Nat.le_trans (Nat.le_trans (Nat.le_trans (Nat.le_trans Kq478.1 E482.1) Kq489.1) E494.1) Kq501.1) Kq508.1) (Nat.le_of_eq W516.size.symm)) Kq522.1))
   have lt535 : b482 < T522.heap.size := (Nat.lt_of_lt_of_le A482.lt (Nat.le_trans (Nat.le_trans (Nat.le_trans (Nat.le_trans (Nat.le_trans Kq489.1 E494.1) Kq501.1) Kq508.1) (Nat.le_of_eq W516.size.symm)) Kq522.1))
   have lt536 : b494 < T522.heap.size := (Nat.lt_of_lt_of_le A494.lt (Nat.le_trans (Nat.le_trans (Nat.le_trans Kq501.1 Kq508.1) (Nat.le_of_eq W516.size.symm)) Kq522.1))
   have ne537 : b472 ≠ b482 := (Nat.ne_of_lt (Nat.lt_of_lt_of_le (Nat.lt_of_lt_of_le A472.lt Kq478.1) (Nat.le_of_eq g482.symm)))
   have ne538 : b472 ≠ b494 := (Nat.ne_of_lt (Nat.lt_of_lt_of_le (Nat.lt_of_lt_of_le A472.lt (Nat.le_trans (Nat.le_trans Kq478.1 E482.1) Kq489.1)) (Nat.le_of_eq g494.symm)))
   have ne539 : b482 ≠ b494 := (Nat.ne_of_lt (Nat.lt_of_lt_of_le (Nat.lt_of_lt_of_le A482.lt Kq489.1) (Nat.le_of_eq g494.symm)))
   (try clear q2); (try clear sf524); (try clear sf523); (try clear Kq522); (try clear Nq522); (try clear st522); (try clear z522); (try clear y522); (try clear l522); (try clear hQ522); (try clear Lc522); (try clear n522)
   (try clear k522); (try clear L522); (try clear N516); (try clear hk516); (try clear C516); (try clear H516); (try clear sf521); (try clear sf520); (try clear sf519); (try clear sf518); (try clear sf517); (try clear O516)
   (try clear K516); (try clear V516); (try clear st516); (try clear W516); (try clear e516); (try clear X516); (try clear h516); (try clear T516); (try clear in516); (try clear rm516); (try clear Ag515); (try clear Ah515)
   (try clear An515); (try clear As515); (try clear Aq515); (try clear Ar515); (try clear cl515); (try clear q1); (try clear hk508); (try clear C508); (try clear H508); (try clear sf513); (try clear sf512); (try clear sf511)
   (try clear sf510); (try clear sf509); (try clear O508); (try clear K508); (try clear N508); (try clear q1_508); (try clear Kq508); (try clear Nq508); (try clear st508); (try clear z508); (try clear y508); (try clear l508)
   (try clear hQ508); (try clear Lc508); (try clear X508); (try clear n508); (try clear k508); (try clear L508); (try clear T508); (try clear q0); (try clear hk501); (try clear C501); (try clear H501); (try clear sf506)
   (try clear sf505); (try clear sf504); (try clear sf503); (try clear sf502); (try clear O501); (try clear K501); (try clear N501); (try clear q1_501); (try clear Kq501); (try clear Nq501); (try clear st501); (try clear z501)
   (try clear y501); (try clear l501); (try clear hQ501); (try clear Lc501); (try clear X501); (try clear n501); (try clear k501); (try clear L501); (try clear T501); (try clear V500); (try clear V494); (try clear hk494)
   (try clear C494); (try clear H494); (try clear sf499); (try clear sf498); (try clear sf497); (try clear sf496); (try clear sf495); (try clear O494); (try clear K494); (try clear sn494); (try clear st494); (try clear B494)
   (try clear A494); (try clear E494); (try clear e494); (try clear X494); (try clear h494); (try clear T494); (try clear St489); (try clear hk489); (try clear C489); (try clear H489); (try clear sf493); (try clear sf492)
   (try clear sf491); (try clear sf490); (try clear O489); (try clear K489); (try clear N489); (try clear q4_489); (try clear q3_489); (try clear kt489); (try clear t489); (try clear q2_489); (try clear q1_489); (try clear Kq489)
   (try clear Nq489); (try clear st489); (try clear z489); (try clear y489); (try clear l489); (try clear hQ489); (try clear Lc489); (try clear X489); (try clear n489); (try clear k489); (try clear L489); (try clear f488)
   (try clear hp487); (try clear F482_value); (try clear F482_coder); (try clear hk482); (try clear C482); (try clear H482); (try clear sf486); (try clear sf485); (try clear sf484); (try clear sf483); (try clear O482); (try clear K482)
   (try clear sn482); (try clear st482); (try clear D482); (try clear A482); (try clear E482); (try clear e482); (try clear X482); (try clear h482); (try clear T482); (try clear St478); (try clear hk478); (try clear C478)
   (try clear H478); (try clear sf481); (try clear sf480); (try clear sf479); (try clear O478); (try clear K478); (try clear N478); (try clear q4_478); (try clear q3_478); (try clear kt478); (try clear t478); (try clear q2_478)
   (try clear q1_478); (try clear Kq478); (try clear Nq478); (try clear st478); (try clear z478); (try clear y478); (try clear l478); (try clear hQ478); (try clear Lc478); (try clear X478); (try clear n478); (try clear k478)
   (try clear L478); (try clear f477); (try clear hp476); (try clear F472_value); (try clear F472_coder); (try clear hk472); (try clear C472); (try clear H472); (try clear sf475); (try clear sf474); (try clear sf473); (try clear O472)
   (try clear K472); (try clear sn472); (try clear st472); (try clear D472); (try clear A472); (try clear E472); (try clear e472); (try clear X472); (try clear h472); (try clear T472); (try clear N469); (try clear hk469)
   (try clear C469); (try clear H469); (try clear sf471); (try clear sf470); (try clear O469); (try clear K469); (try clear V469); (try clear st469); (try clear W469); (try clear e469); (try clear X469); (try clear h469)
   (try clear T469); (try clear in469); (try clear Ag468); (try clear Ah468); (try clear An468); (try clear As468); (try clear Aq468); (try clear Ar468); (try clear cl468); (try clear V465); (try clear hk465); (try clear C465)
   (try clear H465); (try clear sf467); (try clear sf466); (try clear O465); (try clear K465); (try clear sn465); (try clear ge465); (try clear sz465); (try clear g465); (try clear st465); (try clear A465); (try clear E465)
   (try clear e465); (try clear X465); (try clear k465); (try clear h465); (try clear T465); (try clear N463); (try clear hk463); (try clear C463); (try clear H463); (try clear sf464); (try clear O463); (try clear K463)
   (try clear V463); (try clear st463); (try clear W463); (try clear e463); (try clear X463); (try clear h463); (try clear T463); (try clear in463); (try clear Ag462); (try clear Ah462); (try clear An462); (try clear As462)
   (try clear Aq462); (try clear Ar462); (try clear cl462); (try clear N460); (try clear hk460); (try clear C460); (try clear H460); (try clear sf461); (try clear O460); (try clear K460); (try clear q); (try clear V460)
   (try clear st460); (try clear W460); (try clear e460); (try clear X460); (try clear h460); (try clear T460); (try clear in460); (try clear Ag459); (try clear Ah459); (try clear An459); (try clear As459); (try clear Aq459)
   (try clear Ar459); (try clear cl459); (try clear V457); (try clear hk457); (try clear C457); (try clear H457); (try clear sf458); (try clear O457); (try clear K457); (try clear sn457); (try clear ge457); (try clear sz457)
   (try clear g457); (try clear st457); (try clear A457); (try clear E457); (try clear e457); (try clear X457); (try clear k457); (try clear h457); (try clear T457); (try clear N454); (try clear hE454); (try clear Nq454)
   (try clear st454); (try clear z454); (try clear y454); (try clear l454); (try clear hQ454); (try clear Lc454); (try clear X454); (try clear n454); (try clear k454); (try clear L454); (try clear T454); (try clear N453)
   (try clear hE453); (try clear Nq453); (try clear st453); (try clear z453); (try clear y453); (try clear l453); (try clear hQ453); (try clear Lc453); (try clear X453); (try clear n453); (try clear k453); (try clear L453)
   (try clear T453); (try clear _); (try clear C0); (try clear hk0); (try clear e0); (try clear X0)
   show Go p.tables e below Kx _ (mkF m 222 _ [])
   refine s_aload (pc' := 224) X522.here hx (hb hby at_222) rfl rfl rfl ?_
   refine s_aload (pc' := 226) X522.here hx (hb hby at_224) rfl rfl rfl ?_
   have hno540 : ∀ c ∈ ([r453, r454] : List Int32), ¬ c = 58 := by
    intro c hc
    simp only [List.mem_cons, List.not_mem_nil, or_false] at hc
    rcases hc with rfl | rfl
    ·
     exact hr453.2
    ·
     exact hr454.2
   obtain ⟨_, _, ⟨T541, L541, k541, n541⟩, -, X541, hS'541, hg'541, ⟨Lc541, hQ541, l541, y541, z541, Cr541⟩, st541⟩ := callSS X522 hx (y := yN2) hown (mvT hZ (hv hw 37 rfl)) (mvT hZ (hv hw 38 rfl)) (mvT hZ (hv hw 39 rfl)) (mvT hZ (hv hw 40 rfl)) (by decide) (backOfSH (W := 0) (rmDo l Z a0 hw [] b472 b482 _ _ [r453, r454] [cp] T522.heap n0 O522 hEL wS G1 S1 P1 f530 f532 hno540 (by simp) (by simp)) hZ (hv hw 40 rfl) (hv hw 39 rfl) (by decide) (by decide) hEL H522) (g := (mkF m 226 #[vi p0, vi p1, vi p2, vi p3, vi p4, vi 1, vi 0, vi r453, vi r454, vi cp, vi dp, vr b457, vr b465, vr b472, vr b482, vr b494, .val (.int (Int32.ofNat ((((([] : List Int32) ++ encB (r453.toInt8.toInt32)) ++ encB (r454.toInt8.toInt32)) ++ [(58 : Int32)]) ++ encB (cp.toInt8.toInt32)).length)), un, un] [(.ref b482), (.ref b472)])) rfl (by rw [hml]; rfl) (argsL := [(.ref b472), (.ref b482)]) (rest := []) (lenOf pd_12 rfl) rfl (by exact Nat.le_of_eq rfl) (hb hby at_226) (fun _ _ => ⟨rfl, rfl, (by decide : 7 + 5 ≤ _), (by decide : 23 + 58 ≤ _)⟩)
   dsimp only [Pt.U, Pt.locs, Pt.cells, Pt.slots] at X541 l541 y541 z541 st541 hQ541 hS'541 hg'541 Cr541
   rw [l541, y541, z541] at X541
   obtain ⟨d541, rfl, Nq541, Kq541, q1_541, q2_541, q3_541⟩ := hQ541
   have N541 := Fr.app N522 Nq541
   have X541 : Stand p l e _ (s.setVm T541.vm) m _ below meth c T541 _ _ _ := X541
   obtain ⟨hZ541, hown541⟩ := wideOn hZ hS'541 hown
   have hS541 : s.Since T541.vm T541.heap.size := hS0.trans hS'541 (Nat.le_trans hk522 hg'541)
   have hk541 := Nat.le_refl T541.heap.size
   have sf542 : Safe Z consts_1 T541.vm T541.heap b472 := Cr541.safe lt534 sf525
   have sf543 : Safe Z consts_1 T541.vm T541.heap b482 := Cr541.safe lt535 sf526
   have sf544 : Safe Z consts_1 T541.vm T541.heap b494 := Cr541.safe lt536 sf527
   have C541 := C522.trans Cr541
   have K541 : Keep h0 T541.heap [] := K522.trans Kq541 all0
   have O541 : Old Z n0 T541.heap := O522.keep Kq541 all0
   refine Go.tr st541 ?_
   show Go p.tables e below Kx _ (mkF m 229 _ [(.ref d541)])
   refine s_astore (pc' := 231) (Ls' := #[vi p0, vi p1, vi p2, vi p3, vi p4, vi 1, vi 0, vi r453, vi r454, vi cp, vi dp, vr b457, vr b465, vr b472, vr b482, vr b494, .val (.int (Int32.ofNat ((((([] : List Int32) ++ encB (r453.toInt8.toInt32)) ++ encB (r454.toInt8.toInt32)) ++ [(58 : Int32)]) ++ encB (cp.toInt8.toInt32)).length)), vr d541, un]) X541.here hx (hb hby at_229) rfl rfl rfl ?_
   refine s_aload (pc' := 233) X541.here hx (hb hby at_231) rfl rfl rfl ?_
   refine s_ifnonnullY (pc' := 238) X541.here hx (hb hby at_233) (by decide) (by decide) ?_
   refine s_aload (pc' := 240) X541.here hx (hb hby at_238) rfl rfl rfl ?_
   refine s_aload (pc' := 242) X541.here hx (hb hby at_240) rfl rfl rfl ?_
   obtain ⟨cq545, kq545, q545a, q545b, q545c⟩ := isOf hZ541 rfl q1_541
   obtain ⟨_, _, ⟨T545, L545, k545, n545⟩, -, X545, ⟨Lc545, hQ545, l545, y545, z545⟩, st545⟩ := X541.virtualBack hx (y := yN3) (z := yN3) hown541 (mvT hZ541 (hv hw 106 rfl)) (mvT hZ541 (hv hw 107 rfl)) (notFace_of_selects (args := #[]) (mvT hZ541 (hv hw 109 rfl))) (mvT hZ541 (hv hw 109 rfl)) (mvT hZ541 (hv hw 108 rfl)) (by decide) (backOf (W := 1) (rmDu l Z a0 hw [] d541 b472 T541.heap n0 O541 q2_541) hZ541 (hv hw 110 rfl) (hv hw 39 rfl) (by decide) (by decide)) q545a q545c (g := (mkF m 242 #[vi p0, vi p1, vi p2, vi p3, vi p4, vi 1, vi 0, vi r453, vi r454, vi cp, vi dp, vr b457, vr b465, vr b472, vr b482, vr b494, .val (.int (Int32.ofNat ((((([] : List Int32) ++ encB (r453.toInt8.toInt32)) ++ encB (r454.toInt8.toInt32)) ++ [(58 : Int32)]) ++ encB (cp.toInt8.toInt32)).length)), vr d541, un] [(.ref d541), (.ref b472)])) rfl (by rw [hml]; rfl) (Steps.refl _) (argsL := []) (rest := [(.ref b472)]) (lenOf pd_13 rfl) rfl (by exact Nat.le_of_eq rfl) (hb hby at_242) (fun _ _ => ⟨rfl, rfl, (by decide : 12 + 0 ≤ _), (by decide : 81 + 0 ≤ _)⟩)
   dsimp only [Pt.U, Pt.locs, Pt.cells, Pt.slots] at X545 l545 y545 z545 st545 hQ545
   rw [l545, y545, z545] at X545
   obtain ⟨rfl, Nq545, hE545⟩ := hQ545
   have N545 := Fr.app N541 Nq545
   refine Go.tr st545 ?_
   show Go p.tables e below Kx _ (mkF m 245 _ [(.ref b472), (.ref b472)])
   have f547 : Exa Z T541.heap b472 "java/lang/String" := (f529.keep Kq541)
   obtain ⟨cq546, kq546, q546a, q546b, q546c⟩ := isOf hZ541 hE545 f547
   obtain ⟨_, _, ⟨T546, L546, k546, n546⟩, -, X546, ⟨Lc546, hQ546, l546, y546, z546⟩, st546⟩ := X545.virtualBack hx (y := yN23) (z := yN23) hown541 (mvT hZ541 (hv hw 111 rfl)) (mvT hZ541 (hv hw 112 rfl)) (notFace_of_selects (args := #[]) (mvT hZ541 (hv hw 114 rfl))) (mvT hZ541 (hv hw 114 rfl)) (mvT hZ541 (hv hw 113 rfl)) (by decide) (backOf (W := 0) (rmKes l Z a0 hw [] b472 T541.heap n0 O541 ) hZ541 (hv hw 115 rfl) (hv hw 7 rfl) (by decide) (by decide)) q546a q546c (g := (mkF m 245 #[vi p0, vi p1, vi p2, vi p3, vi p4, vi 1, vi 0, vi r453, vi r454, vi cp, vi dp, vr b457, vr b465, vr b472, vr b482, vr b494, .val (.int (Int32.ofNat ((((([] : List Int32) ++ encB (r453.toInt8.toInt32)) ++ encB (r454.toInt8.toInt32)) ++ [(58 : Int32)]) ++ encB (cp.toInt8.toInt32)).length)), vr d541, un] [(.ref b472), (.ref b472)])) rfl (by rw [hml]; rfl) (Steps.refl _) (argsL := [(.ref b472)]) (rest := []) (lenOf pd_14 rfl) rfl (by exact Nat.le_of_eq rfl) (hb hby at_245) (fun _ _ => ⟨rfl, hE545, (by decide : 12 + 0 ≤ _), (by decide : 81 + 0 ≤ _)⟩)
   dsimp only [Pt.U, Pt.locs, Pt.cells, Pt.slots] at X546 l546 y546 z546 st546 hQ546
   rw [l546, y546, z546] at X546
   obtain ⟨rfl, Nq546, hE546⟩ := hQ546
   have N546 := Fr.app N545 Nq546
   refine Go.tr st546 ?_
   show Go p.tables e below Kx _ (mkF m 248 _ [(.int 1)])
   refine s_ifY (pc' := 253) X546.here hx (hb hby at_248) ((if0 _ _).trans (feq (by decide)).2) (by decide) (by decide) ?_
   refine s_aload (pc' := 255) X546.here hx (hb hby at_253) rfl rfl rfl ?_
   have f548 : Str Z T541.heap T478.heap.size b472 [r453, r454] := (f530.keep Kq541 all0)
   have f549 : Str Z T541.heap T489.heap.size b482 [cp] := (f532.keep Kq541 all0)
   obtain ⟨cq550, kq550, q550a, q550b, q550c⟩ := isOf hZ541 hE546 q1_541
   obtain ⟨_, _, ⟨T550, L550, k550, n550⟩, -, X550, hS'550, hg'550, ⟨Lc550, hQ550, l550, y550, z550, Cr550⟩, st550⟩ := X546.virtualBackS hx (y := yN1) (z := yN1) hown541 (mvT hZ541 (hv hw 116 rfl)) (mvT hZ541 (hv hw 117 rfl)) (notFace_of_selects (args := #[]) (mvT hZ541 (hv hw 119 rfl))) (mvT hZ541 (hv hw 119 rfl)) (mvT hZ541 (hv hw 118 rfl)) (by decide) (backOfSH (W := 0) (rmDa l Z a0 hw [] d541 b472 b482 u8 _ _ [r453, r454] [cp] T541.heap n0 O541 hEL wS G1 S1 P1 SU SC q1_541 q2_541 q3_541 f548 f549 (by simp)) hZ541 (hv hw 120 rfl) (hv hw 39 rfl) (by decide) (by decide) hEL Cr541.1) q550a q550c (g := (mkF m 255 #[vi p0, vi p1, vi p2, vi p3, vi p4, vi 1, vi 0, vi r453, vi r454, vi cp, vi dp, vr b457, vr b465, vr b472, vr b482, vr b494, .val (.int (Int32.ofNat ((((([] : List Int32) ++ encB (r453.toInt8.toInt32)) ++ encB (r454.toInt8.toInt32)) ++ [(58 : Int32)]) ++ encB (cp.toInt8.toInt32)).length)), vr d541, un] [(.ref d541)])) rfl (by rw [hml]; rfl) (Steps.refl _) (argsL := []) (rest := []) (lenOf pd_22 rfl) rfl (by exact Nat.le_of_eq rfl) (hb hby at_255) (fun _ _ => ⟨rfl, hE546, (by decide : 12 + 8 ≤ _), (by decide : 81 + 120 ≤ _)⟩)
   dsimp only [Pt.U, Pt.locs, Pt.cells, Pt.slots] at X550 l550 y550 z550 st550 hQ550 hS'550 hg'550 Cr550
   rw [l550, y550, z550] at X550
   obtain ⟨t550, kt550, rfl, Nq550, Kq550, le550, q1_550⟩ := hQ550
   have sz550 : h0.size ≤ t550 := Nat.le_trans K541.1 le550
   have ge550 : n0 ≤ t550 := Nat.le_trans (O541.1 ▸ O541.2.1) le550
   have sn550 : Safe Z consts_1 T541.vm T541.heap t550 := Safe.new le550
   have N550 := Fr.app N546 Nq550
   have X550 : Stand p l e _ (s.setVm T550.vm) m _ below meth c T550 _ _ _ := X550
   obtain ⟨hZ550, hown550⟩ := wideOn hZ541 hS'550 hown541
   have hS550 : s.Since T550.vm T550.heap.size := hS541.trans hS'550 (Nat.le_trans hk541 (by rw [hE546] at hg'550; exact hg'550))
   have hk550 := Nat.le_refl T550.heap.size
   have sf551 : Safe Z consts_1 T550.vm T550.heap b472 := Cr550.safe (Nat.lt_of_lt_of_le lt534 Kq541.1) sf542
   have sf552 : Safe Z consts_1 T550.vm T550.heap b482 := Cr550.safe (Nat.lt_of_lt_of_le lt535 Kq541.1) sf543
   have sf553 : Safe Z consts_1 T550.vm T550.heap b494 := Cr550.safe (Nat.lt_of_lt_of_le lt536 Kq541.1) sf544
   have C550 := C541.trans Cr550
   have K550 : Keep h0 T550.heap [] := K541.trans Kq550 all0
   have O550 : Old Z n0 T550.heap := O541.keep Kq550 all0
   refine Go.tr st550 ?_
   show Go p.tables e below Kx _ (mkF m 258 _ [(.ref t550)])
   have hX550 : enc (((([] : List Int32) ++ (i8s [r453, r454])) ++ [(58 : Int32)]) ++ (i8s [cp])) = ((((([] : List Int32) ++ encB (r453.toInt8.toInt32)) ++ encB (r454.toInt8.toInt32)) ++ [(58 : Int32)]) ++ encB (cp.toInt8.toInt32)) := by simp [i8s, enc, encB58, t58]
   rw [hX550] at q1_550
   refine s_astore (pc' := 260) (Ls' := #[vi p0, vi p1, vi p2, vi p3, vi p4, vi 1, vi 0, vi r453, vi r454, vi cp, vi dp, vr b457, vr b465, vr b472, vr b482, vr b494, .val (.int (Int32.ofNat ((((([] : List Int32) ++ encB (r453.toInt8.toInt32)) ++ encB (r454.toInt8.toInt32)) ++ [(58 : Int32)]) ++ encB (cp.toInt8.toInt32)).length)), vr d541, vr t550]) X550.here hx (hb hby at_258) rfl rfl rfl ?_
   have f554 : Arv Z T550.heap b494 k494 .byte 9 (pad 9 ((((([] : List Int32) ++ encB (r453.toInt8.toInt32)) ++ encB (r454.toInt8.toInt32)) ++ [(58 : Int32)]) ++ encB (cp.toInt8.toInt32))) (.int 0) := ((q1_522.keep Kq541 nin0).keep Kq550 nin0)
   have f555 : Exa Z T550.heap b494 "[B" := ((f533.keep Kq541).keep Kq550)
   have lt556 : b494 < T550.heap.size := (Nat.lt_of_lt_of_le lt536 (Nat.le_trans Kq541.1 Kq550.1))
   have lt557 : t550 < T550.heap.size := q1_550.lt
   have ne558 : b494 ≠ t550 := (Nat.ne_of_lt (Nat.lt_of_lt_of_le (Nat.lt_of_lt_of_le lt536 Kq541.1) le550))
   (try clear hX550); (try clear sf552); (try clear sf551); (try clear sn550); (try clear Kq550); (try clear Nq550); (try clear st550); (try clear z550); (try clear y550); (try clear l550); (try clear hQ550); (try clear Lc550)
   (try clear hg'550); (try clear hS'550); (try clear n550); (try clear k550); (try clear L550); (try clear q550c); (try clear q550b); (try clear q550a); (try clear kq550); (try clear cq550); (try clear f549); (try clear f548)
   (try clear N546); (try clear hE546); (try clear Nq546); (try clear st546); (try clear z546); (try clear y546); (try clear l546); (try clear hQ546); (try clear Lc546); (try clear X546); (try clear n546); (try clear k546)
   (try clear L546); (try clear T546); (try clear q546c); (try clear q546b); (try clear q546a); (try clear kq546); (try clear cq546); (try clear f547); (try clear N545); (try clear hE545); (try clear Nq545); (try clear st545)
   (try clear z545); (try clear y545); (try clear l545); (try clear hQ545); (try clear Lc545); (try clear X545); (try clear n545); (try clear k545); (try clear L545); (try clear T545); (try clear q545c); (try clear q545b)
   (try clear q545a); (try clear kq545); (try clear cq545); (try clear O541); (try clear K541); (try clear C541); (try clear sf544); (try clear sf543); (try clear sf542); (try clear hk541); (try clear hS541); (try clear hown541)
   (try clear hZ541); (try clear N541); (try clear q3_541); (try clear q2_541); (try clear q1_541); (try clear Kq541); (try clear Nq541); (try clear st541); (try clear Cr541); (try clear z541); (try clear y541); (try clear l541)
   (try clear hQ541); (try clear Lc541); (try clear hg'541); (try clear hS'541); (try clear X541); (try clear n541); (try clear k541); (try clear L541); (try clear T541); (try clear _); (try clear hno540); (try clear ne539)
   (try clear ne538); (try clear ne537); (try clear lt536); (try clear lt535); (try clear lt534); (try clear f533); (try clear f532); (try clear f531); (try clear f530); (try clear f529); (try clear hk522); (try clear C522)
   (try clear H522); (try clear sf527); (try clear sf526); (try clear sf525); (try clear O522); (try clear K522); (try clear N522); (try clear q1_522); (try clear X522); (try clear T522); (try clear T489); (try clear ge482)
   (try clear sz482); (try clear g482); (try clear T478); (try clear ge472); (try clear sz472); (try clear g472); (try clear hS0)
   show Go p.tables e below Kx _ (mkF m 260 _ [])
   refine s_aload (pc' := 262) X550.here hx (hb hby at_260) rfl rfl rfl ?_
   refine s_ifnullN (pc' := 265) X550.here hx (hb hby at_262) rfl ?_
   refine s_aload (pc' := 267) X550.here hx (hb hby at_265) rfl rfl rfl ?_
   obtain ⟨cl559, Ar559, Aq559, As559, An559, Ah559, Ag559⟩ := id q1_550
   refine Go.st (X550.arraylength hx (by  exact Ar559.1) (State.isArrayOf_alike hZ550.alike Ar559.2.1) (g := (mkF m 267 #[vi p0, vi p1, vi p2, vi p3, vi p4, vi 1, vi 0, vi r453, vi r454, vi cp, vi dp, vr b457, vr b465, vr b472, vr b482, vr b494, .val (.int (Int32.ofNat ((((([] : List Int32) ++ encB (r453.toInt8.toInt32)) ++ encB (r454.toInt8.toInt32)) ++ [(58 : Int32)]) ++ encB (cp.toInt8.toInt32)).length)), vr d541, vr t550] [(.ref t550)])) rfl rfl (hb hby at_267)) ?_
   rw [len_of As559 An559]
   show Go p.tables e below Kx _ (mkF m 268 _ [(.int (Int32.ofNat ((((([] : List Int32) ++ encB (r453.toInt8.toInt32)) ++ encB (r454.toInt8.toInt32)) ++ [(58 : Int32)]) ++ encB (cp.toInt8.toInt32)).length))])
   refine s_iload (pc' := 270) X550.here hx (hb hby at_268) rfl rfl ?_
   refine s_icmpY (pc' := 275) X550.here hx (hb hby at_270) (teq rfl).1 (by decide) (by decide) ?_
   refine s_aload (pc' := 277) X550.here hx (hb hby at_275) rfl rfl rfl ?_
   refine s_aload (pc' := 279) X550.here hx (hb hby at_277) rfl rfl rfl ?_
   refine s_iload (pc' := 281) X550.here hx (hb hby at_279) rfl rfl ?_
   refine s_iconst (pc' := 282) (v := 0) X550.here hx (hb hby at_281) rfl rfl ?_
   obtain ⟨_, _, ⟨T560, L560, k560, n560⟩, -, X560, ⟨Lc560, hQ560, l560, y560, z560⟩, st560⟩ := Jvm.LawKit.callS X550 hx (y := yN5) hown550 (mvT hZ550 (hv hw 251 rfl)) (mvT hZ550 (hv hw 252 rfl)) (mvT hZ550 (hv hw 2 rfl)) (mvT hZ550 (hv hw 253 rfl)) (by decide) (backOf (W := 0) (rmDs l Z a0 hw [] t550 b494 _ _ ((((([] : List Int32) ++ encB (r453.toInt8.toInt32)) ++ encB (r454.toInt8.toInt32)) ++ [(58 : Int32)]) ++ encB (cp.toInt8.toInt32)) 0 T550.heap n0 O550 q1_550 f554 (Nat.le_trans hp528 (by decide)) (by decide)) hZ550 (hv hw 253 rfl) (hv hw 2 rfl) (by decide) (by decide)) (g := (mkF m 282 #[vi p0, vi p1, vi p2, vi p3, vi p4, vi 1, vi 0, vi r453, vi r454, vi cp, vi dp, vr b457, vr b465, vr b472, vr b482, vr b494, .val (.int (Int32.ofNat ((((([] : List Int32) ++ encB (r453.toInt8.toInt32)) ++ encB (r454.toInt8.toInt32)) ++ [(58 : Int32)]) ++ encB (cp.toInt8.toInt32)).length)), vr d541, vr t550] [(.int 0), (.int (Int32.ofNat ((((([] : List Int32) ++ encB (r453.toInt8.toInt32)) ++ encB (r454.toInt8.toInt32)) ++ [(58 : Int32)]) ++ encB (cp.toInt8.toInt32)).length)), (.ref b494), (.ref t550)])) rfl (by rw [hml]; rfl) (argsL := [(.ref t550), (.ref b494), (.int (Int32.ofNat ((((([] : List Int32) ++ encB (r453.toInt8.toInt32)) ++ encB (r454.toInt8.toInt32)) ++ [(58 : Int32)]) ++ encB (cp.toInt8.toInt32)).length)), (.int 0)]) (rest := []) (lenOf pd_34 rfl) rfl (by exact Nat.le_of_eq rfl) (hb hby at_282) (fun _ _ => ⟨rfl, rfl, (by decide : 20 + 0 ≤ _), (by decide : 201 + 0 ≤ _)⟩)
   dsimp only [Pt.U, Pt.locs, Pt.cells, Pt.slots] at X560 l560 y560 z560 st560 hQ560
   rw [l560, y560, z560] at X560
   obtain ⟨rfl, Nq560, hE560⟩ := hQ560
   have N560 := Fr.app N550 Nq560
   refine Go.st st560 ?_
   show Go p.tables e below Kx _ (mkF m 285 _ [(.int 1)])
   refine s_ifN (pc' := 288) X560.here hx (hb hby at_285) rfl ((if0 _ _).trans (feq (by decide)).1) ?_
   refine s_aload (pc' := 290) X560.here hx (hb hby at_288) rfl rfl rfl ?_
   refine s_aload (pc' := 292) X560.here hx (hb hby at_290) rfl rfl rfl ?_
   refine s_iload (pc' := 294) X560.here hx (hb hby at_292) rfl rfl ?_
   refine s_iconst (pc' := 295) (v := 1) X560.here hx (hb hby at_294) rfl rfl ?_
   obtain ⟨_, _, ⟨T561, L561, k561, n561⟩, -, X561, ⟨Lc561, hQ561, l561, y561, z561⟩, st561⟩ := Jvm.LawKit.callS X560 hx (y := yN5) hown550 (mvT hZ550 (hv hw 251 rfl)) (mvT hZ550 (hv hw 252 rfl)) (mvT hZ550 (hv hw 2 rfl)) (mvT hZ550 (hv hw 253 rfl)) (by decide) (backOf (W := 0) (rmDs l Z a0 hw [] t550 b494 _ _ ((((([] : List Int32) ++ encB (r453.toInt8.toInt32)) ++ encB (r454.toInt8.toInt32)) ++ [(58 : Int32)]) ++ encB (cp.toInt8.toInt32)) 1 T550.heap n0 O550 q1_550 f554 (Nat.le_trans hp528 (by decide)) (by decide)) hZ550 (hv hw 253 rfl) (hv hw 2 rfl) (by decide) (by decide)) (g := (mkF m 295 #[vi p0, vi p1, vi p2, vi p3, vi p4, vi 1, vi 0, vi r453, vi r454, vi cp, vi dp, vr b457, vr b465, vr b472, vr b482, vr b494, .val (.int (Int32.ofNat ((((([] : List Int32) ++ encB (r453.toInt8.toInt32)) ++ encB (r454.toInt8.toInt32)) ++ [(58 : Int32)]) ++ encB (cp.toInt8.toInt32)).length)), vr d541, vr t550] [(.int 1), (.int (Int32.ofNat ((((([] : List Int32) ++ encB (r453.toInt8.toInt32)) ++ encB (r454.toInt8.toInt32)) ++ [(58 : Int32)]) ++ encB (cp.toInt8.toInt32)).length)), (.ref b494), (.ref t550)])) rfl (by rw [hml]; rfl) (argsL := [(.ref t550), (.ref b494), (.int (Int32.ofNat ((((([] : List Int32) ++ encB (r453.toInt8.toInt32)) ++ encB (r454.toInt8.toInt32)) ++ [(58 : Int32)]) ++ encB (cp.toInt8.toInt32)).length)), (.int 1)]) (rest := []) (lenOf pd_34 rfl) rfl (by exact Nat.le_of_eq rfl) (hb hby at_295) (fun _ _ => ⟨rfl, hE560, (by decide : 20 + 0 ≤ _), (by decide : 201 + 0 ≤ _)⟩)
   dsimp only [Pt.U, Pt.locs, Pt.cells, Pt.slots] at X561 l561 y561 z561 st561 hQ561
   rw [l561, y561, z561] at X561
   obtain ⟨rfl, Nq561, hE561⟩ := hQ561
   have N561 := Fr.app N560 Nq561
   refine Go.st st561 ?_
   show Go p.tables e below Kx _ (mkF m 298 _ [(.int 1)])
   refine s_ifN (pc' := 301) X561.here hx (hb hby at_298) rfl ((if0 _ _).trans (feq (by decide)).1) ?_
   refine s_aload (pc' := 303) X561.here hx (hb hby at_301) rfl rfl rfl ?_
   refine s_aload (pc' := 305) X561.here hx (hb hby at_303) rfl rfl rfl ?_
   refine s_iload (pc' := 307) X561.here hx (hb hby at_305) rfl rfl ?_
   refine s_iconst (pc' := 308) (v := 2) X561.here hx (hb hby at_307) rfl rfl ?_
   obtain ⟨_, _, ⟨T562, L562, k562, n562⟩, -, X562, ⟨Lc562, hQ562, l562, y562, z562⟩, st562⟩ := Jvm.LawKit.callS X561 hx (y := yN5) hown550 (mvT hZ550 (hv hw 251 rfl)) (mvT hZ550 (hv hw 252 rfl)) (mvT hZ550 (hv hw 2 rfl)) (mvT hZ550 (hv hw 253 rfl)) (by decide) (backOf (W := 0) (rmDs l Z a0 hw [] t550 b494 _ _ ((((([] : List Int32) ++ encB (r453.toInt8.toInt32)) ++ encB (r454.toInt8.toInt32)) ++ [(58 : Int32)]) ++ encB (cp.toInt8.toInt32)) 2 T550.heap n0 O550 q1_550 f554 (Nat.le_trans hp528 (by decide)) (by decide)) hZ550 (hv hw 253 rfl) (hv hw 2 rfl) (by decide) (by decide)) (g := (mkF m 308 #[vi p0, vi p1, vi p2, vi p3, vi p4, vi 1, vi 0, vi r453, vi r454, vi cp, vi dp, vr b457, vr b465, vr b472, vr b482, vr b494, .val (.int (Int32.ofNat ((((([] : List Int32) ++ encB (r453.toInt8.toInt32)) ++ encB (r454.toInt8.toInt32)) ++ [(58 : Int32)]) ++ encB (cp.toInt8.toInt32)).length)), vr d541, vr t550] [(.int 2), (.int (Int32.ofNat ((((([] : List Int32) ++ encB (r453.toInt8.toInt32)) ++ encB (r454.toInt8.toInt32)) ++ [(58 : Int32)]) ++ encB (cp.toInt8.toInt32)).length)), (.ref b494), (.ref t550)])) rfl (by rw [hml]; rfl) (argsL := [(.ref t550), (.ref b494), (.int (Int32.ofNat ((((([] : List Int32) ++ encB (r453.toInt8.toInt32)) ++ encB (r454.toInt8.toInt32)) ++ [(58 : Int32)]) ++ encB (cp.toInt8.toInt32)).length)), (.int 2)]) (rest := []) (lenOf pd_34 rfl) rfl (by exact Nat.le_of_eq rfl) (hb hby at_308) (fun _ _ => ⟨rfl, hE561, (by decide : 20 + 0 ≤ _), (by decide : 201 + 0 ≤ _)⟩)
   dsimp only [Pt.U, Pt.locs, Pt.cells, Pt.slots] at X562 l562 y562 z562 st562 hQ562
   rw [l562, y562, z562] at X562
   obtain ⟨rfl, Nq562, hE562⟩ := hQ562
   have N562 := Fr.app N561 Nq562
   refine Go.st st562 ?_
   show Go p.tables e below Kx _ (mkF m 311 _ [(.int 1)])
   refine s_ifN (pc' := 314) X562.here hx (hb hby at_311) rfl ((if0 _ _).trans (feq (by decide)).1) ?_
   refine s_aload (pc' := 316) X562.here hx (hb hby at_314) rfl rfl rfl ?_
   refine s_aload (pc' := 318) X562.here hx (hb hby at_316) rfl rfl rfl ?_
   refine s_iload (pc' := 320) X562.here hx (hb hby at_318) rfl rfl ?_
   refine s_iconst (pc' := 321) (v := 3) X562.here hx (hb hby at_320) rfl rfl ?_
   obtain ⟨_, _, ⟨T563, L563, k563, n563⟩, -, X563, ⟨Lc563, hQ563, l563, y563, z563⟩, st563⟩ := Jvm.LawKit.callS X562 hx (y := yN5) hown550 (mvT hZ550 (hv hw 251 rfl)) (mvT hZ550 (hv hw 252 rfl)) (mvT hZ550 (hv hw 2 rfl)) (mvT hZ550 (hv hw 253 rfl)) (by decide) (backOf (W := 0) (rmDs l Z a0 hw [] t550 b494 _ _ ((((([] : List Int32) ++ encB (r453.toInt8.toInt32)) ++ encB (r454.toInt8.toInt32)) ++ [(58 : Int32)]) ++ encB (cp.toInt8.toInt32)) 3 T550.heap n0 O550 q1_550 f554 (Nat.le_trans hp528 (by decide)) (by decide)) hZ550 (hv hw 253 rfl) (hv hw 2 rfl) (by decide) (by decide)) (g := (mkF m 321 #[vi p0, vi p1, vi p2, vi p3, vi p4, vi 1, vi 0, vi r453, vi r454, vi cp, vi dp, vr b457, vr b465, vr b472, vr b482, vr b494, .val (.int (Int32.ofNat ((((([] : List Int32) ++ encB (r453.toInt8.toInt32)) ++ encB (r454.toInt8.toInt32)) ++ [(58 : Int32)]) ++ encB (cp.toInt8.toInt32)).length)), vr d541, vr t550] [(.int 3), (.int (Int32.ofNat ((((([] : List Int32) ++ encB (r453.toInt8.toInt32)) ++ encB (r454.toInt8.toInt32)) ++ [(58 : Int32)]) ++ encB (cp.toInt8.toInt32)).length)), (.ref b494), (.ref t550)])) rfl (by rw [hml]; rfl) (argsL := [(.ref t550), (.ref b494), (.int (Int32.ofNat ((((([] : List Int32) ++ encB (r453.toInt8.toInt32)) ++ encB (r454.toInt8.toInt32)) ++ [(58 : Int32)]) ++ encB (cp.toInt8.toInt32)).length)), (.int 3)]) (rest := []) (lenOf pd_34 rfl) rfl (by exact Nat.le_of_eq rfl) (hb hby at_321) (fun _ _ => ⟨rfl, hE562, (by decide : 20 + 0 ≤ _), (by decide : 201 + 0 ≤ _)⟩)
   dsimp only [Pt.U, Pt.locs, Pt.cells, Pt.slots] at X563 l563 y563 z563 st563 hQ563
   rw [l563, y563, z563] at X563
   obtain ⟨rfl, Nq563, hE563⟩ := hQ563
   have N563 := Fr.app N562 Nq563
   refine Go.st st563 ?_
   show Go p.tables e below Kx _ (mkF m 324 _ [(.int 1)])
   refine s_ifN (pc' := 327) X563.here hx (hb hby at_324) rfl ((if0 _ _).trans (feq (by decide)).1) ?_
   refine s_aload (pc' := 329) X563.here hx (hb hby at_327) rfl rfl rfl ?_
   refine s_aload (pc' := 331) X563.here hx (hb hby at_329) rfl rfl rfl ?_
   refine s_iload (pc' := 333) X563.here hx (hb hby at_331) rfl rfl ?_
   refine s_iconst (pc' := 334) (v := 4) X563.here hx (hb hby at_333) rfl rfl ?_
   obtain ⟨_, _, ⟨T564, L564, k564, n564⟩, -, X564, ⟨Lc564, hQ564, l564, y564, z564⟩, st564⟩ := Jvm.LawKit.callS X563 hx (y := yN5) hown550 (mvT hZ550 (hv hw 251 rfl)) (mvT hZ550 (hv hw 252 rfl)) (mvT hZ550 (hv hw 2 rfl)) (mvT hZ550 (hv hw 253 rfl)) (by decide) (backOf (W := 0) (rmDs l Z a0 hw [] t550 b494 _ _ ((((([] : List Int32) ++ encB (r453.toInt8.toInt32)) ++ encB (r454.toInt8.toInt32)) ++ [(58 : Int32)]) ++ encB (cp.toInt8.toInt32)) 4 T550.heap n0 O550 q1_550 f554 (Nat.le_trans hp528 (by decide)) (by decide)) hZ550 (hv hw 253 rfl) (hv hw 2 rfl) (by decide) (by decide)) (g := (mkF m 334 #[vi p0, vi p1, vi p2, vi p3, vi p4, vi 1, vi 0, vi r453, vi r454, vi cp, vi dp, vr b457, vr b465, vr b472, vr b482, vr b494, .val (.int (Int32.ofNat ((((([] : List Int32) ++ encB (r453.toInt8.toInt32)) ++ encB (r454.toInt8.toInt32)) ++ [(58 : Int32)]) ++ encB (cp.toInt8.toInt32)).length)), vr d541, vr t550] [(.int 4), (.int (Int32.ofNat ((((([] : List Int32) ++ encB (r453.toInt8.toInt32)) ++ encB (r454.toInt8.toInt32)) ++ [(58 : Int32)]) ++ encB (cp.toInt8.toInt32)).length)), (.ref b494), (.ref t550)])) rfl (by rw [hml]; rfl) (argsL := [(.ref t550), (.ref b494), (.int (Int32.ofNat ((((([] : List Int32) ++ encB (r453.toInt8.toInt32)) ++ encB (r454.toInt8.toInt32)) ++ [(58 : Int32)]) ++ encB (cp.toInt8.toInt32)).length)), (.int 4)]) (rest := []) (lenOf pd_34 rfl) rfl (by exact Nat.le_of_eq rfl) (hb hby at_334) (fun _ _ => ⟨rfl, hE563, (by decide : 20 + 0 ≤ _), (by decide : 201 + 0 ≤ _)⟩)
   dsimp only [Pt.U, Pt.locs, Pt.cells, Pt.slots] at X564 l564 y564 z564 st564 hQ564
   rw [l564, y564, z564] at X564
   obtain ⟨rfl, Nq564, hE564⟩ := hQ564
   have N564 := Fr.app N563 Nq564
   refine Go.st st564 ?_
   show Go p.tables e below Kx _ (mkF m 337 _ [(.int 1)])
   refine s_ifN (pc' := 340) X564.here hx (hb hby at_337) rfl ((if0 _ _).trans (feq (by decide)).1) ?_
   refine s_aload (pc' := 342) X564.here hx (hb hby at_340) rfl rfl rfl ?_
   refine s_aload (pc' := 344) X564.here hx (hb hby at_342) rfl rfl rfl ?_
   refine s_iload (pc' := 346) X564.here hx (hb hby at_344) rfl rfl ?_
   refine s_iconst (pc' := 347) (v := 5) X564.here hx (hb hby at_346) rfl rfl ?_
   obtain ⟨_, _, ⟨T565, L565, k565, n565⟩, -, X565, ⟨Lc565, hQ565, l565, y565, z565⟩, st565⟩ := Jvm.LawKit.callS X564 hx (y := yN5) hown550 (mvT hZ550 (hv hw 251 rfl)) (mvT hZ550 (hv hw 252 rfl)) (mvT hZ550 (hv hw 2 rfl)) (mvT hZ550 (hv hw 253 rfl)) (by decide) (backOf (W := 0) (rmDs l Z a0 hw [] t550 b494 _ _ ((((([] : List Int32) ++ encB (r453.toInt8.toInt32)) ++ encB (r454.toInt8.toInt32)) ++ [(58 : Int32)]) ++ encB (cp.toInt8.toInt32)) 5 T550.heap n0 O550 q1_550 f554 (Nat.le_trans hp528 (by decide)) (by decide)) hZ550 (hv hw 253 rfl) (hv hw 2 rfl) (by decide) (by decide)) (g := (mkF m 347 #[vi p0, vi p1, vi p2, vi p3, vi p4, vi 1, vi 0, vi r453, vi r454, vi cp, vi dp, vr b457, vr b465, vr b472, vr b482, vr b494, .val (.int (Int32.ofNat ((((([] : List Int32) ++ encB (r453.toInt8.toInt32)) ++ encB (r454.toInt8.toInt32)) ++ [(58 : Int32)]) ++ encB (cp.toInt8.toInt32)).length)), vr d541, vr t550] [(.int 5), (.int (Int32.ofNat ((((([] : List Int32) ++ encB (r453.toInt8.toInt32)) ++ encB (r454.toInt8.toInt32)) ++ [(58 : Int32)]) ++ encB (cp.toInt8.toInt32)).length)), (.ref b494), (.ref t550)])) rfl (by rw [hml]; rfl) (argsL := [(.ref t550), (.ref b494), (.int (Int32.ofNat ((((([] : List Int32) ++ encB (r453.toInt8.toInt32)) ++ encB (r454.toInt8.toInt32)) ++ [(58 : Int32)]) ++ encB (cp.toInt8.toInt32)).length)), (.int 5)]) (rest := []) (lenOf pd_34 rfl) rfl (by exact Nat.le_of_eq rfl) (hb hby at_347) (fun _ _ => ⟨rfl, hE564, (by decide : 20 + 0 ≤ _), (by decide : 201 + 0 ≤ _)⟩)
   dsimp only [Pt.U, Pt.locs, Pt.cells, Pt.slots] at X565 l565 y565 z565 st565 hQ565
   rw [l565, y565, z565] at X565
   obtain ⟨rfl, Nq565, hE565⟩ := hQ565
   have N565 := Fr.app N564 Nq565
   refine Go.st st565 ?_
   show Go p.tables e below Kx _ (mkF m 350 _ [(.int 1)])
   refine s_ifN (pc' := 353) X565.here hx (hb hby at_350) rfl ((if0 _ _).trans (feq (by decide)).1) ?_
   refine s_aload (pc' := 355) X565.here hx (hb hby at_353) rfl rfl rfl ?_
   refine s_aload (pc' := 357) X565.here hx (hb hby at_355) rfl rfl rfl ?_
   refine s_iload (pc' := 359) X565.here hx (hb hby at_357) rfl rfl ?_
   refine s_bipush (pc' := 361) (v := 6) X565.here hx (hb hby at_359) rfl rfl ?_
   obtain ⟨_, _, ⟨T566, L566, k566, n566⟩, -, X566, ⟨Lc566, hQ566, l566, y566, z566⟩, st566⟩ := Jvm.LawKit.callS X565 hx (y := yN5) hown550 (mvT hZ550 (hv hw 251 rfl)) (mvT hZ550 (hv hw 252 rfl)) (mvT hZ550 (hv hw 2 rfl)) (mvT hZ550 (hv hw 253 rfl)) (by decide) (backOf (W := 0) (rmDs l Z a0 hw [] t550 b494 _ _ ((((([] : List Int32) ++ encB (r453.toInt8.toInt32)) ++ encB (r454.toInt8.toInt32)) ++ [(58 : Int32)]) ++ encB (cp.toInt8.toInt32)) 6 T550.heap n0 O550 q1_550 f554 (Nat.le_trans hp528 (by decide)) (by decide)) hZ550 (hv hw 253 rfl) (hv hw 2 rfl) (by decide) (by decide)) (g := (mkF m 361 #[vi p0, vi p1, vi p2, vi p3, vi p4, vi 1, vi 0, vi r453, vi r454, vi cp, vi dp, vr b457, vr b465, vr b472, vr b482, vr b494, .val (.int (Int32.ofNat ((((([] : List Int32) ++ encB (r453.toInt8.toInt32)) ++ encB (r454.toInt8.toInt32)) ++ [(58 : Int32)]) ++ encB (cp.toInt8.toInt32)).length)), vr d541, vr t550] [(.int 6), (.int (Int32.ofNat ((((([] : List Int32) ++ encB (r453.toInt8.toInt32)) ++ encB (r454.toInt8.toInt32)) ++ [(58 : Int32)]) ++ encB (cp.toInt8.toInt32)).length)), (.ref b494), (.ref t550)])) rfl (by rw [hml]; rfl) (argsL := [(.ref t550), (.ref b494), (.int (Int32.ofNat ((((([] : List Int32) ++ encB (r453.toInt8.toInt32)) ++ encB (r454.toInt8.toInt32)) ++ [(58 : Int32)]) ++ encB (cp.toInt8.toInt32)).length)), (.int 6)]) (rest := []) (lenOf pd_34 rfl) rfl (by exact Nat.le_of_eq rfl) (hb hby at_361) (fun _ _ => ⟨rfl, hE565, (by decide : 20 + 0 ≤ _), (by decide : 201 + 0 ≤ _)⟩)
   dsimp only [Pt.U, Pt.locs, Pt.cells, Pt.slots] at X566 l566 y566 z566 st566 hQ566
   rw [l566, y566, z566] at X566
   obtain ⟨rfl, Nq566, hE566⟩ := hQ566
   have N566 := Fr.app N565 Nq566
   refine Go.st st566 ?_
   show Go p.tables e below Kx _ (mkF m 364 _ [(.int 1)])
   refine s_ifN (pc' := 367) X566.here hx (hb hby at_364) rfl ((if0 _ _).trans (feq (by decide)).1) ?_
   refine s_aload (pc' := 369) X566.here hx (hb hby at_367) rfl rfl rfl ?_
   refine s_aload (pc' := 371) X566.here hx (hb hby at_369) rfl rfl rfl ?_
   refine s_iload (pc' := 373) X566.here hx (hb hby at_371) rfl rfl ?_
   refine s_bipush (pc' := 375) (v := 7) X566.here hx (hb hby at_373) rfl rfl ?_
   obtain ⟨_, _, ⟨T567, L567, k567, n567⟩, -, X567, ⟨Lc567, hQ567, l567, y567, z567⟩, st567⟩ := Jvm.LawKit.callS X566 hx (y := yN5) hown550 (mvT hZ550 (hv hw 251 rfl)) (mvT hZ550 (hv hw 252 rfl)) (mvT hZ550 (hv hw 2 rfl)) (mvT hZ550 (hv hw 253 rfl)) (by decide) (backOf (W := 0) (rmDs l Z a0 hw [] t550 b494 _ _ ((((([] : List Int32) ++ encB (r453.toInt8.toInt32)) ++ encB (r454.toInt8.toInt32)) ++ [(58 : Int32)]) ++ encB (cp.toInt8.toInt32)) 7 T550.heap n0 O550 q1_550 f554 (Nat.le_trans hp528 (by decide)) (by decide)) hZ550 (hv hw 253 rfl) (hv hw 2 rfl) (by decide) (by decide)) (g := (mkF m 375 #[vi p0, vi p1, vi p2, vi p3, vi p4, vi 1, vi 0, vi r453, vi r454, vi cp, vi dp, vr b457, vr b465, vr b472, vr b482, vr b494, .val (.int (Int32.ofNat ((((([] : List Int32) ++ encB (r453.toInt8.toInt32)) ++ encB (r454.toInt8.toInt32)) ++ [(58 : Int32)]) ++ encB (cp.toInt8.toInt32)).length)), vr d541, vr t550] [(.int 7), (.int (Int32.ofNat ((((([] : List Int32) ++ encB (r453.toInt8.toInt32)) ++ encB (r454.toInt8.toInt32)) ++ [(58 : Int32)]) ++ encB (cp.toInt8.toInt32)).length)), (.ref b494), (.ref t550)])) rfl (by rw [hml]; rfl) (argsL := [(.ref t550), (.ref b494), (.int (Int32.ofNat ((((([] : List Int32) ++ encB (r453.toInt8.toInt32)) ++ encB (r454.toInt8.toInt32)) ++ [(58 : Int32)]) ++ encB (cp.toInt8.toInt32)).length)), (.int 7)]) (rest := []) (lenOf pd_34 rfl) rfl (by exact Nat.le_of_eq rfl) (hb hby at_375) (fun _ _ => ⟨rfl, hE566, (by decide : 20 + 0 ≤ _), (by decide : 201 + 0 ≤ _)⟩)
   dsimp only [Pt.U, Pt.locs, Pt.cells, Pt.slots] at X567 l567 y567 z567 st567 hQ567
   rw [l567, y567, z567] at X567
   obtain ⟨rfl, Nq567, hE567⟩ := hQ567
   have N567 := Fr.app N566 Nq567
   refine Go.st st567 ?_
   show Go p.tables e below Kx _ (mkF m 378 _ [(.int 1)])
   refine s_ifN (pc' := 381) X567.here hx (hb hby at_378) rfl ((if0 _ _).trans (feq (by decide)).1) ?_
   refine s_aload (pc' := 383) X567.here hx (hb hby at_381) rfl rfl rfl ?_
   refine s_aload (pc' := 385) X567.here hx (hb hby at_383) rfl rfl rfl ?_
   refine s_iload (pc' := 387) X567.here hx (hb hby at_385) rfl rfl ?_
   refine s_bipush (pc' := 389) (v := 8) X567.here hx (hb hby at_387) rfl rfl ?_
   obtain ⟨_, _, ⟨T568, L568, k568, n568⟩, -, X568, ⟨Lc568, hQ568, l568, y568, z568⟩, st568⟩ := Jvm.LawKit.callS X567 hx (y := yN5) hown550 (mvT hZ550 (hv hw 251 rfl)) (mvT hZ550 (hv hw 252 rfl)) (mvT hZ550 (hv hw 2 rfl)) (mvT hZ550 (hv hw 253 rfl)) (by decide) (backOf (W := 0) (rmDs l Z a0 hw [] t550 b494 _ _ ((((([] : List Int32) ++ encB (r453.toInt8.toInt32)) ++ encB (r454.toInt8.toInt32)) ++ [(58 : Int32)]) ++ encB (cp.toInt8.toInt32)) 8 T550.heap n0 O550 q1_550 f554 (Nat.le_trans hp528 (by decide)) (by decide)) hZ550 (hv hw 253 rfl) (hv hw 2 rfl) (by decide) (by decide)) (g := (mkF m 389 #[vi p0, vi p1, vi p2, vi p3, vi p4, vi 1, vi 0, vi r453, vi r454, vi cp, vi dp, vr b457, vr b465, vr b472, vr b482, vr b494, .val (.int (Int32.ofNat ((((([] : List Int32) ++ encB (r453.toInt8.toInt32)) ++ encB (r454.toInt8.toInt32)) ++ [(58 : Int32)]) ++ encB (cp.toInt8.toInt32)).length)), vr d541, vr t550] [(.int 8), (.int (Int32.ofNat ((((([] : List Int32) ++ encB (r453.toInt8.toInt32)) ++ encB (r454.toInt8.toInt32)) ++ [(58 : Int32)]) ++ encB (cp.toInt8.toInt32)).length)), (.ref b494), (.ref t550)])) rfl (by rw [hml]; rfl) (argsL := [(.ref t550), (.ref b494), (.int (Int32.ofNat ((((([] : List Int32) ++ encB (r453.toInt8.toInt32)) ++ encB (r454.toInt8.toInt32)) ++ [(58 : Int32)]) ++ encB (cp.toInt8.toInt32)).length)), (.int 8)]) (rest := []) (lenOf pd_34 rfl) rfl (by exact Nat.le_of_eq rfl) (hb hby at_389) (fun _ _ => ⟨rfl, hE567, (by decide : 20 + 0 ≤ _), (by decide : 201 + 0 ≤ _)⟩)
   dsimp only [Pt.U, Pt.locs, Pt.cells, Pt.slots] at X568 l568 y568 z568 st568 hQ568
   rw [l568, y568, z568] at X568
   obtain ⟨rfl, Nq568, hE568⟩ := hQ568
   have N568 := Fr.app N567 Nq568
   refine Go.st st568 ?_
   show Go p.tables e below Kx _ (mkF m 392 _ [(.int 1)])
   refine s_ifN (pc' := 395) X568.here hx (hb hby at_392) rfl ((if0 _ _).trans (feq (by decide)).1) ?_
   refine s_iconst (pc' := 396) (v := 1) X568.here hx (hb hby at_395) rfl rfl ?_
   refine s_goto (pc' := 400) X568.here hx (hb hby at_396) (by decide) (by decide) ?_
   obtain ⟨fs, hr, hrun, hended, hRW⟩ := X568.leaveW hS550 (by rw [hE568]; exact hk550) (v := (some (.int 1))) (fun h => by rw [Bd.returns] at h; cases h)
   have hCx := C550.trans (CHv.at X568 hZ550 hEL Cr550.1)
   refine Go.fin (retN X568 hx (t := .boolean) Bd.returns (by simp) (hb hby at_400) hr) (hF _ _ hrun hended ⟨_, _, rfl, ?_, ?_, hRW.1, hRW.2.1, hRW.2.2.1, hRW.2.2.2.mono (by decide) (by decide)⟩)
   ·
    show QL Z p0 p1 p2 p3 p4 u8 h0 n0 ((some (.int 1)) : Option Value) T568.heap _
    rw [hE568]
    exact ⟨rfl, N568⟩
   ·
    show CHr Z consts_1 s.vm s.heap T568.vm T568.heap
    rw [hE568, hh]; exact hCx
  ·
   refine s_ifN (pc' := 21) X0.here hx (hb hby at_18) rfl ((if0 _ _).trans (feq hc452).1) ?_
   refine s_iconst (pc' := 22) (v := 1) X0.here hx (hb hby at_21) rfl rfl ?_
   refine s_goto (pc' := 26) X0.here hx (hb hby at_22) (by decide) (by decide) ?_
   refine s_istore (pc' := 28) (Ls' := #[vi p0, vi p1, vi p2, vi p3, vi p4, vi 1, vi 1, un, un, un, un, un, un, un, un, un, un, un, un]) X0.here hx (hb hby at_26) rfl  rfl ?_
   refine s_iloadN (pc' := 29) X0.here hx (hb hby at_28) rfl rfl ?_
   obtain ⟨_, _, ⟨T569, L569, k569, n569⟩, -, X569, ⟨Lc569, hQ569, l569, y569, z569⟩, st569⟩ := Jvm.LawKit.callS X0 hx (y := yN6) hown (mvT hZ (hv hw 0 rfl)) (mvT hZ (hv hw 1 rfl)) (mvT hZ (hv hw 2 rfl)) (mvT hZ (hv hw 3 rfl)) (by decide) (backOf (W := 0) (rmU l Z a0 hw [] p0 h0 n0 X00 ) hZ (hv hw 3 rfl) (hv hw 2 rfl) (by decide) (by decide)) (g := (mkF m 29 #[vi p0, vi p1, vi p2, vi p3, vi p4, vi 1, vi 1, un, un, un, un, un, un, un, un, un, un, un, un] [(.int p0)])) rfl (by rw [hml]; rfl) (argsL := [(.int p0)]) (rest := []) (lenOf pd_0 rfl) rfl (by exact Nat.le_of_eq rfl) (hb hby at_29) (fun _ _ => ⟨rfl, e0, (by decide : 0 + 0 ≤ _), (by decide : 0 + 0 ≤ _)⟩)
   dsimp only [Pt.U, Pt.locs, Pt.cells, Pt.slots] at X569 l569 y569 z569 st569 hQ569
   rw [l569, y569, z569] at X569
   obtain ⟨⟨r569, rfl, hr569⟩, Nq569, hE569⟩ := hQ569
   have N569 := Fr.app N0 Nq569
   refine Go.st st569 ?_
   show Go p.tables e below Kx _ (mkF m 32 _ [(.int r569)])
   refine s_istore (pc' := 34) (Ls' := #[vi p0, vi p1, vi p2, vi p3, vi p4, vi 1, vi 1, vi r569, un, un, un, un, un, un, un, un, un, un, un]) X569.here hx (hb hby at_32) rfl  rfl ?_
   refine s_iloadN (pc' := 35) X569.here hx (hb hby at_34) rfl rfl ?_
   obtain ⟨_, _, ⟨T570, L570, k570, n570⟩, -, X570, ⟨Lc570, hQ570, l570, y570, z570⟩, st570⟩ := Jvm.LawKit.callS X569 hx (y := yN6) hown (mvT hZ (hv hw 0 rfl)) (mvT hZ (hv hw 1 rfl)) (mvT hZ (hv hw 2 rfl)) (mvT hZ (hv hw 3 rfl)) (by decide) (backOf (W := 0) (rmU l Z a0 hw [] p1 h0 n0 X00 ) hZ (hv hw 3 rfl) (hv hw 2 rfl) (by decide) (by decide)) (g := (mkF m 35 #[vi p0, vi p1, vi p2, vi p3, vi p4, vi 1, vi 1, vi r569, un, un, un, un, un, un, un, un, un, un, un] [(.int p1)])) rfl (by rw [hml]; rfl) (argsL := [(.int p1)]) (rest := []) (lenOf pd_0 rfl) rfl (by exact Nat.le_of_eq rfl) (hb hby at_35) (fun _ _ => ⟨rfl, hE569, (by decide : 0 + 0 ≤ _), (by decide : 0 + 0 ≤ _)⟩)
   dsimp only [Pt.U, Pt.locs, Pt.cells, Pt.slots] at X570 l570 y570 z570 st570 hQ570
   rw [l570, y570, z570] at X570
   obtain ⟨⟨r570, rfl, hr570⟩, Nq570, hE570⟩ := hQ570
   have N570 := Fr.app N569 Nq570
   refine Go.st st570 ?_
   show Go p.tables e below Kx _ (mkF m 38 _ [(.int r570)])
   refine s_istore (pc' := 40) (Ls' := #[vi p0, vi p1, vi p2, vi p3, vi p4, vi 1, vi 1, vi r569, vi r570, un, un, un, un, un, un, un, un, un, un]) X570.here hx (hb hby at_38) rfl  rfl ?_
   refine s_iloadN (pc' := 41) X570.here hx (hb hby at_40) rfl rfl ?_
   refine s_sipush (pc' := 44) (v := 255) X570.here hx (hb hby at_41) rfl rfl ?_
   refine s_iand (pc' := 45) X570.here hx (hb hby at_44) rfl rfl ?_
   have ch571 := chr_mask p2
   refine s_i2c (pc' := 46) (z := (p2 &&& 255)) X570.here hx (hb hby at_45) rfl (chr_i2c ch571) ?_
   have hcp : ¬ (p2 &&& 255) < 0 ∧ ¬ 255 < (p2 &&& 255) := chr_mask p2
   revert hcp
   generalize (p2 &&& 255) = cp
   intro hcp
   show Go p.tables e below Kx _ (mkF m 46 _ [(.int cp)])
   refine s_istore (pc' := 48) (Ls' := #[vi p0, vi p1, vi p2, vi p3, vi p4, vi 1, vi 1, vi r569, vi r570, vi cp, un, un, un, un, un, un, un, un, un]) X570.here hx (hb hby at_46) rfl  rfl ?_
   refine s_iloadN (pc' := 49) X570.here hx (hb hby at_48) rfl rfl ?_
   refine s_sipush (pc' := 52) (v := 255) X570.here hx (hb hby at_49) rfl rfl ?_
   refine s_iand (pc' := 53) X570.here hx (hb hby at_52) rfl rfl ?_
   have ch572 := chr_mask p3
   refine s_i2c (pc' := 54) (z := (p3 &&& 255)) X570.here hx (hb hby at_53) rfl (chr_i2c ch572) ?_
   have hdp : ¬ (p3 &&& 255) < 0 ∧ ¬ 255 < (p3 &&& 255) := chr_mask p3
   revert hdp
   generalize (p3 &&& 255) = dp
   intro hdp
   show Go p.tables e below Kx _ (mkF m 54 _ [(.int dp)])
   refine s_istore (pc' := 56) (Ls' := #[vi p0, vi p1, vi p2, vi p3, vi p4, vi 1, vi 1, vi r569, vi r570, vi cp, vi dp, un, un, un, un, un, un, un, un]) X570.here hx (hb hby at_54) rfl  rfl ?_
   refine s_iload (pc' := 58) X570.here hx (hb hby at_56) rfl rfl ?_
   refine s_ifN (pc' := 61) X570.here hx (hb hby at_58) rfl ((if0 _ _).trans (feq (by decide)).1) ?_
   refine s_iconst (pc' := 62) (v := 2) X570.here hx (hb hby at_61) rfl rfl ?_
   obtain ⟨T573, h573, k573, X573, e573, E573, A573, st573⟩ := newP X570 hx hZ (hv hw 4 rfl) hE570 (g := (mkF m 62 #[vi p0, vi p1, vi p2, vi p3, vi p4, vi 1, vi 1, vi r569, vi r570, vi cp, vi dp, un, un, un, un, un, un, un, un] [(.int 2)])) rfl (hb hby at_62) rfl (by decide) (cap := 2) (by decide) (by decide) (by decide) (by decide)
   obtain ⟨b573, g573⟩ : ∃ z, z = h0.size := ⟨_, rfl⟩
   rw [← g573] at A573 st573
   have sz573 : h0.size ≤ b573 := Nat.le_trans K0.1 (Nat.le_of_eq g573.symm)
   have ge573 : n0 ≤ b573 := Nat.le_trans (X00.1 ▸ X00.2.1) (Nat.le_of_eq g573.symm)
   have sn573 : Safe Z consts_1 s.vm h0 b573 := Safe.new (Nat.le_of_eq g573.symm)
   have K573 : Keep h0 h573 [] := K0.ext E573
   have O573 : Old Z n0 h573 := X00.ext E573
   have sf574 : Safe Z consts_1 s.vm h573 b573 := (Safe.ext E573 H0 sn573)
   have H573 : CHv Z consts_1 s.vm h573 := H0.ext E573
   have C573 : CHr Z consts_1 s.vm h0 s.vm h573 := C0.trans (CHr.ext E573 H0)
   have hk573 := Nat.le_trans hk0 E573.1
   have V573 : Arv Z h573 b573 k573 .char 2 [(.int 0), (.int 0)] (.int 0) := (Arv.new A573 (by decide)).pad (pad_rep [] (.int 0) 2)
   refine Go.st st573 ?_
   show Go p.tables e below Kx _ (mkF m 64 _ [(.ref b573)])
   refine s_astore (pc' := 66) (Ls' := #[vi p0, vi p1, vi p2, vi p3, vi p4, vi 1, vi 1, vi r569, vi r570, vi cp, vi dp, vr b573, un, un, un, un, un, un, un]) X573.here hx (hb hby at_64) rfl rfl rfl ?_
   refine s_aload (pc' := 68) X573.here hx (hb hby at_66) rfl rfl rfl ?_
   refine s_iconst (pc' := 69) (v := 0) X573.here hx (hb hby at_68) rfl rfl ?_
   refine s_iload (pc' := 71) X573.here hx (hb hby at_69) rfl rfl ?_
   obtain ⟨cl575, Ar575, Aq575, As575, An575, Ah575, Ag575⟩ := id V573
   have in576 := inb_of (j := 0) As575 (by decide)
   obtain ⟨T576, h576, X576, e576, W576, st576⟩ := stC X573 hx hZ e573 Ar575 (j := 0) in576 (g := (mkF m 71 #[vi p0, vi p1, vi p2, vi p3, vi p4, vi 1, vi 1, vi r569, vi r570, vi cp, vi dp, vr b573, un, un, un, un, un, un, un] [(.int r569), (.int 0), (.ref b573)])) rfl rfl (hb hby at_71)
   have V576 : Arv Z h576 b573 k573 .char 2 [(.int r569), (.int 0)] (.int 0) := by
    have q := Arv.set Ar575 Aq575 As575 An575 Ah575 Ag575 (fits_nar_char _) W576 0 rfl (Nat.le_of_ble_eq_true rfl)
    rw [chr_nar hr569.1] at q; exact q
   have K576 : Keep h0 h576 [] := K573.wr W576 (Or.inr sz573)
   have O576 : Old Z n0 h576 := O573.wr W576 ge573
   have sf577 : Safe Z consts_1 s.vm h576 b573 := (Safe.wr W576 sf574 H573 sf574)
   have H576 : CHv Z consts_1 s.vm h576 := H573.wr W576 sf574
   have C576 : CHr Z consts_1 s.vm h0 s.vm h576 := C573.trans (CHr.wr W576 sf574 H573)
   have hk576 := Nat.le_trans hk573 (Nat.le_of_eq W576.size.symm)
   have N576 := Fr.snoc X576 N570 ge573
   refine Go.st st576 ?_
   show Go p.tables e below Kx _ (mkF m 72 _ [])
   refine s_aload (pc' := 74) X576.here hx (hb hby at_72) rfl rfl rfl ?_
   refine s_iconst (pc' := 75) (v := 1) X576.here hx (hb hby at_74) rfl rfl ?_
   refine s_iload (pc' := 77) X576.here hx (hb hby at_75) rfl rfl ?_
   obtain ⟨cl578, Ar578, Aq578, As578, An578, Ah578, Ag578⟩ := id V576
   have in579 := inb_of (j := 1) As578 (by decide)
   obtain ⟨T579, h579, X579, e579, W579, st579⟩ := stC X576 hx hZ e576 Ar578 (j := 1) in579 (g := (mkF m 77 #[vi p0, vi p1, vi p2, vi p3, vi p4, vi 1, vi 1, vi r569, vi r570, vi cp, vi dp, vr b573, un, un, un, un, un, un, un] [(.int r570), (.int 1), (.ref b573)])) rfl rfl (hb hby at_77)
   have V579 : Arv Z h579 b573 k573 .char 2 [(.int r569), (.int r570)] (.int 0) := by
    have q := Arv.set Ar578 Aq578 As578 An578 Ah578 Ag578 (fits_nar_char _) W579 1 rfl (Nat.le_of_ble_eq_true rfl)
    rw [chr_nar hr570.1] at q; exact q
   have K579 : Keep h0 h579 [] := K576.wr W579 (Or.inr sz573)
   have O579 : Old Z n0 h579 := O576.wr W579 ge573
   have sf580 : Safe Z consts_1 s.vm h579 b573 := (Safe.wr W579 sf577 H576 sf577)
   have H579 : CHv Z consts_1 s.vm h579 := H576.wr W579 sf577
   have C579 : CHr Z consts_1 s.vm h0 s.vm h579 := C576.trans (CHr.wr W579 sf577 H576)
   have hk579 := Nat.le_trans hk576 (Nat.le_of_eq W579.size.symm)
   have N579 := Fr.snoc X579 N576 ge573
   refine Go.st st579 ?_
   show Go p.tables e below Kx _ (mkF m 78 _ [])
   refine s_goto (pc' := 92) X579.here hx (hb hby at_78) (by decide) (by decide) ?_
   refine s_iload (pc' := 94) X579.here hx (hb hby at_92) rfl rfl ?_
   refine s_ifN (pc' := 97) X579.here hx (hb hby at_94) rfl ((if0 _ _).trans (feq (by decide)).1) ?_
   refine s_iconst (pc' := 98) (v := 2) X579.here hx (hb hby at_97) rfl rfl ?_
   obtain ⟨T581, h581, k581, X581, e581, E581, A581, st581⟩ := newP X579 hx hZ (hv hw 4 rfl) e579 (g := (mkF m 98 #[vi p0, vi p1, vi p2, vi p3, vi p4, vi 1, vi 1, vi r569, vi r570, vi cp, vi dp, vr b573, un, un, un, un, un, un, un] [(.int 2)])) rfl (hb hby at_98) rfl (by decide) (cap := 2) (by decide) (by decide) (by decide) (by decide)
   obtain ⟨b581, g581⟩ : ∃ z, z = h579.size := ⟨_, rfl⟩
   rw [← g581] at A581 st581
   have sz581 : h0.size ≤ b581 := Nat.le_trans K579.1 (Nat.le_of_eq g581.symm)
   have ge581 : n0 ≤ b581 := Nat.le_trans (O579.1 ▸ O579.2.1) (Nat.le_of_eq g581.symm)
   have sn581 : Safe Z consts_1 s.vm h579 b581 := Safe.new (Nat.le_of_eq g581.symm)
   have K581 : Keep h0 h581 [] := K579.ext E581
   have O581 : Old Z n0 h581 := O579.ext E581
   have sf582 : Safe Z consts_1 s.vm h581 b573 := (Safe.ext E581 H579 sf580)
   have sf583 : Safe Z consts_1 s.vm h581 b581 := (Safe.ext E581 H579 sn581)
   have H581 : CHv Z consts_1 s.vm h581 := H579.ext E581
   have C581 : CHr Z consts_1 s.vm h0 s.vm h581 := C579.trans (CHr.ext E581 H579)
   have hk581 := Nat.le_trans hk579 E581.1
   have V581 : Arv Z h581 b581 k581 .char 2 [(.int 0), (.int 0)] (.int 0) := (Arv.new A581 (by decide)).pad (pad_rep [] (.int 0) 2)
   refine Go.st st581 ?_
   show Go p.tables e below Kx _ (mkF m 100 _ [(.ref b581)])
   refine s_astore (pc' := 102) (Ls' := #[vi p0, vi p1, vi p2, vi p3, vi p4, vi 1, vi 1, vi r569, vi r570, vi cp, vi dp, vr b573, vr b581, un, un, un, un, un, un]) X581.here hx (hb hby at_100) rfl rfl rfl ?_
   refine s_aload (pc' := 104) X581.here hx (hb hby at_102) rfl rfl rfl ?_
   refine s_iconst (pc' := 105) (v := 0) X581.here hx (hb hby at_104) rfl rfl ?_
   refine s_iload (pc' := 107) X581.here hx (hb hby at_105) rfl rfl ?_
   obtain ⟨cl584, Ar584, Aq584, As584, An584, Ah584, Ag584⟩ := id V581
   have in585 := inb_of (j := 0) As584 (by decide)
   obtain ⟨T585, h585, X585, e585, W585, st585⟩ := stC X581 hx hZ e581 Ar584 (j := 0) in585 (g := (mkF m 107 #[vi p0, vi p1, vi p2, vi p3, vi p4, vi 1, vi 1, vi r569, vi r570, vi cp, vi dp, vr b573, vr b581, un, un, un, un, un, un] [(.int cp), (.int 0), (.ref b581)])) rfl rfl (hb hby at_107)
   have V585 : Arv Z h585 b581 k581 .char 2 [(.int cp), (.int 0)] (.int 0) := by
    have q := Arv.set Ar584 Aq584 As584 An584 Ah584 Ag584 (fits_nar_char _) W585 0 rfl (Nat.le_of_ble_eq_true rfl)
    rw [chr_nar hcp] at q; exact q
   have K585 : Keep h0 h585 [] := K581.wr W585 (Or.inr sz581)
   have O585 : Old Z n0 h585 := O581.wr W585 ge581
   have sf586 : Safe Z consts_1 s.vm h585 b573 := (Safe.wr W585 sf583 H581 sf582)
   have sf587 : Safe Z consts_1 s.vm h585 b581 := (Safe.wr W585 sf583 H581 sf583)
   have H585 : CHv Z consts_1 s.vm h585 := H581.wr W585 sf583
   have C585 : CHr Z consts_1 s.vm h0 s.vm h585 := C581.trans (CHr.wr W585 sf583 H581)
   have hk585 := Nat.le_trans hk581 (Nat.le_of_eq W585.size.symm)
   have N585 := Fr.snoc X585 N579 ge581
   refine Go.st st585 ?_
   show Go p.tables e below Kx _ (mkF m 108 _ [])
   refine s_aload (pc' := 110) X585.here hx (hb hby at_108) rfl rfl rfl ?_
   refine s_iconst (pc' := 111) (v := 1) X585.here hx (hb hby at_110) rfl rfl ?_
   refine s_iload (pc' := 113) X585.here hx (hb hby at_111) rfl rfl ?_
   obtain ⟨cl588, Ar588, Aq588, As588, An588, Ah588, Ag588⟩ := id V585
   have in589 := inb_of (j := 1) As588 (by decide)
   obtain ⟨T589, h589, X589, e589, W589, st589⟩ := stC X585 hx hZ e585 Ar588 (j := 1) in589 (g := (mkF m 113 #[vi p0, vi p1, vi p2, vi p3, vi p4, vi 1, vi 1, vi r569, vi r570, vi cp, vi dp, vr b573, vr b581, un, un, un, un, un, un] [(.int dp), (.int 1), (.ref b581)])) rfl rfl (hb hby at_113)
   have V589 : Arv Z h589 b581 k581 .char 2 [(.int cp), (.int dp)] (.int 0) := by
    have q := Arv.set Ar588 Aq588 As588 An588 Ah588 Ag588 (fits_nar_char _) W589 1 rfl (Nat.le_of_ble_eq_true rfl)
    rw [chr_nar hdp] at q; exact q
   have K589 : Keep h0 h589 [] := K585.wr W589 (Or.inr sz581)
   have O589 : Old Z n0 h589 := O585.wr W589 ge581
   have sf590 : Safe Z consts_1 s.vm h589 b573 := (Safe.wr W589 sf587 H585 sf586)
   have sf591 : Safe Z consts_1 s.vm h589 b581 := (Safe.wr W589 sf587 H585 sf587)
   have H589 : CHv Z consts_1 s.vm h589 := H585.wr W589 sf587
   have C589 : CHr Z consts_1 s.vm h0 s.vm h589 := C585.trans (CHr.wr W589 sf587 H585)
   have hk589 := Nat.le_trans hk585 (Nat.le_of_eq W589.size.symm)
   have N589 := Fr.snoc X589 N585 ge581
   refine Go.st st589 ?_
   show Go p.tables e below Kx _ (mkF m 114 _ [])
   refine s_goto (pc' := 128) X589.here hx (hb hby at_114) (by decide) (by decide) ?_
   obtain ⟨T592, h592, X592, e592, E592, A592, D592, -, st592⟩ := newO X589 hx hZ hown (hv hw 5 rfl) (hv hw 6 rfl) (hv hw 7 rfl) e589 (g := (mkF m 128 #[vi p0, vi p1, vi p2, vi p3, vi p4, vi 1, vi 1, vi r569, vi r570, vi cp, vi dp, vr b573, vr b581, un, un, un, un, un, un] [])) rfl (hb hby at_128) (by decide) (by decide)
   obtain ⟨b592, g592⟩ : ∃ z, z = h589.size := ⟨_, rfl⟩
   rw [← g592] at A592 D592 st592
   have sz592 : h0.size ≤ b592 := Nat.le_trans K589.1 (Nat.le_of_eq g592.symm)
   have ge592 : n0 ≤ b592 := Nat.le_trans (O589.1 ▸ O589.2.1) (Nat.le_of_eq g592.symm)
   have sn592 : Safe Z consts_1 s.vm h589 b592 := Safe.new (Nat.le_of_eq g592.symm)
   have K592 : Keep h0 h592 [] := K589.ext E592
   have O592 : Old Z n0 h592 := O589.ext E592
   have sf593 : Safe Z consts_1 s.vm h592 b573 := (Safe.ext E592 H589 sf590)
   have sf594 : Safe Z consts_1 s.vm h592 b581 := (Safe.ext E592 H589 sf591)
   have sf595 : Safe Z consts_1 s.vm h592 b592 := (Safe.ext E592 H589 sn592)
   have H592 : CHv Z consts_1 s.vm h592 := H589.ext E592
   have C592 : CHr Z consts_1 s.vm h0 s.vm h592 := C589.trans (CHr.ext E592 H589)
   have hk592 := Nat.le_trans hk589 E592.1
   have F592_coder : Fld Z h592 b592 "java/lang/String" "coder" "B" (.int 0) := D592 (Or.inr (hv hw 31 rfl)) (ty := .byte) (by decide)
   have F592_value : Fld Z h592 b592 "java/lang/String" "value" "[B" .null := D592 (Or.inr (hv hw 33 rfl)) (ty := (.array .byte)) (by decide)
   refine Go.st st592 ?_
   show Go p.tables e below Kx _ (mkF m 131 _ [(.ref b592)])
   refine s_dup (pc' := 132) X592.here hx (hb hby at_131) rfl rfl ?_
   refine s_aload (pc' := 134) X592.here hx (hb hby at_132) rfl rfl rfl ?_
   have hp596 : ∀ c ∈ ([r569, r570] : List Int32), ¬ c < 0 ∧ ¬ 255 < c := by
    intro c hc
    simp only [List.mem_cons, List.not_mem_nil, or_false] at hc
    rcases hc with rfl | rfl
    ·
     exact hr569.1
    ·
     exact hr570.1
   have f597 : Arv Z h592 b573 k573 .char 2 [(.int r569), (.int r570)] (.int 0) := ((((V579.ext E581).other W585 (Nat.ne_of_lt (Nat.lt_of_lt_of_le (Nat.lt_of_lt_of_le A573.lt (Nat.le_trans (Nat.le_of_eq W576.size.symm) (Nat.le_of_eq W579.size.symm))) (Nat.le_of_eq g581.symm)))).other W589 (Nat.ne_of_lt (Nat.lt_of_lt_of_le (Nat.lt_of_lt_of_le A573.lt (Nat.le_trans (Nat.le_of_eq W576.size.symm) (Nat.le_of_eq W579.size.symm))) (Nat.le_of_eq g581.symm)))).ext E592)
   obtain ⟨_, _, ⟨T598, L598, k598, n598⟩, -, X598, ⟨Lc598, hQ598, l598, y598, z598⟩, st598⟩ := X592.specialBack hx (y := yN19) rfl hown (mvT hZ (hv hw 8 rfl)) (mvT hZ (hv hw 9 rfl)) (mvT hZ (hv hw 10 rfl)) (by decide) (StrChars.Road.backV (W := 1) hZ (hwsV Z a0 hw) (kI := 4) (hv hw 6 rfl) (cs := [r569, r570]) (bs := ([r569, r570] : List Int32).map (fun c => c.toInt8.toInt32)) (n := 2) ge592 (O592.1 ▸ O592.2.1) A592 F592_value F592_coder f597 (S1.ext O592.2) P1 rfl rfl (by decide) (by decide) hp596 rfl (by decide) (by decide)) (g := (mkF m 134 #[vi p0, vi p1, vi p2, vi p3, vi p4, vi 1, vi 1, vi r569, vi r570, vi cp, vi dp, vr b573, vr b581, un, un, un, un, un, un] [(.ref b573), (.ref b592), (.ref b592)])) rfl (by rw [hml]; rfl) (Steps.refl _) (a := b592) (argsL := [(.ref b573)]) (rest := [(.ref b592)]) (lenOf pd_1 rfl) rfl (by exact Nat.le_of_eq rfl) (hb hby at_134) (fun _ _ => ⟨rfl, e592, (by decide : 3 + 1 ≤ _), (by decide : 8 + 2 ≤ _)⟩)
   dsimp only [Pt.U, Pt.locs, Pt.cells, Pt.slots] at X598 l598 y598 z598 st598 hQ598
   rw [l598, y598, z598] at X598
   obtain ⟨rfl, Nq598, Kq598, q1_598, q2_598, t598, kt598, -, -, -, q3_598, q4_598⟩ := hQ598
   have N598 := Fr.app N589 Nq598
   have K598 : Keep h0 T598.heap [] := K592.trans Kq598 (allS (P := fun zz => zz ∈ [] ∨ h0.size ≤ zz) (Or.inr sz592) all0)
   have O598 : Old Z n0 T598.heap := O592.keep Kq598 (allS ge592 all0)
   have sf599 : Safe Z consts_1 s.vm T598.heap b573 := (Safe.keep Kq598 (sfS sf595 sf0) H592 sf593)
   have sf600 : Safe Z consts_1 s.vm T598.heap b581 := (Safe.keep Kq598 (sfS sf595 sf0) H592 sf594)
   have sf601 : Safe Z consts_1 s.vm T598.heap b592 := (Safe.keep Kq598 (sfS sf595 sf0) H592 sf595)
   have H598 : CHv Z consts_1 s.vm T598.heap := H592.keep Kq598 (sfS sf595 sf0)
   have C598 : CHr Z consts_1 s.vm h0 s.vm T598.heap := C592.trans (CHr.keep Kq598 (sfS sf595 sf0) H592)
   have hk598 := Nat.le_trans hk592 Kq598.1
   refine Go.tr st598 ?_
   show Go p.tables e below Kx _ (mkF m 137 _ [(.ref b592)])
   have St598 : Str Z T598.heap T598.heap.size b592 [r569, r570] := Str.of q1_598 q2_598 q3_598 q4_598 rfl rfl hp596 (Nat.le_of_ble_eq_true rfl)
   refine s_astore (pc' := 139) (Ls' := #[vi p0, vi p1, vi p2, vi p3, vi p4, vi 1, vi 1, vi r569, vi r570, vi cp, vi dp, vr b573, vr b581, vr b592, un, un, un, un, un]) X598.here hx (hb hby at_137) rfl rfl rfl ?_
   obtain ⟨T602, h602, X602, e602, E602, A602, D602, -, st602⟩ := newO X598 hx hZ hown (hv hw 5 rfl) (hv hw 6 rfl) (hv hw 7 rfl) rfl (g := (mkF m 139 #[vi p0, vi p1, vi p2, vi p3, vi p4, vi 1, vi 1, vi r569, vi r570, vi cp, vi dp, vr b573, vr b581, vr b592, un, un, un, un, un] [])) rfl (hb hby at_139) (by decide) (by decide)
   obtain ⟨b602, g602⟩ : ∃ z, z = T598.heap.size := ⟨_, rfl⟩
   rw [← g602] at A602 D602 st602
   have sz602 : h0.size ≤ b602 := Nat.le_trans K598.1 (Nat.le_of_eq g602.symm)
   have ge602 : n0 ≤ b602 := Nat.le_trans (O598.1 ▸ O598.2.1) (Nat.le_of_eq g602.symm)
   have sn602 : Safe Z consts_1 s.vm T598.heap b602 := Safe.new (Nat.le_of_eq g602.symm)
   have K602 : Keep h0 h602 [] := K598.ext E602
   have O602 : Old Z n0 h602 := O598.ext E602
   have sf603 : Safe Z consts_1 s.vm h602 b573 := (Safe.ext E602 H598 sf599)
   have sf604 : Safe Z consts_1 s.vm h602 b581 := (Safe.ext E602 H598 sf600)
   have sf605 : Safe Z consts_1 s.vm h602 b592 := (Safe.ext E602 H598 sf601)
   have sf606 : Safe Z consts_1 s.vm h602 b602 := (Safe.ext E602 H598 sn602)
   have H602 : CHv Z consts_1 s.vm h602 := H598.ext E602
   have C602 : CHr Z consts_1 s.vm h0 s.vm h602 := C598.trans (CHr.ext E602 H598)
   have hk602 := Nat.le_trans hk598 E602.1
   have F602_coder : Fld Z h602 b602 "java/lang/String" "coder" "B" (.int 0) := D602 (Or.inr (hv hw 31 rfl)) (ty := .byte) (by decide)
   have F602_value : Fld Z h602 b602 "java/lang/String" "value" "[B" .null := D602 (Or.inr (hv hw 33 rfl)) (ty := (.array .byte)) (by decide)
   refine Go.st st602 ?_
   show Go p.tables e below Kx _ (mkF m 142 _ [(.ref b602)])
   refine s_dup (pc' := 143) X602.here hx (hb hby at_142) rfl rfl ?_
   refine s_aload (pc' := 145) X602.here hx (hb hby at_143) rfl rfl rfl ?_
   have hp607 : ∀ c ∈ ([cp, dp] : List Int32), ¬ c < 0 ∧ ¬ 255 < c := by
    intro c hc
    simp only [List.mem_cons, List.not_mem_nil, or_false] at hc
    rcases hc with rfl | rfl
    ·
     exact hcp
    ·
     exact hdp
   have f608 : Arv Z h602 b581 k581 .char 2 [(.int cp), (.int dp)] (.int 0) := (((V589.ext E592).keep Kq598 (ninS (Nat.ne_of_lt (Nat.lt_of_lt_of_le (Nat.lt_of_lt_of_le A581.lt (Nat.le_trans (Nat.le_of_eq W585.size.symm) (Nat.le_of_eq W589.size.symm))) (Nat.le_of_eq g592.symm))) nin0)).ext E602)
   obtain ⟨_, _, ⟨T609, L609, k609, n609⟩, -, X609, ⟨Lc609, hQ609, l609, y609, z609⟩, st609⟩ := X602.specialBack hx (y := yN19) rfl hown (mvT hZ (hv hw 8 rfl)) (mvT hZ (hv hw 9 rfl)) (mvT hZ (hv hw 10 rfl)) (by decide) (StrChars.Road.backV (W := 1) hZ (hwsV Z a0 hw) (kI := 4) (hv hw 6 rfl) (cs := [cp, dp]) (bs := ([cp, dp] : List Int32).map (fun c => c.toInt8.toInt32)) (n := 2) ge602 (O602.1 ▸ O602.2.1) A602 F602_value F602_coder f608 (S1.ext O602.2) P1 rfl rfl (by decide) (by decide) hp607 rfl (by decide) (by decide)) (g := (mkF m 145 #[vi p0, vi p1, vi p2, vi p3, vi p4, vi 1, vi 1, vi r569, vi r570, vi cp, vi dp, vr b573, vr b581, vr b592, un, un, un, un, un] [(.ref b581), (.ref b602), (.ref b602)])) rfl (by rw [hml]; rfl) (Steps.refl _) (a := b602) (argsL := [(.ref b581)]) (rest := [(.ref b602)]) (lenOf pd_1 rfl) rfl (by exact Nat.le_of_eq rfl) (hb hby at_145) (fun _ _ => ⟨rfl, e602, (by decide : 5 + 1 ≤ _), (by decide : 14 + 2 ≤ _)⟩)
   dsimp only [Pt.U, Pt.locs, Pt.cells, Pt.slots] at X609 l609 y609 z609 st609 hQ609
   rw [l609, y609, z609] at X609
   obtain ⟨rfl, Nq609, Kq609, q1_609, q2_609, t609, kt609, -, -, -, q3_609, q4_609⟩ := hQ609
   have N609 := Fr.app N598 Nq609
   have K609 : Keep h0 T609.heap [] := K602.trans Kq609 (allS (P := fun zz => zz ∈ [] ∨ h0.size ≤ zz) (Or.inr sz602) all0)
   have O609 : Old Z n0 T609.heap := O602.keep Kq609 (allS ge602 all0)
   have sf610 : Safe Z consts_1 s.vm T609.heap b573 := (Safe.keep Kq609 (sfS sf606 sf0) H602 sf603)
   have sf611 : Safe Z consts_1 s.vm T609.heap b581 := (Safe.keep Kq609 (sfS sf606 sf0) H602 sf604)
   have sf612 : Safe Z consts_1 s.vm T609.heap b592 := (Safe.keep Kq609 (sfS sf606 sf0) H602 sf605)
   have sf613 : Safe Z consts_1 s.vm T609.heap b602 := (Safe.keep Kq609 (sfS sf606 sf0) H602 sf606)
   have H609 : CHv Z consts_1 s.vm T609.heap := H602.keep Kq609 (sfS sf606 sf0)
   have C609 : CHr Z consts_1 s.vm h0 s.vm T609.heap := C602.trans (CHr.keep Kq609 (sfS sf606 sf0) H602)
   have hk609 := Nat.le_trans hk602 Kq609.1
   refine Go.tr st609 ?_
   show Go p.tables e below Kx _ (mkF m 148 _ [(.ref b602)])
   have St609 : Str Z T609.heap T609.heap.size b602 [cp, dp] := Str.of q1_609 q2_609 q3_609 q4_609 rfl rfl hp607 (Nat.le_of_ble_eq_true rfl)
   refine s_astore (pc' := 150) (Ls' := #[vi p0, vi p1, vi p2, vi p3, vi p4, vi 1, vi 1, vi r569, vi r570, vi cp, vi dp, vr b573, vr b581, vr b592, vr b602, un, un, un, un]) X609.here hx (hb hby at_148) rfl rfl rfl ?_
   refine s_bipush (pc' := 152) (v := 9) X609.here hx (hb hby at_150) rfl rfl ?_
   obtain ⟨T614, h614, k614, X614, e614, E614, A614, B614, st614⟩ := newPE X609 hx hZ (hv hw 23 rfl) rfl (g := (mkF m 152 #[vi p0, vi p1, vi p2, vi p3, vi p4, vi 1, vi 1, vi r569, vi r570, vi cp, vi dp, vr b573, vr b581, vr b592, vr b602, un, un, un, un] [(.int 9)])) rfl (hb hby at_152) rfl (by decide) (cap := 9) (by decide) (by decide) (by decide) (by decide) (ad := "[B") (by decide)
   obtain ⟨b614, g614⟩ : ∃ z, z = T609.heap.size := ⟨_, rfl⟩
   rw [← g614] at A614 B614 st614
   have sz614 : h0.size ≤ b614 := Nat.le_trans K609.1 (Nat.le_of_eq g614.symm)
   have ge614 : n0 ≤ b614 := Nat.le_trans (O609.1 ▸ O609.2.1) (Nat.le_of_eq g614.symm)
   have sn614 : Safe Z consts_1 s.vm T609.heap b614 := Safe.new (Nat.le_of_eq g614.symm)
   have K614 : Keep h0 h614 [] := K609.ext E614
   have O614 : Old Z n0 h614 := O609.ext E614
   have sf615 : Safe Z consts_1 s.vm h614 b573 := (Safe.ext E614 H609 sf610)
   have sf616 : Safe Z consts_1 s.vm h614 b581 := (Safe.ext E614 H609 sf611)
   have sf617 : Safe Z consts_1 s.vm h614 b592 := (Safe.ext E614 H609 sf612)
   have sf618 : Safe Z consts_1 s.vm h614 b602 := (Safe.ext E614 H609 sf613)
   have sf619 : Safe Z consts_1 s.vm h614 b614 := (Safe.ext E614 H609 sn614)
   have H614 : CHv Z consts_1 s.vm h614 := H609.ext E614
   have C614 : CHr Z consts_1 s.vm h0 s.vm h614 := C609.trans (CHr.ext E614 H609)
   have hk614 := Nat.le_trans hk609 E614.1
   have V614 : Arv Z h614 b614 k614 .byte 9 [(.int 0), (.int 0), (.int 0), (.int 0), (.int 0), (.int 0), (.int 0), (.int 0), (.int 0)] (.int 0) := (Arv.new A614 (by decide)).pad (pad_rep [] (.int 0) 9)
   refine Go.st st614 ?_
   show Go p.tables e below Kx _ (mkF m 154 _ [(.ref b614)])
   have V620 : Arv Z h614 b614 k614 .byte 9 (pad 9 ([] : List Int32)) (.int 0) := V614
   refine s_astore (pc' := 156) (Ls' := #[vi p0, vi p1, vi p2, vi p3, vi p4, vi 1, vi 1, vi r569, vi r570, vi cp, vi dp, vr b573, vr b581, vr b592, vr b602, vr b614, un, un, un]) X614.here hx (hb hby at_154) rfl rfl rfl ?_
   refine s_aload (pc' := 158) X614.here hx (hb hby at_156) rfl rfl rfl ?_
   refine s_iconst (pc' := 159) (v := 0) X614.here hx (hb hby at_158) rfl rfl ?_
   refine s_iload (pc' := 161) X614.here hx (hb hby at_159) rfl rfl ?_
   obtain ⟨_, _, ⟨T621, L621, k621, n621⟩, -, X621, ⟨Lc621, hQ621, l621, y621, z621⟩, st621⟩ := Jvm.LawKit.callS X614 hx (y := yN4) hown (mvT hZ (hv hw 34 rfl)) (mvT hZ (hv hw 35 rfl)) (mvT hZ (hv hw 2 rfl)) (mvT hZ (hv hw 36 rfl)) (by decide) (backOf (W := 0) (rmDp l Z a0 hw [] b614 k614 ([] : List Int32) r569 h614 n0 O614 ge614 V620 hr569.1 (by decide)) hZ (hv hw 36 rfl) (hv hw 2 rfl) (by decide) (by decide)) (g := (mkF m 161 #[vi p0, vi p1, vi p2, vi p3, vi p4, vi 1, vi 1, vi r569, vi r570, vi cp, vi dp, vr b573, vr b581, vr b592, vr b602, vr b614, un, un, un] [(.int r569), (.int 0), (.ref b614)])) rfl (by rw [hml]; rfl) (argsL := [(.ref b614), (.int 0), (.int r569)]) (rest := []) (lenOf pd_2 rfl) rfl (by exact Nat.le_of_eq rfl) (hb hby at_161) (fun _ _ => ⟨rfl, e614, (by decide : 7 + 0 ≤ _), (by decide : 25 + 0 ≤ _)⟩)
   dsimp only [Pt.U, Pt.locs, Pt.cells, Pt.slots] at X621 l621 y621 z621 st621 hQ621
   rw [l621, y621, z621] at X621
   obtain ⟨rfl, Nq621, Kq621, q1_621⟩ := hQ621
   have N621 := Fr.app N609 Nq621
   have K621 : Keep h0 T621.heap [] := K614.trans Kq621 (allS (P := fun zz => zz ∈ [] ∨ h0.size ≤ zz) (Or.inr sz614) all0)
   have O621 : Old Z n0 T621.heap := O614.keep Kq621 (allS ge614 all0)
   have sf622 : Safe Z consts_1 s.vm T621.heap b573 := (Safe.keep Kq621 (sfS sf619 sf0) H614 sf615)
   have sf623 : Safe Z consts_1 s.vm T621.heap b581 := (Safe.keep Kq621 (sfS sf619 sf0) H614 sf616)
   have sf624 : Safe Z consts_1 s.vm T621.heap b592 := (Safe.keep Kq621 (sfS sf619 sf0) H614 sf617)
   have sf625 : Safe Z consts_1 s.vm T621.heap b602 := (Safe.keep Kq621 (sfS sf619 sf0) H614 sf618)
   have sf626 : Safe Z consts_1 s.vm T621.heap b614 := (Safe.keep Kq621 (sfS sf619 sf0) H614 sf619)
   have H621 : CHv Z consts_1 s.vm T621.heap := H614.keep Kq621 (sfS sf619 sf0)
   have C621 : CHr Z consts_1 s.vm h0 s.vm T621.heap := C614.trans (CHr.keep Kq621 (sfS sf619 sf0) H614)
   have hk621 := Nat.le_trans hk614 Kq621.1
   refine Go.st st621 ?_
   show Go p.tables e below Kx _ (mkF m 164 _ [(.int (Int32.ofNat (([] : List Int32) ++ encB (r569.toInt8.toInt32)).length))])
   have hp627 : (([] : List Int32) ++ encB (r569.toInt8.toInt32)).length ≤ 2 := by
    have q0 := encB_len (r569.toInt8.toInt32)
    simp only [List.length_append, List.length_nil, List.length_cons]; omega
   refine s_istore (pc' := 166) (Ls' := #[vi p0, vi p1, vi p2, vi p3, vi p4, vi 1, vi 1, vi r569, vi r570, vi cp, vi dp, vr b573, vr b581, vr b592, vr b602, vr b614, .val (.int (Int32.ofNat (([] : List Int32) ++ encB (r569.toInt8.toInt32)).length)), un, un]) X621.here hx (hb hby at_164) rfl  rfl ?_
   refine s_iload (pc' := 168) X621.here hx (hb hby at_166) rfl rfl ?_
   refine s_ifN (pc' := 171) X621.here hx (hb hby at_168) rfl ((if0 _ _).trans (feq (by decide)).1) ?_
   refine s_aload (pc' := 173) X621.here hx (hb hby at_171) rfl rfl rfl ?_
   refine s_iload (pc' := 175) X621.here hx (hb hby at_173) rfl rfl ?_
   refine s_iload (pc' := 177) X621.here hx (hb hby at_175) rfl rfl ?_
   obtain ⟨_, _, ⟨T628, L628, k628, n628⟩, -, X628, ⟨Lc628, hQ628, l628, y628, z628⟩, st628⟩ := Jvm.LawKit.callS X621 hx (y := yN4) hown (mvT hZ (hv hw 34 rfl)) (mvT hZ (hv hw 35 rfl)) (mvT hZ (hv hw 2 rfl)) (mvT hZ (hv hw 36 rfl)) (by decide) (backOf (W := 0) (rmDp l Z a0 hw [] b614 k614 (([] : List Int32) ++ encB (r569.toInt8.toInt32)) r570 T621.heap n0 O621 ge614 q1_621 hr570.1 (Nat.lt_of_le_of_lt (Nat.succ_le_succ hp627) (by decide))) hZ (hv hw 36 rfl) (hv hw 2 rfl) (by decide) (by decide)) (g := (mkF m 177 #[vi p0, vi p1, vi p2, vi p3, vi p4, vi 1, vi 1, vi r569, vi r570, vi cp, vi dp, vr b573, vr b581, vr b592, vr b602, vr b614, .val (.int (Int32.ofNat (([] : List Int32) ++ encB (r569.toInt8.toInt32)).length)), un, un] [(.int r570), (.int (Int32.ofNat (([] : List Int32) ++ encB (r569.toInt8.toInt32)).length)), (.ref b614)])) rfl (by rw [hml]; rfl) (argsL := [(.ref b614), (.int (Int32.ofNat (([] : List Int32) ++ encB (r569.toInt8.toInt32)).length)), (.int r570)]) (rest := []) (lenOf pd_2 rfl) rfl (by exact Nat.le_of_eq rfl) (hb hby at_177) (fun _ _ => ⟨rfl, rfl, (by decide : 7 + 0 ≤ _), (by decide : 25 + 0 ≤ _)⟩)
   dsimp only [Pt.U, Pt.locs, Pt.cells, Pt.slots] at X628 l628 y628 z628 st628 hQ628
   rw [l628, y628, z628] at X628
   obtain ⟨rfl, Nq628, Kq628, q1_628⟩ := hQ628
   have N628 := Fr.app N621 Nq628
   have K628 : Keep h0 T628.heap [] := K621.trans Kq628 (allS (P := fun zz => zz ∈ [] ∨ h0.size ≤ zz) (Or.inr sz614) all0)
   have O628 : Old Z n0 T628.heap := O621.keep Kq628 (allS ge614 all0)
   have sf629 : Safe Z consts_1 s.vm T628.heap b573 := (Safe.keep Kq628 (sfS sf626 sf0) H621 sf622)
   have sf630 : Safe Z consts_1 s.vm T628.heap b581 := (Safe.keep Kq628 (sfS sf626 sf0) H621 sf623)
   have sf631 : Safe Z consts_1 s.vm T628.heap b592 := (Safe.keep Kq628 (sfS sf626 sf0) H621 sf624)
   have sf632 : Safe Z consts_1 s.vm T628.heap b602 := (Safe.keep Kq628 (sfS sf626 sf0) H621 sf625)
   have sf633 : Safe Z consts_1 s.vm T628.heap b614 := (Safe.keep Kq628 (sfS sf626 sf0) H621 sf626)
   have H628 : CHv Z consts_1 s.vm T628.heap := H621.keep Kq628 (sfS sf626 sf0)
   have C628 : CHr Z consts_1 s.vm h0 s.vm T628.heap := C621.trans (CHr.keep Kq628 (sfS sf626 sf0) H621)
   have hk628 := Nat.le_trans hk621 Kq628.1
   refine Go.st st628 ?_
   show Go p.tables e below Kx _ (mkF m 180 _ [(.int (Int32.ofNat ((([] : List Int32) ++ encB (r569.toInt8.toInt32)) ++ encB (r570.toInt8.toInt32)).length))])
   have hp634 : ((([] : List Int32) ++ encB (r569.toInt8.toInt32)) ++ encB (r570.toInt8.toInt32)).length ≤ 4 := by
    have q0 := encB_len (r569.toInt8.toInt32)
    have q1 := encB_len (r570.toInt8.toInt32)
    simp only [List.length_append, List.length_nil, List.length_cons]; omega
   refine s_istore (pc' := 182) (Ls' := #[vi p0, vi p1, vi p2, vi p3, vi p4, vi 1, vi 1, vi r569, vi r570, vi cp, vi dp, vr b573, vr b581, vr b592, vr b602, vr b614, .val (.int (Int32.ofNat ((([] : List Int32) ++ encB (r569.toInt8.toInt32)) ++ encB (r570.toInt8.toInt32)).length)), un, un]) X628.here hx (hb hby at_180) rfl  rfl ?_
   refine s_aload (pc' := 184) X628.here hx (hb hby at_182) rfl rfl rfl ?_
   refine s_iload (pc' := 186) X628.here hx (hb hby at_184) rfl rfl ?_
   refine s_bipush (pc' := 188) (v := 58) X628.here hx (hb hby at_186) rfl rfl ?_
   obtain ⟨cl635, Ar635, Aq635, As635, An635, Ah635, Ag635⟩ := id q1_628
   have rm636 : ((([] : List Int32) ++ encB (r569.toInt8.toInt32)) ++ encB (r570.toInt8.toInt32)).length < 9 := (Nat.lt_of_le_of_lt hp634 (by decide))
   have in636 := inb_of (j := (Int32.ofNat ((([] : List Int32) ++ encB (r569.toInt8.toInt32)) ++ encB (r570.toInt8.toInt32)).length)) As635 (inpad (n := 9) rm636 (by decide : 9 ≤ 4000))
   obtain ⟨T636, h636, X636, e636, W636, st636⟩ := stB X628 hx hZ rfl Ar635 (j := (Int32.ofNat ((([] : List Int32) ++ encB (r569.toInt8.toInt32)) ++ encB (r570.toInt8.toInt32)).length)) in636 (g := (mkF m 188 #[vi p0, vi p1, vi p2, vi p3, vi p4, vi 1, vi 1, vi r569, vi r570, vi cp, vi dp, vr b573, vr b581, vr b592, vr b602, vr b614, .val (.int (Int32.ofNat ((([] : List Int32) ++ encB (r569.toInt8.toInt32)) ++ encB (r570.toInt8.toInt32)).length)), un, un] [(.int 58), (.int (Int32.ofNat ((([] : List Int32) ++ encB (r569.toInt8.toInt32)) ++ encB (r570.toInt8.toInt32)).length)), (.ref b614)])) rfl rfl (hb hby at_188)
   have V636 : Arv Z h636 b614 k614 .byte 9 (pad 9 (((([] : List Int32) ++ encB (r569.toInt8.toInt32)) ++ encB (r570.toInt8.toInt32)) ++ [(58 : Int32)])) (.int 0) := by
    have q := Arv.set Ar635 Aq635 As635 An635 Ah635 Ag635 (fits_nar_byte _) W636 ((([] : List Int32) ++ encB (r569.toInt8.toInt32)) ++ encB (r570.toInt8.toInt32)).length (nl (Nat.le_trans (Nat.le_of_lt rm636) (by decide : 9 ≤ 4000))) (by rw [pad_len (Nat.le_of_lt rm636)]; exact rm636)
    rw [show ((58 : Int32)).toInt8.toInt32 = 58 from by decide, pad_set rm636] at q; exact q
   have K636 : Keep h0 h636 [] := K628.wr W636 (Or.inr sz614)
   have O636 : Old Z n0 h636 := O628.wr W636 ge614
   have sf637 : Safe Z consts_1 s.vm h636 b573 := (Safe.wr W636 sf633 H628 sf629)
   have sf638 : Safe Z consts_1 s.vm h636 b581 := (Safe.wr W636 sf633 H628 sf630)
   have sf639 : Safe Z consts_1 s.vm h636 b592 := (Safe.wr W636 sf633 H628 sf631)
   have sf640 : Safe Z consts_1 s.vm h636 b602 := (Safe.wr W636 sf633 H628 sf632)
   have sf641 : Safe Z consts_1 s.vm h636 b614 := (Safe.wr W636 sf633 H628 sf633)
   have H636 : CHv Z consts_1 s.vm h636 := H628.wr W636 sf633
   have C636 : CHr Z consts_1 s.vm h0 s.vm h636 := C628.trans (CHr.wr W636 sf633 H628)
   have hk636 := Nat.le_trans hk628 (Nat.le_of_eq W636.size.symm)
   have N636 := Fr.snoc X636 N628 ge614
   refine Go.st st636 ?_
   show Go p.tables e below Kx _ (mkF m 189 _ [])
   refine s_iload (pc' := 191) X636.here hx (hb hby at_189) rfl rfl ?_
   refine s_iconst (pc' := 192) (v := 1) X636.here hx (hb hby at_191) rfl rfl ?_
   refine s_iadd (pc' := 193) (z := (Int32.ofNat (((([] : List Int32) ++ encB (r569.toInt8.toInt32)) ++ encB (r570.toInt8.toInt32)) ++ [(58 : Int32)]).length)) X636.here hx (hb hby at_192) rfl (lsucc _ _) ?_
   refine s_istore (pc' := 195) (Ls' := #[vi p0, vi p1, vi p2, vi p3, vi p4, vi 1, vi 1, vi r569, vi r570, vi cp, vi dp, vr b573, vr b581, vr b592, vr b602, vr b614, .val (.int (Int32.ofNat (((([] : List Int32) ++ encB (r569.toInt8.toInt32)) ++ encB (r570.toInt8.toInt32)) ++ [(58 : Int32)]).length)), un, un]) X636.here hx (hb hby at_193) rfl  rfl ?_
   refine s_aload (pc' := 197) X636.here hx (hb hby at_195) rfl rfl rfl ?_
   refine s_iload (pc' := 199) X636.here hx (hb hby at_197) rfl rfl ?_
   refine s_iload (pc' := 201) X636.here hx (hb hby at_199) rfl rfl ?_
   obtain ⟨_, _, ⟨T642, L642, k642, n642⟩, -, X642, ⟨Lc642, hQ642, l642, y642, z642⟩, st642⟩ := Jvm.LawKit.callS X636 hx (y := yN4) hown (mvT hZ (hv hw 34 rfl)) (mvT hZ (hv hw 35 rfl)) (mvT hZ (hv hw 2 rfl)) (mvT hZ (hv hw 36 rfl)) (by decide) (backOf (W := 0) (rmDp l Z a0 hw [] b614 k614 (((([] : List Int32) ++ encB (r569.toInt8.toInt32)) ++ encB (r570.toInt8.toInt32)) ++ [(58 : Int32)]) cp h636 n0 O636 ge614 V636 hcp (by rw [List.length_append]; exact Nat.lt_of_le_of_lt (Nat.succ_le_succ (Nat.succ_le_succ hp634)) (by decide))) hZ (hv hw 36 rfl) (hv hw 2 rfl) (by decide) (by decide)) (g := (mkF m 201 #[vi p0, vi p1, vi p2, vi p3, vi p4, vi 1, vi 1, vi r569, vi r570, vi cp, vi dp, vr b573, vr b581, vr b592, vr b602, vr b614, .val (.int (Int32.ofNat (((([] : List Int32) ++ encB (r569.toInt8.toInt32)) ++ encB (r570.toInt8.toInt32)) ++ [(58 : Int32)]).length)), un, un] [(.int cp), (.int (Int32.ofNat (((([] : List Int32) ++ encB (r569.toInt8.toInt32)) ++ encB (r570.toInt8.toInt32)) ++ [(58 : Int32)]).length)), (.ref b614)])) rfl (by rw [hml]; rfl) (argsL := [(.ref b614), (.int (Int32.ofNat (((([] : List Int32) ++ encB (r569.toInt8.toInt32)) ++ encB (r570.toInt8.toInt32)) ++ [(58 : Int32)]).length)), (.int cp)]) (rest := []) (lenOf pd_2 rfl) rfl (by exact Nat.le_of_eq rfl) (hb hby at_201) (fun _ _ => ⟨rfl, e636, (by decide : 7 + 0 ≤ _), (by decide : 25 + 0 ≤ _)⟩)
   dsimp only [Pt.U, Pt.locs, Pt.cells, Pt.slots] at X642 l642 y642 z642 st642 hQ642
   rw [l642, y642, z642] at X642
   obtain ⟨rfl, Nq642, Kq642, q1_642⟩ := hQ642
   have N642 := Fr.app N636 Nq642
   have K642 : Keep h0 T642.heap [] := K636.trans Kq642 (allS (P := fun zz => zz ∈ [] ∨ h0.size ≤ zz) (Or.inr sz614) all0)
   have O642 : Old Z n0 T642.heap := O636.keep Kq642 (allS ge614 all0)
   have sf643 : Safe Z consts_1 s.vm T642.heap b573 := (Safe.keep Kq642 (sfS sf641 sf0) H636 sf637)
   have sf644 : Safe Z consts_1 s.vm T642.heap b581 := (Safe.keep Kq642 (sfS sf641 sf0) H636 sf638)
   have sf645 : Safe Z consts_1 s.vm T642.heap b592 := (Safe.keep Kq642 (sfS sf641 sf0) H636 sf639)
   have sf646 : Safe Z consts_1 s.vm T642.heap b602 := (Safe.keep Kq642 (sfS sf641 sf0) H636 sf640)
   have sf647 : Safe Z consts_1 s.vm T642.heap b614 := (Safe.keep Kq642 (sfS sf641 sf0) H636 sf641)
   have H642 : CHv Z consts_1 s.vm T642.heap := H636.keep Kq642 (sfS sf641 sf0)
   have C642 : CHr Z consts_1 s.vm h0 s.vm T642.heap := C636.trans (CHr.keep Kq642 (sfS sf641 sf0) H636)
   have hk642 := Nat.le_trans hk636 Kq642.1
   refine Go.st st642 ?_
   show Go p.tables e below Kx _ (mkF m 204 _ [(.int (Int32.ofNat ((((([] : List Int32) ++ encB (r569.toInt8.toInt32)) ++ encB (r570.toInt8.toInt32)) ++ [(58 : Int32)]) ++ encB (cp.toInt8.toInt32)).length))])
   have hp648 : ((((([] : List Int32) ++ encB (r569.toInt8.toInt32)) ++ encB (r570.toInt8.toInt32)) ++ [(58 : Int32)]) ++ encB (cp.toInt8.toInt32)).length ≤ 7 := by
    have q0 := encB_len (r569.toInt8.toInt32)
    have q1 := encB_len (r570.toInt8.toInt32)
    have q2 := encB_len (cp.toInt8.toInt32)
    simp only [List.length_append, List.length_nil, List.length_cons]; omega
   refine s_istore (pc' := 206) (Ls' := #[vi p0, vi p1, vi p2, vi p3, vi p4, vi 1, vi 1, vi r569, vi r570, vi cp, vi dp, vr b573, vr b581, vr b592, vr b602, vr b614, .val (.int (Int32.ofNat ((((([] : List Int32) ++ encB (r569.toInt8.toInt32)) ++ encB (r570.toInt8.toInt32)) ++ [(58 : Int32)]) ++ encB (cp.toInt8.toInt32)).length)), un, un]) X642.here hx (hb hby at_204) rfl  rfl ?_
   refine s_iload (pc' := 208) X642.here hx (hb hby at_206) rfl rfl ?_
   refine s_ifN (pc' := 211) X642.here hx (hb hby at_208) rfl ((if0 _ _).trans (feq (by decide)).1) ?_
   refine s_aload (pc' := 213) X642.here hx (hb hby at_211) rfl rfl rfl ?_
   refine s_iload (pc' := 215) X642.here hx (hb hby at_213) rfl rfl ?_
   refine s_iload (pc' := 217) X642.here hx (hb hby at_215) rfl rfl ?_
   obtain ⟨_, _, ⟨T649, L649, k649, n649⟩, -, X649, ⟨Lc649, hQ649, l649, y649, z649⟩, st649⟩ := Jvm.LawKit.callS X642 hx (y := yN4) hown (mvT hZ (hv hw 34 rfl)) (mvT hZ (hv hw 35 rfl)) (mvT hZ (hv hw 2 rfl)) (mvT hZ (hv hw 36 rfl)) (by decide) (backOf (W := 0) (rmDp l Z a0 hw [] b614 k614 ((((([] : List Int32) ++ encB (r569.toInt8.toInt32)) ++ encB (r570.toInt8.toInt32)) ++ [(58 : Int32)]) ++ encB (cp.toInt8.toInt32)) dp T642.heap n0 O642 ge614 q1_642 hdp (Nat.lt_of_le_of_lt (Nat.succ_le_succ hp648) (by decide))) hZ (hv hw 36 rfl) (hv hw 2 rfl) (by decide) (by decide)) (g := (mkF m 217 #[vi p0, vi p1, vi p2, vi p3, vi p4, vi 1, vi 1, vi r569, vi r570, vi cp, vi dp, vr b573, vr b581, vr b592, vr b602, vr b614, .val (.int (Int32.ofNat ((((([] : List Int32) ++ encB (r569.toInt8.toInt32)) ++ encB (r570.toInt8.toInt32)) ++ [(58 : Int32)]) ++ encB (cp.toInt8.toInt32)).length)), un, un] [(.int dp), (.int (Int32.ofNat ((((([] : List Int32) ++ encB (r569.toInt8.toInt32)) ++ encB (r570.toInt8.toInt32)) ++ [(58 : Int32)]) ++ encB (cp.toInt8.toInt32)).length)), (.ref b614)])) rfl (by rw [hml]; rfl) (argsL := [(.ref b614), (.int (Int32.ofNat ((((([] : List Int32) ++ encB (r569.toInt8.toInt32)) ++ encB (r570.toInt8.toInt32)) ++ [(58 : Int32)]) ++ encB (cp.toInt8.toInt32)).length)), (.int dp)]) (rest := []) (lenOf pd_2 rfl) rfl (by exact Nat.le_of_eq rfl) (hb hby at_217) (fun _ _ => ⟨rfl, rfl, (by decide : 7 + 0 ≤ _), (by decide : 25 + 0 ≤ _)⟩)
   dsimp only [Pt.U, Pt.locs, Pt.cells, Pt.slots] at X649 l649 y649 z649 st649 hQ649
   rw [l649, y649, z649] at X649
   obtain ⟨rfl, Nq649, Kq649, q1_649⟩ := hQ649
   have N649 := Fr.app N642 Nq649
   have K649 : Keep h0 T649.heap [] := K642.trans Kq649 (allS (P := fun zz => zz ∈ [] ∨ h0.size ≤ zz) (Or.inr sz614) all0)
   have O649 : Old Z n0 T649.heap := O642.keep Kq649 (allS ge614 all0)
   have sf650 : Safe Z consts_1 s.vm T649.heap b573 := (Safe.keep Kq649 (sfS sf647 sf0) H642 sf643)
   have sf651 : Safe Z consts_1 s.vm T649.heap b581 := (Safe.keep Kq649 (sfS sf647 sf0) H642 sf644)
   have sf652 : Safe Z consts_1 s.vm T649.heap b592 := (Safe.keep Kq649 (sfS sf647 sf0) H642 sf645)
   have sf653 : Safe Z consts_1 s.vm T649.heap b602 := (Safe.keep Kq649 (sfS sf647 sf0) H642 sf646)
   have sf654 : Safe Z consts_1 s.vm T649.heap b614 := (Safe.keep Kq649 (sfS sf647 sf0) H642 sf647)
   have H649 : CHv Z consts_1 s.vm T649.heap := H642.keep Kq649 (sfS sf647 sf0)
   have C649 : CHr Z consts_1 s.vm h0 s.vm T649.heap := C642.trans (CHr.keep Kq649 (sfS sf647 sf0) H642)
   have hk649 := Nat.le_trans hk642 Kq649.1
   refine Go.st st649 ?_
   show Go p.tables e below Kx _ (mkF m 220 _ [(.int (Int32.ofNat (((((([] : List Int32) ++ encB (r569.toInt8.toInt32)) ++ encB (r570.toInt8.toInt32)) ++ [(58 : Int32)]) ++ encB (cp.toInt8.toInt32)) ++ encB (dp.toInt8.toInt32)).length))])
   have hp655 : (((((([] : List Int32) ++ encB (r569.toInt8.toInt32)) ++ encB (r570.toInt8.toInt32)) ++ [(58 : Int32)]) ++ encB (cp.toInt8.toInt32)) ++ encB (dp.toInt8.toInt32)).length ≤ 9 := by
    have q0 := encB_len (r569.toInt8.toInt32)
    have q1 := encB_len (r570.toInt8.toInt32)
    have q2 := encB_len (cp.toInt8.toInt32)
    have q3 := encB_len (dp.toInt8.toInt32)
    simp only [List.length_append, List.length_nil, List.length_cons]; omega
   refine s_istore (pc' := 222) (Ls' := #[vi p0, vi p1, vi p2, vi p3, vi p4, vi 1, vi 1, vi r569, vi r570, vi cp, vi dp, vr b573, vr b581, vr b592, vr b602, vr b614, .val (.int (Int32.ofNat (((((([] : List Int32) ++ encB (r569.toInt8.toInt32)) ++ encB (r570.toInt8.toInt32)) ++ [(58 : Int32)]) ++ encB (cp.toInt8.toInt32)) ++ encB (dp.toInt8.toInt32)).length)), un, un]) X649.here hx (hb hby at_220) rfl  rfl ?_
   have f656 : Exa Z T649.heap b592 "java/lang/String" := ((((((((q1_598.ext E602).keep Kq609).ext E614).keep Kq621).keep Kq628).wr W636).keep Kq642).keep Kq649)
   have f657 : Str Z T649.heap T598.heap.size b592 [r569, r570] := ((((((((St598.ext E602).keep Kq609 (allS (Nat.le_of_eq g602.symm) all0)).ext E614).keep Kq621 (allS (Nat.le_trans (Nat.le_trans E602.1 Kq609.1) (Nat.le_of_eq g614.symm)) all0)).keep Kq628 (allS (Nat.le_trans (Nat.le_trans E602.1 Kq609.1) (Nat.le_of_eq g614.symm)) all0)).wr W636 (Nat.le_trans (Nat.le_trans E602.1 Kq609.1) (Nat.le_of_eq g614.symm))).keep Kq642 (allS (Nat.le_trans (Nat.le_trans E602.1 Kq609.1) (Nat.le_of_eq g614.symm)) all0)).keep Kq649 (allS (Nat.le_trans (Nat.le_trans E602.1 Kq609.1) (Nat.le_of_eq g614.symm)) all0))
   have f658 : Exa Z T649.heap b602 "java/lang/String" := ((((((q1_609.ext E614).keep Kq621).keep Kq628).wr W636).keep Kq642).keep Kq649)
   have f659 : Str Z T649.heap T609.heap.size b602 [cp, dp] := ((((((St609.ext E614).keep Kq621 (allS (Nat.le_of_eq g614.symm) all0)).keep Kq628 (allS (Nat.le_of_eq g614.symm) all0)).wr W636 (Nat.le_of_eq g614.symm)).keep Kq642 (allS (Nat.le_of_eq g614.symm) all0)).keep Kq649 (allS (Nat.le_of_eq g614.symm) all0))
   have f660 : Exa Z T649.heap b614 "[B" := (((((B614.keep Kq621).keep Kq628).wr W636).keep Kq642).keep Kq649)
   have lt661 : b592 < T649.heap.size := (Nat.lt_of_lt_of_le A592.lt (Nat.le_trans (Nat.le_trans (Nat.le_trans (Nat.le_trans (Nat.le_trans (Nat.le_trans (Nat.le_trans (Nat.le_trans Kq598.1 E602.1) Kq609.1) E614.1) Kq621.1) Kq628.1) (Nat.le_of_eq W636.size.symm)) Kq642.1) Kq649.1))
   have lt662 : b602 < T649.heap.size := (Nat.lt_of_lt_of_le A602.lt (Nat.le_trans (Nat.le_trans (Nat.le_trans (Nat.le_trans (Nat.le_trans (Nat.le_trans Kq609.1 E614.1) Kq621.1) Kq628.1) (Nat.le_of_eq W636.size.symm)) Kq642.1) Kq649.1))
   have lt663 : b614 < T649.heap.size := (Nat.lt_of_lt_of_le A614.lt (Nat.le_trans (Nat.le_trans (Nat.le_trans (Nat.le_trans Kq621.1 Kq628.1) (Nat.le_of_eq W636.size.symm)) Kq642.1) Kq649.1))
   have ne664 : b592 ≠ b602 := (Nat.ne_of_lt (Nat.lt_of_lt_of_le (Nat.lt_of_lt_of_le A592.lt Kq598.1) (Nat.le_of_eq g602.symm)))
   have ne665 : b592 ≠ b614 := (Nat.ne_of_lt (Nat.lt_of_lt_of_le (Nat.lt_of_lt_of_le A592.lt (Nat.le_trans (Nat.le_trans Kq598.1 E602.1) Kq609.1)) (Nat.le_of_eq g614.symm)))
   have ne666 : b602 ≠ b614 := (Nat.ne_of_lt (Nat.lt_of_lt_of_le (Nat.lt_of_lt_of_le A602.lt Kq609.1) (Nat.le_of_eq g614.symm)))
   (try clear q3); (try clear sf651); (try clear sf650); (try clear Kq649); (try clear Nq649); (try clear st649); (try clear z649); (try clear y649); (try clear l649); (try clear hQ649); (try clear Lc649); (try clear n649)
   (try clear k649); (try clear L649); (try clear q2); (try clear hk642); (try clear C642); (try clear H642); (try clear sf647); (try clear sf646); (try clear sf645); (try clear sf644); (try clear sf643); (try clear O642)
   (try clear K642); (try clear N642); (try clear q1_642); (try clear Kq642); (try clear Nq642); (try clear st642); (try clear z642); (try clear y642); (try clear l642); (try clear hQ642); (try clear Lc642); (try clear X642)
   (try clear n642); (try clear k642); (try clear L642); (try clear T642); (try clear N636); (try clear hk636); (try clear C636); (try clear H636); (try clear sf641); (try clear sf640); (try clear sf639); (try clear sf638)
   (try clear sf637); (try clear O636); (try clear K636); (try clear V636); (try clear st636); (try clear W636); (try clear e636); (try clear X636); (try clear h636); (try clear T636); (try clear in636); (try clear rm636)
   (try clear Ag635); (try clear Ah635); (try clear An635); (try clear As635); (try clear Aq635); (try clear Ar635); (try clear cl635); (try clear q1); (try clear hk628); (try clear C628); (try clear H628); (try clear sf633)
   (try clear sf632); (try clear sf631); (try clear sf630); (try clear sf629); (try clear O628); (try clear K628); (try clear N628); (try clear q1_628); (try clear Kq628); (try clear Nq628); (try clear st628); (try clear z628)
   (try clear y628); (try clear l628); (try clear hQ628); (try clear Lc628); (try clear X628); (try clear n628); (try clear k628); (try clear L628); (try clear T628); (try clear q0); (try clear hk621); (try clear C621)
   (try clear H621); (try clear sf626); (try clear sf625); (try clear sf624); (try clear sf623); (try clear sf622); (try clear O621); (try clear K621); (try clear N621); (try clear q1_621); (try clear Kq621); (try clear Nq621)
   (try clear st621); (try clear z621); (try clear y621); (try clear l621); (try clear hQ621); (try clear Lc621); (try clear X621); (try clear n621); (try clear k621); (try clear L621); (try clear T621); (try clear V620)
   (try clear V614); (try clear hk614); (try clear C614); (try clear H614); (try clear sf619); (try clear sf618); (try clear sf617); (try clear sf616); (try clear sf615); (try clear O614); (try clear K614); (try clear sn614)
   (try clear st614); (try clear B614); (try clear A614); (try clear E614); (try clear e614); (try clear X614); (try clear h614); (try clear T614); (try clear St609); (try clear hk609); (try clear C609); (try clear H609)
   (try clear sf613); (try clear sf612); (try clear sf611); (try clear sf610); (try clear O609); (try clear K609); (try clear N609); (try clear q4_609); (try clear q3_609); (try clear kt609); (try clear t609); (try clear q2_609)
   (try clear q1_609); (try clear Kq609); (try clear Nq609); (try clear st609); (try clear z609); (try clear y609); (try clear l609); (try clear hQ609); (try clear Lc609); (try clear X609); (try clear n609); (try clear k609)
   (try clear L609); (try clear f608); (try clear hp607); (try clear F602_value); (try clear F602_coder); (try clear hk602); (try clear C602); (try clear H602); (try clear sf606); (try clear sf605); (try clear sf604); (try clear sf603)
   (try clear O602); (try clear K602); (try clear sn602); (try clear st602); (try clear D602); (try clear A602); (try clear E602); (try clear e602); (try clear X602); (try clear h602); (try clear T602); (try clear St598)
   (try clear hk598); (try clear C598); (try clear H598); (try clear sf601); (try clear sf600); (try clear sf599); (try clear O598); (try clear K598); (try clear N598); (try clear q4_598); (try clear q3_598); (try clear kt598)
   (try clear t598); (try clear q2_598); (try clear q1_598); (try clear Kq598); (try clear Nq598); (try clear st598); (try clear z598); (try clear y598); (try clear l598); (try clear hQ598); (try clear Lc598); (try clear X598)
   (try clear n598); (try clear k598); (try clear L598); (try clear f597); (try clear hp596); (try clear F592_value); (try clear F592_coder); (try clear hk592); (try clear C592); (try clear H592); (try clear sf595); (try clear sf594)
   (try clear sf593); (try clear O592); (try clear K592); (try clear sn592); (try clear st592); (try clear D592); (try clear A592); (try clear E592); (try clear e592); (try clear X592); (try clear h592); (try clear T592)
   (try clear N589); (try clear hk589); (try clear C589); (try clear H589); (try clear sf591); (try clear sf590); (try clear O589); (try clear K589); (try clear V589); (try clear st589); (try clear W589); (try clear e589)
   (try clear X589); (try clear h589); (try clear T589); (try clear in589); (try clear Ag588); (try clear Ah588); (try clear An588); (try clear As588); (try clear Aq588); (try clear Ar588); (try clear cl588); (try clear N585)
   (try clear hk585); (try clear C585); (try clear H585); (try clear sf587); (try clear sf586); (try clear O585); (try clear K585); (try clear V585); (try clear st585); (try clear W585); (try clear e585); (try clear X585)
   (try clear h585); (try clear T585); (try clear in585); (try clear Ag584); (try clear Ah584); (try clear An584); (try clear As584); (try clear Aq584); (try clear Ar584); (try clear cl584); (try clear V581); (try clear hk581)
   (try clear C581); (try clear H581); (try clear sf583); (try clear sf582); (try clear O581); (try clear K581); (try clear sn581); (try clear ge581); (try clear sz581); (try clear g581); (try clear st581); (try clear A581)
   (try clear E581); (try clear e581); (try clear X581); (try clear k581); (try clear h581); (try clear T581); (try clear N579); (try clear hk579); (try clear C579); (try clear H579); (try clear sf580); (try clear O579)
   (try clear K579); (try clear V579); (try clear st579); (try clear W579); (try clear e579); (try clear X579); (try clear h579); (try clear T579); (try clear in579); (try clear Ag578); (try clear Ah578); (try clear An578)
   (try clear As578); (try clear Aq578); (try clear Ar578); (try clear cl578); (try clear N576); (try clear hk576); (try clear C576); (try clear H576); (try clear sf577); (try clear O576); (try clear K576); (try clear q)
   (try clear V576); (try clear st576); (try clear W576); (try clear e576); (try clear X576); (try clear h576); (try clear T576); (try clear in576); (try clear Ag575); (try clear Ah575); (try clear An575); (try clear As575)
   (try clear Aq575); (try clear Ar575); (try clear cl575); (try clear V573); (try clear hk573); (try clear C573); (try clear H573); (try clear sf574); (try clear O573); (try clear K573); (try clear sn573); (try clear ge573)
   (try clear sz573); (try clear g573); (try clear st573); (try clear A573); (try clear E573); (try clear e573); (try clear X573); (try clear k573); (try clear h573); (try clear T573); (try clear N570); (try clear hE570)
   (try clear Nq570); (try clear st570); (try clear z570); (try clear y570); (try clear l570); (try clear hQ570); (try clear Lc570); (try clear X570); (try clear n570); (try clear k570); (try clear L570); (try clear T570)
   (try clear N569); (try clear hE569); (try clear Nq569); (try clear st569); (try clear z569); (try clear y569); (try clear l569); (try clear hQ569); (try clear Lc569); (try clear X569); (try clear n569); (try clear k569)
   (try clear L569); (try clear T569); (try clear _); (try clear C0); (try clear hk0); (try clear e0); (try clear X0)
   show Go p.tables e below Kx _ (mkF m 222 _ [])
   refine s_aload (pc' := 224) X649.here hx (hb hby at_222) rfl rfl rfl ?_
   refine s_aload (pc' := 226) X649.here hx (hb hby at_224) rfl rfl rfl ?_
   have hno667 : ∀ c ∈ ([r569, r570] : List Int32), ¬ c = 58 := by
    intro c hc
    simp only [List.mem_cons, List.not_mem_nil, or_false] at hc
    rcases hc with rfl | rfl
    ·
     exact hr569.2
    ·
     exact hr570.2
   obtain ⟨_, _, ⟨T668, L668, k668, n668⟩, -, X668, hS'668, hg'668, ⟨Lc668, hQ668, l668, y668, z668, Cr668⟩, st668⟩ := callSS X649 hx (y := yN2) hown (mvT hZ (hv hw 37 rfl)) (mvT hZ (hv hw 38 rfl)) (mvT hZ (hv hw 39 rfl)) (mvT hZ (hv hw 40 rfl)) (by decide) (backOfSH (W := 0) (rmDo l Z a0 hw [] b592 b602 _ _ [r569, r570] [cp, dp] T649.heap n0 O649 hEL wS G1 S1 P1 f657 f659 hno667 (by simp) (by simp)) hZ (hv hw 40 rfl) (hv hw 39 rfl) (by decide) (by decide) hEL H649) (g := (mkF m 226 #[vi p0, vi p1, vi p2, vi p3, vi p4, vi 1, vi 1, vi r569, vi r570, vi cp, vi dp, vr b573, vr b581, vr b592, vr b602, vr b614, .val (.int (Int32.ofNat (((((([] : List Int32) ++ encB (r569.toInt8.toInt32)) ++ encB (r570.toInt8.toInt32)) ++ [(58 : Int32)]) ++ encB (cp.toInt8.toInt32)) ++ encB (dp.toInt8.toInt32)).length)), un, un] [(.ref b602), (.ref b592)])) rfl (by rw [hml]; rfl) (argsL := [(.ref b592), (.ref b602)]) (rest := []) (lenOf pd_12 rfl) rfl (by exact Nat.le_of_eq rfl) (hb hby at_226) (fun _ _ => ⟨rfl, rfl, (by decide : 7 + 5 ≤ _), (by decide : 25 + 58 ≤ _)⟩)
   dsimp only [Pt.U, Pt.locs, Pt.cells, Pt.slots] at X668 l668 y668 z668 st668 hQ668 hS'668 hg'668 Cr668
   rw [l668, y668, z668] at X668
   obtain ⟨d668, rfl, Nq668, Kq668, q1_668, q2_668, q3_668⟩ := hQ668
   have N668 := Fr.app N649 Nq668
   have X668 : Stand p l e _ (s.setVm T668.vm) m _ below meth c T668 _ _ _ := X668
   obtain ⟨hZ668, hown668⟩ := wideOn hZ hS'668 hown
   have hS668 : s.Since T668.vm T668.heap.size := hS0.trans hS'668 (Nat.le_trans hk649 hg'668)
   have hk668 := Nat.le_refl T668.heap.size
   have sf669 : Safe Z consts_1 T668.vm T668.heap b592 := Cr668.safe lt661 sf652
   have sf670 : Safe Z consts_1 T668.vm T668.heap b602 := Cr668.safe lt662 sf653
   have sf671 : Safe Z consts_1 T668.vm T668.heap b614 := Cr668.safe lt663 sf654
   have C668 := C649.trans Cr668
   have K668 : Keep h0 T668.heap [] := K649.trans Kq668 all0
   have O668 : Old Z n0 T668.heap := O649.keep Kq668 all0
   refine Go.tr st668 ?_
   show Go p.tables e below Kx _ (mkF m 229 _ [(.ref d668)])
   refine s_astore (pc' := 231) (Ls' := #[vi p0, vi p1, vi p2, vi p3, vi p4, vi 1, vi 1, vi r569, vi r570, vi cp, vi dp, vr b573, vr b581, vr b592, vr b602, vr b614, .val (.int (Int32.ofNat (((((([] : List Int32) ++ encB (r569.toInt8.toInt32)) ++ encB (r570.toInt8.toInt32)) ++ [(58 : Int32)]) ++ encB (cp.toInt8.toInt32)) ++ encB (dp.toInt8.toInt32)).length)), vr d668, un]) X668.here hx (hb hby at_229) rfl rfl rfl ?_
   refine s_aload (pc' := 233) X668.here hx (hb hby at_231) rfl rfl rfl ?_
   refine s_ifnonnullY (pc' := 238) X668.here hx (hb hby at_233) (by decide) (by decide) ?_
   refine s_aload (pc' := 240) X668.here hx (hb hby at_238) rfl rfl rfl ?_
   refine s_aload (pc' := 242) X668.here hx (hb hby at_240) rfl rfl rfl ?_
   obtain ⟨cq672, kq672, q672a, q672b, q672c⟩ := isOf hZ668 rfl q1_668
   obtain ⟨_, _, ⟨T672, L672, k672, n672⟩, -, X672, ⟨Lc672, hQ672, l672, y672, z672⟩, st672⟩ := X668.virtualBack hx (y := yN3) (z := yN3) hown668 (mvT hZ668 (hv hw 106 rfl)) (mvT hZ668 (hv hw 107 rfl)) (notFace_of_selects (args := #[]) (mvT hZ668 (hv hw 109 rfl))) (mvT hZ668 (hv hw 109 rfl)) (mvT hZ668 (hv hw 108 rfl)) (by decide) (backOf (W := 1) (rmDu l Z a0 hw [] d668 b592 T668.heap n0 O668 q2_668) hZ668 (hv hw 110 rfl) (hv hw 39 rfl) (by decide) (by decide)) q672a q672c (g := (mkF m 242 #[vi p0, vi p1, vi p2, vi p3, vi p4, vi 1, vi 1, vi r569, vi r570, vi cp, vi dp, vr b573, vr b581, vr b592, vr b602, vr b614, .val (.int (Int32.ofNat (((((([] : List Int32) ++ encB (r569.toInt8.toInt32)) ++ encB (r570.toInt8.toInt32)) ++ [(58 : Int32)]) ++ encB (cp.toInt8.toInt32)) ++ encB (dp.toInt8.toInt32)).length)), vr d668, un] [(.ref d668), (.ref b592)])) rfl (by rw [hml]; rfl) (Steps.refl _) (argsL := []) (rest := [(.ref b592)]) (lenOf pd_13 rfl) rfl (by exact Nat.le_of_eq rfl) (hb hby at_242) (fun _ _ => ⟨rfl, rfl, (by decide : 12 + 0 ≤ _), (by decide : 83 + 0 ≤ _)⟩)
   dsimp only [Pt.U, Pt.locs, Pt.cells, Pt.slots] at X672 l672 y672 z672 st672 hQ672
   rw [l672, y672, z672] at X672
   obtain ⟨rfl, Nq672, hE672⟩ := hQ672
   have N672 := Fr.app N668 Nq672
   refine Go.tr st672 ?_
   show Go p.tables e below Kx _ (mkF m 245 _ [(.ref b592), (.ref b592)])
   have f674 : Exa Z T668.heap b592 "java/lang/String" := (f656.keep Kq668)
   obtain ⟨cq673, kq673, q673a, q673b, q673c⟩ := isOf hZ668 hE672 f674
   obtain ⟨_, _, ⟨T673, L673, k673, n673⟩, -, X673, ⟨Lc673, hQ673, l673, y673, z673⟩, st673⟩ := X672.virtualBack hx (y := yN23) (z := yN23) hown668 (mvT hZ668 (hv hw 111 rfl)) (mvT hZ668 (hv hw 112 rfl)) (notFace_of_selects (args := #[]) (mvT hZ668 (hv hw 114 rfl))) (mvT hZ668 (hv hw 114 rfl)) (mvT hZ668 (hv hw 113 rfl)) (by decide) (backOf (W := 0) (rmKes l Z a0 hw [] b592 T668.heap n0 O668 ) hZ668 (hv hw 115 rfl) (hv hw 7 rfl) (by decide) (by decide)) q673a q673c (g := (mkF m 245 #[vi p0, vi p1, vi p2, vi p3, vi p4, vi 1, vi 1, vi r569, vi r570, vi cp, vi dp, vr b573, vr b581, vr b592, vr b602, vr b614, .val (.int (Int32.ofNat (((((([] : List Int32) ++ encB (r569.toInt8.toInt32)) ++ encB (r570.toInt8.toInt32)) ++ [(58 : Int32)]) ++ encB (cp.toInt8.toInt32)) ++ encB (dp.toInt8.toInt32)).length)), vr d668, un] [(.ref b592), (.ref b592)])) rfl (by rw [hml]; rfl) (Steps.refl _) (argsL := [(.ref b592)]) (rest := []) (lenOf pd_14 rfl) rfl (by exact Nat.le_of_eq rfl) (hb hby at_245) (fun _ _ => ⟨rfl, hE672, (by decide : 12 + 0 ≤ _), (by decide : 83 + 0 ≤ _)⟩)
   dsimp only [Pt.U, Pt.locs, Pt.cells, Pt.slots] at X673 l673 y673 z673 st673 hQ673
   rw [l673, y673, z673] at X673
   obtain ⟨rfl, Nq673, hE673⟩ := hQ673
   have N673 := Fr.app N672 Nq673
   refine Go.tr st673 ?_
   show Go p.tables e below Kx _ (mkF m 248 _ [(.int 1)])
   refine s_ifY (pc' := 253) X673.here hx (hb hby at_248) ((if0 _ _).trans (feq (by decide)).2) (by decide) (by decide) ?_
   refine s_aload (pc' := 255) X673.here hx (hb hby at_253) rfl rfl rfl ?_
   have f675 : Str Z T668.heap T598.heap.size b592 [r569, r570] := (f657.keep Kq668 all0)
   have f676 : Str Z T668.heap T609.heap.size b602 [cp, dp] := (f659.keep Kq668 all0)
   obtain ⟨cq677, kq677, q677a, q677b, q677c⟩ := isOf hZ668 hE673 q1_668
   obtain ⟨_, _, ⟨T677, L677, k677, n677⟩, -, X677, hS'677, hg'677, ⟨Lc677, hQ677, l677, y677, z677, Cr677⟩, st677⟩ := X673.virtualBackS hx (y := yN1) (z := yN1) hown668 (mvT hZ668 (hv hw 116 rfl)) (mvT hZ668 (hv hw 117 rfl)) (notFace_of_selects (args := #[]) (mvT hZ668 (hv hw 119 rfl))) (mvT hZ668 (hv hw 119 rfl)) (mvT hZ668 (hv hw 118 rfl)) (by decide) (backOfSH (W := 0) (rmDa l Z a0 hw [] d668 b592 b602 u8 _ _ [r569, r570] [cp, dp] T668.heap n0 O668 hEL wS G1 S1 P1 SU SC q1_668 q2_668 q3_668 f675 f676 (by simp)) hZ668 (hv hw 120 rfl) (hv hw 39 rfl) (by decide) (by decide) hEL Cr668.1) q677a q677c (g := (mkF m 255 #[vi p0, vi p1, vi p2, vi p3, vi p4, vi 1, vi 1, vi r569, vi r570, vi cp, vi dp, vr b573, vr b581, vr b592, vr b602, vr b614, .val (.int (Int32.ofNat (((((([] : List Int32) ++ encB (r569.toInt8.toInt32)) ++ encB (r570.toInt8.toInt32)) ++ [(58 : Int32)]) ++ encB (cp.toInt8.toInt32)) ++ encB (dp.toInt8.toInt32)).length)), vr d668, un] [(.ref d668)])) rfl (by rw [hml]; rfl) (Steps.refl _) (argsL := []) (rest := []) (lenOf pd_22 rfl) rfl (by exact Nat.le_of_eq rfl) (hb hby at_255) (fun _ _ => ⟨rfl, hE673, (by decide : 12 + 8 ≤ _), (by decide : 83 + 120 ≤ _)⟩)
   dsimp only [Pt.U, Pt.locs, Pt.cells, Pt.slots] at X677 l677 y677 z677 st677 hQ677 hS'677 hg'677 Cr677
   rw [l677, y677, z677] at X677
   obtain ⟨t677, kt677, rfl, Nq677, Kq677, le677, q1_677⟩ := hQ677
   have sz677 : h0.size ≤ t677 := Nat.le_trans K668.1 le677
   have ge677 : n0 ≤ t677 := Nat.le_trans (O668.1 ▸ O668.2.1) le677
   have sn677 : Safe Z consts_1 T668.vm T668.heap t677 := Safe.new le677
   have N677 := Fr.app N673 Nq677
   have X677 : Stand p l e _ (s.setVm T677.vm) m _ below meth c T677 _ _ _ := X677
   obtain ⟨hZ677, hown677⟩ := wideOn hZ668 hS'677 hown668
   have hS677 : s.Since T677.vm T677.heap.size := hS668.trans hS'677 (Nat.le_trans hk668 (by rw [hE673] at hg'677; exact hg'677))
   have hk677 := Nat.le_refl T677.heap.size
   have sf678 : Safe Z consts_1 T677.vm T677.heap b592 := Cr677.safe (Nat.lt_of_lt_of_le lt661 Kq668.1) sf669
   have sf679 : Safe Z consts_1 T677.vm T677.heap b602 := Cr677.safe (Nat.lt_of_lt_of_le lt662 Kq668.1) sf670
   have sf680 : Safe Z consts_1 T677.vm T677.heap b614 := Cr677.safe (Nat.lt_of_lt_of_le lt663 Kq668.1) sf671
   have C677 := C668.trans Cr677
   have K677 : Keep h0 T677.heap [] := K668.trans Kq677 all0
   have O677 : Old Z n0 T677.heap := O668.keep Kq677 all0
   refine Go.tr st677 ?_
   show Go p.tables e below Kx _ (mkF m 258 _ [(.ref t677)])
   have hX677 : enc (((([] : List Int32) ++ (i8s [r569, r570])) ++ [(58 : Int32)]) ++ (i8s [cp, dp])) = (((((([] : List Int32) ++ encB (r569.toInt8.toInt32)) ++ encB (r570.toInt8.toInt32)) ++ [(58 : Int32)]) ++ encB (cp.toInt8.toInt32)) ++ encB (dp.toInt8.toInt32)) := by simp [i8s, enc, encB58, t58]
   rw [hX677] at q1_677
   refine s_astore (pc' := 260) (Ls' := #[vi p0, vi p1, vi p2, vi p3, vi p4, vi 1, vi 1, vi r569, vi r570, vi cp, vi dp, vr b573, vr b581, vr b592, vr b602, vr b614, .val (.int (Int32.ofNat (((((([] : List Int32) ++ encB (r569.toInt8.toInt32)) ++ encB (r570.toInt8.toInt32)) ++ [(58 : Int32)]) ++ encB (cp.toInt8.toInt32)) ++ encB (dp.toInt8.toInt32)).length)), vr d668, vr t677]) X677.here hx (hb hby at_258) rfl rfl rfl ?_
   have f681 : Arv Z T677.heap b614 k614 .byte 9 (pad 9 (((((([] : List Int32) ++ encB (r569.toInt8.toInt32)) ++ encB (r570.toInt8.toInt32)) ++ [(58 : Int32)]) ++ encB (cp.toInt8.toInt32)) ++ encB (dp.toInt8.toInt32))) (.int 0) := ((q1_649.keep Kq668 nin0).keep Kq677 nin0)
   have f682 : Exa Z T677.heap b614 "[B" := ((f660.keep Kq668).keep Kq677)
   have lt683 : b614 < T677.heap.size := (Nat.lt_of_lt_of_le lt663 (Nat.le_trans Kq668.1 Kq677.1))
   have lt684 : t677 < T677.heap.size := q1_677.lt
   have ne685 : b614 ≠ t677 := (Nat.ne_of_lt (Nat.lt_of_lt_of_le (Nat.lt_of_lt_of_le lt663 Kq668.1) le677))
   (try clear hX677); (try clear sf679); (try clear sf678); (try clear sn677); (try clear Kq677); (try clear Nq677); (try clear st677); (try clear z677); (try clear y677); (try clear l677); (try clear hQ677); (try clear Lc677)
   (try clear hg'677); (try clear hS'677); (try clear n677); (try clear k677); (try clear L677); (try clear q677c); (try clear q677b); (try clear q677a); (try clear kq677); (try clear cq677); (try clear f676); (try clear f675)
   (try clear N673); (try clear hE673); (try clear Nq673); (try clear st673); (try clear z673); (try clear y673); (try clear l673); (try clear hQ673); (try clear Lc673); (try clear X673); (try clear n673); (try clear k673)
   (try clear L673); (try clear T673); (try clear q673c); (try clear q673b); (try clear q673a); (try clear kq673); (try clear cq673); (try clear f674); (try clear N672); (try clear hE672); (try clear Nq672); (try clear st672)
   (try clear z672); (try clear y672); (try clear l672); (try clear hQ672); (try clear Lc672); (try clear X672); (try clear n672); (try clear k672); (try clear L672); (try clear T672); (try clear q672c); (try clear q672b)
   (try clear q672a); (try clear kq672); (try clear cq672); (try clear O668); (try clear K668); (try clear C668); (try clear sf671); (try clear sf670); (try clear sf669); (try clear hk668); (try clear hS668); (try clear hown668)
   (try clear hZ668); (try clear N668); (try clear q3_668); (try clear q2_668); (try clear q1_668); (try clear Kq668); (try clear Nq668); (try clear st668); (try clear Cr668); (try clear z668); (try clear y668); (try clear l668)
   (try clear hQ668); (try clear Lc668); (try clear hg'668); (try clear hS'668); (try clear X668); (try clear n668); (try clear k668); (try clear L668); (try clear T668); (try clear _); (try clear hno667); (try clear ne666)
   (try clear ne665); (try clear ne664); (try clear lt663); (try clear lt662); (try clear lt661); (try clear f660); (try clear f659); (try clear f658); (try clear f657); (try clear f656); (try clear hk649); (try clear C649)
   (try clear H649); (try clear sf654); (try clear sf653); (try clear sf652); (try clear O649); (try clear K649); (try clear N649); (try clear q1_649); (try clear X649); (try clear T649); (try clear T609); (try clear ge602)
   (try clear sz602); (try clear g602); (try clear T598); (try clear ge592); (try clear sz592); (try clear g592); (try clear hS0)
   show Go p.tables e below Kx _ (mkF m 260 _ [])
   refine s_aload (pc' := 262) X677.here hx (hb hby at_260) rfl rfl rfl ?_
   refine s_ifnullN (pc' := 265) X677.here hx (hb hby at_262) rfl ?_
   refine s_aload (pc' := 267) X677.here hx (hb hby at_265) rfl rfl rfl ?_
   obtain ⟨cl686, Ar686, Aq686, As686, An686, Ah686, Ag686⟩ := id q1_677
   refine Go.st (X677.arraylength hx (by  exact Ar686.1) (State.isArrayOf_alike hZ677.alike Ar686.2.1) (g := (mkF m 267 #[vi p0, vi p1, vi p2, vi p3, vi p4, vi 1, vi 1, vi r569, vi r570, vi cp, vi dp, vr b573, vr b581, vr b592, vr b602, vr b614, .val (.int (Int32.ofNat (((((([] : List Int32) ++ encB (r569.toInt8.toInt32)) ++ encB (r570.toInt8.toInt32)) ++ [(58 : Int32)]) ++ encB (cp.toInt8.toInt32)) ++ encB (dp.toInt8.toInt32)).length)), vr d668, vr t677] [(.ref t677)])) rfl rfl (hb hby at_267)) ?_
   rw [len_of As686 An686]
   show Go p.tables e below Kx _ (mkF m 268 _ [(.int (Int32.ofNat (((((([] : List Int32) ++ encB (r569.toInt8.toInt32)) ++ encB (r570.toInt8.toInt32)) ++ [(58 : Int32)]) ++ encB (cp.toInt8.toInt32)) ++ encB (dp.toInt8.toInt32)).length))])
   refine s_iload (pc' := 270) X677.here hx (hb hby at_268) rfl rfl ?_
   refine s_icmpY (pc' := 275) X677.here hx (hb hby at_270) (teq rfl).1 (by decide) (by decide) ?_
   refine s_aload (pc' := 277) X677.here hx (hb hby at_275) rfl rfl rfl ?_
   refine s_aload (pc' := 279) X677.here hx (hb hby at_277) rfl rfl rfl ?_
   refine s_iload (pc' := 281) X677.here hx (hb hby at_279) rfl rfl ?_
   refine s_iconst (pc' := 282) (v := 0) X677.here hx (hb hby at_281) rfl rfl ?_
   obtain ⟨_, _, ⟨T687, L687, k687, n687⟩, -, X687, ⟨Lc687, hQ687, l687, y687, z687⟩, st687⟩ := Jvm.LawKit.callS X677 hx (y := yN5) hown677 (mvT hZ677 (hv hw 251 rfl)) (mvT hZ677 (hv hw 252 rfl)) (mvT hZ677 (hv hw 2 rfl)) (mvT hZ677 (hv hw 253 rfl)) (by decide) (backOf (W := 0) (rmDs l Z a0 hw [] t677 b614 _ _ (((((([] : List Int32) ++ encB (r569.toInt8.toInt32)) ++ encB (r570.toInt8.toInt32)) ++ [(58 : Int32)]) ++ encB (cp.toInt8.toInt32)) ++ encB (dp.toInt8.toInt32)) 0 T677.heap n0 O677 q1_677 f681 (Nat.le_trans hp655 (by decide)) (by decide)) hZ677 (hv hw 253 rfl) (hv hw 2 rfl) (by decide) (by decide)) (g := (mkF m 282 #[vi p0, vi p1, vi p2, vi p3, vi p4, vi 1, vi 1, vi r569, vi r570, vi cp, vi dp, vr b573, vr b581, vr b592, vr b602, vr b614, .val (.int (Int32.ofNat (((((([] : List Int32) ++ encB (r569.toInt8.toInt32)) ++ encB (r570.toInt8.toInt32)) ++ [(58 : Int32)]) ++ encB (cp.toInt8.toInt32)) ++ encB (dp.toInt8.toInt32)).length)), vr d668, vr t677] [(.int 0), (.int (Int32.ofNat (((((([] : List Int32) ++ encB (r569.toInt8.toInt32)) ++ encB (r570.toInt8.toInt32)) ++ [(58 : Int32)]) ++ encB (cp.toInt8.toInt32)) ++ encB (dp.toInt8.toInt32)).length)), (.ref b614), (.ref t677)])) rfl (by rw [hml]; rfl) (argsL := [(.ref t677), (.ref b614), (.int (Int32.ofNat (((((([] : List Int32) ++ encB (r569.toInt8.toInt32)) ++ encB (r570.toInt8.toInt32)) ++ [(58 : Int32)]) ++ encB (cp.toInt8.toInt32)) ++ encB (dp.toInt8.toInt32)).length)), (.int 0)]) (rest := []) (lenOf pd_34 rfl) rfl (by exact Nat.le_of_eq rfl) (hb hby at_282) (fun _ _ => ⟨rfl, rfl, (by decide : 20 + 0 ≤ _), (by decide : 203 + 0 ≤ _)⟩)
   dsimp only [Pt.U, Pt.locs, Pt.cells, Pt.slots] at X687 l687 y687 z687 st687 hQ687
   rw [l687, y687, z687] at X687
   obtain ⟨rfl, Nq687, hE687⟩ := hQ687
   have N687 := Fr.app N677 Nq687
   refine Go.st st687 ?_
   show Go p.tables e below Kx _ (mkF m 285 _ [(.int 1)])
   refine s_ifN (pc' := 288) X687.here hx (hb hby at_285) rfl ((if0 _ _).trans (feq (by decide)).1) ?_
   refine s_aload (pc' := 290) X687.here hx (hb hby at_288) rfl rfl rfl ?_
   refine s_aload (pc' := 292) X687.here hx (hb hby at_290) rfl rfl rfl ?_
   refine s_iload (pc' := 294) X687.here hx (hb hby at_292) rfl rfl ?_
   refine s_iconst (pc' := 295) (v := 1) X687.here hx (hb hby at_294) rfl rfl ?_
   obtain ⟨_, _, ⟨T688, L688, k688, n688⟩, -, X688, ⟨Lc688, hQ688, l688, y688, z688⟩, st688⟩ := Jvm.LawKit.callS X687 hx (y := yN5) hown677 (mvT hZ677 (hv hw 251 rfl)) (mvT hZ677 (hv hw 252 rfl)) (mvT hZ677 (hv hw 2 rfl)) (mvT hZ677 (hv hw 253 rfl)) (by decide) (backOf (W := 0) (rmDs l Z a0 hw [] t677 b614 _ _ (((((([] : List Int32) ++ encB (r569.toInt8.toInt32)) ++ encB (r570.toInt8.toInt32)) ++ [(58 : Int32)]) ++ encB (cp.toInt8.toInt32)) ++ encB (dp.toInt8.toInt32)) 1 T677.heap n0 O677 q1_677 f681 (Nat.le_trans hp655 (by decide)) (by decide)) hZ677 (hv hw 253 rfl) (hv hw 2 rfl) (by decide) (by decide)) (g := (mkF m 295 #[vi p0, vi p1, vi p2, vi p3, vi p4, vi 1, vi 1, vi r569, vi r570, vi cp, vi dp, vr b573, vr b581, vr b592, vr b602, vr b614, .val (.int (Int32.ofNat (((((([] : List Int32) ++ encB (r569.toInt8.toInt32)) ++ encB (r570.toInt8.toInt32)) ++ [(58 : Int32)]) ++ encB (cp.toInt8.toInt32)) ++ encB (dp.toInt8.toInt32)).length)), vr d668, vr t677] [(.int 1), (.int (Int32.ofNat (((((([] : List Int32) ++ encB (r569.toInt8.toInt32)) ++ encB (r570.toInt8.toInt32)) ++ [(58 : Int32)]) ++ encB (cp.toInt8.toInt32)) ++ encB (dp.toInt8.toInt32)).length)), (.ref b614), (.ref t677)])) rfl (by rw [hml]; rfl) (argsL := [(.ref t677), (.ref b614), (.int (Int32.ofNat (((((([] : List Int32) ++ encB (r569.toInt8.toInt32)) ++ encB (r570.toInt8.toInt32)) ++ [(58 : Int32)]) ++ encB (cp.toInt8.toInt32)) ++ encB (dp.toInt8.toInt32)).length)), (.int 1)]) (rest := []) (lenOf pd_34 rfl) rfl (by exact Nat.le_of_eq rfl) (hb hby at_295) (fun _ _ => ⟨rfl, hE687, (by decide : 20 + 0 ≤ _), (by decide : 203 + 0 ≤ _)⟩)
   dsimp only [Pt.U, Pt.locs, Pt.cells, Pt.slots] at X688 l688 y688 z688 st688 hQ688
   rw [l688, y688, z688] at X688
   obtain ⟨rfl, Nq688, hE688⟩ := hQ688
   have N688 := Fr.app N687 Nq688
   refine Go.st st688 ?_
   show Go p.tables e below Kx _ (mkF m 298 _ [(.int 1)])
   refine s_ifN (pc' := 301) X688.here hx (hb hby at_298) rfl ((if0 _ _).trans (feq (by decide)).1) ?_
   refine s_aload (pc' := 303) X688.here hx (hb hby at_301) rfl rfl rfl ?_
   refine s_aload (pc' := 305) X688.here hx (hb hby at_303) rfl rfl rfl ?_
   refine s_iload (pc' := 307) X688.here hx (hb hby at_305) rfl rfl ?_
   refine s_iconst (pc' := 308) (v := 2) X688.here hx (hb hby at_307) rfl rfl ?_
   obtain ⟨_, _, ⟨T689, L689, k689, n689⟩, -, X689, ⟨Lc689, hQ689, l689, y689, z689⟩, st689⟩ := Jvm.LawKit.callS X688 hx (y := yN5) hown677 (mvT hZ677 (hv hw 251 rfl)) (mvT hZ677 (hv hw 252 rfl)) (mvT hZ677 (hv hw 2 rfl)) (mvT hZ677 (hv hw 253 rfl)) (by decide) (backOf (W := 0) (rmDs l Z a0 hw [] t677 b614 _ _ (((((([] : List Int32) ++ encB (r569.toInt8.toInt32)) ++ encB (r570.toInt8.toInt32)) ++ [(58 : Int32)]) ++ encB (cp.toInt8.toInt32)) ++ encB (dp.toInt8.toInt32)) 2 T677.heap n0 O677 q1_677 f681 (Nat.le_trans hp655 (by decide)) (by decide)) hZ677 (hv hw 253 rfl) (hv hw 2 rfl) (by decide) (by decide)) (g := (mkF m 308 #[vi p0, vi p1, vi p2, vi p3, vi p4, vi 1, vi 1, vi r569, vi r570, vi cp, vi dp, vr b573, vr b581, vr b592, vr b602, vr b614, .val (.int (Int32.ofNat (((((([] : List Int32) ++ encB (r569.toInt8.toInt32)) ++ encB (r570.toInt8.toInt32)) ++ [(58 : Int32)]) ++ encB (cp.toInt8.toInt32)) ++ encB (dp.toInt8.toInt32)).length)), vr d668, vr t677] [(.int 2), (.int (Int32.ofNat (((((([] : List Int32) ++ encB (r569.toInt8.toInt32)) ++ encB (r570.toInt8.toInt32)) ++ [(58 : Int32)]) ++ encB (cp.toInt8.toInt32)) ++ encB (dp.toInt8.toInt32)).length)), (.ref b614), (.ref t677)])) rfl (by rw [hml]; rfl) (argsL := [(.ref t677), (.ref b614), (.int (Int32.ofNat (((((([] : List Int32) ++ encB (r569.toInt8.toInt32)) ++ encB (r570.toInt8.toInt32)) ++ [(58 : Int32)]) ++ encB (cp.toInt8.toInt32)) ++ encB (dp.toInt8.toInt32)).length)), (.int 2)]) (rest := []) (lenOf pd_34 rfl) rfl (by exact Nat.le_of_eq rfl) (hb hby at_308) (fun _ _ => ⟨rfl, hE688, (by decide : 20 + 0 ≤ _), (by decide : 203 + 0 ≤ _)⟩)
   dsimp only [Pt.U, Pt.locs, Pt.cells, Pt.slots] at X689 l689 y689 z689 st689 hQ689
   rw [l689, y689, z689] at X689
   obtain ⟨rfl, Nq689, hE689⟩ := hQ689
   have N689 := Fr.app N688 Nq689
   refine Go.st st689 ?_
   show Go p.tables e below Kx _ (mkF m 311 _ [(.int 1)])
   refine s_ifN (pc' := 314) X689.here hx (hb hby at_311) rfl ((if0 _ _).trans (feq (by decide)).1) ?_
   refine s_aload (pc' := 316) X689.here hx (hb hby at_314) rfl rfl rfl ?_
   refine s_aload (pc' := 318) X689.here hx (hb hby at_316) rfl rfl rfl ?_
   refine s_iload (pc' := 320) X689.here hx (hb hby at_318) rfl rfl ?_
   refine s_iconst (pc' := 321) (v := 3) X689.here hx (hb hby at_320) rfl rfl ?_
   obtain ⟨_, _, ⟨T690, L690, k690, n690⟩, -, X690, ⟨Lc690, hQ690, l690, y690, z690⟩, st690⟩ := Jvm.LawKit.callS X689 hx (y := yN5) hown677 (mvT hZ677 (hv hw 251 rfl)) (mvT hZ677 (hv hw 252 rfl)) (mvT hZ677 (hv hw 2 rfl)) (mvT hZ677 (hv hw 253 rfl)) (by decide) (backOf (W := 0) (rmDs l Z a0 hw [] t677 b614 _ _ (((((([] : List Int32) ++ encB (r569.toInt8.toInt32)) ++ encB (r570.toInt8.toInt32)) ++ [(58 : Int32)]) ++ encB (cp.toInt8.toInt32)) ++ encB (dp.toInt8.toInt32)) 3 T677.heap n0 O677 q1_677 f681 (Nat.le_trans hp655 (by decide)) (by decide)) hZ677 (hv hw 253 rfl) (hv hw 2 rfl) (by decide) (by decide)) (g := (mkF m 321 #[vi p0, vi p1, vi p2, vi p3, vi p4, vi 1, vi 1, vi r569, vi r570, vi cp, vi dp, vr b573, vr b581, vr b592, vr b602, vr b614, .val (.int (Int32.ofNat (((((([] : List Int32) ++ encB (r569.toInt8.toInt32)) ++ encB (r570.toInt8.toInt32)) ++ [(58 : Int32)]) ++ encB (cp.toInt8.toInt32)) ++ encB (dp.toInt8.toInt32)).length)), vr d668, vr t677] [(.int 3), (.int (Int32.ofNat (((((([] : List Int32) ++ encB (r569.toInt8.toInt32)) ++ encB (r570.toInt8.toInt32)) ++ [(58 : Int32)]) ++ encB (cp.toInt8.toInt32)) ++ encB (dp.toInt8.toInt32)).length)), (.ref b614), (.ref t677)])) rfl (by rw [hml]; rfl) (argsL := [(.ref t677), (.ref b614), (.int (Int32.ofNat (((((([] : List Int32) ++ encB (r569.toInt8.toInt32)) ++ encB (r570.toInt8.toInt32)) ++ [(58 : Int32)]) ++ encB (cp.toInt8.toInt32)) ++ encB (dp.toInt8.toInt32)).length)), (.int 3)]) (rest := []) (lenOf pd_34 rfl) rfl (by exact Nat.le_of_eq rfl) (hb hby at_321) (fun _ _ => ⟨rfl, hE689, (by decide : 20 + 0 ≤ _), (by decide : 203 + 0 ≤ _)⟩)
   dsimp only [Pt.U, Pt.locs, Pt.cells, Pt.slots] at X690 l690 y690 z690 st690 hQ690
   rw [l690, y690, z690] at X690
   obtain ⟨rfl, Nq690, hE690⟩ := hQ690
   have N690 := Fr.app N689 Nq690
   refine Go.st st690 ?_
   show Go p.tables e below Kx _ (mkF m 324 _ [(.int 1)])
   refine s_ifN (pc' := 327) X690.here hx (hb hby at_324) rfl ((if0 _ _).trans (feq (by decide)).1) ?_
   refine s_aload (pc' := 329) X690.here hx (hb hby at_327) rfl rfl rfl ?_
   refine s_aload (pc' := 331) X690.here hx (hb hby at_329) rfl rfl rfl ?_
   refine s_iload (pc' := 333) X690.here hx (hb hby at_331) rfl rfl ?_
   refine s_iconst (pc' := 334) (v := 4) X690.here hx (hb hby at_333) rfl rfl ?_
   obtain ⟨_, _, ⟨T691, L691, k691, n691⟩, -, X691, ⟨Lc691, hQ691, l691, y691, z691⟩, st691⟩ := Jvm.LawKit.callS X690 hx (y := yN5) hown677 (mvT hZ677 (hv hw 251 rfl)) (mvT hZ677 (hv hw 252 rfl)) (mvT hZ677 (hv hw 2 rfl)) (mvT hZ677 (hv hw 253 rfl)) (by decide) (backOf (W := 0) (rmDs l Z a0 hw [] t677 b614 _ _ (((((([] : List Int32) ++ encB (r569.toInt8.toInt32)) ++ encB (r570.toInt8.toInt32)) ++ [(58 : Int32)]) ++ encB (cp.toInt8.toInt32)) ++ encB (dp.toInt8.toInt32)) 4 T677.heap n0 O677 q1_677 f681 (Nat.le_trans hp655 (by decide)) (by decide)) hZ677 (hv hw 253 rfl) (hv hw 2 rfl) (by decide) (by decide)) (g := (mkF m 334 #[vi p0, vi p1, vi p2, vi p3, vi p4, vi 1, vi 1, vi r569, vi r570, vi cp, vi dp, vr b573, vr b581, vr b592, vr b602, vr b614, .val (.int (Int32.ofNat (((((([] : List Int32) ++ encB (r569.toInt8.toInt32)) ++ encB (r570.toInt8.toInt32)) ++ [(58 : Int32)]) ++ encB (cp.toInt8.toInt32)) ++ encB (dp.toInt8.toInt32)).length)), vr d668, vr t677] [(.int 4), (.int (Int32.ofNat (((((([] : List Int32) ++ encB (r569.toInt8.toInt32)) ++ encB (r570.toInt8.toInt32)) ++ [(58 : Int32)]) ++ encB (cp.toInt8.toInt32)) ++ encB (dp.toInt8.toInt32)).length)), (.ref b614), (.ref t677)])) rfl (by rw [hml]; rfl) (argsL := [(.ref t677), (.ref b614), (.int (Int32.ofNat (((((([] : List Int32) ++ encB (r569.toInt8.toInt32)) ++ encB (r570.toInt8.toInt32)) ++ [(58 : Int32)]) ++ encB (cp.toInt8.toInt32)) ++ encB (dp.toInt8.toInt32)).length)), (.int 4)]) (rest := []) (lenOf pd_34 rfl) rfl (by exact Nat.le_of_eq rfl) (hb hby at_334) (fun _ _ => ⟨rfl, hE690, (by decide : 20 + 0 ≤ _), (by decide : 203 + 0 ≤ _)⟩)
   dsimp only [Pt.U, Pt.locs, Pt.cells, Pt.slots] at X691 l691 y691 z691 st691 hQ691
   rw [l691, y691, z691] at X691
   obtain ⟨rfl, Nq691, hE691⟩ := hQ691
   have N691 := Fr.app N690 Nq691
   refine Go.st st691 ?_
   show Go p.tables e below Kx _ (mkF m 337 _ [(.int 1)])
   refine s_ifN (pc' := 340) X691.here hx (hb hby at_337) rfl ((if0 _ _).trans (feq (by decide)).1) ?_
   refine s_aload (pc' := 342) X691.here hx (hb hby at_340) rfl rfl rfl ?_
   refine s_aload (pc' := 344) X691.here hx (hb hby at_342) rfl rfl rfl ?_
   refine s_iload (pc' := 346) X691.here hx (hb hby at_344) rfl rfl ?_
   refine s_iconst (pc' := 347) (v := 5) X691.here hx (hb hby at_346) rfl rfl ?_
   obtain ⟨_, _, ⟨T692, L692, k692, n692⟩, -, X692, ⟨Lc692, hQ692, l692, y692, z692⟩, st692⟩ := Jvm.LawKit.callS X691 hx (y := yN5) hown677 (mvT hZ677 (hv hw 251 rfl)) (mvT hZ677 (hv hw 252 rfl)) (mvT hZ677 (hv hw 2 rfl)) (mvT hZ677 (hv hw 253 rfl)) (by decide) (backOf (W := 0) (rmDs l Z a0 hw [] t677 b614 _ _ (((((([] : List Int32) ++ encB (r569.toInt8.toInt32)) ++ encB (r570.toInt8.toInt32)) ++ [(58 : Int32)]) ++ encB (cp.toInt8.toInt32)) ++ encB (dp.toInt8.toInt32)) 5 T677.heap n0 O677 q1_677 f681 (Nat.le_trans hp655 (by decide)) (by decide)) hZ677 (hv hw 253 rfl) (hv hw 2 rfl) (by decide) (by decide)) (g := (mkF m 347 #[vi p0, vi p1, vi p2, vi p3, vi p4, vi 1, vi 1, vi r569, vi r570, vi cp, vi dp, vr b573, vr b581, vr b592, vr b602, vr b614, .val (.int (Int32.ofNat (((((([] : List Int32) ++ encB (r569.toInt8.toInt32)) ++ encB (r570.toInt8.toInt32)) ++ [(58 : Int32)]) ++ encB (cp.toInt8.toInt32)) ++ encB (dp.toInt8.toInt32)).length)), vr d668, vr t677] [(.int 5), (.int (Int32.ofNat (((((([] : List Int32) ++ encB (r569.toInt8.toInt32)) ++ encB (r570.toInt8.toInt32)) ++ [(58 : Int32)]) ++ encB (cp.toInt8.toInt32)) ++ encB (dp.toInt8.toInt32)).length)), (.ref b614), (.ref t677)])) rfl (by rw [hml]; rfl) (argsL := [(.ref t677), (.ref b614), (.int (Int32.ofNat (((((([] : List Int32) ++ encB (r569.toInt8.toInt32)) ++ encB (r570.toInt8.toInt32)) ++ [(58 : Int32)]) ++ encB (cp.toInt8.toInt32)) ++ encB (dp.toInt8.toInt32)).length)), (.int 5)]) (rest := []) (lenOf pd_34 rfl) rfl (by exact Nat.le_of_eq rfl) (hb hby at_347) (fun _ _ => ⟨rfl, hE691, (by decide : 20 + 0 ≤ _), (by decide : 203 + 0 ≤ _)⟩)
   dsimp only [Pt.U, Pt.locs, Pt.cells, Pt.slots] at X692 l692 y692 z692 st692 hQ692
   rw [l692, y692, z692] at X692
   obtain ⟨rfl, Nq692, hE692⟩ := hQ692
   have N692 := Fr.app N691 Nq692
   refine Go.st st692 ?_
   show Go p.tables e below Kx _ (mkF m 350 _ [(.int 1)])
   refine s_ifN (pc' := 353) X692.here hx (hb hby at_350) rfl ((if0 _ _).trans (feq (by decide)).1) ?_
   refine s_aload (pc' := 355) X692.here hx (hb hby at_353) rfl rfl rfl ?_
   refine s_aload (pc' := 357) X692.here hx (hb hby at_355) rfl rfl rfl ?_
   refine s_iload (pc' := 359) X692.here hx (hb hby at_357) rfl rfl ?_
   refine s_bipush (pc' := 361) (v := 6) X692.here hx (hb hby at_359) rfl rfl ?_
   obtain ⟨_, _, ⟨T693, L693, k693, n693⟩, -, X693, ⟨Lc693, hQ693, l693, y693, z693⟩, st693⟩ := Jvm.LawKit.callS X692 hx (y := yN5) hown677 (mvT hZ677 (hv hw 251 rfl)) (mvT hZ677 (hv hw 252 rfl)) (mvT hZ677 (hv hw 2 rfl)) (mvT hZ677 (hv hw 253 rfl)) (by decide) (backOf (W := 0) (rmDs l Z a0 hw [] t677 b614 _ _ (((((([] : List Int32) ++ encB (r569.toInt8.toInt32)) ++ encB (r570.toInt8.toInt32)) ++ [(58 : Int32)]) ++ encB (cp.toInt8.toInt32)) ++ encB (dp.toInt8.toInt32)) 6 T677.heap n0 O677 q1_677 f681 (Nat.le_trans hp655 (by decide)) (by decide)) hZ677 (hv hw 253 rfl) (hv hw 2 rfl) (by decide) (by decide)) (g := (mkF m 361 #[vi p0, vi p1, vi p2, vi p3, vi p4, vi 1, vi 1, vi r569, vi r570, vi cp, vi dp, vr b573, vr b581, vr b592, vr b602, vr b614, .val (.int (Int32.ofNat (((((([] : List Int32) ++ encB (r569.toInt8.toInt32)) ++ encB (r570.toInt8.toInt32)) ++ [(58 : Int32)]) ++ encB (cp.toInt8.toInt32)) ++ encB (dp.toInt8.toInt32)).length)), vr d668, vr t677] [(.int 6), (.int (Int32.ofNat (((((([] : List Int32) ++ encB (r569.toInt8.toInt32)) ++ encB (r570.toInt8.toInt32)) ++ [(58 : Int32)]) ++ encB (cp.toInt8.toInt32)) ++ encB (dp.toInt8.toInt32)).length)), (.ref b614), (.ref t677)])) rfl (by rw [hml]; rfl) (argsL := [(.ref t677), (.ref b614), (.int (Int32.ofNat (((((([] : List Int32) ++ encB (r569.toInt8.toInt32)) ++ encB (r570.toInt8.toInt32)) ++ [(58 : Int32)]) ++ encB (cp.toInt8.toInt32)) ++ encB (dp.toInt8.toInt32)).length)), (.int 6)]) (rest := []) (lenOf pd_34 rfl) rfl (by exact Nat.le_of_eq rfl) (hb hby at_361) (fun _ _ => ⟨rfl, hE692, (by decide : 20 + 0 ≤ _), (by decide : 203 + 0 ≤ _)⟩)
   dsimp only [Pt.U, Pt.locs, Pt.cells, Pt.slots] at X693 l693 y693 z693 st693 hQ693
   rw [l693, y693, z693] at X693
   obtain ⟨rfl, Nq693, hE693⟩ := hQ693
   have N693 := Fr.app N692 Nq693
   refine Go.st st693 ?_
   show Go p.tables e below Kx _ (mkF m 364 _ [(.int 1)])
   refine s_ifN (pc' := 367) X693.here hx (hb hby at_364) rfl ((if0 _ _).trans (feq (by decide)).1) ?_
   refine s_aload (pc' := 369) X693.here hx (hb hby at_367) rfl rfl rfl ?_
   refine s_aload (pc' := 371) X693.here hx (hb hby at_369) rfl rfl rfl ?_
   refine s_iload (pc' := 373) X693.here hx (hb hby at_371) rfl rfl ?_
   refine s_bipush (pc' := 375) (v := 7) X693.here hx (hb hby at_373) rfl rfl ?_
   obtain ⟨_, _, ⟨T694, L694, k694, n694⟩, -, X694, ⟨Lc694, hQ694, l694, y694, z694⟩, st694⟩ := Jvm.LawKit.callS X693 hx (y := yN5) hown677 (mvT hZ677 (hv hw 251 rfl)) (mvT hZ677 (hv hw 252 rfl)) (mvT hZ677 (hv hw 2 rfl)) (mvT hZ677 (hv hw 253 rfl)) (by decide) (backOf (W := 0) (rmDs l Z a0 hw [] t677 b614 _ _ (((((([] : List Int32) ++ encB (r569.toInt8.toInt32)) ++ encB (r570.toInt8.toInt32)) ++ [(58 : Int32)]) ++ encB (cp.toInt8.toInt32)) ++ encB (dp.toInt8.toInt32)) 7 T677.heap n0 O677 q1_677 f681 (Nat.le_trans hp655 (by decide)) (by decide)) hZ677 (hv hw 253 rfl) (hv hw 2 rfl) (by decide) (by decide)) (g := (mkF m 375 #[vi p0, vi p1, vi p2, vi p3, vi p4, vi 1, vi 1, vi r569, vi r570, vi cp, vi dp, vr b573, vr b581, vr b592, vr b602, vr b614, .val (.int (Int32.ofNat (((((([] : List Int32) ++ encB (r569.toInt8.toInt32)) ++ encB (r570.toInt8.toInt32)) ++ [(58 : Int32)]) ++ encB (cp.toInt8.toInt32)) ++ encB (dp.toInt8.toInt32)).length)), vr d668, vr t677] [(.int 7), (.int (Int32.ofNat (((((([] : List Int32) ++ encB (r569.toInt8.toInt32)) ++ encB (r570.toInt8.toInt32)) ++ [(58 : Int32)]) ++ encB (cp.toInt8.toInt32)) ++ encB (dp.toInt8.toInt32)).length)), (.ref b614), (.ref t677)])) rfl (by rw [hml]; rfl) (argsL := [(.ref t677), (.ref b614), (.int (Int32.ofNat (((((([] : List Int32) ++ encB (r569.toInt8.toInt32)) ++ encB (r570.toInt8.toInt32)) ++ [(58 : Int32)]) ++ encB (cp.toInt8.toInt32)) ++ encB (dp.toInt8.toInt32)).length)), (.int 7)]) (rest := []) (lenOf pd_34 rfl) rfl (by exact Nat.le_of_eq rfl) (hb hby at_375) (fun _ _ => ⟨rfl, hE693, (by decide : 20 + 0 ≤ _), (by decide : 203 + 0 ≤ _)⟩)
   dsimp only [Pt.U, Pt.locs, Pt.cells, Pt.slots] at X694 l694 y694 z694 st694 hQ694
   rw [l694, y694, z694] at X694
   obtain ⟨rfl, Nq694, hE694⟩ := hQ694
   have N694 := Fr.app N693 Nq694
   refine Go.st st694 ?_
   show Go p.tables e below Kx _ (mkF m 378 _ [(.int 1)])
   refine s_ifN (pc' := 381) X694.here hx (hb hby at_378) rfl ((if0 _ _).trans (feq (by decide)).1) ?_
   refine s_aload (pc' := 383) X694.here hx (hb hby at_381) rfl rfl rfl ?_
   refine s_aload (pc' := 385) X694.here hx (hb hby at_383) rfl rfl rfl ?_
   refine s_iload (pc' := 387) X694.here hx (hb hby at_385) rfl rfl ?_
   refine s_bipush (pc' := 389) (v := 8) X694.here hx (hb hby at_387) rfl rfl ?_
   obtain ⟨_, _, ⟨T695, L695, k695, n695⟩, -, X695, ⟨Lc695, hQ695, l695, y695, z695⟩, st695⟩ := Jvm.LawKit.callS X694 hx (y := yN5) hown677 (mvT hZ677 (hv hw 251 rfl)) (mvT hZ677 (hv hw 252 rfl)) (mvT hZ677 (hv hw 2 rfl)) (mvT hZ677 (hv hw 253 rfl)) (by decide) (backOf (W := 0) (rmDs l Z a0 hw [] t677 b614 _ _ (((((([] : List Int32) ++ encB (r569.toInt8.toInt32)) ++ encB (r570.toInt8.toInt32)) ++ [(58 : Int32)]) ++ encB (cp.toInt8.toInt32)) ++ encB (dp.toInt8.toInt32)) 8 T677.heap n0 O677 q1_677 f681 (Nat.le_trans hp655 (by decide)) (by decide)) hZ677 (hv hw 253 rfl) (hv hw 2 rfl) (by decide) (by decide)) (g := (mkF m 389 #[vi p0, vi p1, vi p2, vi p3, vi p4, vi 1, vi 1, vi r569, vi r570, vi cp, vi dp, vr b573, vr b581, vr b592, vr b602, vr b614, .val (.int (Int32.ofNat (((((([] : List Int32) ++ encB (r569.toInt8.toInt32)) ++ encB (r570.toInt8.toInt32)) ++ [(58 : Int32)]) ++ encB (cp.toInt8.toInt32)) ++ encB (dp.toInt8.toInt32)).length)), vr d668, vr t677] [(.int 8), (.int (Int32.ofNat (((((([] : List Int32) ++ encB (r569.toInt8.toInt32)) ++ encB (r570.toInt8.toInt32)) ++ [(58 : Int32)]) ++ encB (cp.toInt8.toInt32)) ++ encB (dp.toInt8.toInt32)).length)), (.ref b614), (.ref t677)])) rfl (by rw [hml]; rfl) (argsL := [(.ref t677), (.ref b614), (.int (Int32.ofNat (((((([] : List Int32) ++ encB (r569.toInt8.toInt32)) ++ encB (r570.toInt8.toInt32)) ++ [(58 : Int32)]) ++ encB (cp.toInt8.toInt32)) ++ encB (dp.toInt8.toInt32)).length)), (.int 8)]) (rest := []) (lenOf pd_34 rfl) rfl (by exact Nat.le_of_eq rfl) (hb hby at_389) (fun _ _ => ⟨rfl, hE694, (by decide : 20 + 0 ≤ _), (by decide : 203 + 0 ≤ _)⟩)
   dsimp only [Pt.U, Pt.locs, Pt.cells, Pt.slots] at X695 l695 y695 z695 st695 hQ695
   rw [l695, y695, z695] at X695
   obtain ⟨rfl, Nq695, hE695⟩ := hQ695
   have N695 := Fr.app N694 Nq695
   refine Go.st st695 ?_
   show Go p.tables e below Kx _ (mkF m 392 _ [(.int 1)])
   refine s_ifN (pc' := 395) X695.here hx (hb hby at_392) rfl ((if0 _ _).trans (feq (by decide)).1) ?_
   refine s_iconst (pc' := 396) (v := 1) X695.here hx (hb hby at_395) rfl rfl ?_
   refine s_goto (pc' := 400) X695.here hx (hb hby at_396) (by decide) (by decide) ?_
   obtain ⟨fs, hr, hrun, hended, hRW⟩ := X695.leaveW hS677 (by rw [hE695]; exact hk677) (v := (some (.int 1))) (fun h => by rw [Bd.returns] at h; cases h)
   have hCx := C677.trans (CHv.at X695 hZ677 hEL Cr677.1)
   refine Go.fin (retN X695 hx (t := .boolean) Bd.returns (by simp) (hb hby at_400) hr) (hF _ _ hrun hended ⟨_, _, rfl, ?_, ?_, hRW.1, hRW.2.1, hRW.2.2.1, hRW.2.2.2.mono (by decide) (by decide)⟩)
   ·
    show QL Z p0 p1 p2 p3 p4 u8 h0 n0 ((some (.int 1)) : Option Value) T695.heap _
    rw [hE695]
    exact ⟨rfl, N695⟩
   ·
    show CHr Z consts_1 s.vm s.heap T695.vm T695.heap
    rw [hE695, hh]; exact hCx
theorem eqR_v {args : Array Value} {s : State} {t u : Term} {y : Addr} (hu : u.eval args s none [] s = some (.ref y)) (h : (Cond.eq t u).value args s none s [] = some true) : t.eval args s none [] s = some (.ref y) := by
  cases ht : t.eval args s none [] s with
  | none => simp [Cond.value, ht] at h
  | some z => cases z <;> simp [Cond.value, ht, hu] at h ⊢ <;> exact h
set_option maxRecDepth 65536 in
set_option maxHeartbeats 40000000 in
theorem comes_1 {Post : Tables → Env → Array Value → State → Outcome → State → Prop} (hpost : ∀ tb e args s v u, (limb_1_1.after args s (.returned v) u = true ∧ limb_1_2.after args s (.returned v) u = true ∧ True) → ReturnedEndW s (.returned v) u (Jvm.fieldLocs frame_1_writes args s ++ Jvm.arrayLocs frame_1_arrays args s ++ Jvm.staticLocs frame_1_statics s) 48 3328 → Post tb e args s (.returned v) u) :
    ArmFor flags0 classFile x code maxLocals ret World_1 tables_1 room_1 Calls_1 rest_1 Pre_1 Post := by
  intro l hfl _ _ p e ha hc hk s m args below hf hA hF happ hP
  obtain ⟨hcalls, hrest, hpre⟩ := hP
  obtain ⟨-, -, -, hnamed, -, -, -, hat⟩ := (Spec.applies_iff hf).mp happ
  obtain ⟨hg, hn⟩ := and_e (Cond.before_iff.mp (show (Jvm.Cond.and given_1 narrow_1).before args s = true from hpre))
  obtain ⟨hcount, hgs⟩ := and_e hg
  obtain ⟨hi0, hgs'⟩ := and_e hgs
  obtain ⟨hi1, hgs''⟩ := and_e hgs'
  obtain ⟨hi2, hgs'''⟩ := and_e hgs''
  obtain ⟨hi3, hgs''''⟩ := and_e hgs'''
  have hi4 := hgs''''
  obtain ⟨w0, w1, w2, w3, w4, rfl⟩ : ∃ w0 w1 w2 w3 w4 : Value, args = #[w0, w1, w2, w3, w4] := by
    have hs : args.size = 5 := by simpa [Cond.value, given_1] using hcount
    obtain ⟨L⟩ := args
    match L, hs with
    | [w0, w1, w2, w3, w4], _ => exact ⟨w0, w1, w2, w3, w4, rfl⟩
  have hw := fun d (hd : d ∈ tables_1) => atoms_spec (ws := Jvm.Cond.code x code maxLocals ret :: tables_1) hat d (List.mem_cons_of_mem _ hd)
  have hfit : Fit s := fun {y c} hc i hi => by
    obtain ⟨ha, rfl⟩ := Array.getElem?_eq_some_iff.mp hc
    have q := List.all_eq_true.mp ((Array.all_eq_true_iff_forall_mem.mp hF) _ (Array.getElem_mem ha)) i (List.mem_range.mpr hi)
    simpa [Array.getElem?_eq_getElem hi] using q
  obtain ⟨hsets, hown0⟩ := atoms_of _ (rest_1_c_eq ▸ (show rest_1_c.before _ s = true from hrest))
  obtain ⟨i0, ei0⟩ := is_v hi0
  obtain rfl : w0 = (.int i0) := Option.some.inj ei0
  obtain ⟨i1, ei1⟩ := is_v hi1
  obtain rfl : w1 = (.int i1) := Option.some.inj ei1
  obtain ⟨i2, ei2⟩ := is_v hi2
  obtain rfl : w2 = (.int i2) := Option.some.inj ei2
  obtain ⟨i3, ei3⟩ := is_v hi3
  obtain rfl : w3 = (.int i3) := Option.some.inj ei3
  obtain ⟨i4, ei4⟩ := is_v hi4
  obtain rfl : w4 = (.int i4) := Option.some.inj ei4
  obtain ⟨G1, eG1⟩ := is_v (Cond.before_iff.mp (hsets _ (List.mem_of_getElem? (i := 1) rfl)))
  have S1 : Sta s s.heap "java/lang/String" "COMPACT_STRINGS" "Z" (.int G1) := Sta.start eG1 (Or.inl (hsets _ (List.mem_of_getElem? (i := 0) rfl)))
  have P1 : ¬ (G1 = 0) := gotF (Cond.eq_ints eG1 (Term.int_eval (0))) (not_v (Cond.before_iff.mp (hsets _ (List.mem_of_getElem? (i := 2) rfl))))
  have wS : ∀ a ∈ Bundle.stringAtoms, a.before #[(.int i0), (.int i1), (.int i2), (.int i3), (.int i4)] s = true := fun d hd => hw d ((by decide +kernel : ∀ d ∈ Bundle.stringAtoms, d ∈ tables_1) d hd)
  have hEL : EW s #[(.int i0), (.int i1), (.int i2), (.int i3), (.int i4)] consts_1 := (EW.cons (hv hw 41 rfl) (by decide) (EW.cons (hv hw 48 rfl) (by decide) (EW.cons (hv hw 177 rfl) (by decide) EW.nil)))
  have hCH : CHv s consts_1 s.vm s.heap := CHv.start hEL hcalls.1 (hsets _ (List.mem_of_getElem? (i := 2) rfl)) (wS _ (by simp [Bundle.stringAtoms])) (wS _ (by simp [Bundle.stringAtoms, Bundle.sN]))
  obtain ⟨u8, eU⟩ := exa_v (Cond.before_iff.mp (hsets _ (List.mem_of_getElem? (i := 17) rfl)))
  have SU := Sta.start eU (Or.inl (hsets _ (List.mem_of_getElem? (i := 12) rfl)))
  have SC := Sta.start (eqR_v eU (Cond.before_iff.mp (hsets _ (List.mem_of_getElem? (i := 13) rfl)))) (Or.inl (hsets _ (List.mem_of_getElem? (i := 10) rfl)))
  obtain ⟨n, o, h1, h2, h3, _, L, rfl, ⟨rfl, N⟩, hq⟩ := rmL l s _ hw tables_1 i0 i1 i2 i3 i4 u8 s.heap s.heap.size (Old.start s) hEL wS G1 S1 P1 SU SC p e ha hc hk s m _ below hf ((Spec.applies_iff_loose hf).mp happ).1 ⟨rfl, State.Warmed39.refl s, rfl, hCH⟩ trivial
  refine ⟨n, _, h1, h2, h3, hpost _ _ _ _ _ _ ⟨Cond.after_iff.mpr rfl, Cond.after_iff.mpr (eq_i res_at (Term.int_eval (1)) rfl), trivial⟩ ⟨hq.2.1, hq.2.2.1, hq.2.2.2.1, (hq.2.2.2.2.sift fun y hy => Or.inr (N y hy)).mono (by decide) (by decide)⟩⟩
theorem main_1_1 : Claimed_1_1 := comes_1 fun _ _ _ _ _ _ h hF => ⟨h.1, hF⟩
theorem main_1_2 : Claimed_1_2 := comes_1 fun _ _ _ _ _ _ h hF => ⟨h.2.1, hF⟩
end Jvm.Pilot.@@N@@
namespace Jvm.Pilot.@@N@@
open Jvm Jvm.ClassFile Sem Op Lib Jvm.Free Jvm.Stand Jvm.Pilot.@@N@@.Jvm.D
/-! MADE BY PROGRAM (witnessworld.py) out of the Statement's table words and the real class files: 33 classes; the members and pool entries that the words name. The judged class is class 1, her method 1. -/
namespace start1
open Jvm.ClassFile
def u (s : String) : CpInfo := .utf8 (stringToUtf16 s)
/-- a pool by its gaps: so many unusable entries, then the entry; so many at the end -/
def gap : Nat → List CpInfo → List CpInfo
  | 0, r => r
  | n + 1, r => .unusable :: gap n r
def poolList (es : List (Nat × CpInfo)) (last : Nat) : List CpInfo := es.foldr (fun e r => gap e.1 (e.2 :: r)) (gap last [])
def pool (es : List (Nat × CpInfo)) (last : Nat) : Array CpInfo := ⟨poolList es last⟩
def fileOf (pool : Array CpInfo) (this : Nat) (attrs : Array Attribute := #[]) (ms : Array MethodInfo := #[]) (fl : Nat := 33) (sup : Nat := 0) (ifs : Array Nat := #[]) (fds : Array FieldInfo := #[]) : ClassFile where
  minorVersion := 0
  majorVersion := 65
  constantPool := pool
  accessFlags := fl
  thisClass := this
  superClass := sup
  interfaces := ifs
  fields := fds
  methods := ms
  attributes := attrs
def plain (name : String) (sup : Option ClassId) : Class where
  name := name
  kind := .ordinary
  loader := none
  accessFlags := 33
  super := sup
  interfaces := #[]
  cf := none
  fields := #[]
  methods := #[]
  instanceTypes := #[]
  staticTypes := #[]
  resolved := #[]
  callSites := []
  init := .initialized
  statics := none
  mirror := none

def pool0 : Array CpInfo := pool [(5, u "<init>"), (0, u "()V"), (1, .class_ 10), (1, u "java/lang/Object"), (85, u "clone"), (0, u "()Ljava/lang/Object;")] 26

def k0c0 : Code := { maxStack := 0, maxLocals := 1, code := object_method_1_code, exceptionTable := #[], attributes := #[] }
def k0m0 : Method := { name := "<init>", desc := "()V", sig := { parameters := [], returnType := none }, accessFlags := 1, code := some k0c0 }
def k0m1 : Method := { name := "clone", desc := "()Ljava/lang/Object;", sig := { parameters := [], returnType := some (.object "java/lang/Object") }, accessFlags := 260, code := none }
/-- java/lang/Object -/
def k0 : Class := { plain "java/lang/Object" none with
  accessFlags := 33
  interfaces := #[]
  cf := some (fileOf pool0 8 #[] #[{ accessFlags := 1, nameIndex := 5, descriptorIndex := 6, attributes := #[] }, { accessFlags := 260, nameIndex := 96, descriptorIndex := 97, attributes := #[] }] 33 0 #[] #[])
  fields := #[]
  methods := #[k0m0, k0m1]
  instanceTypes := #[]
  staticTypes := #[]
  resolved := Array.replicate 124 none
  statics := none }

def pool1 : Array CpInfo := pool [(2, .class_ 4), (1, u "java/lang/Object"), (0, u "<init>"), (0, u "()V"), (0, .methodref 8 9), (0, .class_ 10), (0, .nameAndType 11 12), (0, u "com/example/turnlock/turnlock/session/DigestCredentialsOfPinLaw"), (0, u "userChar"), (0, u "(I)C"), (0, .class_ 14), (0, u "java/lang/String"), (0, .methodref 13 16), (0, .nameAndType 5 17), (0, u "([C)V"), (0, .methodref 8 19), (0, .nameAndType 20 21), (0, u "put"), (0, u "([BIC)I"), (0, .methodref 23 24), (0, .class_ 25), (0, .nameAndType 26 27), (0, u "com/example/turnlock/turnlock/session/DigestCredentials"), (0, u "of"), (0, u "(Ljava/lang/String;Ljava/lang/String;)Lcom/example/turnlock/turnlock/session/DigestCredentials;"), (0, .methodref 23 29), (0, .nameAndType 30 31), (0, u "user"), (0, u "()Ljava/lang/String;"), (0, .methodref 13 33), (0, .nameAndType 34 35), (0, u "equals"), (0, u "(Ljava/lang/Object;)Z"), (0, .methodref 23 37), (0, .nameAndType 38 39), (0, u "authData"), (0, u "()[B"), (0, .methodref 8 41), (0, .nameAndType 42 43), (0, u "same"), (0, u "([B[BII)Z"), (2, u "law"), (0, u "(IIIII)Z")] 7

def k1m0 : Method := { name := "<init>", desc := "()V", sig := { parameters := [], returnType := none }, accessFlags := 2, code := none }
def k1c1 : Code := { maxStack := 4, maxLocals := 19, code := code, exceptionTable := #[], attributes := #[] }
def k1m1 : Method := { name := "law", desc := "(IIIII)Z", sig := { parameters := [.int, .int, .int, .int, .int], returnType := some .boolean }, accessFlags := 9, code := some k1c1 }
def k1c2 : Code := { maxStack := 2, maxLocals := 2, code := method_3_code, exceptionTable := #[], attributes := #[] }
def k1m2 : Method := { name := "userChar", desc := "(I)C", sig := { parameters := [.int], returnType := some .char }, accessFlags := 10, code := some k1c2 }
def k1c3 : Code := { maxStack := 5, maxLocals := 3, code := method_4_code, exceptionTable := #[], attributes := #[] }
def k1m3 : Method := { name := "put", desc := "([BIC)I", sig := { parameters := [(.array .byte), .int, .char], returnType := some .int }, accessFlags := 10, code := some k1c3 }
def k1c4 : Code := { maxStack := 3, maxLocals := 4, code := method_5_code, exceptionTable := #[], attributes := #[] }
def k1m4 : Method := { name := "same", desc := "([B[BII)Z", sig := { parameters := [(.array .byte), (.array .byte), .int, .int], returnType := some .boolean }, accessFlags := 10, code := some k1c4 }
/-- com/example/turnlock/turnlock/session/DigestCredentialsOfPinLaw -/
def k1 : Class := { plain "com/example/turnlock/turnlock/session/DigestCredentialsOfPinLaw" (some 0) with
  accessFlags := 49
  interfaces := #[]
  cf := some (fileOf pool1 8 #[] #[{ accessFlags := 2, nameIndex := 5, descriptorIndex := 6, attributes := #[] }, { accessFlags := 9, nameIndex := 46, descriptorIndex := 47, attributes := #[] }, { accessFlags := 10, nameIndex := 11, descriptorIndex := 12, attributes := #[] }, { accessFlags := 10, nameIndex := 20, descriptorIndex := 21, attributes := #[] }, { accessFlags := 10, nameIndex := 42, descriptorIndex := 43, attributes := #[] }] 49 2 #[] #[])
  fields := #[]
  methods := #[k1m0, k1m1, k1m2, k1m3, k1m4]
  instanceTypes := #[]
  staticTypes := #[]
  resolved := Array.replicate 55 none
  statics := none }

def pool2 : Array CpInfo := pool [(1, .class_ 2), (0, u "java/io/Serializable"), (0, .class_ 4), (0, u "java/lang/Object")] 2

/-- java/io/Serializable -/
def k2 : Class := { plain "java/io/Serializable" (some 0) with
  accessFlags := 1537
  interfaces := #[]
  cf := some (fileOf pool2 1 #[] #[] 1537 3 #[] #[])
  fields := #[]
  methods := #[]
  instanceTypes := #[]
  staticTypes := #[]
  resolved := Array.replicate 7 none
  statics := none }

def pool3 : Array CpInfo := pool [(1, .class_ 2), (0, u "java/lang/Comparable"), (0, .class_ 4), (0, u "java/lang/Object")] 7

/-- java/lang/Comparable -/
def k3 : Class := { plain "java/lang/Comparable" (some 0) with
  accessFlags := 1537
  interfaces := #[]
  cf := some (fileOf pool3 1 #[] #[] 1537 3 #[] #[])
  fields := #[]
  methods := #[]
  instanceTypes := #[]
  staticTypes := #[]
  resolved := Array.replicate 12 none
  statics := none }

def pool4 : Array CpInfo := pool [(2, .class_ 4), (1, u "java/lang/CharSequence"), (42, .class_ 48), (0, u "java/lang/CharSequence$1CodePointIterator"), (10, .class_ 60), (0, u "java/lang/CharSequence$1CharIterator"), (5, .class_ 67), (0, u "java/lang/Object")] 63

/-- java/lang/CharSequence -/
def k4 : Class := { plain "java/lang/CharSequence" (some 0) with
  accessFlags := 1537
  interfaces := #[]
  cf := some (fileOf pool4 2 #[.nestMembers #[47, 59]] #[] 1537 66 #[] #[])
  fields := #[]
  methods := #[]
  instanceTypes := #[]
  staticTypes := #[]
  resolved := Array.replicate 131 none
  statics := none }

def pool5 : Array CpInfo := pool [(1, .class_ 2), (0, u "java/lang/constant/Constable"), (0, .class_ 4), (0, u "java/lang/Object")] 6

/-- java/lang/constant/Constable -/
def k5 : Class := { plain "java/lang/constant/Constable" (some 0) with
  accessFlags := 1537
  interfaces := #[]
  cf := some (fileOf pool5 1 #[] #[] 1537 3 #[] #[])
  fields := #[]
  methods := #[]
  instanceTypes := #[]
  staticTypes := #[]
  resolved := Array.replicate 11 none
  statics := none }

def pool6 : Array CpInfo := pool [(1, .class_ 2), (0, u "java/lang/constant/ConstantDesc"), (0, .class_ 4), (0, u "java/lang/Object")] 32

/-- java/lang/constant/ConstantDesc -/
def k6 : Class := { plain "java/lang/constant/ConstantDesc" (some 0) with
  accessFlags := 1537
  interfaces := #[]
  cf := some (fileOf pool6 1 #[] #[] 1537 3 #[] #[])
  fields := #[]
  methods := #[]
  instanceTypes := #[]
  staticTypes := #[]
  resolved := Array.replicate 37 none
  statics := none }

def pool7 : Array CpInfo := pool [(1, .methodref 2 3), (0, .class_ 4), (0, .nameAndType 5 6), (0, u "java/lang/Object"), (0, u "<init>"), (0, u "()V"), (2, .fieldref 10 11), (0, .class_ 12), (0, .nameAndType 13 14), (0, u "java/lang/String"), (0, u "value"), (0, u "[B"), (0, .fieldref 10 16), (0, .nameAndType 17 18), (0, u "coder"), (0, u "B"), (2, u "hash"), (0, u "I"), (2, u "hashIsZero"), (0, u "Z"), (0, .methodref 10 28), (0, .nameAndType 5 29), (0, u "([CIILjava/lang/Void;)V"), (8, .fieldref 10 39), (0, .nameAndType 40 26), (0, u "COMPACT_STRINGS"), (1, .class_ 44), (1, u "java/lang/StringUTF16"), (0, u "compress"), (1, .methodref 42 48), (0, .nameAndType 49 50), (0, u "coderFromArrayLen"), (0, u "([BI)B"), (3, .methodref 55 56), (0, .class_ 57), (0, .nameAndType 58 59), (0, u "java/util/Arrays"), (0, u "copyOfRange"), (0, u "([BII)[B"), (0, .methodref 42 61), (0, .nameAndType 62 63), (0, u "newBytesFor"), (0, u "(I)[B"), (22, .fieldref 87 88), (0, .class_ 89), (0, .nameAndType 90 91), (0, u "sun/nio/cs/UTF_8"), (0, u "INSTANCE"), (0, u "Lsun/nio/cs/UTF_8;"), (1, .class_ 95), (1, u "java/lang/StringCoding"), (6, .methodref 55 103), (0, .nameAndType 104 105), (0, u "copyOf"), (0, u "([BI)[B"), (1, .class_ 109), (1, u "java/lang/StringLatin1"), (18, .methodref 93 129), (0, .nameAndType 130 131), (0, u "hasNegatives"), (0, u "([BII)Z"), (10, u "()Z"), (34, .methodref 42 178), (0, .nameAndType 45 179), (0, u "([CII)[B"), (13, .class_ 195), (1, u "java/lang/System"), (16, .methodref 193 213), (0, .nameAndType 214 215), (0, u "arraycopy"), (0, u "(Ljava/lang/Object;ILjava/lang/Object;II)V"), (36, .methodref 10 253), (0, .nameAndType 254 255), (0, u "encodeUTF8"), (0, u "(B[BZ)[B"), (23, .methodref 280 281), (0, .class_ 14), (0, .nameAndType 282 283), (0, u "clone"), (0, u "()Ljava/lang/Object;"), (33, u "encode"), (16, u "()I"), (0, .methodref 10 336), (0, .nameAndType 17 337), (0, u "()B"), (2, u "()[B"), (148, .methodref 10 490), (0, .nameAndType 5 491), (0, u "(Ljava/lang/AbstractStringBuilder;Ljava/lang/Void;)V"), (0, .methodref 10 493), (0, .nameAndType 494 142), (0, u "isLatin1"), (10, .methodref 10 506), (0, .nameAndType 507 334), (0, u "length"), (24, u "getBytes"), (2, .methodref 10 536), (0, .nameAndType 317 537), (0, u "(Ljava/nio/charset/Charset;B[B)[B"), (5, u "equals"), (5, .methodref 550 506), (0, .class_ 551), (0, u "java/lang/AbstractStringBuilder"), (0, .methodref 550 553), (0, .nameAndType 554 340), (0, u "getValue"), (18, u "(Ljava/lang/Object;)Z"), (1, .class_ 576), (0, u "java/lang/CharSequence"), (22, u "CASE_INSENSITIVE_ORDER"), (0, u "Ljava/util/Comparator;"), (32, .methodref 10 634), (0, .nameAndType 635 636), (0, u "indexOf"), (0, u "(II)I"), (0, .methodref 107 638), (0, .nameAndType 635 639), (0, u "([BIII)I"), (52, u "isEmpty"), (72, u "(I)I"), (55, u "([BIB)V"), (188, u "([C)V"), (36, .methodref 550 493), (53, u "serialPersistentFields"), (0, u "[Ljava/io/ObjectStreamField;"), (0, .class_ 1104), (0, u "java/lang/String$CaseInsensitiveComparator"), (1, .class_ 1107), (0, u "java/io/Serializable"), (0, .class_ 1109), (0, u "java/lang/Comparable"), (0, .class_ 1111), (0, u "java/lang/constant/Constable"), (0, .class_ 1113), (0, u "java/lang/constant/ConstantDesc"), (2, u "serialVersionUID"), (0, u "J"), (3, u "REPL"), (0, u "C"), (2, u "LATIN1"), (1, u "UTF16"), (105, u "(Ljava/lang/StringBuilder;)V"), (11, u "(Ljava/nio/charset/Charset;)[B")] 205

def k7m0 : Method := { name := "<init>", desc := "()V", sig := { parameters := [], returnType := none }, accessFlags := 1, code := none }
def k7c1 : Code := { maxStack := 5, maxLocals := 2, code := jdk_42_method_3_code, exceptionTable := #[], attributes := #[] }
def k7m1 : Method := { name := "<init>", desc := "([C)V", sig := { parameters := [(.array .char)], returnType := none }, accessFlags := 1, code := some k7c1 }
def k7c2 : Code := { maxStack := 4, maxLocals := 3, code := jdk_42_method_18_code, exceptionTable := #[], attributes := #[] }
def k7m2 : Method := { name := "encode", desc := "(Ljava/nio/charset/Charset;B[B)[B", sig := { parameters := [(.object "java/nio/charset/Charset"), .byte, (.array .byte)], returnType := some (.array .byte) }, accessFlags := 10, code := some k7c2 }
def k7c3 : Code := { maxStack := 5, maxLocals := 9, code := jdk_42_method_46_code, exceptionTable := #[], attributes := #[] }
def k7m3 : Method := { name := "encodeUTF8", desc := "(B[BZ)[B", sig := { parameters := [.byte, (.array .byte), .boolean], returnType := some (.array .byte) }, accessFlags := 10, code := some k7c3 }
def k7c4 : Code := { maxStack := 3, maxLocals := 2, code := jdk_42_method_53_code, exceptionTable := #[], attributes := #[] }
def k7m4 : Method := { name := "<init>", desc := "(Ljava/lang/StringBuilder;)V", sig := { parameters := [(.object "java/lang/StringBuilder")], returnType := none }, accessFlags := 1, code := some k7c4 }
def k7c5 : Code := { maxStack := 2, maxLocals := 1, code := jdk_42_method_54_code, exceptionTable := #[], attributes := #[] }
def k7m5 : Method := { name := "length", desc := "()I", sig := { parameters := [], returnType := some .int }, accessFlags := 1, code := some k7c5 }
def k7c6 : Code := { maxStack := 1, maxLocals := 1, code := jdk_42_method_55_code, exceptionTable := #[], attributes := #[] }
def k7m6 : Method := { name := "isEmpty", desc := "()Z", sig := { parameters := [], returnType := some .boolean }, accessFlags := 1, code := some k7c6 }
def k7c7 : Code := { maxStack := 3, maxLocals := 2, code := jdk_42_method_64_code, exceptionTable := #[], attributes := #[] }
def k7m7 : Method := { name := "getBytes", desc := "(Ljava/nio/charset/Charset;)[B", sig := { parameters := [(.object "java/nio/charset/Charset")], returnType := some (.array .byte) }, accessFlags := 1, code := some k7c7 }
def k7c8 : Code := { maxStack := 2, maxLocals := 3, code := jdk_42_method_66_code, exceptionTable := #[], attributes := #[] }
def k7m8 : Method := { name := "equals", desc := "(Ljava/lang/Object;)Z", sig := { parameters := [(.object "java/lang/Object")], returnType := some .boolean }, accessFlags := 1, code := some k7c8 }
def k7c9 : Code := { maxStack := 3, maxLocals := 2, code := jdk_42_method_79_code, exceptionTable := #[], attributes := #[] }
def k7m9 : Method := { name := "indexOf", desc := "(I)I", sig := { parameters := [.int], returnType := some .int }, accessFlags := 1, code := some k7c9 }
def k7c10 : Code := { maxStack := 4, maxLocals := 3, code := jdk_42_method_80_code, exceptionTable := #[], attributes := #[] }
def k7m10 : Method := { name := "indexOf", desc := "(II)I", sig := { parameters := [.int, .int], returnType := some .int }, accessFlags := 1, code := some k7c10 }
def k7c11 : Code := { maxStack := 5, maxLocals := 4, code := jdk_42_method_147_code, exceptionTable := #[], attributes := #[] }
def k7m11 : Method := { name := "getBytes", desc := "([BIB)V", sig := { parameters := [(.array .byte), .int, .byte], returnType := none }, accessFlags := 0, code := some k7c11 }
def k7c12 : Code := { maxStack := 4, maxLocals := 6, code := jdk_42_method_149_code, exceptionTable := #[], attributes := #[] }
def k7m12 : Method := { name := "<init>", desc := "([CIILjava/lang/Void;)V", sig := { parameters := [(.array .char), .int, .int, (.object "java/lang/Void")], returnType := none }, accessFlags := 2, code := some k7c12 }
def k7c13 : Code := { maxStack := 5, maxLocals := 5, code := jdk_42_method_150_code, exceptionTable := #[], attributes := #[] }
def k7m13 : Method := { name := "<init>", desc := "(Ljava/lang/AbstractStringBuilder;Ljava/lang/Void;)V", sig := { parameters := [(.object "java/lang/AbstractStringBuilder"), (.object "java/lang/Void")], returnType := none }, accessFlags := 0, code := some k7c13 }
def k7c14 : Code := { maxStack := 1, maxLocals := 1, code := jdk_42_method_152_code, exceptionTable := #[], attributes := #[] }
def k7m14 : Method := { name := "coder", desc := "()B", sig := { parameters := [], returnType := some .byte }, accessFlags := 0, code := some k7c14 }
def k7c15 : Code := { maxStack := 1, maxLocals := 1, code := jdk_42_method_154_code, exceptionTable := #[], attributes := #[] }
def k7m15 : Method := { name := "isLatin1", desc := "()Z", sig := { parameters := [], returnType := some .boolean }, accessFlags := 0, code := some k7c15 }
/-- java/lang/String -/
def k7 : Class := { plain "java/lang/String" (some 0) with
  accessFlags := 49
  interfaces := #[2, 3, 4, 5, 6]
  cf := some (fileOf pool7 10 #[.nestMembers #[1103]] #[{ accessFlags := 1, nameIndex := 5, descriptorIndex := 6, attributes := #[] }, { accessFlags := 1, nameIndex := 5, descriptorIndex := 1010, attributes := #[] }, { accessFlags := 10, nameIndex := 317, descriptorIndex := 537, attributes := #[] }, { accessFlags := 10, nameIndex := 254, descriptorIndex := 255, attributes := #[] }, { accessFlags := 1, nameIndex := 5, descriptorIndex := 1233, attributes := #[] }, { accessFlags := 1, nameIndex := 507, descriptorIndex := 334, attributes := #[] }, { accessFlags := 1, nameIndex := 692, descriptorIndex := 142, attributes := #[] }, { accessFlags := 1, nameIndex := 532, descriptorIndex := 1245, attributes := #[] }, { accessFlags := 1, nameIndex := 543, descriptorIndex := 573, attributes := #[] }, { accessFlags := 1, nameIndex := 635, descriptorIndex := 765, attributes := #[] }, { accessFlags := 1, nameIndex := 635, descriptorIndex := 636, attributes := #[] }, { accessFlags := 0, nameIndex := 532, descriptorIndex := 821, attributes := #[] }, { accessFlags := 2, nameIndex := 5, descriptorIndex := 29, attributes := #[] }, { accessFlags := 0, nameIndex := 5, descriptorIndex := 491, attributes := #[] }, { accessFlags := 0, nameIndex := 17, descriptorIndex := 337, attributes := #[] }, { accessFlags := 0, nameIndex := 494, descriptorIndex := 142, attributes := #[] }] 49 2 #[1106, 1108, 575, 1110, 1112] #[{ accessFlags := 18, nameIndex := 13, descriptorIndex := 14, attributes := #[] }, { accessFlags := 18, nameIndex := 17, descriptorIndex := 18, attributes := #[] }, { accessFlags := 2, nameIndex := 21, descriptorIndex := 22, attributes := #[] }, { accessFlags := 2, nameIndex := 25, descriptorIndex := 26, attributes := #[] }, { accessFlags := 26, nameIndex := 1116, descriptorIndex := 1117, attributes := #[] }, { accessFlags := 24, nameIndex := 40, descriptorIndex := 26, attributes := #[] }, { accessFlags := 26, nameIndex := 1101, descriptorIndex := 1102, attributes := #[] }, { accessFlags := 26, nameIndex := 1121, descriptorIndex := 1122, attributes := #[] }, { accessFlags := 25, nameIndex := 599, descriptorIndex := 600, attributes := #[] }, { accessFlags := 24, nameIndex := 1125, descriptorIndex := 18, attributes := #[] }, { accessFlags := 24, nameIndex := 1127, descriptorIndex := 18, attributes := #[] }])
  fields := #[{ name := "value", type := (.array .byte), accessFlags := 18, slot := 0, constantValue := 0 }, { name := "coder", type := .byte, accessFlags := 18, slot := 1, constantValue := 0 }, { name := "hash", type := .int, accessFlags := 2, slot := 2, constantValue := 0 }, { name := "hashIsZero", type := .boolean, accessFlags := 2, slot := 3, constantValue := 0 }, { name := "serialVersionUID", type := .long, accessFlags := 26, slot := 0, constantValue := 0 }, { name := "COMPACT_STRINGS", type := .boolean, accessFlags := 24, slot := 1, constantValue := 0 }, { name := "serialPersistentFields", type := (.array (.object "java/io/ObjectStreamField")), accessFlags := 26, slot := 2, constantValue := 0 }, { name := "REPL", type := .char, accessFlags := 26, slot := 3, constantValue := 0 }, { name := "CASE_INSENSITIVE_ORDER", type := (.object "java/util/Comparator"), accessFlags := 25, slot := 4, constantValue := 0 }, { name := "LATIN1", type := .byte, accessFlags := 24, slot := 5, constantValue := 0 }, { name := "UTF16", type := .byte, accessFlags := 24, slot := 6, constantValue := 0 }]
  methods := #[k7m0, k7m1, k7m2, k7m3, k7m4, k7m5, k7m6, k7m7, k7m8, k7m9, k7m10, k7m11, k7m12, k7m13, k7m14, k7m15]
  instanceTypes := #[(.array .byte), .byte, .int, .boolean]
  staticTypes := #[.long, .boolean, (.array (.object "java/io/ObjectStreamField")), .char, (.object "java/util/Comparator"), .byte, .byte]
  resolved := Array.replicate 1451 none
  statics := some 0 }

def pool8 : Array CpInfo := pool [(6, .class_ 8), (1, u "java/lang/Object"), (0, u "<init>"), (0, u "()V"), (0, .methodref 12 13), (0, .class_ 14), (0, .nameAndType 15 16), (0, u "java/lang/StringUTF16"), (0, u "newBytesLength"), (0, u "(I)I"), (3, .integer 1073741823), (25, u "$assertionsDisabled"), (0, u "Z"), (13, u "HI_BYTE_SHIFT"), (0, u "I"), (2, u "LO_BYTE_SHIFT"), (43, u "newBytesFor"), (0, u "(I)[B"), (4, .methodref 12 116), (0, .nameAndType 117 118), (0, u "compress"), (0, u "([CI[BII)I"), (3, u "([CII)[B"), (138, u "coderFromArrayLen"), (0, u "([BI)B"), (106, .class_ 371), (1, u "java/lang/StringUTF16$LinesSpliterator"), (58, u "MAX_LENGTH"), (196, .class_ 628), (0, u "java/lang/StringUTF16$CodePointsSpliterator"), (0, .class_ 630), (0, u "java/lang/StringUTF16$CharsSpliterator")] 4

def k8m0 : Method := { name := "<init>", desc := "()V", sig := { parameters := [], returnType := none }, accessFlags := 0, code := none }
def k8c1 : Code := { maxStack := 1, maxLocals := 1, code := jdk_52_method_2_code, exceptionTable := #[], attributes := #[] }
def k8m1 : Method := { name := "newBytesFor", desc := "(I)[B", sig := { parameters := [.int], returnType := some (.array .byte) }, accessFlags := 9, code := some k8c1 }
def k8c2 : Code := { maxStack := 4, maxLocals := 1, code := jdk_52_method_3_code, exceptionTable := #[], attributes := #[] }
def k8m2 : Method := { name := "newBytesLength", desc := "(I)I", sig := { parameters := [.int], returnType := some .int }, accessFlags := 9, code := some k8c2 }
def k8c3 : Code := { maxStack := 2, maxLocals := 2, code := jdk_52_method_15_code, exceptionTable := #[], attributes := #[] }
def k8m3 : Method := { name := "coderFromArrayLen", desc := "([BI)B", sig := { parameters := [(.array .byte), .int], returnType := some .byte }, accessFlags := 8, code := some k8c3 }
def k8c4 : Code := { maxStack := 5, maxLocals := 6, code := jdk_52_method_16_code, exceptionTable := #[], attributes := #[] }
def k8m4 : Method := { name := "compress", desc := "([CII)[B", sig := { parameters := [(.array .char), .int, .int], returnType := some (.array .byte) }, accessFlags := 9, code := some k8c4 }
def k8c5 : Code := { maxStack := 3, maxLocals := 7, code := jdk_52_method_21_code, exceptionTable := #[], attributes := #[] }
def k8m5 : Method := { name := "compress", desc := "([CI[BII)I", sig := { parameters := [(.array .char), .int, (.array .byte), .int, .int], returnType := some .int }, accessFlags := 9, code := some k8c5 }
/-- java/lang/StringUTF16 -/
def k8 : Class := { plain "java/lang/StringUTF16" (some 0) with
  accessFlags := 48
  interfaces := #[]
  cf := some (fileOf pool8 12 #[.nestMembers #[627, 629, 369]] #[{ accessFlags := 0, nameIndex := 9, descriptorIndex := 10, attributes := #[] }, { accessFlags := 9, nameIndex := 109, descriptorIndex := 110, attributes := #[] }, { accessFlags := 9, nameIndex := 15, descriptorIndex := 16, attributes := #[] }, { accessFlags := 8, nameIndex := 261, descriptorIndex := 262, attributes := #[] }, { accessFlags := 9, nameIndex := 117, descriptorIndex := 122, attributes := #[] }, { accessFlags := 9, nameIndex := 117, descriptorIndex := 118, attributes := #[] }] 48 6 #[] #[{ accessFlags := 26, nameIndex := 61, descriptorIndex := 62, attributes := #[] }, { accessFlags := 26, nameIndex := 65, descriptorIndex := 62, attributes := #[] }, { accessFlags := 24, nameIndex := 430, descriptorIndex := 62, attributes := #[] }, { accessFlags := 4120, nameIndex := 46, descriptorIndex := 47, attributes := #[] }])
  fields := #[{ name := "HI_BYTE_SHIFT", type := .int, accessFlags := 26, slot := 0, constantValue := 0 }, { name := "LO_BYTE_SHIFT", type := .int, accessFlags := 26, slot := 1, constantValue := 0 }, { name := "MAX_LENGTH", type := .int, accessFlags := 24, slot := 2, constantValue := 0 }, { name := "$assertionsDisabled", type := .boolean, accessFlags := 4120, slot := 3, constantValue := 0 }]
  methods := #[k8m0, k8m1, k8m2, k8m3, k8m4, k8m5]
  instanceTypes := #[]
  staticTypes := #[.int, .int, .int, .boolean]
  resolved := Array.replicate 635 none
  statics := none }

def pool9 : Array CpInfo := pool [(1, .methodref 2 3), (0, .class_ 4), (0, .nameAndType 5 6), (0, u "java/lang/Object"), (0, u "<init>"), (0, u "()V"), (0, .fieldref 8 9), (0, .class_ 10), (0, .nameAndType 11 12), (0, u "com/example/turnlock/turnlock/session/DigestCredentials"), (0, u "user"), (0, u "Ljava/lang/String;"), (0, .fieldref 8 14), (0, .nameAndType 15 12), (0, u "password"), (0, .string 11), (0, .methodref 18 19), (0, .class_ 20), (0, .nameAndType 21 22), (0, u "java/util/Objects"), (0, u "requireNonNull"), (0, u "(Ljava/lang/Object;Ljava/lang/String;)Ljava/lang/Object;"), (0, .string 15), (0, .methodref 25 26), (0, .class_ 27), (0, .nameAndType 28 29), (0, u "java/lang/String"), (0, u "isEmpty"), (0, u "()Z"), (7, .methodref 25 38), (0, .nameAndType 39 40), (0, u "indexOf"), (0, u "(I)I"), (2, .class_ 44), (0, u "java/lang/StringBuilder"), (0, .methodref 43 3), (2, .methodref 43 49), (0, .nameAndType 50 51), (0, u "append"), (0, u "(Ljava/lang/String;)Ljava/lang/StringBuilder;"), (2, .methodref 43 55), (0, .nameAndType 56 57), (0, u "toString"), (0, u "()Ljava/lang/String;"), (0, .methodref 8 59), (0, .nameAndType 5 60), (0, u "(Ljava/lang/String;Ljava/lang/String;)V"), (15, u "of"), (0, u "(Ljava/lang/String;Ljava/lang/String;)Lcom/example/turnlock/turnlock/session/DigestCredentials;"), (0, .string 79), (0, u ":"), (0, .fieldref 81 82), (0, .class_ 83), (0, .nameAndType 84 85), (0, u "java/nio/charset/StandardCharsets"), (0, u "UTF_8"), (0, u "Ljava/nio/charset/Charset;"), (0, .methodref 25 87), (0, .nameAndType 88 89), (0, u "getBytes"), (0, u "(Ljava/nio/charset/Charset;)[B"), (7, u "authData"), (0, u "()[B")] 2

def k9c0 : Code := { maxStack := 2, maxLocals := 3, code := prog_15_method_1_code, exceptionTable := #[], attributes := #[] }
def k9m0 : Method := { name := "<init>", desc := "(Ljava/lang/String;Ljava/lang/String;)V", sig := { parameters := [(.object "java/lang/String"), (.object "java/lang/String")], returnType := none }, accessFlags := 2, code := some k9c0 }
def k9c1 : Code := { maxStack := 4, maxLocals := 2, code := prog_15_method_2_code, exceptionTable := #[], attributes := #[] }
def k9m1 : Method := { name := "of", desc := "(Ljava/lang/String;Ljava/lang/String;)Lcom/example/turnlock/turnlock/session/DigestCredentials;", sig := { parameters := [(.object "java/lang/String"), (.object "java/lang/String")], returnType := some (.object "com/example/turnlock/turnlock/session/DigestCredentials") }, accessFlags := 9, code := some k9c1 }
def k9c2 : Code := { maxStack := 1, maxLocals := 1, code := prog_15_method_4_code, exceptionTable := #[], attributes := #[] }
def k9m2 : Method := { name := "user", desc := "()Ljava/lang/String;", sig := { parameters := [], returnType := some (.object "java/lang/String") }, accessFlags := 1, code := some k9c2 }
def k9c3 : Code := { maxStack := 2, maxLocals := 1, code := prog_15_method_5_code, exceptionTable := #[], attributes := #[] }
def k9m3 : Method := { name := "authData", desc := "()[B", sig := { parameters := [], returnType := some (.array .byte) }, accessFlags := 0, code := some k9c3 }
/-- com/example/turnlock/turnlock/session/DigestCredentials -/
def k9 : Class := { plain "com/example/turnlock/turnlock/session/DigestCredentials" (some 0) with
  accessFlags := 49
  interfaces := #[]
  cf := some (fileOf pool9 8 #[] #[{ accessFlags := 2, nameIndex := 5, descriptorIndex := 60, attributes := #[] }, { accessFlags := 9, nameIndex := 76, descriptorIndex := 77, attributes := #[] }, { accessFlags := 1, nameIndex := 11, descriptorIndex := 57, attributes := #[] }, { accessFlags := 0, nameIndex := 97, descriptorIndex := 98, attributes := #[] }] 49 2 #[] #[{ accessFlags := 18, nameIndex := 11, descriptorIndex := 12, attributes := #[] }, { accessFlags := 18, nameIndex := 15, descriptorIndex := 12, attributes := #[] }])
  fields := #[{ name := "user", type := (.object "java/lang/String"), accessFlags := 18, slot := 0, constantValue := 0 }, { name := "password", type := (.object "java/lang/String"), accessFlags := 18, slot := 1, constantValue := 0 }]
  methods := #[k9m0, k9m1, k9m2, k9m3]
  instanceTypes := #[(.object "java/lang/String"), (.object "java/lang/String")]
  staticTypes := #[]
  resolved := Array.replicate 101 none
  statics := none }

def pool10 : Array CpInfo := pool [(2, .class_ 4), (1, u "java/lang/Object"), (0, u "<init>"), (0, u "()V"), (35, .class_ 44), (1, u "java/util/Objects"), (0, u "requireNonNull"), (48, u "(Ljava/lang/Object;Ljava/lang/String;)Ljava/lang/Object;")] 89

def k10m0 : Method := { name := "<init>", desc := "()V", sig := { parameters := [], returnType := none }, accessFlags := 2, code := none }
def k10c1 : Code := { maxStack := 3, maxLocals := 2, code := jdk_31_method_11_code, exceptionTable := #[], attributes := #[] }
def k10m1 : Method := { name := "requireNonNull", desc := "(Ljava/lang/Object;Ljava/lang/String;)Ljava/lang/Object;", sig := { parameters := [(.object "java/lang/Object"), (.object "java/lang/String")], returnType := some (.object "java/lang/Object") }, accessFlags := 9, code := some k10c1 }
/-- java/util/Objects -/
def k10 : Class := { plain "java/util/Objects" (some 0) with
  accessFlags := 49
  interfaces := #[]
  cf := some (fileOf pool10 42 #[] #[{ accessFlags := 2, nameIndex := 5, descriptorIndex := 6, attributes := #[] }, { accessFlags := 9, nameIndex := 45, descriptorIndex := 94, attributes := #[] }] 49 2 #[] #[])
  fields := #[]
  methods := #[k10m0, k10m1]
  instanceTypes := #[]
  staticTypes := #[]
  resolved := Array.replicate 184 none
  statics := none }

def pool11 : Array CpInfo := pool [(4, .class_ 6), (1, u "java/lang/Object"), (0, u "<init>"), (0, u "()V"), (5, .class_ 16), (1, u "java/lang/StringLatin1"), (21, .methodref 39 40), (0, .class_ 41), (0, .nameAndType 42 43), (0, u "java/lang/Math"), (0, u "min"), (0, u "(II)I"), (44, .methodref 14 89), (0, .nameAndType 90 91), (0, u "canEncode"), (0, u "(I)Z"), (0, .methodref 39 93), (0, .nameAndType 94 43), (0, u "max"), (0, .methodref 14 96), (0, .nameAndType 97 98), (0, u "indexOfChar"), (0, u "([BIII)I"), (2, u "indexOf"), (19, u "$assertionsDisabled"), (0, u "Z"), (98, .class_ 223), (1, u "java/lang/StringLatin1$LinesSpliterator"), (166, .class_ 391), (0, u "java/lang/StringLatin1$CharsSpliterator")] 3

def k11m0 : Method := { name := "<init>", desc := "()V", sig := { parameters := [], returnType := none }, accessFlags := 0, code := none }
def k11c1 : Code := { maxStack := 2, maxLocals := 1, code := jdk_43_method_4_code, exceptionTable := #[], attributes := #[] }
def k11m1 : Method := { name := "canEncode", desc := "(I)Z", sig := { parameters := [.int], returnType := some .boolean }, accessFlags := 9, code := some k11c1 }
def k11c2 : Code := { maxStack := 4, maxLocals := 4, code := jdk_43_method_22_code, exceptionTable := #[], attributes := #[] }
def k11m2 : Method := { name := "indexOf", desc := "([BIII)I", sig := { parameters := [(.array .byte), .int, .int, .int], returnType := some .int }, accessFlags := 9, code := some k11c2 }
def k11c3 : Code := { maxStack := 2, maxLocals := 6, code := jdk_43_method_23_code, exceptionTable := #[], attributes := #[] }
def k11m3 : Method := { name := "indexOfChar", desc := "([BIII)I", sig := { parameters := [(.array .byte), .int, .int, .int], returnType := some .int }, accessFlags := 10, code := some k11c3 }
/-- java/lang/StringLatin1 -/
def k11 : Class := { plain "java/lang/StringLatin1" (some 0) with
  accessFlags := 48
  interfaces := #[]
  cf := some (fileOf pool11 14 #[.nestMembers #[390, 221]] #[{ accessFlags := 0, nameIndex := 7, descriptorIndex := 8, attributes := #[] }, { accessFlags := 9, nameIndex := 90, descriptorIndex := 91, attributes := #[] }, { accessFlags := 9, nameIndex := 101, descriptorIndex := 98, attributes := #[] }, { accessFlags := 10, nameIndex := 97, descriptorIndex := 98, attributes := #[] }] 48 4 #[] #[{ accessFlags := 4120, nameIndex := 121, descriptorIndex := 122, attributes := #[] }])
  fields := #[{ name := "$assertionsDisabled", type := .boolean, accessFlags := 4120, slot := 0, constantValue := 0 }]
  methods := #[k11m0, k11m1, k11m2, k11m3]
  instanceTypes := #[]
  staticTypes := #[.boolean]
  resolved := Array.replicate 395 none
  statics := none }

def pool12 : Array CpInfo := pool [(1, .class_ 2), (0, u "java/lang/Math"), (1, .class_ 6), (1, u "java/lang/Object"), (0, u "<init>"), (0, u "()V"), (89, .class_ 100), (1, u "java/lang/Math$RandomNumberGeneratorHolder"), (71, u "negativeZeroFloatBits"), (0, u "J"), (2, u "negativeZeroDoubleBits"), (21, u "max"), (2, u "min"), (43, u "$assertionsDisabled"), (0, u "Z"), (88, u "(II)I"), (2, u "twoToTheDoubleScaleDown"), (0, u "D"), (4, u "twoToTheDoubleScaleUp"), (9, u "E"), (3, u "PI"), (2, u "TAU"), (2, u "DEGREES_TO_RADIANS"), (0, u "RADIANS_TO_DEGREES")] 94

def k12m0 : Method := { name := "<init>", desc := "()V", sig := { parameters := [], returnType := none }, accessFlags := 2, code := none }
def k12c1 : Code := { maxStack := 2, maxLocals := 2, code := jdk_29_method_65_code, exceptionTable := #[], attributes := #[] }
def k12m1 : Method := { name := "max", desc := "(II)I", sig := { parameters := [.int, .int], returnType := some .int }, accessFlags := 9, code := some k12c1 }
def k12c2 : Code := { maxStack := 2, maxLocals := 2, code := jdk_29_method_69_code, exceptionTable := #[], attributes := #[] }
def k12m2 : Method := { name := "min", desc := "(II)I", sig := { parameters := [.int, .int], returnType := some .int }, accessFlags := 9, code := some k12c2 }
/-- java/lang/Math -/
def k12 : Class := { plain "java/lang/Math" (some 0) with
  accessFlags := 49
  interfaces := #[]
  cf := some (fileOf pool12 1 #[.nestMembers #[98]] #[{ accessFlags := 2, nameIndex := 7, descriptorIndex := 8, attributes := #[] }, { accessFlags := 9, nameIndex := 198, descriptorIndex := 335, attributes := #[] }, { accessFlags := 9, nameIndex := 201, descriptorIndex := 335, attributes := #[] }] 49 4 #[] #[{ accessFlags := 25, nameIndex := 354, descriptorIndex := 339, attributes := #[] }, { accessFlags := 25, nameIndex := 358, descriptorIndex := 339, attributes := #[] }, { accessFlags := 25, nameIndex := 361, descriptorIndex := 339, attributes := #[] }, { accessFlags := 26, nameIndex := 364, descriptorIndex := 339, attributes := #[] }, { accessFlags := 26, nameIndex := 365, descriptorIndex := 339, attributes := #[] }, { accessFlags := 26, nameIndex := 172, descriptorIndex := 173, attributes := #[] }, { accessFlags := 26, nameIndex := 176, descriptorIndex := 173, attributes := #[] }, { accessFlags := 8, nameIndex := 344, descriptorIndex := 339, attributes := #[] }, { accessFlags := 8, nameIndex := 338, descriptorIndex := 339, attributes := #[] }, { accessFlags := 4120, nameIndex := 245, descriptorIndex := 246, attributes := #[] }])
  fields := #[{ name := "E", type := .double, accessFlags := 25, slot := 0, constantValue := 0 }, { name := "PI", type := .double, accessFlags := 25, slot := 1, constantValue := 0 }, { name := "TAU", type := .double, accessFlags := 25, slot := 2, constantValue := 0 }, { name := "DEGREES_TO_RADIANS", type := .double, accessFlags := 26, slot := 3, constantValue := 0 }, { name := "RADIANS_TO_DEGREES", type := .double, accessFlags := 26, slot := 4, constantValue := 0 }, { name := "negativeZeroFloatBits", type := .long, accessFlags := 26, slot := 5, constantValue := 0 }, { name := "negativeZeroDoubleBits", type := .long, accessFlags := 26, slot := 6, constantValue := 0 }, { name := "twoToTheDoubleScaleUp", type := .double, accessFlags := 8, slot := 7, constantValue := 0 }, { name := "twoToTheDoubleScaleDown", type := .double, accessFlags := 8, slot := 8, constantValue := 0 }, { name := "$assertionsDisabled", type := .boolean, accessFlags := 4120, slot := 9, constantValue := 0 }]
  methods := #[k12m0, k12m1, k12m2]
  instanceTypes := #[]
  staticTypes := #[.double, .double, .double, .double, .double, .long, .long, .double, .double, .boolean]
  resolved := Array.replicate 460 none
  statics := none }

def pool13 : Array CpInfo := pool [(1, .class_ 2), (0, u "java/lang/Appendable"), (0, .class_ 4), (0, u "java/lang/Object")] 9

/-- java/lang/Appendable -/
def k13 : Class := { plain "java/lang/Appendable" (some 0) with
  accessFlags := 1537
  interfaces := #[]
  cf := some (fileOf pool13 1 #[] #[] 1537 3 #[] #[])
  fields := #[]
  methods := #[]
  instanceTypes := #[]
  staticTypes := #[]
  resolved := Array.replicate 14 none
  statics := none }

def pool14 : Array CpInfo := pool [(1, .class_ 2), (0, u "java/lang/String"), (0, .methodref 4 5), (0, .class_ 6), (0, .nameAndType 7 8), (0, u "java/lang/Object"), (0, u "<init>"), (0, u "()V"), (1, .class_ 12), (1, u "java/lang/AbstractStringBuilder"), (0, u "EMPTYVALUE"), (0, u "[B"), (0, .fieldref 10 16), (0, .nameAndType 17 14), (0, u "value"), (0, .fieldref 1 19), (0, .nameAndType 20 21), (0, u "COMPACT_STRINGS"), (0, u "Z"), (0, .fieldref 10 23), (0, .nameAndType 24 25), (0, u "coder"), (0, u "B"), (6, .methodref 1 33), (0, .nameAndType 34 35), (0, u "length"), (0, u "()I"), (4, .methodref 1 41), (0, .nameAndType 24 42), (0, u "()B"), (2, u "append"), (0, u "(Ljava/lang/String;)Ljava/lang/AbstractStringBuilder;"), (1, .class_ 49), (0, u "java/lang/CharSequence"), (19, u "(Ljava/lang/String;)V"), (5, u "maybeLatin1"), (3, .fieldref 10 80), (0, .nameAndType 81 82), (0, u "count"), (0, u "I"), (2, u "isLatin1"), (0, u "()Z"), (13, .methodref 10 101), (0, .nameAndType 102 103), (0, u "ensureCapacityInternal"), (0, u "(I)V"), (104, .methodref 10 209), (0, .nameAndType 210 211), (0, u "putStringAt"), (0, u "(ILjava/lang/String;)V"), (5, u "inflateIfNeededFor"), (2, .nameAndType 221 222), (0, u "getBytes"), (0, u "([BIB)V"), (174, .methodref 10 398), (0, .nameAndType 217 69), (0, .methodref 1 220), (3, u "()[B"), (40, .class_ 445), (0, u "java/lang/Appendable"), (106, u "getValue")] 56

def k14m0 : Method := { name := "<init>", desc := "()V", sig := { parameters := [], returnType := none }, accessFlags := 0, code := none }
def k14c1 : Code := { maxStack := 2, maxLocals := 2, code := jdk_68_method_2_code, exceptionTable := #[], attributes := #[] }
def k14m1 : Method := { name := "<init>", desc := "(I)V", sig := { parameters := [.int], returnType := none }, accessFlags := 0, code := some k14c1 }
def k14c2 : Code := { maxStack := 1, maxLocals := 1, code := jdk_68_method_6_code, exceptionTable := #[], attributes := #[] }
def k14m2 : Method := { name := "length", desc := "()I", sig := { parameters := [], returnType := some .int }, accessFlags := 1, code := some k14c2 }
def k14c3 : Code := { maxStack := 4, maxLocals := 3, code := jdk_68_method_9_code, exceptionTable := #[], attributes := #[] }
def k14m3 : Method := { name := "ensureCapacityInternal", desc := "(I)V", sig := { parameters := [.int], returnType := none }, accessFlags := 2, code := some k14c3 }
def k14c4 : Code := { maxStack := 3, maxLocals := 3, code := jdk_68_method_22_code, exceptionTable := #[], attributes := #[] }
def k14m4 : Method := { name := "append", desc := "(Ljava/lang/String;)Ljava/lang/AbstractStringBuilder;", sig := { parameters := [(.object "java/lang/String")], returnType := some (.object "java/lang/AbstractStringBuilder") }, accessFlags := 1, code := some k14c4 }
def k14c5 : Code := { maxStack := 1, maxLocals := 1, code := jdk_68_method_64_code, exceptionTable := #[], attributes := #[] }
def k14m5 : Method := { name := "getValue", desc := "()[B", sig := { parameters := [], returnType := some (.array .byte) }, accessFlags := 16, code := some k14c5 }
def k14c6 : Code := { maxStack := 1, maxLocals := 1, code := jdk_68_method_68_code, exceptionTable := #[], attributes := #[] }
def k14m6 : Method := { name := "isLatin1", desc := "()Z", sig := { parameters := [], returnType := some .boolean }, accessFlags := 16, code := some k14c6 }
def k14c7 : Code := { maxStack := 2, maxLocals := 2, code := jdk_68_method_71_code, exceptionTable := #[], attributes := #[] }
def k14m7 : Method := { name := "inflateIfNeededFor", desc := "(Ljava/lang/String;)V", sig := { parameters := [(.object "java/lang/String")], returnType := none }, accessFlags := 2, code := some k14c7 }
def k14c8 : Code := { maxStack := 4, maxLocals := 3, code := jdk_68_method_73_code, exceptionTable := #[], attributes := #[] }
def k14m8 : Method := { name := "putStringAt", desc := "(ILjava/lang/String;)V", sig := { parameters := [.int, (.object "java/lang/String")], returnType := none }, accessFlags := 2, code := some k14c8 }
/-- java/lang/AbstractStringBuilder -/
def k14 : Class := { plain "java/lang/AbstractStringBuilder" (some 0) with
  accessFlags := 1056
  interfaces := #[13, 4]
  cf := some (fileOf pool14 10 #[] #[{ accessFlags := 0, nameIndex := 7, descriptorIndex := 8, attributes := #[] }, { accessFlags := 0, nameIndex := 7, descriptorIndex := 103, attributes := #[] }, { accessFlags := 1, nameIndex := 34, descriptorIndex := 35, attributes := #[] }, { accessFlags := 2, nameIndex := 102, descriptorIndex := 103, attributes := #[] }, { accessFlags := 1, nameIndex := 45, descriptorIndex := 46, attributes := #[] }, { accessFlags := 16, nameIndex := 552, descriptorIndex := 403, attributes := #[] }, { accessFlags := 16, nameIndex := 85, descriptorIndex := 86, attributes := #[] }, { accessFlags := 2, nameIndex := 217, descriptorIndex := 69, attributes := #[] }, { accessFlags := 2, nameIndex := 210, descriptorIndex := 211, attributes := #[] }] 1056 4 #[444, 48] #[{ accessFlags := 0, nameIndex := 17, descriptorIndex := 14, attributes := #[] }, { accessFlags := 0, nameIndex := 24, descriptorIndex := 25, attributes := #[] }, { accessFlags := 0, nameIndex := 75, descriptorIndex := 21, attributes := #[] }, { accessFlags := 0, nameIndex := 81, descriptorIndex := 82, attributes := #[] }, { accessFlags := 26, nameIndex := 13, descriptorIndex := 14, attributes := #[] }])
  fields := #[{ name := "value", type := (.array .byte), accessFlags := 0, slot := 0, constantValue := 0 }, { name := "coder", type := .byte, accessFlags := 0, slot := 1, constantValue := 0 }, { name := "maybeLatin1", type := .boolean, accessFlags := 0, slot := 2, constantValue := 0 }, { name := "count", type := .int, accessFlags := 0, slot := 3, constantValue := 0 }, { name := "EMPTYVALUE", type := (.array .byte), accessFlags := 26, slot := 0, constantValue := 0 }]
  methods := #[k14m0, k14m1, k14m2, k14m3, k14m4, k14m5, k14m6, k14m7, k14m8]
  instanceTypes := #[(.array .byte), .byte, .boolean, .int]
  staticTypes := #[(.array .byte)]
  resolved := Array.replicate 609 none
  statics := none }

def pool15 : Array CpInfo := pool [(1, .methodref 2 3), (0, .class_ 4), (0, .nameAndType 5 6), (0, u "java/lang/AbstractStringBuilder"), (0, u "<init>"), (0, u "(I)V"), (11, .class_ 20), (1, u "java/lang/String"), (3, .class_ 26), (1, u "java/lang/StringBuilder"), (0, u "append"), (0, u "(Ljava/lang/String;)Ljava/lang/StringBuilder;"), (0, .methodref 2 30), (0, .nameAndType 27 31), (0, u "(Ljava/lang/String;)Ljava/lang/AbstractStringBuilder;"), (105, .methodref 18 138), (0, .nameAndType 5 139), (0, u "(Ljava/lang/StringBuilder;)V"), (5, u "()V"), (10, u "()I"), (186, .methodref 2 344), (0, .nameAndType 345 156), (0, u "length"), (3, .class_ 350), (0, u "java/lang/Appendable"), (0, .class_ 352), (0, u "java/io/Serializable"), (0, .class_ 354), (0, u "java/lang/Comparable"), (0, .class_ 356), (0, u "java/lang/CharSequence"), (0, u "serialVersionUID"), (0, u "J"), (40, u "toString"), (0, u "()Ljava/lang/String;")] 21

def k15c0 : Code := { maxStack := 2, maxLocals := 1, code := jdk_67_method_1_code, exceptionTable := #[], attributes := #[] }
def k15m0 : Method := { name := "<init>", desc := "()V", sig := { parameters := [], returnType := none }, accessFlags := 1, code := some k15c0 }
def k15c1 : Code := { maxStack := 2, maxLocals := 2, code := jdk_67_method_7_code, exceptionTable := #[], attributes := #[] }
def k15m1 : Method := { name := "append", desc := "(Ljava/lang/String;)Ljava/lang/StringBuilder;", sig := { parameters := [(.object "java/lang/String")], returnType := some (.object "java/lang/StringBuilder") }, accessFlags := 1, code := some k15c1 }
def k15c2 : Code := { maxStack := 3, maxLocals := 1, code := jdk_67_method_42_code, exceptionTable := #[], attributes := #[] }
def k15m2 : Method := { name := "toString", desc := "()Ljava/lang/String;", sig := { parameters := [], returnType := some (.object "java/lang/String") }, accessFlags := 1, code := some k15c2 }
def k15c3 : Code := { maxStack := 1, maxLocals := 1, code := jdk_67_method_93_code, exceptionTable := #[], attributes := #[] }
def k15m3 : Method := { name := "length", desc := "()I", sig := { parameters := [], returnType := some .int }, accessFlags := 4161, code := some k15c3 }
/-- java/lang/StringBuilder -/
def k15 : Class := { plain "java/lang/StringBuilder" (some 14) with
  accessFlags := 49
  interfaces := #[13, 2, 3, 4]
  cf := some (fileOf pool15 24 #[] #[{ accessFlags := 1, nameIndex := 5, descriptorIndex := 145, attributes := #[] }, { accessFlags := 1, nameIndex := 27, descriptorIndex := 28, attributes := #[] }, { accessFlags := 1, nameIndex := 399, descriptorIndex := 400, attributes := #[] }, { accessFlags := 4161, nameIndex := 345, descriptorIndex := 156, attributes := #[] }] 49 2 #[349, 351, 353, 355] #[{ accessFlags := 24, nameIndex := 357, descriptorIndex := 358, attributes := #[] }])
  fields := #[{ name := "serialVersionUID", type := .long, accessFlags := 24, slot := 0, constantValue := 0 }]
  methods := #[k15m0, k15m1, k15m2, k15m3]
  instanceTypes := #[(.array .byte), .byte, .boolean, .int]
  staticTypes := #[.long]
  resolved := Array.replicate 422 none
  statics := none }

def pool16 : Array CpInfo := pool [(2, .class_ 4), (1, u "java/lang/Object"), (0, u "<init>"), (0, u "()V"), (1, .class_ 10), (1, u "java/lang/System"), (0, u "allowSecurityManager"), (0, u "I"), (16, u "cons"), (0, u "Ljava/io/Console;"), (77, .class_ 110), (1, u "java/lang/System$CallersHolder"), (43, u "initialErrStream"), (0, u "Ljava/io/PrintStream;"), (19, u "security"), (0, u "Ljava/lang/SecurityManager;"), (31, .class_ 209), (0, u "java/lang/System$1"), (7, u "props"), (0, u "Ljava/util/Properties;"), (2, u "lineSeparator"), (0, u "Ljava/lang/String;"), (96, .class_ 321), (1, u "java/lang/System$LoggerFinder"), (5, .class_ 328), (0, u "java/lang/System$Logger"), (67, u "err"), (2, u "out"), (91, u "notSupportedJnuEncoding"), (15, u "in"), (17, u "initialIn"), (0, u "Ljava/io/InputStream;"), (35, u "bootLayer"), (0, u "Ljava/lang/ModuleLayer;"), (99, .class_ 664), (0, u "java/lang/System$2"), (9, u "NEVER"), (2, u "MAYBE"), (49, u "arraycopy"), (0, u "(Ljava/lang/Object;ILjava/lang/Object;II)V"), (72, .class_ 802), (0, u "java/lang/System$Logger$Level")] 31

def k16m0 : Method := { name := "<init>", desc := "()V", sig := { parameters := [], returnType := none }, accessFlags := 2, code := none }
def k16m1 : Method := { name := "arraycopy", desc := "(Ljava/lang/Object;ILjava/lang/Object;II)V", sig := { parameters := [(.object "java/lang/Object"), .int, (.object "java/lang/Object"), .int, .int], returnType := none }, accessFlags := 265, code := none }
/-- java/lang/System -/
def k16 : Class := { plain "java/lang/System" (some 0) with
  accessFlags := 49
  interfaces := #[]
  cf := some (fileOf pool16 8 #[.nestMembers #[319, 327, 801, 108, 663, 208]] #[{ accessFlags := 2, nameIndex := 5, descriptorIndex := 6, attributes := #[] }, { accessFlags := 265, nameIndex := 727, descriptorIndex := 728, attributes := #[] }] 49 2 #[] #[{ accessFlags := 25, nameIndex := 507, descriptorIndex := 526, attributes := #[] }, { accessFlags := 25, nameIndex := 399, descriptorIndex := 155, attributes := #[] }, { accessFlags := 25, nameIndex := 396, descriptorIndex := 155, attributes := #[] }, { accessFlags := 10, nameIndex := 525, descriptorIndex := 526, attributes := #[] }, { accessFlags := 26, nameIndex := 674, descriptorIndex := 12, attributes := #[] }, { accessFlags := 26, nameIndex := 677, descriptorIndex := 12, attributes := #[] }, { accessFlags := 10, nameIndex := 11, descriptorIndex := 12, attributes := #[] }, { accessFlags := 74, nameIndex := 175, descriptorIndex := 176, attributes := #[] }, { accessFlags := 10, nameIndex := 491, descriptorIndex := 222, attributes := #[] }, { accessFlags := 74, nameIndex := 29, descriptorIndex := 30, attributes := #[] }, { accessFlags := 74, nameIndex := 154, descriptorIndex := 155, attributes := #[] }, { accessFlags := 10, nameIndex := 217, descriptorIndex := 218, attributes := #[] }, { accessFlags := 10, nameIndex := 221, descriptorIndex := 222, attributes := #[] }, { accessFlags := 8, nameIndex := 562, descriptorIndex := 563, attributes := #[] }])
  fields := #[{ name := "in", type := (.object "java/io/InputStream"), accessFlags := 25, slot := 0, constantValue := 0 }, { name := "out", type := (.object "java/io/PrintStream"), accessFlags := 25, slot := 1, constantValue := 0 }, { name := "err", type := (.object "java/io/PrintStream"), accessFlags := 25, slot := 2, constantValue := 0 }, { name := "initialIn", type := (.object "java/io/InputStream"), accessFlags := 10, slot := 3, constantValue := 0 }, { name := "NEVER", type := .int, accessFlags := 26, slot := 4, constantValue := 0 }, { name := "MAYBE", type := .int, accessFlags := 26, slot := 5, constantValue := 0 }, { name := "allowSecurityManager", type := .int, accessFlags := 10, slot := 6, constantValue := 0 }, { name := "security", type := (.object "java/lang/SecurityManager"), accessFlags := 74, slot := 7, constantValue := 0 }, { name := "notSupportedJnuEncoding", type := (.object "java/lang/String"), accessFlags := 10, slot := 8, constantValue := 0 }, { name := "cons", type := (.object "java/io/Console"), accessFlags := 74, slot := 9, constantValue := 0 }, { name := "initialErrStream", type := (.object "java/io/PrintStream"), accessFlags := 74, slot := 10, constantValue := 0 }, { name := "props", type := (.object "java/util/Properties"), accessFlags := 10, slot := 11, constantValue := 0 }, { name := "lineSeparator", type := (.object "java/lang/String"), accessFlags := 10, slot := 12, constantValue := 0 }, { name := "bootLayer", type := (.object "java/lang/ModuleLayer"), accessFlags := 8, slot := 13, constantValue := 0 }]
  methods := #[k16m0, k16m1]
  instanceTypes := #[]
  staticTypes := #[(.object "java/io/InputStream"), (.object "java/io/PrintStream"), (.object "java/io/PrintStream"), (.object "java/io/InputStream"), .int, .int, .int, (.object "java/lang/SecurityManager"), (.object "java/lang/String"), (.object "java/io/Console"), (.object "java/io/PrintStream"), (.object "java/util/Properties"), (.object "java/lang/String"), (.object "java/lang/ModuleLayer")]
  resolved := Array.replicate 834 none
  statics := none }

def pool17 : Array CpInfo := pool [(2, .class_ 4), (1, u "java/lang/Object"), (0, u "<init>"), (0, u "()V"), (7, .class_ 16), (1, u "java/util/Arrays"), (57, .class_ 76), (1, u "java/util/Arrays$NaturalOrder"), (36, .class_ 115), (1, u "java/util/Arrays$LegacyMergeSort"), (1, u "Z"), (21, u "copyOfRange"), (10, .methodref 151 152), (0, .class_ 153), (0, .nameAndType 154 155), (0, u "java/lang/System"), (0, u "arraycopy"), (0, u "(Ljava/lang/Object;ILjava/lang/Object;II)V"), (146, u "copyOf"), (1, .methodref 305 306), (0, .class_ 307), (0, .nameAndType 308 309), (0, u "java/lang/Math"), (0, u "min"), (0, u "(II)I"), (29, .methodref 14 340), (0, .nameAndType 341 342), (0, u "copyOfRangeByte"), (0, u "([BII)[B"), (0, .methodref 14 344), (0, .nameAndType 345 346), (0, u "checkLength"), (0, u "(II)V"), (28, .class_ 376), (0, u "java/util/Arrays$ArrayList"), (68, u "$assertionsDisabled"), (269, u "MIN_ARRAY_SORT_GRAN"), (0, u "I"), (2, u "INSERTIONSORT_THRESHOLD"), (149, u "([BI)[B"), (105, .class_ 976), (0, u "java/util/Arrays$ArrayItr")] 52

def k17m0 : Method := { name := "<init>", desc := "()V", sig := { parameters := [], returnType := none }, accessFlags := 2, code := none }
def k17c1 : Code := { maxStack := 6, maxLocals := 3, code := jdk_65_method_121_code, exceptionTable := #[], attributes := #[] }
def k17m1 : Method := { name := "copyOf", desc := "([BI)[B", sig := { parameters := [(.array .byte), .int], returnType := some (.array .byte) }, accessFlags := 9, code := some k17c1 }
def k17c2 : Code := { maxStack := 4, maxLocals := 2, code := jdk_65_method_131_code, exceptionTable := #[], attributes := #[] }
def k17m2 : Method := { name := "checkLength", desc := "(II)V", sig := { parameters := [.int, .int], returnType := none }, accessFlags := 10, code := some k17c2 }
def k17c3 : Code := { maxStack := 3, maxLocals := 3, code := jdk_65_method_132_code, exceptionTable := #[], attributes := #[] }
def k17m3 : Method := { name := "copyOfRange", desc := "([BII)[B", sig := { parameters := [(.array .byte), .int, .int], returnType := some (.array .byte) }, accessFlags := 9, code := some k17c3 }
def k17c4 : Code := { maxStack := 6, maxLocals := 5, code := jdk_65_method_133_code, exceptionTable := #[], attributes := #[] }
def k17m4 : Method := { name := "copyOfRangeByte", desc := "([BII)[B", sig := { parameters := [(.array .byte), .int, .int], returnType := some (.array .byte) }, accessFlags := 10, code := some k17c4 }
/-- java/util/Arrays -/
def k17 : Class := { plain "java/util/Arrays" (some 0) with
  accessFlags := 49
  interfaces := #[]
  cf := some (fileOf pool17 14 #[.nestMembers #[975, 375, 113, 74]] #[{ accessFlags := 2, nameIndex := 5, descriptorIndex := 6, attributes := #[] }, { accessFlags := 9, nameIndex := 302, descriptorIndex := 869, attributes := #[] }, { accessFlags := 10, nameIndex := 345, descriptorIndex := 346, attributes := #[] }, { accessFlags := 9, nameIndex := 139, descriptorIndex := 342, attributes := #[] }, { accessFlags := 10, nameIndex := 341, descriptorIndex := 342, attributes := #[] }] 49 2 #[] #[{ accessFlags := 26, nameIndex := 715, descriptorIndex := 716, attributes := #[] }, { accessFlags := 26, nameIndex := 719, descriptorIndex := 716, attributes := #[] }, { accessFlags := 4120, nameIndex := 445, descriptorIndex := 117, attributes := #[] }])
  fields := #[{ name := "MIN_ARRAY_SORT_GRAN", type := .int, accessFlags := 26, slot := 0, constantValue := 0 }, { name := "INSERTIONSORT_THRESHOLD", type := .int, accessFlags := 26, slot := 1, constantValue := 0 }, { name := "$assertionsDisabled", type := .boolean, accessFlags := 4120, slot := 2, constantValue := 0 }]
  methods := #[k17m0, k17m1, k17m2, k17m3, k17m4]
  instanceTypes := #[]
  staticTypes := #[.int, .int, .boolean]
  resolved := Array.replicate 1029 none
  statics := none }

def pool18 : Array CpInfo := pool [(2, .class_ 4), (1, u "java/lang/Object"), (0, u "<init>"), (0, u "()V"), (14, .class_ 23), (1, u "java/nio/charset/StandardCharsets"), (0, u "US_ASCII"), (0, u "Ljava/nio/charset/Charset;"), (7, u "ISO_8859_1"), (7, u "UTF_8"), (5, u "UTF_16BE"), (5, u "UTF_16LE"), (5, u "UTF_16")] 8

def k18m0 : Method := { name := "<init>", desc := "()V", sig := { parameters := [], returnType := none }, accessFlags := 2, code := none }
/-- java/nio/charset/StandardCharsets -/
def k18 : Class := { plain "java/nio/charset/StandardCharsets" (some 0) with
  accessFlags := 49
  interfaces := #[]
  cf := some (fileOf pool18 21 #[] #[{ accessFlags := 2, nameIndex := 5, descriptorIndex := 6, attributes := #[] }] 49 2 #[] #[{ accessFlags := 25, nameIndex := 24, descriptorIndex := 25, attributes := #[] }, { accessFlags := 25, nameIndex := 33, descriptorIndex := 25, attributes := #[] }, { accessFlags := 25, nameIndex := 41, descriptorIndex := 25, attributes := #[] }, { accessFlags := 25, nameIndex := 47, descriptorIndex := 25, attributes := #[] }, { accessFlags := 25, nameIndex := 53, descriptorIndex := 25, attributes := #[] }, { accessFlags := 25, nameIndex := 59, descriptorIndex := 25, attributes := #[] }])
  fields := #[{ name := "US_ASCII", type := (.object "java/nio/charset/Charset"), accessFlags := 25, slot := 0, constantValue := 0 }, { name := "ISO_8859_1", type := (.object "java/nio/charset/Charset"), accessFlags := 25, slot := 1, constantValue := 0 }, { name := "UTF_8", type := (.object "java/nio/charset/Charset"), accessFlags := 25, slot := 2, constantValue := 0 }, { name := "UTF_16BE", type := (.object "java/nio/charset/Charset"), accessFlags := 25, slot := 3, constantValue := 0 }, { name := "UTF_16LE", type := (.object "java/nio/charset/Charset"), accessFlags := 25, slot := 4, constantValue := 0 }, { name := "UTF_16", type := (.object "java/nio/charset/Charset"), accessFlags := 25, slot := 5, constantValue := 0 }]
  methods := #[k18m0]
  instanceTypes := #[]
  staticTypes := #[(.object "java/nio/charset/Charset"), (.object "java/nio/charset/Charset"), (.object "java/nio/charset/Charset"), (.object "java/nio/charset/Charset"), (.object "java/nio/charset/Charset"), (.object "java/nio/charset/Charset")]
  resolved := Array.replicate 68 none
  statics := some 1 }

def pool19 : Array CpInfo := pool [(18, .class_ 20), (1, u "java/nio/charset/Charset"), (0, u "cache1"), (0, u "[Ljava/lang/Object;"), (2, u "cache2"), (0, .class_ 27), (0, u "java/lang/Object"), (0, .class_ 29), (0, u "java/nio/charset/Charset$1"), (4, .class_ 36), (1, u "java/nio/charset/Charset$ThreadTrackHolder"), (21, .class_ 59), (0, u "java/nio/charset/Charset$2"), (11, .class_ 73), (1, u "java/nio/charset/Charset$ExtendedProviderHolder"), (22, u "standardProvider"), (0, u "Ljava/nio/charset/spi/CharsetProvider;"), (29, u "name"), (7, .class_ 136), (0, u "java/nio/charset/Charset$3"), (5, u "defaultCharset"), (0, u "Ljava/nio/charset/Charset;"), (14, u "zeroAliases"), (0, u "[Ljava/lang/String;"), (29, u "Ljava/lang/String;"), (2, u "aliases"), (2, u "aliasSet"), (0, u "Ljava/util/Set;"), (82, .class_ 280), (0, u "java/lang/Comparable"), (84, .class_ 366), (0, u "java/nio/charset/Charset$ExtendedProviderHolder$1")] 3

/-- java/nio/charset/Charset -/
def k19 : Class := { plain "java/nio/charset/Charset" (some 0) with
  accessFlags := 1057
  interfaces := #[3]
  cf := some (fileOf pool19 18 #[.nestMembers #[71, 365, 34, 135, 58, 28]] #[] 1057 26 #[279] #[{ accessFlags := 26, nameIndex := 96, descriptorIndex := 97, attributes := #[] }, { accessFlags := 26, nameIndex := 158, descriptorIndex := 159, attributes := #[] }, { accessFlags := 74, nameIndex := 21, descriptorIndex := 22, attributes := #[] }, { accessFlags := 74, nameIndex := 25, descriptorIndex := 22, attributes := #[] }, { accessFlags := 10, nameIndex := 142, descriptorIndex := 143, attributes := #[] }, { accessFlags := 18, nameIndex := 127, descriptorIndex := 189, attributes := #[] }, { accessFlags := 18, nameIndex := 192, descriptorIndex := 159, attributes := #[] }, { accessFlags := 2, nameIndex := 195, descriptorIndex := 196, attributes := #[] }])
  fields := #[{ name := "standardProvider", type := (.object "java/nio/charset/spi/CharsetProvider"), accessFlags := 26, slot := 0, constantValue := 0 }, { name := "zeroAliases", type := (.array (.object "java/lang/String")), accessFlags := 26, slot := 1, constantValue := 0 }, { name := "cache1", type := (.array (.object "java/lang/Object")), accessFlags := 74, slot := 2, constantValue := 0 }, { name := "cache2", type := (.array (.object "java/lang/Object")), accessFlags := 74, slot := 3, constantValue := 0 }, { name := "defaultCharset", type := (.object "java/nio/charset/Charset"), accessFlags := 10, slot := 4, constantValue := 0 }, { name := "name", type := (.object "java/lang/String"), accessFlags := 18, slot := 0, constantValue := 0 }, { name := "aliases", type := (.array (.object "java/lang/String")), accessFlags := 18, slot := 1, constantValue := 0 }, { name := "aliasSet", type := (.object "java/util/Set"), accessFlags := 2, slot := 2, constantValue := 0 }]
  methods := #[]
  instanceTypes := #[(.object "java/lang/String"), (.array (.object "java/lang/String")), (.object "java/util/Set")]
  staticTypes := #[(.object "java/nio/charset/spi/CharsetProvider"), (.array (.object "java/lang/String")), (.array (.object "java/lang/Object")), (.array (.object "java/lang/Object")), (.object "java/nio/charset/Charset")]
  resolved := Array.replicate 370 none
  statics := none }

def pool20 : Array CpInfo := pool [(1, .class_ 2), (0, u "sun/nio/cs/HistoricallyNamedCharset"), (0, .class_ 4), (0, u "java/lang/Object")] 4

/-- sun/nio/cs/HistoricallyNamedCharset -/
def k20 : Class := { plain "sun/nio/cs/HistoricallyNamedCharset" (some 0) with
  accessFlags := 1537
  interfaces := #[]
  cf := some (fileOf pool20 1 #[] #[] 1537 3 #[] #[])
  fields := #[]
  methods := #[]
  instanceTypes := #[]
  staticTypes := #[]
  resolved := Array.replicate 9 none
  statics := none }

def pool21 : Array CpInfo := pool [(2, .class_ 4), (1, u "java/nio/charset/Charset"), (130, .class_ 136), (0, u "sun/nio/cs/Unicode"), (0, .class_ 138), (0, u "sun/nio/cs/HistoricallyNamedCharset")] 15

/-- sun/nio/cs/Unicode -/
def k21 : Class := { plain "sun/nio/cs/Unicode" (some 19) with
  accessFlags := 1056
  interfaces := #[20]
  cf := some (fileOf pool21 135 #[] #[] 1056 2 #[137] #[])
  fields := #[]
  methods := #[]
  instanceTypes := #[(.object "java/lang/String"), (.array (.object "java/lang/String")), (.object "java/util/Set")]
  staticTypes := #[]
  resolved := Array.replicate 154 none
  statics := none }

def pool22 : Array CpInfo := pool [(10, .class_ 12), (1, u "sun/nio/cs/Unicode"), (0, u "<init>"), (3, .class_ 18), (0, u "sun/nio/cs/UTF_8$Decoder"), (3, .class_ 23), (0, u "sun/nio/cs/UTF_8$Encoder"), (15, .class_ 40), (0, u "sun/nio/cs/UTF_8"), (2, u "()V"), (2, u "INSTANCE"), (0, u "Lsun/nio/cs/UTF_8;"), (8, u "JLA"), (0, u "Ljdk/internal/access/JavaLangAccess;")] 26

def k22m0 : Method := { name := "<init>", desc := "()V", sig := { parameters := [], returnType := none }, accessFlags := 1, code := none }
/-- sun/nio/cs/UTF_8 -/
def k22 : Class := { plain "sun/nio/cs/UTF_8" (some 21) with
  accessFlags := 49
  interfaces := #[]
  cf := some (fileOf pool22 39 #[.nestMembers #[22, 17]] #[{ accessFlags := 1, nameIndex := 13, descriptorIndex := 43, attributes := #[] }] 49 10 #[] #[{ accessFlags := 25, nameIndex := 46, descriptorIndex := 47, attributes := #[] }, { accessFlags := 26, nameIndex := 56, descriptorIndex := 57, attributes := #[] }])
  fields := #[{ name := "INSTANCE", type := (.object "sun/nio/cs/UTF_8"), accessFlags := 25, slot := 0, constantValue := 0 }, { name := "JLA", type := (.object "jdk/internal/access/JavaLangAccess"), accessFlags := 26, slot := 1, constantValue := 0 }]
  methods := #[k22m0]
  instanceTypes := #[(.object "java/lang/String"), (.array (.object "java/lang/String")), (.object "java/util/Set")]
  staticTypes := #[(.object "sun/nio/cs/UTF_8"), (.object "jdk/internal/access/JavaLangAccess")]
  resolved := Array.replicate 84 none
  statics := some 2 }

def pool23 : Array CpInfo := pool [(2, .class_ 4), (1, u "java/lang/Object"), (0, u "<init>"), (0, u "()V"), (0, .methodref 8 9), (0, .class_ 10), (0, .nameAndType 11 12), (0, u "java/lang/StringCoding"), (0, u "countPositives"), (0, u "([BII)I"), (11, u "hasNegatives"), (0, u "([BII)Z")] 23

def k23m0 : Method := { name := "<init>", desc := "()V", sig := { parameters := [], returnType := none }, accessFlags := 2, code := none }
def k23c1 : Code := { maxStack := 3, maxLocals := 3, code := jdk_123_method_2_code, exceptionTable := #[], attributes := #[] }
def k23m1 : Method := { name := "hasNegatives", desc := "([BII)Z", sig := { parameters := [(.array .byte), .int, .int], returnType := some .boolean }, accessFlags := 9, code := some k23c1 }
def k23c2 : Code := { maxStack := 2, maxLocals := 5, code := jdk_123_method_3_code, exceptionTable := #[], attributes := #[] }
def k23m2 : Method := { name := "countPositives", desc := "([BII)I", sig := { parameters := [(.array .byte), .int, .int], returnType := some .int }, accessFlags := 9, code := some k23c2 }
/-- java/lang/StringCoding -/
def k23 : Class := { plain "java/lang/StringCoding" (some 0) with
  accessFlags := 32
  interfaces := #[]
  cf := some (fileOf pool23 8 #[] #[{ accessFlags := 2, nameIndex := 5, descriptorIndex := 6, attributes := #[] }, { accessFlags := 9, nameIndex := 24, descriptorIndex := 25, attributes := #[] }, { accessFlags := 9, nameIndex := 11, descriptorIndex := 12, attributes := #[] }] 32 2 #[] #[])
  fields := #[]
  methods := #[k23m0, k23m1, k23m2]
  instanceTypes := #[]
  staticTypes := #[]
  resolved := Array.replicate 49 none
  statics := none }

def pool24 : Array CpInfo := pool [(1, .class_ 2), (0, u "java/lang/Cloneable"), (0, .class_ 4), (0, u "java/lang/Object")] 2

/-- java/lang/Cloneable -/
def k24 : Class := { plain "java/lang/Cloneable" (some 0) with
  accessFlags := 1537
  interfaces := #[]
  cf := some (fileOf pool24 1 #[] #[] 1537 3 #[] #[])
  fields := #[]
  methods := #[]
  instanceTypes := #[]
  staticTypes := #[]
  resolved := Array.replicate 7 none
  statics := none }

def pool25 : Array CpInfo := pool [(2, .class_ 4), (1, u "java/lang/Object"), (0, u "<init>"), (0, u "()V"), (17, .class_ 26), (1, u "jdk/internal/util/Preconditions"), (28, .class_ 56), (0, u "jdk/internal/util/Preconditions$4"), (57, .class_ 115), (0, u "jdk/internal/util/Preconditions$1"), (7, u "SIOOBE_FORMATTER"), (0, u "Ljava/util/function/BiFunction;"), (0, .class_ 126), (0, u "jdk/internal/util/Preconditions$2"), (3, u "AIOOBE_FORMATTER"), (0, .class_ 132), (0, u "jdk/internal/util/Preconditions$3"), (3, u "IOOBE_FORMATTER")] 57

def k25m0 : Method := { name := "<init>", desc := "()V", sig := { parameters := [], returnType := none }, accessFlags := 1, code := none }
/-- jdk/internal/util/Preconditions -/
def k25 : Class := { plain "jdk/internal/util/Preconditions" (some 0) with
  accessFlags := 33
  interfaces := #[]
  cf := some (fileOf pool25 24 #[.nestMembers #[55, 131, 125, 114]] #[{ accessFlags := 1, nameIndex := 5, descriptorIndex := 6, attributes := #[] }] 33 2 #[] #[{ accessFlags := 25, nameIndex := 123, descriptorIndex := 124, attributes := #[] }, { accessFlags := 25, nameIndex := 130, descriptorIndex := 124, attributes := #[] }, { accessFlags := 25, nameIndex := 136, descriptorIndex := 124, attributes := #[] }])
  fields := #[{ name := "SIOOBE_FORMATTER", type := (.object "java/util/function/BiFunction"), accessFlags := 25, slot := 0, constantValue := 0 }, { name := "AIOOBE_FORMATTER", type := (.object "java/util/function/BiFunction"), accessFlags := 25, slot := 1, constantValue := 0 }, { name := "IOOBE_FORMATTER", type := (.object "java/util/function/BiFunction"), accessFlags := 25, slot := 2, constantValue := 0 }]
  methods := #[k25m0]
  instanceTypes := #[]
  staticTypes := #[(.object "java/util/function/BiFunction"), (.object "java/util/function/BiFunction"), (.object "java/util/function/BiFunction")]
  resolved := Array.replicate 194 none
  statics := some 3 }

def pool26 : Array CpInfo := pool [(9, u "<init>"), (6, .class_ 18), (1, u "java/lang/Object"), (0, u "()V"), (1, .class_ 23), (1, u "jdk/internal/util/ArraysSupport"), (0, u "LOG2_ARRAY_LONG_INDEX_SCALE"), (0, u "I"), (2, u "U"), (0, u "Ljdk/internal/misc/Unsafe;"), (8, u "BIG_ENDIAN"), (0, u "Z"), (8, u "LOG2_BYTE_BIT_SIZE"), (4, u "LOG2_ARRAY_INT_INDEX_SCALE"), (54, u "JLA"), (0, u "Ljdk/internal/access/JavaLangAccess;"), (11, u "LOG2_ARRAY_BOOLEAN_INDEX_SCALE"), (9, u "LOG2_ARRAY_BYTE_INDEX_SCALE"), (5, u "LOG2_ARRAY_CHAR_INDEX_SCALE"), (5, u "LOG2_ARRAY_SHORT_INDEX_SCALE"), (18, u "LOG2_ARRAY_FLOAT_INDEX_SCALE"), (24, u "LOG2_ARRAY_DOUBLE_INDEX_SCALE"), (89, u "T_BOOLEAN"), (2, u "T_CHAR"), (1, u "T_FLOAT"), (1, u "T_DOUBLE"), (1, u "T_BYTE"), (1, u "T_SHORT"), (1, u "T_INT"), (1, u "T_LONG"), (1, u "SOFT_MAX_ARRAY_LENGTH")] 83

def k26m0 : Method := { name := "<init>", desc := "()V", sig := { parameters := [], returnType := none }, accessFlags := 2, code := none }
/-- jdk/internal/util/ArraysSupport -/
def k26 : Class := { plain "jdk/internal/util/ArraysSupport" (some 0) with
  accessFlags := 33
  interfaces := #[]
  cf := some (fileOf pool26 21 #[] #[{ accessFlags := 2, nameIndex := 9, descriptorIndex := 19, attributes := #[] }] 33 16 #[] #[{ accessFlags := 24, nameIndex := 28, descriptorIndex := 29, attributes := #[] }, { accessFlags := 26, nameIndex := 38, descriptorIndex := 39, attributes := #[] }, { accessFlags := 25, nameIndex := 121, descriptorIndex := 25, attributes := #[] }, { accessFlags := 25, nameIndex := 131, descriptorIndex := 25, attributes := #[] }, { accessFlags := 25, nameIndex := 137, descriptorIndex := 25, attributes := #[] }, { accessFlags := 25, nameIndex := 143, descriptorIndex := 25, attributes := #[] }, { accessFlags := 25, nameIndex := 53, descriptorIndex := 25, attributes := #[] }, { accessFlags := 25, nameIndex := 24, descriptorIndex := 25, attributes := #[] }, { accessFlags := 25, nameIndex := 162, descriptorIndex := 25, attributes := #[] }, { accessFlags := 25, nameIndex := 187, descriptorIndex := 25, attributes := #[] }, { accessFlags := 26, nameIndex := 48, descriptorIndex := 25, attributes := #[] }, { accessFlags := 25, nameIndex := 277, descriptorIndex := 25, attributes := #[] }, { accessFlags := 25, nameIndex := 280, descriptorIndex := 25, attributes := #[] }, { accessFlags := 25, nameIndex := 282, descriptorIndex := 25, attributes := #[] }, { accessFlags := 25, nameIndex := 284, descriptorIndex := 25, attributes := #[] }, { accessFlags := 25, nameIndex := 286, descriptorIndex := 25, attributes := #[] }, { accessFlags := 25, nameIndex := 288, descriptorIndex := 25, attributes := #[] }, { accessFlags := 25, nameIndex := 290, descriptorIndex := 25, attributes := #[] }, { accessFlags := 25, nameIndex := 292, descriptorIndex := 25, attributes := #[] }, { accessFlags := 26, nameIndex := 108, descriptorIndex := 109, attributes := #[] }, { accessFlags := 25, nameIndex := 294, descriptorIndex := 25, attributes := #[] }])
  fields := #[{ name := "U", type := (.object "jdk/internal/misc/Unsafe"), accessFlags := 24, slot := 0, constantValue := 0 }, { name := "BIG_ENDIAN", type := .boolean, accessFlags := 26, slot := 1, constantValue := 0 }, { name := "LOG2_ARRAY_BOOLEAN_INDEX_SCALE", type := .int, accessFlags := 25, slot := 2, constantValue := 0 }, { name := "LOG2_ARRAY_BYTE_INDEX_SCALE", type := .int, accessFlags := 25, slot := 3, constantValue := 0 }, { name := "LOG2_ARRAY_CHAR_INDEX_SCALE", type := .int, accessFlags := 25, slot := 4, constantValue := 0 }, { name := "LOG2_ARRAY_SHORT_INDEX_SCALE", type := .int, accessFlags := 25, slot := 5, constantValue := 0 }, { name := "LOG2_ARRAY_INT_INDEX_SCALE", type := .int, accessFlags := 25, slot := 6, constantValue := 0 }, { name := "LOG2_ARRAY_LONG_INDEX_SCALE", type := .int, accessFlags := 25, slot := 7, constantValue := 0 }, { name := "LOG2_ARRAY_FLOAT_INDEX_SCALE", type := .int, accessFlags := 25, slot := 8, constantValue := 0 }, { name := "LOG2_ARRAY_DOUBLE_INDEX_SCALE", type := .int, accessFlags := 25, slot := 9, constantValue := 0 }, { name := "LOG2_BYTE_BIT_SIZE", type := .int, accessFlags := 26, slot := 10, constantValue := 0 }, { name := "T_BOOLEAN", type := .int, accessFlags := 25, slot := 11, constantValue := 0 }, { name := "T_CHAR", type := .int, accessFlags := 25, slot := 12, constantValue := 0 }, { name := "T_FLOAT", type := .int, accessFlags := 25, slot := 13, constantValue := 0 }, { name := "T_DOUBLE", type := .int, accessFlags := 25, slot := 14, constantValue := 0 }, { name := "T_BYTE", type := .int, accessFlags := 25, slot := 15, constantValue := 0 }, { name := "T_SHORT", type := .int, accessFlags := 25, slot := 16, constantValue := 0 }, { name := "T_INT", type := .int, accessFlags := 25, slot := 17, constantValue := 0 }, { name := "T_LONG", type := .int, accessFlags := 25, slot := 18, constantValue := 0 }, { name := "JLA", type := (.object "jdk/internal/access/JavaLangAccess"), accessFlags := 26, slot := 19, constantValue := 0 }, { name := "SOFT_MAX_ARRAY_LENGTH", type := .int, accessFlags := 25, slot := 20, constantValue := 0 }]
  methods := #[k26m0]
  instanceTypes := #[]
  staticTypes := #[(.object "jdk/internal/misc/Unsafe"), .boolean, .int, .int, .int, .int, .int, .int, .int, .int, .int, .int, .int, .int, .int, .int, .int, .int, .int, (.object "jdk/internal/access/JavaLangAccess"), .int]
  resolved := Array.replicate 378 none
  statics := none }

/-- the primitive byte -/
def k27 : Class := { plain "byte" none with kind := .primitive 'B', accessFlags := 0x411 }
/-- [B -/
def k28 : Class := { plain "[B" (some 0) with kind := .array 27 .byte, interfaces := #[24, 2], accessFlags := 1041 }

/-- the primitive char -/
def k29 : Class := { plain "char" none with kind := .primitive 'C', accessFlags := 0x411 }
/-- [C -/
def k30 : Class := { plain "[C" (some 0) with kind := .array 29 .char, interfaces := #[24, 2], accessFlags := 1041 }

/-- the primitive int -/
def k31 : Class := { plain "int" none with kind := .primitive 'I', accessFlags := 0x411 }
/-- [I -/
def k32 : Class := { plain "[I" (some 0) with kind := .array 31 .int, interfaces := #[24, 2], accessFlags := 1041 }

def heap : Heap := #[{ cls := 7, slots := #[.long 0, .int 1, .null, .int 0, .null, .int 0, .int 0], vm := .statics 7 },
  { cls := 18, slots := #[.null, .null, .ref 4, .null, .null, .null], vm := .statics 18 },
  { cls := 22, slots := #[.ref 4, .null], vm := .statics 22 },
  { cls := 25, slots := #[.null, .null, .null], vm := .statics 25 },
  { cls := 22, slots := #[.null, .null, .null], vm := .none }]
def classes : Array Class := #[k0, k1, k2, k3, k4, k5, k6, k7, k8, k9, k10, k11, k12, k13, k14, k15, k16, k17, k18, k19, k20, k21, k22, k23, k24, k25, k26, k27, k28, k29, k30, k31, k32]
def interned : List (Array UInt16 × Addr) := []
def slotsUsed : Nat := 21
def theMethod : MethodId := ⟨1, 1⟩
def args0 : Array Value := #[.int 5, .int 7, .int 3, .int 2, .int 1]
def aboutOver (below : List Frame) : State where
  vm := { classes := classes, interned := interned.toArray }
  heap := heap
  slotsUsed := slotsUsed
  threads := #[{ frames := .invoking theMethod args0 :: below }]
def below0 : List Frame := [.native { method := ⟨0, 0⟩, args := #[] }]
def about1 : State := aboutOver below0
def p0 : Program := .bare "" "" ""
def e0 : Env := launch0.env 0 0 0
theorem w_frames : about1.frames = Frame.invoking theMethod args0 :: below0 := rfl
set_option maxRecDepth 65536 in
theorem w_args : argsFit about1.vm theMethod args0 = true := by decide +kernel
set_option maxRecDepth 65536 in
theorem w_heap : heapFits about1 = true := by decide +kernel
set_option maxRecDepth 65536 in
theorem w_runnable : about1.curStatus? = some .runnable := by decide +kernel
set_option maxRecDepth 65536 in
theorem w_alone : about1.alone = true := by decide +kernel
set_option maxRecDepth 65536 in
theorem w_named : about1.methodNamed? x = some theMethod := by decide +kernel
set_option maxRecDepth 65536 in
theorem w_hears : about1.hears theMethod below0 = true := by decide +kernel
set_option maxRecDepth 65536 in
theorem w_ripe : about1.ripe theMethod args0 below0 = true := by decide +kernel
theorem w_running : about1.status = .running := rfl
set_option maxRecDepth 65536 in
theorem w_room : about1.hasRoom e0.platform room_1 = true :=
  launch0.hasRoom_least _ room_1 (by decide +kernel) (by decide +kernel) (by decide +kernel) (by decide +kernel) (by decide +kernel) (by decide +kernel)
theorem allAtoms_all (ts : List Jvm.Cond) (a : Array Jvm.Value) (st : Jvm.State) : (allAtoms ts).before a st = ts.all (fun c => c.before a st) := by
  induction ts with
  | nil => rfl
  | cons c t ih =>
    show (Jvm.Cond.and c (allAtoms t)).before a st = _
    rw [Jvm.Cond.before_and, ih, List.all_cons]
def words1 : List Jvm.Cond := Jvm.Cond.code x code maxLocals ret :: tables_1
/-- a 'code' word, met by the world's own term for the bytes: nothing is compared byte by byte -/
theorem code_word {y : MethodName} {bytes : ByteArray} {mx : Nat} {rt : Option FieldType} {a : Array Value} {s : State} {m : MethodId} {meth : Method} {c : Code} (h1 : s.methodNamed? y = some m) (h2 : s.vm.method? m = some meth) (h3 : meth.code = some c) (h4 : c.code = bytes)
    (h5 : (c.maxLocals == mx && c.exceptionTable.isEmpty && decide (c.maxStack ≤ mostOperands) && decide (meth.sig.returnType = rt) && !meth.locks && decide (parseMethodDescriptor y.desc = some meth.sig)) = true) : (Jvm.Cond.code y bytes mx rt).before a s = true := by
  simp only [Bool.and_eq_true, beq_iff_eq, Bool.not_eq_true', decide_eq_true_eq] at h5
  obtain ⟨⟨⟨⟨⟨g1, g2⟩, g3⟩, g4⟩, g5⟩, g6⟩ := h5
  simp [Cond.before, Cond.holds, Cond.value, h1, h2, h3, h4, g1, g2, g3, g4, g5, g6]
def isCode : Jvm.Cond → Bool
  | .code _ _ _ _ => true
  | _ => false
theorem all_split {L : List Jvm.Cond} {P : Jvm.Cond → Bool} (h1 : L.all (fun c => isCode c || P c) = true) (h2 : ∀ c ∈ L.filter isCode, P c = true) : L.all P = true := by
  refine List.all_eq_true.mpr fun c hc => ?_
  have h := List.all_eq_true.mp h1 c hc
  rcases Bool.eq_false_or_eq_true (isCode c) with hi | hi
  · exact h2 c (List.mem_filter.mpr ⟨hc, hi⟩)
  · simpa [hi] using h
set_option maxRecDepth 65536 in
theorem w_c0 : (Jvm.Cond.code x code maxLocals ret).before args0 about1 = true := code_word (m := ⟨1, 1⟩) (meth := k1m1) (c := k1c1) (by decide +kernel) rfl rfl rfl (by decide +kernel)
set_option maxRecDepth 65536 in
theorem w_c1 : (Jvm.Cond.code ({ cls := "com/example/turnlock/turnlock/session/DigestCredentialsOfPinLaw", name := "userChar", desc := "(I)C" } : Jvm.MethodName) method_3_code (2 : Nat) (Option.some Jvm.ClassFile.FieldType.char)).before args0 about1 = true := code_word (m := ⟨1, 2⟩) (meth := k1m2) (c := k1c2) (by decide +kernel) rfl rfl rfl (by decide +kernel)
set_option maxRecDepth 65536 in
theorem w_c2 : (Jvm.Cond.code ({ cls := "java/lang/String", name := "<init>", desc := "([C)V" } : Jvm.MethodName) jdk_42_method_3_code (2 : Nat) (Option.none : Option Jvm.ClassFile.FieldType)).before args0 about1 = true := code_word (m := ⟨7, 1⟩) (meth := k7m1) (c := k7c1) (by decide +kernel) rfl rfl rfl (by decide +kernel)
set_option maxRecDepth 65536 in
theorem w_c3 : (Jvm.Cond.code ({ cls := "java/lang/String", name := "<init>", desc := "([CIILjava/lang/Void;)V" } : Jvm.MethodName) jdk_42_method_149_code (6 : Nat) (Option.none : Option Jvm.ClassFile.FieldType)).before args0 about1 = true := code_word (m := ⟨7, 12⟩) (meth := k7m12) (c := k7c12) (by decide +kernel) rfl rfl rfl (by decide +kernel)
set_option maxRecDepth 65536 in
theorem w_c4 : (Jvm.Cond.code ({ cls := "java/lang/Object", name := "<init>", desc := "()V" } : Jvm.MethodName) object_method_1_code (1 : Nat) (Option.none : Option Jvm.ClassFile.FieldType)).before args0 about1 = true := code_word (m := ⟨0, 0⟩) (meth := k0m0) (c := k0c0) (by decide +kernel) rfl rfl rfl (by decide +kernel)
set_option maxRecDepth 65536 in
theorem w_c5 : (Jvm.Cond.code ({ cls := "java/lang/StringUTF16", name := "compress", desc := "([CII)[B" } : Jvm.MethodName) jdk_52_method_16_code (6 : Nat) (Option.some (Jvm.ClassFile.FieldType.array Jvm.ClassFile.FieldType.byte))).before args0 about1 = true := code_word (m := ⟨8, 4⟩) (meth := k8m4) (c := k8c4) (by decide +kernel) rfl rfl rfl (by decide +kernel)
set_option maxRecDepth 65536 in
theorem w_c6 : (Jvm.Cond.code ({ cls := "java/lang/StringUTF16", name := "compress", desc := "([CI[BII)I" } : Jvm.MethodName) jdk_52_method_21_code (7 : Nat) (Option.some Jvm.ClassFile.FieldType.int)).before args0 about1 = true := code_word (m := ⟨8, 5⟩) (meth := k8m5) (c := k8c5) (by decide +kernel) rfl rfl rfl (by decide +kernel)
set_option maxRecDepth 65536 in
theorem w_c7 : (Jvm.Cond.code ({ cls := "java/lang/StringUTF16", name := "coderFromArrayLen", desc := "([BI)B" } : Jvm.MethodName) jdk_52_method_15_code (2 : Nat) (Option.some Jvm.ClassFile.FieldType.byte)).before args0 about1 = true := code_word (m := ⟨8, 3⟩) (meth := k8m3) (c := k8c3) (by decide +kernel) rfl rfl rfl (by decide +kernel)
set_option maxRecDepth 65536 in
theorem w_c8 : (Jvm.Cond.code ({ cls := "com/example/turnlock/turnlock/session/DigestCredentialsOfPinLaw", name := "put", desc := "([BIC)I" } : Jvm.MethodName) method_4_code (3 : Nat) (Option.some Jvm.ClassFile.FieldType.int)).before args0 about1 = true := code_word (m := ⟨1, 3⟩) (meth := k1m3) (c := k1c3) (by decide +kernel) rfl rfl rfl (by decide +kernel)
set_option maxRecDepth 65536 in
theorem w_c9 : (Jvm.Cond.code ({ cls := "com/example/turnlock/turnlock/session/DigestCredentials", name := "of", desc := "(Ljava/lang/String;Ljava/lang/String;)Lcom/example/turnlock/turnlock/session/DigestCredentials;" } : Jvm.MethodName) prog_15_method_2_code (2 : Nat) (Option.some (Jvm.ClassFile.FieldType.object "com/example/turnlock/turnlock/session/DigestCredentials"))).before args0 about1 = true := code_word (m := ⟨9, 1⟩) (meth := k9m1) (c := k9c1) (by decide +kernel) rfl rfl rfl (by decide +kernel)
set_option maxRecDepth 65536 in
theorem w_c10 : (Jvm.Cond.code ({ cls := "java/util/Objects", name := "requireNonNull", desc := "(Ljava/lang/Object;Ljava/lang/String;)Ljava/lang/Object;" } : Jvm.MethodName) jdk_31_method_11_code (2 : Nat) (Option.some (Jvm.ClassFile.FieldType.object "java/lang/Object"))).before args0 about1 = true := code_word (m := ⟨10, 1⟩) (meth := k10m1) (c := k10c1) (by decide +kernel) rfl rfl rfl (by decide +kernel)
set_option maxRecDepth 65536 in
theorem w_c11 : (Jvm.Cond.code ({ cls := "java/lang/String", name := "isEmpty", desc := "()Z" } : Jvm.MethodName) jdk_42_method_55_code (1 : Nat) (Option.some Jvm.ClassFile.FieldType.boolean)).before args0 about1 = true := code_word (m := ⟨7, 6⟩) (meth := k7m6) (c := k7c6) (by decide +kernel) rfl rfl rfl (by decide +kernel)
set_option maxRecDepth 65536 in
theorem w_c12 : (Jvm.Cond.code ({ cls := "java/lang/String", name := "indexOf", desc := "(I)I" } : Jvm.MethodName) jdk_42_method_79_code (2 : Nat) (Option.some Jvm.ClassFile.FieldType.int)).before args0 about1 = true := code_word (m := ⟨7, 9⟩) (meth := k7m9) (c := k7c9) (by decide +kernel) rfl rfl rfl (by decide +kernel)
set_option maxRecDepth 65536 in
theorem w_c13 : (Jvm.Cond.code ({ cls := "java/lang/String", name := "indexOf", desc := "(II)I" } : Jvm.MethodName) jdk_42_method_80_code (3 : Nat) (Option.some Jvm.ClassFile.FieldType.int)).before args0 about1 = true := code_word (m := ⟨7, 10⟩) (meth := k7m10) (c := k7c10) (by decide +kernel) rfl rfl rfl (by decide +kernel)
set_option maxRecDepth 65536 in
theorem w_c14 : (Jvm.Cond.code ({ cls := "java/lang/String", name := "isLatin1", desc := "()Z" } : Jvm.MethodName) jdk_42_method_154_code (1 : Nat) (Option.some Jvm.ClassFile.FieldType.boolean)).before args0 about1 = true := code_word (m := ⟨7, 15⟩) (meth := k7m15) (c := k7c15) (by decide +kernel) rfl rfl rfl (by decide +kernel)
set_option maxRecDepth 65536 in
theorem w_c15 : (Jvm.Cond.code ({ cls := "java/lang/String", name := "length", desc := "()I" } : Jvm.MethodName) jdk_42_method_54_code (1 : Nat) (Option.some Jvm.ClassFile.FieldType.int)).before args0 about1 = true := code_word (m := ⟨7, 5⟩) (meth := k7m5) (c := k7c5) (by decide +kernel) rfl rfl rfl (by decide +kernel)
set_option maxRecDepth 65536 in
theorem w_c16 : (Jvm.Cond.code ({ cls := "java/lang/String", name := "coder", desc := "()B" } : Jvm.MethodName) jdk_42_method_152_code (1 : Nat) (Option.some Jvm.ClassFile.FieldType.byte)).before args0 about1 = true := code_word (m := ⟨7, 14⟩) (meth := k7m14) (c := k7c14) (by decide +kernel) rfl rfl rfl (by decide +kernel)
set_option maxRecDepth 65536 in
theorem w_c17 : (Jvm.Cond.code ({ cls := "java/lang/StringLatin1", name := "indexOf", desc := "([BIII)I" } : Jvm.MethodName) jdk_43_method_22_code (4 : Nat) (Option.some Jvm.ClassFile.FieldType.int)).before args0 about1 = true := code_word (m := ⟨11, 2⟩) (meth := k11m2) (c := k11c2) (by decide +kernel) rfl rfl rfl (by decide +kernel)
set_option maxRecDepth 65536 in
theorem w_c18 : (Jvm.Cond.code ({ cls := "java/lang/StringLatin1", name := "canEncode", desc := "(I)Z" } : Jvm.MethodName) jdk_43_method_4_code (1 : Nat) (Option.some Jvm.ClassFile.FieldType.boolean)).before args0 about1 = true := code_word (m := ⟨11, 1⟩) (meth := k11m1) (c := k11c1) (by decide +kernel) rfl rfl rfl (by decide +kernel)
set_option maxRecDepth 65536 in
theorem w_c19 : (Jvm.Cond.code ({ cls := "java/lang/Math", name := "max", desc := "(II)I" } : Jvm.MethodName) jdk_29_method_65_code (2 : Nat) (Option.some Jvm.ClassFile.FieldType.int)).before args0 about1 = true := code_word (m := ⟨12, 1⟩) (meth := k12m1) (c := k12c1) (by decide +kernel) rfl rfl rfl (by decide +kernel)
set_option maxRecDepth 65536 in
theorem w_c20 : (Jvm.Cond.code ({ cls := "java/lang/Math", name := "min", desc := "(II)I" } : Jvm.MethodName) jdk_29_method_69_code (2 : Nat) (Option.some Jvm.ClassFile.FieldType.int)).before args0 about1 = true := code_word (m := ⟨12, 2⟩) (meth := k12m2) (c := k12c2) (by decide +kernel) rfl rfl rfl (by decide +kernel)
set_option maxRecDepth 65536 in
theorem w_c21 : (Jvm.Cond.code ({ cls := "java/lang/StringLatin1", name := "indexOfChar", desc := "([BIII)I" } : Jvm.MethodName) jdk_43_method_23_code (6 : Nat) (Option.some Jvm.ClassFile.FieldType.int)).before args0 about1 = true := code_word (m := ⟨11, 3⟩) (meth := k11m3) (c := k11c3) (by decide +kernel) rfl rfl rfl (by decide +kernel)
set_option maxRecDepth 65536 in
theorem w_c22 : (Jvm.Cond.code ({ cls := "com/example/turnlock/turnlock/session/DigestCredentials", name := "<init>", desc := "(Ljava/lang/String;Ljava/lang/String;)V" } : Jvm.MethodName) prog_15_method_1_code (3 : Nat) (Option.none : Option Jvm.ClassFile.FieldType)).before args0 about1 = true := code_word (m := ⟨9, 0⟩) (meth := k9m0) (c := k9c0) (by decide +kernel) rfl rfl rfl (by decide +kernel)
set_option maxRecDepth 65536 in
theorem w_c23 : (Jvm.Cond.code ({ cls := "com/example/turnlock/turnlock/session/DigestCredentials", name := "user", desc := "()Ljava/lang/String;" } : Jvm.MethodName) prog_15_method_4_code (1 : Nat) (Option.some (Jvm.ClassFile.FieldType.object "java/lang/String"))).before args0 about1 = true := code_word (m := ⟨9, 2⟩) (meth := k9m2) (c := k9c2) (by decide +kernel) rfl rfl rfl (by decide +kernel)
set_option maxRecDepth 65536 in
theorem w_c24 : (Jvm.Cond.code ({ cls := "java/lang/String", name := "equals", desc := "(Ljava/lang/Object;)Z" } : Jvm.MethodName) jdk_42_method_66_code (3 : Nat) (Option.some Jvm.ClassFile.FieldType.boolean)).before args0 about1 = true := code_word (m := ⟨7, 8⟩) (meth := k7m8) (c := k7c8) (by decide +kernel) rfl rfl rfl (by decide +kernel)
set_option maxRecDepth 65536 in
theorem w_c25 : (Jvm.Cond.code ({ cls := "com/example/turnlock/turnlock/session/DigestCredentials", name := "authData", desc := "()[B" } : Jvm.MethodName) prog_15_method_5_code (1 : Nat) (Option.some (Jvm.ClassFile.FieldType.array Jvm.ClassFile.FieldType.byte))).before args0 about1 = true := code_word (m := ⟨9, 3⟩) (meth := k9m3) (c := k9c3) (by decide +kernel) rfl rfl rfl (by decide +kernel)
set_option maxRecDepth 65536 in
theorem w_c26 : (Jvm.Cond.code ({ cls := "java/lang/StringBuilder", name := "<init>", desc := "()V" } : Jvm.MethodName) jdk_67_method_1_code (1 : Nat) (Option.none : Option Jvm.ClassFile.FieldType)).before args0 about1 = true := code_word (m := ⟨15, 0⟩) (meth := k15m0) (c := k15c0) (by decide +kernel) rfl rfl rfl (by decide +kernel)
set_option maxRecDepth 65536 in
theorem w_c27 : (Jvm.Cond.code ({ cls := "java/lang/AbstractStringBuilder", name := "<init>", desc := "(I)V" } : Jvm.MethodName) jdk_68_method_2_code (2 : Nat) (Option.none : Option Jvm.ClassFile.FieldType)).before args0 about1 = true := code_word (m := ⟨14, 1⟩) (meth := k14m1) (c := k14c1) (by decide +kernel) rfl rfl rfl (by decide +kernel)
set_option maxRecDepth 65536 in
theorem w_c28 : (Jvm.Cond.code ({ cls := "java/lang/StringBuilder", name := "append", desc := "(Ljava/lang/String;)Ljava/lang/StringBuilder;" } : Jvm.MethodName) jdk_67_method_7_code (2 : Nat) (Option.some (Jvm.ClassFile.FieldType.object "java/lang/StringBuilder"))).before args0 about1 = true := code_word (m := ⟨15, 1⟩) (meth := k15m1) (c := k15c1) (by decide +kernel) rfl rfl rfl (by decide +kernel)
set_option maxRecDepth 65536 in
theorem w_c29 : (Jvm.Cond.code ({ cls := "java/lang/AbstractStringBuilder", name := "append", desc := "(Ljava/lang/String;)Ljava/lang/AbstractStringBuilder;" } : Jvm.MethodName) jdk_68_method_22_code (3 : Nat) (Option.some (Jvm.ClassFile.FieldType.object "java/lang/AbstractStringBuilder"))).before args0 about1 = true := code_word (m := ⟨14, 4⟩) (meth := k14m4) (c := k14c4) (by decide +kernel) rfl rfl rfl (by decide +kernel)
set_option maxRecDepth 65536 in
theorem w_c30 : (Jvm.Cond.code ({ cls := "java/lang/AbstractStringBuilder", name := "ensureCapacityInternal", desc := "(I)V" } : Jvm.MethodName) jdk_68_method_9_code (3 : Nat) (Option.none : Option Jvm.ClassFile.FieldType)).before args0 about1 = true := code_word (m := ⟨14, 3⟩) (meth := k14m3) (c := k14c3) (by decide +kernel) rfl rfl rfl (by decide +kernel)
set_option maxRecDepth 65536 in
theorem w_c31 : (Jvm.Cond.code ({ cls := "java/lang/AbstractStringBuilder", name := "putStringAt", desc := "(ILjava/lang/String;)V" } : Jvm.MethodName) jdk_68_method_73_code (3 : Nat) (Option.none : Option Jvm.ClassFile.FieldType)).before args0 about1 = true := code_word (m := ⟨14, 8⟩) (meth := k14m8) (c := k14c8) (by decide +kernel) rfl rfl rfl (by decide +kernel)
set_option maxRecDepth 65536 in
theorem w_c32 : (Jvm.Cond.code ({ cls := "java/lang/AbstractStringBuilder", name := "inflateIfNeededFor", desc := "(Ljava/lang/String;)V" } : Jvm.MethodName) jdk_68_method_71_code (2 : Nat) (Option.none : Option Jvm.ClassFile.FieldType)).before args0 about1 = true := code_word (m := ⟨14, 7⟩) (meth := k14m7) (c := k14c7) (by decide +kernel) rfl rfl rfl (by decide +kernel)
set_option maxRecDepth 65536 in
theorem w_c33 : (Jvm.Cond.code ({ cls := "java/lang/String", name := "getBytes", desc := "([BIB)V" } : Jvm.MethodName) jdk_42_method_147_code (4 : Nat) (Option.none : Option Jvm.ClassFile.FieldType)).before args0 about1 = true := code_word (m := ⟨7, 11⟩) (meth := k7m11) (c := k7c11) (by decide +kernel) rfl rfl rfl (by decide +kernel)
set_option maxRecDepth 65536 in
theorem w_c34 : (Jvm.Cond.code ({ cls := "java/lang/StringBuilder", name := "toString", desc := "()Ljava/lang/String;" } : Jvm.MethodName) jdk_67_method_42_code (1 : Nat) (Option.some (Jvm.ClassFile.FieldType.object "java/lang/String"))).before args0 about1 = true := code_word (m := ⟨15, 2⟩) (meth := k15m2) (c := k15c2) (by decide +kernel) rfl rfl rfl (by decide +kernel)
set_option maxRecDepth 65536 in
theorem w_c35 : (Jvm.Cond.code ({ cls := "java/lang/String", name := "<init>", desc := "(Ljava/lang/StringBuilder;)V" } : Jvm.MethodName) jdk_42_method_53_code (2 : Nat) (Option.none : Option Jvm.ClassFile.FieldType)).before args0 about1 = true := code_word (m := ⟨7, 4⟩) (meth := k7m4) (c := k7c4) (by decide +kernel) rfl rfl rfl (by decide +kernel)
set_option maxRecDepth 65536 in
theorem w_c36 : (Jvm.Cond.code ({ cls := "java/lang/String", name := "<init>", desc := "(Ljava/lang/AbstractStringBuilder;Ljava/lang/Void;)V" } : Jvm.MethodName) jdk_42_method_150_code (5 : Nat) (Option.none : Option Jvm.ClassFile.FieldType)).before args0 about1 = true := code_word (m := ⟨7, 13⟩) (meth := k7m13) (c := k7c13) (by decide +kernel) rfl rfl rfl (by decide +kernel)
set_option maxRecDepth 65536 in
theorem w_c37 : (Jvm.Cond.code ({ cls := "java/lang/AbstractStringBuilder", name := "getValue", desc := "()[B" } : Jvm.MethodName) jdk_68_method_64_code (1 : Nat) (Option.some (Jvm.ClassFile.FieldType.array Jvm.ClassFile.FieldType.byte))).before args0 about1 = true := code_word (m := ⟨14, 5⟩) (meth := k14m5) (c := k14c5) (by decide +kernel) rfl rfl rfl (by decide +kernel)
set_option maxRecDepth 65536 in
theorem w_c38 : (Jvm.Cond.code ({ cls := "java/lang/StringBuilder", name := "length", desc := "()I" } : Jvm.MethodName) jdk_67_method_93_code (1 : Nat) (Option.some Jvm.ClassFile.FieldType.int)).before args0 about1 = true := code_word (m := ⟨15, 3⟩) (meth := k15m3) (c := k15c3) (by decide +kernel) rfl rfl rfl (by decide +kernel)
set_option maxRecDepth 65536 in
theorem w_c39 : (Jvm.Cond.code ({ cls := "java/lang/AbstractStringBuilder", name := "length", desc := "()I" } : Jvm.MethodName) jdk_68_method_6_code (1 : Nat) (Option.some Jvm.ClassFile.FieldType.int)).before args0 about1 = true := code_word (m := ⟨14, 2⟩) (meth := k14m2) (c := k14c2) (by decide +kernel) rfl rfl rfl (by decide +kernel)
set_option maxRecDepth 65536 in
theorem w_c40 : (Jvm.Cond.code ({ cls := "java/lang/AbstractStringBuilder", name := "isLatin1", desc := "()Z" } : Jvm.MethodName) jdk_68_method_68_code (1 : Nat) (Option.some Jvm.ClassFile.FieldType.boolean)).before args0 about1 = true := code_word (m := ⟨14, 6⟩) (meth := k14m6) (c := k14c6) (by decide +kernel) rfl rfl rfl (by decide +kernel)
set_option maxRecDepth 65536 in
theorem w_c41 : (Jvm.Cond.code ({ cls := "java/util/Arrays", name := "copyOfRange", desc := "([BII)[B" } : Jvm.MethodName) jdk_65_method_132_code (3 : Nat) (Option.some (Jvm.ClassFile.FieldType.array Jvm.ClassFile.FieldType.byte))).before args0 about1 = true := code_word (m := ⟨17, 3⟩) (meth := k17m3) (c := k17c3) (by decide +kernel) rfl rfl rfl (by decide +kernel)
set_option maxRecDepth 65536 in
theorem w_c42 : (Jvm.Cond.code ({ cls := "java/util/Arrays", name := "copyOfRangeByte", desc := "([BII)[B" } : Jvm.MethodName) jdk_65_method_133_code (5 : Nat) (Option.some (Jvm.ClassFile.FieldType.array Jvm.ClassFile.FieldType.byte))).before args0 about1 = true := code_word (m := ⟨17, 4⟩) (meth := k17m4) (c := k17c4) (by decide +kernel) rfl rfl rfl (by decide +kernel)
set_option maxRecDepth 65536 in
theorem w_c43 : (Jvm.Cond.code ({ cls := "java/util/Arrays", name := "checkLength", desc := "(II)V" } : Jvm.MethodName) jdk_65_method_131_code (2 : Nat) (Option.none : Option Jvm.ClassFile.FieldType)).before args0 about1 = true := code_word (m := ⟨17, 2⟩) (meth := k17m2) (c := k17c2) (by decide +kernel) rfl rfl rfl (by decide +kernel)
set_option maxRecDepth 65536 in
theorem w_c44 : (Jvm.Cond.code ({ cls := "java/lang/String", name := "getBytes", desc := "(Ljava/nio/charset/Charset;)[B" } : Jvm.MethodName) jdk_42_method_64_code (2 : Nat) (Option.some (Jvm.ClassFile.FieldType.array Jvm.ClassFile.FieldType.byte))).before args0 about1 = true := code_word (m := ⟨7, 7⟩) (meth := k7m7) (c := k7c7) (by decide +kernel) rfl rfl rfl (by decide +kernel)
set_option maxRecDepth 65536 in
theorem w_c45 : (Jvm.Cond.code ({ cls := "java/lang/String", name := "encode", desc := "(Ljava/nio/charset/Charset;B[B)[B" } : Jvm.MethodName) jdk_42_method_18_code (3 : Nat) (Option.some (Jvm.ClassFile.FieldType.array Jvm.ClassFile.FieldType.byte))).before args0 about1 = true := code_word (m := ⟨7, 2⟩) (meth := k7m2) (c := k7c2) (by decide +kernel) rfl rfl rfl (by decide +kernel)
set_option maxRecDepth 65536 in
theorem w_c46 : (Jvm.Cond.code ({ cls := "java/lang/String", name := "encodeUTF8", desc := "(B[BZ)[B" } : Jvm.MethodName) jdk_42_method_46_code (9 : Nat) (Option.some (Jvm.ClassFile.FieldType.array Jvm.ClassFile.FieldType.byte))).before args0 about1 = true := code_word (m := ⟨7, 3⟩) (meth := k7m3) (c := k7c3) (by decide +kernel) rfl rfl rfl (by decide +kernel)
set_option maxRecDepth 65536 in
theorem w_c47 : (Jvm.Cond.code ({ cls := "java/lang/StringCoding", name := "hasNegatives", desc := "([BII)Z" } : Jvm.MethodName) jdk_123_method_2_code (3 : Nat) (Option.some Jvm.ClassFile.FieldType.boolean)).before args0 about1 = true := code_word (m := ⟨23, 1⟩) (meth := k23m1) (c := k23c1) (by decide +kernel) rfl rfl rfl (by decide +kernel)
set_option maxRecDepth 65536 in
theorem w_c48 : (Jvm.Cond.code ({ cls := "java/lang/StringCoding", name := "countPositives", desc := "([BII)I" } : Jvm.MethodName) jdk_123_method_3_code (5 : Nat) (Option.some Jvm.ClassFile.FieldType.int)).before args0 about1 = true := code_word (m := ⟨23, 2⟩) (meth := k23m2) (c := k23c2) (by decide +kernel) rfl rfl rfl (by decide +kernel)
set_option maxRecDepth 65536 in
theorem w_c49 : (Jvm.Cond.code ({ cls := "com/example/turnlock/turnlock/session/DigestCredentialsOfPinLaw", name := "same", desc := "([B[BII)Z" } : Jvm.MethodName) method_5_code (4 : Nat) (Option.some Jvm.ClassFile.FieldType.boolean)).before args0 about1 = true := code_word (m := ⟨1, 4⟩) (meth := k1m4) (c := k1c4) (by decide +kernel) rfl rfl rfl (by decide +kernel)
set_option maxRecDepth 65536 in
theorem w_c50 : (Jvm.Cond.code ({ cls := "java/lang/StringUTF16", name := "newBytesFor", desc := "(I)[B" } : Jvm.MethodName) jdk_52_method_2_code (1 : Nat) (Option.some (Jvm.ClassFile.FieldType.array Jvm.ClassFile.FieldType.byte))).before args0 about1 = true := code_word (m := ⟨8, 1⟩) (meth := k8m1) (c := k8c1) (by decide +kernel) rfl rfl rfl (by decide +kernel)
set_option maxRecDepth 65536 in
theorem w_c51 : (Jvm.Cond.code ({ cls := "java/lang/StringUTF16", name := "newBytesLength", desc := "(I)I" } : Jvm.MethodName) jdk_52_method_3_code (1 : Nat) (Option.some Jvm.ClassFile.FieldType.int)).before args0 about1 = true := code_word (m := ⟨8, 2⟩) (meth := k8m2) (c := k8c2) (by decide +kernel) rfl rfl rfl (by decide +kernel)
set_option maxRecDepth 65536 in
theorem w_c52 : (Jvm.Cond.code ({ cls := "java/util/Arrays", name := "copyOf", desc := "([BI)[B" } : Jvm.MethodName) jdk_65_method_121_code (3 : Nat) (Option.some (Jvm.ClassFile.FieldType.array Jvm.ClassFile.FieldType.byte))).before args0 about1 = true := code_word (m := ⟨17, 1⟩) (meth := k17m1) (c := k17c1) (by decide +kernel) rfl rfl rfl (by decide +kernel)
def codes1 : List Jvm.Cond := [Jvm.Cond.code x code maxLocals ret, Jvm.Cond.code ({ cls := "com/example/turnlock/turnlock/session/DigestCredentialsOfPinLaw", name := "userChar", desc := "(I)C" } : Jvm.MethodName) method_3_code (2 : Nat) (Option.some Jvm.ClassFile.FieldType.char), Jvm.Cond.code ({ cls := "java/lang/String", name := "<init>", desc := "([C)V" } : Jvm.MethodName) jdk_42_method_3_code (2 : Nat) (Option.none : Option Jvm.ClassFile.FieldType), Jvm.Cond.code ({ cls := "java/lang/String", name := "<init>", desc := "([CIILjava/lang/Void;)V" } : Jvm.MethodName) jdk_42_method_149_code (6 : Nat) (Option.none : Option Jvm.ClassFile.FieldType), Jvm.Cond.code ({ cls := "java/lang/Object", name := "<init>", desc := "()V" } : Jvm.MethodName) object_method_1_code (1 : Nat) (Option.none : Option Jvm.ClassFile.FieldType), Jvm.Cond.code ({ cls := "java/lang/StringUTF16", name := "compress", desc := "([CII)[B" } : Jvm.MethodName) jdk_52_method_16_code (6 : Nat) (Option.some (Jvm.ClassFile.FieldType.array Jvm.ClassFile.FieldType.byte)), Jvm.Cond.code ({ cls := "java/lang/StringUTF16", name := "compress", desc := "([CI[BII)I" } : Jvm.MethodName) jdk_52_method_21_code (7 : Nat) (Option.some Jvm.ClassFile.FieldType.int), Jvm.Cond.code ({ cls := "java/lang/StringUTF16", name := "coderFromArrayLen", desc := "([BI)B" } : Jvm.MethodName) jdk_52_method_15_code (2 : Nat) (Option.some Jvm.ClassFile.FieldType.byte), Jvm.Cond.code ({ cls := "com/example/turnlock/turnlock/session/DigestCredentialsOfPinLaw", name := "put", desc := "([BIC)I" } : Jvm.MethodName) method_4_code (3 : Nat) (Option.some Jvm.ClassFile.FieldType.int), Jvm.Cond.code ({ cls := "com/example/turnlock/turnlock/session/DigestCredentials", name := "of", desc := "(Ljava/lang/String;Ljava/lang/String;)Lcom/example/turnlock/turnlock/session/DigestCredentials;" } : Jvm.MethodName) prog_15_method_2_code (2 : Nat) (Option.some (Jvm.ClassFile.FieldType.object "com/example/turnlock/turnlock/session/DigestCredentials")), Jvm.Cond.code ({ cls := "java/util/Objects", name := "requireNonNull", desc := "(Ljava/lang/Object;Ljava/lang/String;)Ljava/lang/Object;" } : Jvm.MethodName) jdk_31_method_11_code (2 : Nat) (Option.some (Jvm.ClassFile.FieldType.object "java/lang/Object")), Jvm.Cond.code ({ cls := "java/lang/String", name := "isEmpty", desc := "()Z" } : Jvm.MethodName) jdk_42_method_55_code (1 : Nat) (Option.some Jvm.ClassFile.FieldType.boolean), Jvm.Cond.code ({ cls := "java/lang/String", name := "indexOf", desc := "(I)I" } : Jvm.MethodName) jdk_42_method_79_code (2 : Nat) (Option.some Jvm.ClassFile.FieldType.int), Jvm.Cond.code ({ cls := "java/lang/String", name := "indexOf", desc := "(II)I" } : Jvm.MethodName) jdk_42_method_80_code (3 : Nat) (Option.some Jvm.ClassFile.FieldType.int), Jvm.Cond.code ({ cls := "java/lang/String", name := "isLatin1", desc := "()Z" } : Jvm.MethodName) jdk_42_method_154_code (1 : Nat) (Option.some Jvm.ClassFile.FieldType.boolean), Jvm.Cond.code ({ cls := "java/lang/String", name := "length", desc := "()I" } : Jvm.MethodName) jdk_42_method_54_code (1 : Nat) (Option.some Jvm.ClassFile.FieldType.int), Jvm.Cond.code ({ cls := "java/lang/String", name := "coder", desc := "()B" } : Jvm.MethodName) jdk_42_method_152_code (1 : Nat) (Option.some Jvm.ClassFile.FieldType.byte), Jvm.Cond.code ({ cls := "java/lang/StringLatin1", name := "indexOf", desc := "([BIII)I" } : Jvm.MethodName) jdk_43_method_22_code (4 : Nat) (Option.some Jvm.ClassFile.FieldType.int), Jvm.Cond.code ({ cls := "java/lang/StringLatin1", name := "canEncode", desc := "(I)Z" } : Jvm.MethodName) jdk_43_method_4_code (1 : Nat) (Option.some Jvm.ClassFile.FieldType.boolean), Jvm.Cond.code ({ cls := "java/lang/Math", name := "max", desc := "(II)I" } : Jvm.MethodName) jdk_29_method_65_code (2 : Nat) (Option.some Jvm.ClassFile.FieldType.int), Jvm.Cond.code ({ cls := "java/lang/Math", name := "min", desc := "(II)I" } : Jvm.MethodName) jdk_29_method_69_code (2 : Nat) (Option.some Jvm.ClassFile.FieldType.int), Jvm.Cond.code ({ cls := "java/lang/StringLatin1", name := "indexOfChar", desc := "([BIII)I" } : Jvm.MethodName) jdk_43_method_23_code (6 : Nat) (Option.some Jvm.ClassFile.FieldType.int), Jvm.Cond.code ({ cls := "com/example/turnlock/turnlock/session/DigestCredentials", name := "<init>", desc := "(Ljava/lang/String;Ljava/lang/String;)V" } : Jvm.MethodName) prog_15_method_1_code (3 : Nat) (Option.none : Option Jvm.ClassFile.FieldType), Jvm.Cond.code ({ cls := "com/example/turnlock/turnlock/session/DigestCredentials", name := "user", desc := "()Ljava/lang/String;" } : Jvm.MethodName) prog_15_method_4_code (1 : Nat) (Option.some (Jvm.ClassFile.FieldType.object "java/lang/String")), Jvm.Cond.code ({ cls := "java/lang/String", name := "equals", desc := "(Ljava/lang/Object;)Z" } : Jvm.MethodName) jdk_42_method_66_code (3 : Nat) (Option.some Jvm.ClassFile.FieldType.boolean), Jvm.Cond.code ({ cls := "com/example/turnlock/turnlock/session/DigestCredentials", name := "authData", desc := "()[B" } : Jvm.MethodName) prog_15_method_5_code (1 : Nat) (Option.some (Jvm.ClassFile.FieldType.array Jvm.ClassFile.FieldType.byte)), Jvm.Cond.code ({ cls := "java/lang/StringBuilder", name := "<init>", desc := "()V" } : Jvm.MethodName) jdk_67_method_1_code (1 : Nat) (Option.none : Option Jvm.ClassFile.FieldType), Jvm.Cond.code ({ cls := "java/lang/AbstractStringBuilder", name := "<init>", desc := "(I)V" } : Jvm.MethodName) jdk_68_method_2_code (2 : Nat) (Option.none : Option Jvm.ClassFile.FieldType), Jvm.Cond.code ({ cls := "java/lang/StringBuilder", name := "append", desc := "(Ljava/lang/String;)Ljava/lang/StringBuilder;" } : Jvm.MethodName) jdk_67_method_7_code (2 : Nat) (Option.some (Jvm.ClassFile.FieldType.object "java/lang/StringBuilder")), Jvm.Cond.code ({ cls := "java/lang/AbstractStringBuilder", name := "append", desc := "(Ljava/lang/String;)Ljava/lang/AbstractStringBuilder;" } : Jvm.MethodName) jdk_68_method_22_code (3 : Nat) (Option.some (Jvm.ClassFile.FieldType.object "java/lang/AbstractStringBuilder")), Jvm.Cond.code ({ cls := "java/lang/AbstractStringBuilder", name := "ensureCapacityInternal", desc := "(I)V" } : Jvm.MethodName) jdk_68_method_9_code (3 : Nat) (Option.none : Option Jvm.ClassFile.FieldType), Jvm.Cond.code ({ cls := "java/lang/AbstractStringBuilder", name := "putStringAt", desc := "(ILjava/lang/String;)V" } : Jvm.MethodName) jdk_68_method_73_code (3 : Nat) (Option.none : Option Jvm.ClassFile.FieldType), Jvm.Cond.code ({ cls := "java/lang/AbstractStringBuilder", name := "inflateIfNeededFor", desc := "(Ljava/lang/String;)V" } : Jvm.MethodName) jdk_68_method_71_code (2 : Nat) (Option.none : Option Jvm.ClassFile.FieldType), Jvm.Cond.code ({ cls := "java/lang/String", name := "getBytes", desc := "([BIB)V" } : Jvm.MethodName) jdk_42_method_147_code (4 : Nat) (Option.none : Option Jvm.ClassFile.FieldType), Jvm.Cond.code ({ cls := "java/lang/StringBuilder", name := "toString", desc := "()Ljava/lang/String;" } : Jvm.MethodName) jdk_67_method_42_code (1 : Nat) (Option.some (Jvm.ClassFile.FieldType.object "java/lang/String")), Jvm.Cond.code ({ cls := "java/lang/String", name := "<init>", desc := "(Ljava/lang/StringBuilder;)V" } : Jvm.MethodName) jdk_42_method_53_code (2 : Nat) (Option.none : Option Jvm.ClassFile.FieldType), Jvm.Cond.code ({ cls := "java/lang/String", name := "<init>", desc := "(Ljava/lang/AbstractStringBuilder;Ljava/lang/Void;)V" } : Jvm.MethodName) jdk_42_method_150_code (5 : Nat) (Option.none : Option Jvm.ClassFile.FieldType), Jvm.Cond.code ({ cls := "java/lang/AbstractStringBuilder", name := "getValue", desc := "()[B" } : Jvm.MethodName) jdk_68_method_64_code (1 : Nat) (Option.some (Jvm.ClassFile.FieldType.array Jvm.ClassFile.FieldType.byte)), Jvm.Cond.code ({ cls := "java/lang/StringBuilder", name := "length", desc := "()I" } : Jvm.MethodName) jdk_67_method_93_code (1 : Nat) (Option.some Jvm.ClassFile.FieldType.int), Jvm.Cond.code ({ cls := "java/lang/AbstractStringBuilder", name := "length", desc := "()I" } : Jvm.MethodName) jdk_68_method_6_code (1 : Nat) (Option.some Jvm.ClassFile.FieldType.int), Jvm.Cond.code ({ cls := "java/lang/AbstractStringBuilder", name := "isLatin1", desc := "()Z" } : Jvm.MethodName) jdk_68_method_68_code (1 : Nat) (Option.some Jvm.ClassFile.FieldType.boolean), Jvm.Cond.code ({ cls := "java/util/Arrays", name := "copyOfRange", desc := "([BII)[B" } : Jvm.MethodName) jdk_65_method_132_code (3 : Nat) (Option.some (Jvm.ClassFile.FieldType.array Jvm.ClassFile.FieldType.byte)), Jvm.Cond.code ({ cls := "java/util/Arrays", name := "copyOfRangeByte", desc := "([BII)[B" } : Jvm.MethodName) jdk_65_method_133_code (5 : Nat) (Option.some (Jvm.ClassFile.FieldType.array Jvm.ClassFile.FieldType.byte)), Jvm.Cond.code ({ cls := "java/util/Arrays", name := "checkLength", desc := "(II)V" } : Jvm.MethodName) jdk_65_method_131_code (2 : Nat) (Option.none : Option Jvm.ClassFile.FieldType), Jvm.Cond.code ({ cls := "java/lang/String", name := "getBytes", desc := "(Ljava/nio/charset/Charset;)[B" } : Jvm.MethodName) jdk_42_method_64_code (2 : Nat) (Option.some (Jvm.ClassFile.FieldType.array Jvm.ClassFile.FieldType.byte)), Jvm.Cond.code ({ cls := "java/lang/String", name := "encode", desc := "(Ljava/nio/charset/Charset;B[B)[B" } : Jvm.MethodName) jdk_42_method_18_code (3 : Nat) (Option.some (Jvm.ClassFile.FieldType.array Jvm.ClassFile.FieldType.byte)), Jvm.Cond.code ({ cls := "java/lang/String", name := "encodeUTF8", desc := "(B[BZ)[B" } : Jvm.MethodName) jdk_42_method_46_code (9 : Nat) (Option.some (Jvm.ClassFile.FieldType.array Jvm.ClassFile.FieldType.byte)), Jvm.Cond.code ({ cls := "java/lang/StringCoding", name := "hasNegatives", desc := "([BII)Z" } : Jvm.MethodName) jdk_123_method_2_code (3 : Nat) (Option.some Jvm.ClassFile.FieldType.boolean), Jvm.Cond.code ({ cls := "java/lang/StringCoding", name := "countPositives", desc := "([BII)I" } : Jvm.MethodName) jdk_123_method_3_code (5 : Nat) (Option.some Jvm.ClassFile.FieldType.int), Jvm.Cond.code ({ cls := "com/example/turnlock/turnlock/session/DigestCredentialsOfPinLaw", name := "same", desc := "([B[BII)Z" } : Jvm.MethodName) method_5_code (4 : Nat) (Option.some Jvm.ClassFile.FieldType.boolean), Jvm.Cond.code ({ cls := "java/lang/StringUTF16", name := "newBytesFor", desc := "(I)[B" } : Jvm.MethodName) jdk_52_method_2_code (1 : Nat) (Option.some (Jvm.ClassFile.FieldType.array Jvm.ClassFile.FieldType.byte)), Jvm.Cond.code ({ cls := "java/lang/StringUTF16", name := "newBytesLength", desc := "(I)I" } : Jvm.MethodName) jdk_52_method_3_code (1 : Nat) (Option.some Jvm.ClassFile.FieldType.int), Jvm.Cond.code ({ cls := "java/util/Arrays", name := "copyOf", desc := "([BI)[B" } : Jvm.MethodName) jdk_65_method_121_code (3 : Nat) (Option.some (Jvm.ClassFile.FieldType.array Jvm.ClassFile.FieldType.byte))]
set_option maxRecDepth 65536 in
theorem codes_eq : words1.filter isCode = codes1 := rfl
theorem w_codes : ∀ c ∈ words1.filter isCode, c.before args0 about1 = true := by
  rw [codes_eq]
  intro c hc
  simp only [codes1, List.mem_cons, List.not_mem_nil, or_false] at hc
  rcases hc with rfl | rfl | rfl | rfl | rfl | rfl | rfl | rfl | rfl | rfl | rfl | rfl | rfl | rfl | rfl | rfl | rfl | rfl | rfl | rfl | rfl | rfl | rfl | rfl | rfl | rfl | rfl | rfl | rfl | rfl | rfl | rfl | rfl | rfl | rfl | rfl | rfl | rfl | rfl | rfl | rfl | rfl | rfl | rfl | rfl | rfl | rfl | rfl | rfl | rfl | rfl | rfl | rfl
  · exact w_c0
  · exact w_c1
  · exact w_c2
  · exact w_c3
  · exact w_c4
  · exact w_c5
  · exact w_c6
  · exact w_c7
  · exact w_c8
  · exact w_c9
  · exact w_c10
  · exact w_c11
  · exact w_c12
  · exact w_c13
  · exact w_c14
  · exact w_c15
  · exact w_c16
  · exact w_c17
  · exact w_c18
  · exact w_c19
  · exact w_c20
  · exact w_c21
  · exact w_c22
  · exact w_c23
  · exact w_c24
  · exact w_c25
  · exact w_c26
  · exact w_c27
  · exact w_c28
  · exact w_c29
  · exact w_c30
  · exact w_c31
  · exact w_c32
  · exact w_c33
  · exact w_c34
  · exact w_c35
  · exact w_c36
  · exact w_c37
  · exact w_c38
  · exact w_c39
  · exact w_c40
  · exact w_c41
  · exact w_c42
  · exact w_c43
  · exact w_c44
  · exact w_c45
  · exact w_c46
  · exact w_c47
  · exact w_c48
  · exact w_c49
  · exact w_c50
  · exact w_c51
  · exact w_c52
set_option maxRecDepth 65536 in
theorem w_t1 : (words1.take 24).all (fun c => isCode c || c.before args0 about1) = true := by decide +kernel
set_option maxRecDepth 65536 in
theorem w_t2 : ((words1.drop 24).take 24).all (fun c => isCode c || c.before args0 about1) = true := by decide +kernel
set_option maxRecDepth 65536 in
theorem w_t3 : (((words1.drop 24).drop 24).take 24).all (fun c => isCode c || c.before args0 about1) = true := by decide +kernel
set_option maxRecDepth 65536 in
theorem w_t4 : ((((words1.drop 24).drop 24).drop 24).take 24).all (fun c => isCode c || c.before args0 about1) = true := by decide +kernel
set_option maxRecDepth 65536 in
theorem w_t5 : (((((words1.drop 24).drop 24).drop 24).drop 24).take 24).all (fun c => isCode c || c.before args0 about1) = true := by decide +kernel
set_option maxRecDepth 65536 in
theorem w_t6 : ((((((words1.drop 24).drop 24).drop 24).drop 24).drop 24).take 24).all (fun c => isCode c || c.before args0 about1) = true := by decide +kernel
set_option maxRecDepth 65536 in
theorem w_t7 : (((((((words1.drop 24).drop 24).drop 24).drop 24).drop 24).drop 24).take 24).all (fun c => isCode c || c.before args0 about1) = true := by decide +kernel
set_option maxRecDepth 65536 in
theorem w_t8 : ((((((((words1.drop 24).drop 24).drop 24).drop 24).drop 24).drop 24).drop 24).take 24).all (fun c => isCode c || c.before args0 about1) = true := by decide +kernel
set_option maxRecDepth 65536 in
theorem w_t9 : (((((((((words1.drop 24).drop 24).drop 24).drop 24).drop 24).drop 24).drop 24).drop 24).take 24).all (fun c => isCode c || c.before args0 about1) = true := by decide +kernel
set_option maxRecDepth 65536 in
theorem w_t10 : ((((((((((words1.drop 24).drop 24).drop 24).drop 24).drop 24).drop 24).drop 24).drop 24).drop 24).take 24).all (fun c => isCode c || c.before args0 about1) = true := by decide +kernel
set_option maxRecDepth 65536 in
theorem w_t11 : (((((((((((words1.drop 24).drop 24).drop 24).drop 24).drop 24).drop 24).drop 24).drop 24).drop 24).drop 24).take 24).all (fun c => isCode c || c.before args0 about1) = true := by decide +kernel
set_option maxRecDepth 65536 in
theorem w_t12 : (((((((((((words1.drop 24).drop 24).drop 24).drop 24).drop 24).drop 24).drop 24).drop 24).drop 24).drop 24).drop 24).all (fun c => isCode c || c.before args0 about1) = true := by decide +kernel
theorem w_tables : (allAtoms (Jvm.Cond.code x code maxLocals ret :: tables_1)).before args0 about1 = true := by
  rw [allAtoms_all]
  show words1.all (fun c => c.before args0 about1) = true
  refine all_split ?_ w_codes
  rw [← List.take_append_drop 24 words1, List.all_append, w_t1, ← List.take_append_drop 24 (words1.drop 24), List.all_append, w_t2, ← List.take_append_drop 24 ((words1.drop 24).drop 24), List.all_append, w_t3, ← List.take_append_drop 24 (((words1.drop 24).drop 24).drop 24), List.all_append, w_t4, ← List.take_append_drop 24 ((((words1.drop 24).drop 24).drop 24).drop 24), List.all_append, w_t5, ← List.take_append_drop 24 (((((words1.drop 24).drop 24).drop 24).drop 24).drop 24), List.all_append, w_t6, ← List.take_append_drop 24 ((((((words1.drop 24).drop 24).drop 24).drop 24).drop 24).drop 24), List.all_append, w_t7, ← List.take_append_drop 24 (((((((words1.drop 24).drop 24).drop 24).drop 24).drop 24).drop 24).drop 24), List.all_append, w_t8, ← List.take_append_drop 24 ((((((((words1.drop 24).drop 24).drop 24).drop 24).drop 24).drop 24).drop 24).drop 24), List.all_append, w_t9, ← List.take_append_drop 24 (((((((((words1.drop 24).drop 24).drop 24).drop 24).drop 24).drop 24).drop 24).drop 24).drop 24), List.all_append, w_t10, ← List.take_append_drop 24 ((((((((((words1.drop 24).drop 24).drop 24).drop 24).drop 24).drop 24).drop 24).drop 24).drop 24).drop 24), List.all_append, w_t11, w_t12]
  rfl
set_option maxRecDepth 65536 in
theorem w_rest : rest_1_c.before args0 about1 = true := by decide +kernel
set_option maxRecDepth 65536 in
theorem w_case : (Jvm.Cond.and given_1 narrow_1).before args0 about1 = true := by decide +kernel
set_option maxRecDepth 65536 in
theorem w_consts : constsHeld consts_1 about1 := Jvm.Lit.constsHeldB_iff.mp (by decide +kernel)
theorem w_applies : (headSpec (Jvm.Cond.code x code maxLocals ret :: tables_1) room_1).applies x e0.platform about1 = true :=
  (Spec.applies_iff w_frames).mpr ⟨w_running, w_runnable, w_alone, w_named, w_hears, w_ripe, w_room, w_tables⟩
theorem atStart : AtStart classFile x code maxLocals ret World_1 tables_1 room_1 Calls_1 rest_1 Pre_1 launch0 p0 e0 about1 theMethod args0 below0 :=
  ⟨lists_1, trivial, launch0.admits_env _ _ _, launch0.least_env, fairChoices_fair.cas, fairChoices_fair.clock, w_frames, w_args, w_heap, w_applies, ⟨w_consts, trivial⟩, w_rest, w_case⟩
end start1
theorem witness_1 : WitnessClaimed_1 := ⟨start1.p0, start1.e0, start1.about1, start1.theMethod, start1.args0, start1.below0, start1.atStart⟩
end Jvm.Pilot.@@N@@

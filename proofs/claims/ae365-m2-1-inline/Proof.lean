import JvmDerived
import JvmDerived.Pilot.@@N@@Statement
import JvmDerived.Pilot.@@N@@Code
set_option linter.unusedVariables false
set_option linter.unusedSimpArgs false
namespace Jvm.RoadKit
open Sem ClassFile Op Lib Jvm.Stand Jvm.Free Jvm.LawKit
section New
variable {p : Program} {l : Launch} {e : Env} {R : Room} {s : State} {m : MethodId} {args : Array Value} {below : List Frame} {meth : Method} {c : Code} {T : State} {locs : List Loc} {cells slots : Nat}
theorem retI (X : Stand p l e R s m args below meth c T locs cells slots) (hx : p.tables.exec = Jvm.exec) {pc : Nat} {Ls : Array Slot} {z : Int32} {rest : List Value} (hret : meth.sig.returnType = some .int) (hd : decode c.code pc = .ok (.ireturn, 1)) {fs : List Frame}
    (hl : ∀ (f : JFrame) (acts : List Action), f.method = m → f.locked = none → f.entered = [] → (doReturn e (T.setTop f) acts (some (.int z))).1 = T.setFrames fs) : Steps p.tables e below (T.setTop (mkF m pc Ls (.int z :: rest))) (T.setFrames fs) :=
  retOut X hx hret rfl (Or.inl ⟨rfl, Or.inl rfl, _, rfl⟩) hd hl
end New
end Jvm.RoadKit
namespace Jvm.Own
open Sem ClassFile Op Lib Jvm.Stand Jvm.Free Jvm.LawKit Jvm.RoadKit
/-- from here the run comes to a state that meets F -/
def Go (tb : Tables) (e : Env) (below : List Frame) (F : State → Prop) (T : State) (g : JFrame) : Prop := ∃ t, Steps tb e below (T.setTop g) t ∧ F t
section Steps0
variable {tb : Tables} {e : Env} {below : List Frame} {F : State → Prop} {T T' : State} {g g' : JFrame}
theorem Go.st (q : ∀ t, Steps tb e below (T'.setTop g') t → Steps tb e below (T.setTop g) t) (k : Go tb e below F T' g') : Go tb e below F T g := by
  obtain ⟨t, h1, h2⟩ := k
  exact ⟨t, q t h1, h2⟩
theorem Go.tr (q : Steps tb e below (T.setTop g) (T'.setTop g')) (k : Go tb e below F T' g') : Go tb e below F T g := by
  obtain ⟨t, h1, h2⟩ := k
  exact ⟨t, q.trans h1, h2⟩
end Steps0
section Steps
variable {tb : Tables} [Ours tb] {e : Env} {below : List Frame} {F : State → Prop} {T T' : State} {m : MethodId} {c : Code} {pc pc' : Nat} {Ls Ls' : Array Slot} {sk : List Value}
theorem s_iload (h : At T m c below) (hx : tb.exec = Jvm.exec) {k : Nat} {v : Int32} (hd : decode c.code pc = .ok (.iload k, 2)) (hp : pc + 2 = pc') (hl : Ls[k]? = some (.val (.int v)))  (q : Go tb e below F T (mkF m pc' Ls ((.int v) :: sk))) : Go tb e below F T (mkF m pc Ls (sk)) := by
  subst hp; exact Go.st (fun _ r => XS.iload (g := mkF m pc Ls (sk)) h hx rfl hd hl  r) q
theorem s_iloadN (h : At T m c below) (hx : tb.exec = Jvm.exec) {k : Fin 4} {v : Int32} (hd : decode c.code pc = .ok (.iload_n k, 1)) (hp : pc + 1 = pc') (hl : Ls[k.val]? = some (.val (.int v)))  (q : Go tb e below F T (mkF m pc' Ls ((.int v) :: sk))) : Go tb e below F T (mkF m pc Ls (sk)) := by
  subst hp; exact Go.st (fun _ r => XS.iloadN (g := mkF m pc Ls (sk)) h hx rfl hd hl  r) q
theorem s_istore (h : At T m c below) (hx : tb.exec = Jvm.exec) {k : Nat} {v : Int32} (hd : decode c.code pc = .ok (.istore k, 2)) (hp : pc + 2 = pc')  (hl : storeLocals Ls k (.int v) = some Ls') (q : Go tb e below F T (mkF m pc' Ls' (sk))) : Go tb e below F T (mkF m pc Ls ((.int v) :: sk)) := by
  subst hp; exact Go.st (fun _ r => XS.istore (g := mkF m pc Ls ((.int v) :: sk)) h hx rfl hd rfl  hl r) q
theorem s_istoreN (h : At T m c below) (hx : tb.exec = Jvm.exec) {k : Fin 4} {v : Int32} (hd : decode c.code pc = .ok (.istore_n k, 1)) (hp : pc + 1 = pc')  (hl : storeLocals Ls k.val (.int v) = some Ls') (q : Go tb e below F T (mkF m pc' Ls' (sk))) : Go tb e below F T (mkF m pc Ls ((.int v) :: sk)) := by
  subst hp; exact Go.st (fun _ r => XS.istoreN (g := mkF m pc Ls ((.int v) :: sk)) h hx rfl hd rfl  hl r) q
theorem s_lload (h : At T m c below) (hx : tb.exec = Jvm.exec) {k : Nat} {v : Int64} (hd : decode c.code pc = .ok (.lload k, 2)) (hp : pc + 2 = pc') (hl : Ls[k]? = some (.val (.long v)))  (q : Go tb e below F T (mkF m pc' Ls ((.long v) :: sk))) : Go tb e below F T (mkF m pc Ls (sk)) := by
  subst hp; exact Go.st (fun _ r => XS.lload (g := mkF m pc Ls (sk)) h hx rfl hd hl  r) q
theorem s_lloadN (h : At T m c below) (hx : tb.exec = Jvm.exec) {k : Fin 4} {v : Int64} (hd : decode c.code pc = .ok (.lload_n k, 1)) (hp : pc + 1 = pc') (hl : Ls[k.val]? = some (.val (.long v)))  (q : Go tb e below F T (mkF m pc' Ls ((.long v) :: sk))) : Go tb e below F T (mkF m pc Ls (sk)) := by
  subst hp; exact Go.st (fun _ r => XS.lloadN (g := mkF m pc Ls (sk)) h hx rfl hd hl  r) q
theorem s_lstore (h : At T m c below) (hx : tb.exec = Jvm.exec) {k : Nat} {v : Int64} (hd : decode c.code pc = .ok (.lstore k, 2)) (hp : pc + 2 = pc')  (hl : storeLocals Ls k (.long v) = some Ls') (q : Go tb e below F T (mkF m pc' Ls' (sk))) : Go tb e below F T (mkF m pc Ls ((.long v) :: sk)) := by
  subst hp; exact Go.st (fun _ r => XS.lstore (g := mkF m pc Ls ((.long v) :: sk)) h hx rfl hd rfl  hl r) q
theorem s_lstoreN (h : At T m c below) (hx : tb.exec = Jvm.exec) {k : Fin 4} {v : Int64} (hd : decode c.code pc = .ok (.lstore_n k, 1)) (hp : pc + 1 = pc')  (hl : storeLocals Ls k.val (.long v) = some Ls') (q : Go tb e below F T (mkF m pc' Ls' (sk))) : Go tb e below F T (mkF m pc Ls ((.long v) :: sk)) := by
  subst hp; exact Go.st (fun _ r => XS.lstoreN (g := mkF m pc Ls ((.long v) :: sk)) h hx rfl hd rfl  hl r) q
theorem s_dload (h : At T m c below) (hx : tb.exec = Jvm.exec) {k : Nat} {v : UInt64} (hd : decode c.code pc = .ok (.dload k, 2)) (hp : pc + 2 = pc') (hl : Ls[k]? = some (.val (.double v)))  (q : Go tb e below F T (mkF m pc' Ls ((.double v) :: sk))) : Go tb e below F T (mkF m pc Ls (sk)) := by
  subst hp; exact Go.st (fun _ r => XS.dload (g := mkF m pc Ls (sk)) h hx rfl hd hl  r) q
theorem s_dloadN (h : At T m c below) (hx : tb.exec = Jvm.exec) {k : Fin 4} {v : UInt64} (hd : decode c.code pc = .ok (.dload_n k, 1)) (hp : pc + 1 = pc') (hl : Ls[k.val]? = some (.val (.double v)))  (q : Go tb e below F T (mkF m pc' Ls ((.double v) :: sk))) : Go tb e below F T (mkF m pc Ls (sk)) := by
  subst hp; exact Go.st (fun _ r => XS.dloadN (g := mkF m pc Ls (sk)) h hx rfl hd hl  r) q
theorem s_dstore (h : At T m c below) (hx : tb.exec = Jvm.exec) {k : Nat} {v : UInt64} (hd : decode c.code pc = .ok (.dstore k, 2)) (hp : pc + 2 = pc')  (hl : storeLocals Ls k (.double v) = some Ls') (q : Go tb e below F T (mkF m pc' Ls' (sk))) : Go tb e below F T (mkF m pc Ls ((.double v) :: sk)) := by
  subst hp; exact Go.st (fun _ r => XS.dstore (g := mkF m pc Ls ((.double v) :: sk)) h hx rfl hd rfl  hl r) q
theorem s_dstoreN (h : At T m c below) (hx : tb.exec = Jvm.exec) {k : Fin 4} {v : UInt64} (hd : decode c.code pc = .ok (.dstore_n k, 1)) (hp : pc + 1 = pc')  (hl : storeLocals Ls k.val (.double v) = some Ls') (q : Go tb e below F T (mkF m pc' Ls' (sk))) : Go tb e below F T (mkF m pc Ls ((.double v) :: sk)) := by
  subst hp; exact Go.st (fun _ r => XS.dstoreN (g := mkF m pc Ls ((.double v) :: sk)) h hx rfl hd rfl  hl r) q
theorem s_aload (h : At T m c below) (hx : tb.exec = Jvm.exec) {k : Nat} {v : Value} (hd : decode c.code pc = .ok (.aload k, 2)) (hp : pc + 2 = pc') (hl : Ls[k]? = some (.val (v))) (hv : v.isRef = true) (q : Go tb e below F T (mkF m pc' Ls ((v) :: sk))) : Go tb e below F T (mkF m pc Ls (sk)) := by
  subst hp; exact Go.st (fun _ r => XS.aload (g := mkF m pc Ls (sk)) h hx rfl hd hl hv r) q
theorem s_aloadN (h : At T m c below) (hx : tb.exec = Jvm.exec) {k : Fin 4} {v : Value} (hd : decode c.code pc = .ok (.aload_n k, 1)) (hp : pc + 1 = pc') (hl : Ls[k.val]? = some (.val (v))) (hv : v.isRef = true) (q : Go tb e below F T (mkF m pc' Ls ((v) :: sk))) : Go tb e below F T (mkF m pc Ls (sk)) := by
  subst hp; exact Go.st (fun _ r => XS.aloadN (g := mkF m pc Ls (sk)) h hx rfl hd hl hv r) q
theorem s_astore (h : At T m c below) (hx : tb.exec = Jvm.exec) {k : Nat} {v : Value} (hd : decode c.code pc = .ok (.astore k, 2)) (hp : pc + 2 = pc') (hv : v.isRef = true) (hl : storeLocals Ls k (v) = some Ls') (q : Go tb e below F T (mkF m pc' Ls' (sk))) : Go tb e below F T (mkF m pc Ls ((v) :: sk)) := by
  subst hp; exact Go.st (fun _ r => XS.astore (g := mkF m pc Ls ((v) :: sk)) h hx rfl hd rfl hv hl r) q
theorem s_astoreN (h : At T m c below) (hx : tb.exec = Jvm.exec) {k : Fin 4} {v : Value} (hd : decode c.code pc = .ok (.astore_n k, 1)) (hp : pc + 1 = pc') (hv : v.isRef = true) (hl : storeLocals Ls k.val (v) = some Ls') (q : Go tb e below F T (mkF m pc' Ls' (sk))) : Go tb e below F T (mkF m pc Ls ((v) :: sk)) := by
  subst hp; exact Go.st (fun _ r => XS.astoreN (g := mkF m pc Ls ((v) :: sk)) h hx rfl hd rfl hv hl r) q
theorem s_iconst (h : At T m c below) (hx : tb.exec = Jvm.exec) {i : Int} {v : Int32} (hd : decode c.code pc = .ok (.iconst i, 1)) (hp : pc + 1 = pc') (hv : Int32.ofInt i = v) (q : Go tb e below F T (mkF m pc' Ls ((.int v) :: sk))) : Go tb e below F T (mkF m pc Ls sk) := by
  subst hp hv; exact Go.st (fun _ r => XS.iconst (g := mkF m pc Ls sk) h hx rfl hd r) q
theorem s_bipush (h : At T m c below) (hx : tb.exec = Jvm.exec) {i : Int} {v : Int32} (hd : decode c.code pc = .ok (.bipush i, 2)) (hp : pc + 2 = pc') (hv : (Int8.ofInt i).toInt32 = v) (q : Go tb e below F T (mkF m pc' Ls ((.int v) :: sk))) : Go tb e below F T (mkF m pc Ls sk) := by
  subst hp hv; exact Go.st (fun _ r => XS.bipush (g := mkF m pc Ls sk) h hx rfl hd r) q
theorem s_sipush (h : At T m c below) (hx : tb.exec = Jvm.exec) {i : Int} {v : Int32} (hd : decode c.code pc = .ok (.sipush i, 3)) (hp : pc + 3 = pc') (hv : (Int16.ofInt i).toInt32 = v) (q : Go tb e below F T (mkF m pc' Ls ((.int v) :: sk))) : Go tb e below F T (mkF m pc Ls sk) := by
  subst hp hv; exact Go.st (fun _ r => XS.sipush (g := mkF m pc Ls sk) h hx rfl hd r) q
theorem s_aconst_null (h : At T m c below) (hx : tb.exec = Jvm.exec) (hd : decode c.code pc = .ok (.aconst_null, 1)) (hp : pc + 1 = pc') (q : Go tb e below F T (mkF m pc' Ls (.null :: sk))) : Go tb e below F T (mkF m pc Ls sk) := by
  subst hp; exact Go.st (fun _ r => XS.aconstNull (g := mkF m pc Ls sk) h hx rfl hd r) q
theorem s_iadd (h : At T m c below) (hx : tb.exec = Jvm.exec) {x y z : Int32} (hd : decode c.code pc = .ok (.iadd, 1)) (hp : pc + 1 = pc') (hv : x + y = z) (q : Go tb e below F T (mkF m pc' Ls (.int z :: sk))) : Go tb e below F T (mkF m pc Ls (.int y :: .int x :: sk)) := by
  subst hp hv; exact Go.st (fun _ r => XS.iadd (g := mkF m pc Ls (.int y :: .int x :: sk)) h hx rfl hd rfl r) q
theorem s_isub (h : At T m c below) (hx : tb.exec = Jvm.exec) {x y z : Int32} (hd : decode c.code pc = .ok (.isub, 1)) (hp : pc + 1 = pc') (hv : x - y = z) (q : Go tb e below F T (mkF m pc' Ls (.int z :: sk))) : Go tb e below F T (mkF m pc Ls (.int y :: .int x :: sk)) := by
  subst hp hv; exact Go.st (fun _ r => XS.isub (g := mkF m pc Ls (.int y :: .int x :: sk)) h hx rfl hd rfl r) q
theorem s_imul (h : At T m c below) (hx : tb.exec = Jvm.exec) {x y z : Int32} (hd : decode c.code pc = .ok (.imul, 1)) (hp : pc + 1 = pc') (hv : x * y = z) (q : Go tb e below F T (mkF m pc' Ls (.int z :: sk))) : Go tb e below F T (mkF m pc Ls (.int y :: .int x :: sk)) := by
  subst hp hv; exact Go.st (fun _ r => XS.imul (g := mkF m pc Ls (.int y :: .int x :: sk)) h hx rfl hd rfl r) q
theorem s_iand (h : At T m c below) (hx : tb.exec = Jvm.exec) {x y z : Int32} (hd : decode c.code pc = .ok (.iand, 1)) (hp : pc + 1 = pc') (hv : x &&& y = z) (q : Go tb e below F T (mkF m pc' Ls (.int z :: sk))) : Go tb e below F T (mkF m pc Ls (.int y :: .int x :: sk)) := by
  subst hp hv; exact Go.st (fun _ r => XS.iand (g := mkF m pc Ls (.int y :: .int x :: sk)) h hx rfl hd rfl r) q
theorem s_ior (h : At T m c below) (hx : tb.exec = Jvm.exec) {x y z : Int32} (hd : decode c.code pc = .ok (.ior, 1)) (hp : pc + 1 = pc') (hv : x ||| y = z) (q : Go tb e below F T (mkF m pc' Ls (.int z :: sk))) : Go tb e below F T (mkF m pc Ls (.int y :: .int x :: sk)) := by
  subst hp hv; exact Go.st (fun _ r => XS.ior (g := mkF m pc Ls (.int y :: .int x :: sk)) h hx rfl hd rfl r) q
theorem s_ixor (h : At T m c below) (hx : tb.exec = Jvm.exec) {x y z : Int32} (hd : decode c.code pc = .ok (.ixor, 1)) (hp : pc + 1 = pc') (hv : x ^^^ y = z) (q : Go tb e below F T (mkF m pc' Ls (.int z :: sk))) : Go tb e below F T (mkF m pc Ls (.int y :: .int x :: sk)) := by
  subst hp hv; exact Go.st (fun _ r => XS.ixor (g := mkF m pc Ls (.int y :: .int x :: sk)) h hx rfl hd rfl r) q
theorem s_ishl (h : At T m c below) (hx : tb.exec = Jvm.exec) {x y z : Int32} (hd : decode c.code pc = .ok (.ishl, 1)) (hp : pc + 1 = pc') (hv : x <<< (y &&& 31) = z) (q : Go tb e below F T (mkF m pc' Ls (.int z :: sk))) : Go tb e below F T (mkF m pc Ls (.int y :: .int x :: sk)) := by
  subst hp hv; exact Go.st (fun _ r => XS.ishl (g := mkF m pc Ls (.int y :: .int x :: sk)) h hx rfl hd rfl r) q
theorem s_ishr (h : At T m c below) (hx : tb.exec = Jvm.exec) {x y z : Int32} (hd : decode c.code pc = .ok (.ishr, 1)) (hp : pc + 1 = pc') (hv : x >>> (y &&& 31) = z) (q : Go tb e below F T (mkF m pc' Ls (.int z :: sk))) : Go tb e below F T (mkF m pc Ls (.int y :: .int x :: sk)) := by
  subst hp hv; exact Go.st (fun _ r => XS.ishr (g := mkF m pc Ls (.int y :: .int x :: sk)) h hx rfl hd rfl r) q
theorem s_iushr (h : At T m c below) (hx : tb.exec = Jvm.exec) {x y z : Int32} (hd : decode c.code pc = .ok (.iushr, 1)) (hp : pc + 1 = pc') (hv : (x.toUInt32 >>> (y &&& 31).toUInt32).toInt32 = z) (q : Go tb e below F T (mkF m pc' Ls (.int z :: sk))) : Go tb e below F T (mkF m pc Ls (.int y :: .int x :: sk)) := by
  subst hp hv; exact Go.st (fun _ r => XS.iushr (g := mkF m pc Ls (.int y :: .int x :: sk)) h hx rfl hd rfl r) q
theorem s_ladd (h : At T m c below) (hx : tb.exec = Jvm.exec) {x y z : Int64} (hd : decode c.code pc = .ok (.ladd, 1)) (hp : pc + 1 = pc') (hv : x + y = z) (q : Go tb e below F T (mkF m pc' Ls (.long z :: sk))) : Go tb e below F T (mkF m pc Ls (.long y :: .long x :: sk)) := by
  subst hp hv; exact Go.st (fun _ r => XS.ladd (g := mkF m pc Ls (.long y :: .long x :: sk)) h hx rfl hd rfl r) q
theorem s_lsub (h : At T m c below) (hx : tb.exec = Jvm.exec) {x y z : Int64} (hd : decode c.code pc = .ok (.lsub, 1)) (hp : pc + 1 = pc') (hv : x - y = z) (q : Go tb e below F T (mkF m pc' Ls (.long z :: sk))) : Go tb e below F T (mkF m pc Ls (.long y :: .long x :: sk)) := by
  subst hp hv; exact Go.st (fun _ r => XS.lsub (g := mkF m pc Ls (.long y :: .long x :: sk)) h hx rfl hd rfl r) q
theorem s_lmul (h : At T m c below) (hx : tb.exec = Jvm.exec) {x y z : Int64} (hd : decode c.code pc = .ok (.lmul, 1)) (hp : pc + 1 = pc') (hv : x * y = z) (q : Go tb e below F T (mkF m pc' Ls (.long z :: sk))) : Go tb e below F T (mkF m pc Ls (.long y :: .long x :: sk)) := by
  subst hp hv; exact Go.st (fun _ r => XS.lmul (g := mkF m pc Ls (.long y :: .long x :: sk)) h hx rfl hd rfl r) q
theorem s_land (h : At T m c below) (hx : tb.exec = Jvm.exec) {x y z : Int64} (hd : decode c.code pc = .ok (.land, 1)) (hp : pc + 1 = pc') (hv : x &&& y = z) (q : Go tb e below F T (mkF m pc' Ls (.long z :: sk))) : Go tb e below F T (mkF m pc Ls (.long y :: .long x :: sk)) := by
  subst hp hv; exact Go.st (fun _ r => XS.land (g := mkF m pc Ls (.long y :: .long x :: sk)) h hx rfl hd rfl r) q
theorem s_lor (h : At T m c below) (hx : tb.exec = Jvm.exec) {x y z : Int64} (hd : decode c.code pc = .ok (.lor, 1)) (hp : pc + 1 = pc') (hv : x ||| y = z) (q : Go tb e below F T (mkF m pc' Ls (.long z :: sk))) : Go tb e below F T (mkF m pc Ls (.long y :: .long x :: sk)) := by
  subst hp hv; exact Go.st (fun _ r => XS.lor (g := mkF m pc Ls (.long y :: .long x :: sk)) h hx rfl hd rfl r) q
theorem s_lxor (h : At T m c below) (hx : tb.exec = Jvm.exec) {x y z : Int64} (hd : decode c.code pc = .ok (.lxor, 1)) (hp : pc + 1 = pc') (hv : x ^^^ y = z) (q : Go tb e below F T (mkF m pc' Ls (.long z :: sk))) : Go tb e below F T (mkF m pc Ls (.long y :: .long x :: sk)) := by
  subst hp hv; exact Go.st (fun _ r => XS.lxor (g := mkF m pc Ls (.long y :: .long x :: sk)) h hx rfl hd rfl r) q
theorem s_lshl (h : At T m c below) (hx : tb.exec = Jvm.exec) {x z : Int64} {y : Int32} (hd : decode c.code pc = .ok (.lshl, 1)) (hp : pc + 1 = pc') (hv : x <<< (y &&& 0x3f).toInt64 = z) (q : Go tb e below F T (mkF m pc' Ls (.long z :: sk))) : Go tb e below F T (mkF m pc Ls (.int y :: .long x :: sk)) := by
  subst hp hv; exact Go.st (fun _ r => XS.lshl (g := mkF m pc Ls (.int y :: .long x :: sk)) h hx rfl hd rfl r) q
theorem s_lshr (h : At T m c below) (hx : tb.exec = Jvm.exec) {x z : Int64} {y : Int32} (hd : decode c.code pc = .ok (.lshr, 1)) (hp : pc + 1 = pc') (hv : x >>> (y &&& 0x3f).toInt64 = z) (q : Go tb e below F T (mkF m pc' Ls (.long z :: sk))) : Go tb e below F T (mkF m pc Ls (.int y :: .long x :: sk)) := by
  subst hp hv; exact Go.st (fun _ r => XS.lshr (g := mkF m pc Ls (.int y :: .long x :: sk)) h hx rfl hd rfl r) q
theorem s_lushr (h : At T m c below) (hx : tb.exec = Jvm.exec) {x z : Int64} {y : Int32} (hd : decode c.code pc = .ok (.lushr, 1)) (hp : pc + 1 = pc') (hv : (x.toUInt64 >>> (y &&& 0x3f).toInt64.toUInt64).toInt64 = z) (q : Go tb e below F T (mkF m pc' Ls (.long z :: sk))) : Go tb e below F T (mkF m pc Ls (.int y :: .long x :: sk)) := by
  subst hp hv; exact Go.st (fun _ r => XS.lushr (g := mkF m pc Ls (.int y :: .long x :: sk)) h hx rfl hd rfl r) q
theorem s_ineg (h : At T m c below) (hx : tb.exec = Jvm.exec) {x : Int32} {z : Int32} (hd : decode c.code pc = .ok (.ineg, 1)) (hp : pc + 1 = pc') (hv : -x = z) (q : Go tb e below F T (mkF m pc' Ls (.int z :: sk))) : Go tb e below F T (mkF m pc Ls (.int x :: sk)) := by
  subst hp hv; exact Go.st (fun _ r => XS.ineg (g := mkF m pc Ls (.int x :: sk)) h hx rfl hd rfl r) q
theorem s_lneg (h : At T m c below) (hx : tb.exec = Jvm.exec) {x : Int64} {z : Int64} (hd : decode c.code pc = .ok (.lneg, 1)) (hp : pc + 1 = pc') (hv : -x = z) (q : Go tb e below F T (mkF m pc' Ls (.long z :: sk))) : Go tb e below F T (mkF m pc Ls (.long x :: sk)) := by
  subst hp hv; exact Go.st (fun _ r => XS.lneg (g := mkF m pc Ls (.long x :: sk)) h hx rfl hd rfl r) q
theorem s_i2l (h : At T m c below) (hx : tb.exec = Jvm.exec) {x : Int32} {z : Int64} (hd : decode c.code pc = .ok (.i2l, 1)) (hp : pc + 1 = pc') (hv : x.toInt64 = z) (q : Go tb e below F T (mkF m pc' Ls (.long z :: sk))) : Go tb e below F T (mkF m pc Ls (.int x :: sk)) := by
  subst hp hv; exact Go.st (fun _ r => XS.i2l (g := mkF m pc Ls (.int x :: sk)) h hx rfl hd rfl r) q
theorem s_l2i (h : At T m c below) (hx : tb.exec = Jvm.exec) {x : Int64} {z : Int32} (hd : decode c.code pc = .ok (.l2i, 1)) (hp : pc + 1 = pc') (hv : x.toInt32 = z) (q : Go tb e below F T (mkF m pc' Ls (.int z :: sk))) : Go tb e below F T (mkF m pc Ls (.long x :: sk)) := by
  subst hp hv; exact Go.st (fun _ r => XS.l2i (g := mkF m pc Ls (.long x :: sk)) h hx rfl hd rfl r) q
theorem s_i2b (h : At T m c below) (hx : tb.exec = Jvm.exec) {x : Int32} {z : Int32} (hd : decode c.code pc = .ok (.i2b, 1)) (hp : pc + 1 = pc') (hv : x.toInt8.toInt32 = z) (q : Go tb e below F T (mkF m pc' Ls (.int z :: sk))) : Go tb e below F T (mkF m pc Ls (.int x :: sk)) := by
  subst hp hv; exact Go.st (fun _ r => XS.i2b (g := mkF m pc Ls (.int x :: sk)) h hx rfl hd rfl r) q
theorem s_i2s (h : At T m c below) (hx : tb.exec = Jvm.exec) {x : Int32} {z : Int32} (hd : decode c.code pc = .ok (.i2s, 1)) (hp : pc + 1 = pc') (hv : x.toInt16.toInt32 = z) (q : Go tb e below F T (mkF m pc' Ls (.int z :: sk))) : Go tb e below F T (mkF m pc Ls (.int x :: sk)) := by
  subst hp hv; exact Go.st (fun _ r => XS.i2s (g := mkF m pc Ls (.int x :: sk)) h hx rfl hd rfl r) q
theorem s_i2c (h : At T m c below) (hx : tb.exec = Jvm.exec) {x : Int32} {z : Int32} (hd : decode c.code pc = .ok (.i2c, 1)) (hp : pc + 1 = pc') (hv : x.toUInt32.toUInt16.toUInt32.toInt32 = z) (q : Go tb e below F T (mkF m pc' Ls (.int z :: sk))) : Go tb e below F T (mkF m pc Ls (.int x :: sk)) := by
  subst hp hv; exact Go.st (fun _ r => XS.i2c (g := mkF m pc Ls (.int x :: sk)) h hx rfl hd rfl r) q
theorem s_lcmp (h : At T m c below) (hx : tb.exec = Jvm.exec) {x y : Int64} {z : Int32} (hd : decode c.code pc = .ok (.lcmp, 1)) (hp : pc + 1 = pc') (hv : lcmpW x y = z) (q : Go tb e below F T (mkF m pc' Ls (.int z :: sk))) : Go tb e below F T (mkF m pc Ls (.long y :: .long x :: sk)) := by
  subst hp hv; exact Go.st (fun _ r => XS.lcmp (g := mkF m pc Ls (.long y :: .long x :: sk)) h hx rfl hd rfl r) q
theorem s_idiv (h : At T m c below) (hx : tb.exec = Jvm.exec) {x y z : Int32} (hd : decode c.code pc = .ok (.idiv, 1)) (hp : pc + 1 = pc') (hy : ¬ y = 0) (hv : x / y = z) (q : Go tb e below F T (mkF m pc' Ls (.int z :: sk))) : Go tb e below F T (mkF m pc Ls (.int y :: .int x :: sk)) := by
  subst hp hv; exact Go.st (fun _ r => XS.idiv (g := mkF m pc Ls (.int y :: .int x :: sk)) h hx rfl hd rfl hy r) q
theorem s_irem (h : At T m c below) (hx : tb.exec = Jvm.exec) {x y z : Int32} (hd : decode c.code pc = .ok (.irem, 1)) (hp : pc + 1 = pc') (hy : ¬ y = 0) (hv : x % y = z) (q : Go tb e below F T (mkF m pc' Ls (.int z :: sk))) : Go tb e below F T (mkF m pc Ls (.int y :: .int x :: sk)) := by
  subst hp; rw [← irem_eq_mod x y] at hv; subst hv; exact Go.st (fun _ r => XS.irem (g := mkF m pc Ls (.int y :: .int x :: sk)) h hx rfl hd rfl hy r) q
theorem s_ldiv (h : At T m c below) (hx : tb.exec = Jvm.exec) {x y z : Int64} (hd : decode c.code pc = .ok (.ldiv, 1)) (hp : pc + 1 = pc') (hy : ¬ y = 0) (hv : x / y = z) (q : Go tb e below F T (mkF m pc' Ls (.long z :: sk))) : Go tb e below F T (mkF m pc Ls (.long y :: .long x :: sk)) := by
  subst hp hv; exact Go.st (fun _ r => XS.ldiv (g := mkF m pc Ls (.long y :: .long x :: sk)) h hx rfl hd rfl hy r) q
theorem s_lrem (h : At T m c below) (hx : tb.exec = Jvm.exec) {x y z : Int64} (hd : decode c.code pc = .ok (.lrem, 1)) (hp : pc + 1 = pc') (hy : ¬ y = 0) (hv : x % y = z) (q : Go tb e below F T (mkF m pc' Ls (.long z :: sk))) : Go tb e below F T (mkF m pc Ls (.long y :: .long x :: sk)) := by
  subst hp; rw [← lrem_mod x y] at hv; subst hv; exact Go.st (fun _ r => XS.lrem (g := mkF m pc Ls (.long y :: .long x :: sk)) h hx rfl hd rfl hy r) q
theorem s_dup (h : At T m c below) (hx : tb.exec = Jvm.exec) {v : Value} (hd : decode c.code pc = .ok (.dup, 1)) (hp : pc + 1 = pc') (hc : v.category = 1) (q : Go tb e below F T (mkF m pc' Ls (v :: v :: sk))) : Go tb e below F T (mkF m pc Ls (v :: sk)) := by
  subst hp; exact Go.st (fun _ r => XS.dup (g := mkF m pc Ls (v :: sk)) h hx rfl hd rfl hc r) q
theorem s_pop (h : At T m c below) (hx : tb.exec = Jvm.exec) {v : Value} (hd : decode c.code pc = .ok (.pop, 1)) (hp : pc + 1 = pc') (hc : v.category = 1) (q : Go tb e below F T (mkF m pc' Ls (sk))) : Go tb e below F T (mkF m pc Ls (v :: sk)) := by
  subst hp; exact Go.st (fun _ r => XS.pop (g := mkF m pc Ls (v :: sk)) h hx rfl hd rfl hc r) q
theorem s_dup_x1 (h : At T m c below) (hx : tb.exec = Jvm.exec) {v w : Value} (hd : decode c.code pc = .ok (.dup_x1, 1)) (hp : pc + 1 = pc') (hc : v.category = 1) (hc' : w.category = 1) (q : Go tb e below F T (mkF m pc' Ls (v :: w :: v :: sk))) : Go tb e below F T (mkF m pc Ls (v :: w :: sk)) := by
  subst hp; exact Go.st (fun _ r => XS.dupX1 (g := mkF m pc Ls (v :: w :: sk)) h hx rfl hd rfl hc hc' r) q
theorem s_iinc (h : At T m c below) (hx : tb.exec = Jvm.exec) {k : Nat} {i : Int} (hd : decode c.code pc = .ok (.iinc k i, 3)) (hp : pc + 3 = pc') {x z : Int32} (hl : Ls[k]? = some (.val (.int x))) (hv : x + Int32.ofInt i = z) (hs : storeLocals Ls k (.int z) = some Ls') (q : Go tb e below F T (mkF m pc' Ls' (sk))) : Go tb e below F T (mkF m pc Ls (sk)) := by
  subst hp hv; exact Go.st (fun _ r => XS.iinc (g := mkF m pc Ls (sk)) h hx rfl hd hl hs r) q
theorem s_lconst (h : At T m c below) (hx : tb.exec = Jvm.exec) {i : Fin 2} {v : Int64} (hd : decode c.code pc = .ok (.lconst i, 1)) (hp : pc + 1 = pc') (hv : Int64.ofNat i = v) (q : Go tb e below F T (mkF m pc' Ls (.long v :: sk))) : Go tb e below F T (mkF m pc Ls (sk)) := by
  subst hp hv; exact Go.st (fun _ r => XS.lconst (g := mkF m pc Ls (sk)) h hx rfl hd  r) q
theorem s_i2d (h : At T m c below) (hx : tb.exec = Jvm.exec) {x : Int32} {z : UInt64} (hd : decode c.code pc = .ok (.i2d, 1)) (hp : pc + 1 = pc') (hv : FP.i2d x = z) (q : Go tb e below F T (mkF m pc' Ls (.double z :: sk))) : Go tb e below F T (mkF m pc Ls (.int x :: sk)) := by
  subst hp; exact Go.st (fun _ r => XS.i2dS (g := mkF m pc Ls (.int x :: sk)) h hx rfl hd rfl hv r) q
theorem s_l2d (h : At T m c below) (hx : tb.exec = Jvm.exec) {x : Int64} {z : UInt64} (hd : decode c.code pc = .ok (.l2d, 1)) (hp : pc + 1 = pc') (hv : FP.l2d x = z) (q : Go tb e below F T (mkF m pc' Ls (.double z :: sk))) : Go tb e below F T (mkF m pc Ls (.long x :: sk)) := by
  subst hp; exact Go.st (fun _ r => XS.l2dS (g := mkF m pc Ls (.long x :: sk)) h hx rfl hd rfl hv r) q
theorem s_d2i (h : At T m c below) (hx : tb.exec = Jvm.exec) {x : UInt64} {z : Int32} (hd : decode c.code pc = .ok (.d2i, 1)) (hp : pc + 1 = pc') (hv : FP.d2i x = z) (q : Go tb e below F T (mkF m pc' Ls (.int z :: sk))) : Go tb e below F T (mkF m pc Ls (.double x :: sk)) := by
  subst hp; exact Go.st (fun _ r => XS.d2iS (g := mkF m pc Ls (.double x :: sk)) h hx rfl hd rfl hv r) q
theorem s_d2l (h : At T m c below) (hx : tb.exec = Jvm.exec) {x : UInt64} {z : Int64} (hd : decode c.code pc = .ok (.d2l, 1)) (hp : pc + 1 = pc') (hv : FP.d2l x = z) (q : Go tb e below F T (mkF m pc' Ls (.long z :: sk))) : Go tb e below F T (mkF m pc Ls (.double x :: sk)) := by
  subst hp; exact Go.st (fun _ r => XS.d2lS (g := mkF m pc Ls (.double x :: sk)) h hx rfl hd rfl hv r) q
theorem s_dneg (h : At T m c below) (hx : tb.exec = Jvm.exec) {x z : UInt64} (hd : decode c.code pc = .ok (.dneg, 1)) (hp : pc + 1 = pc') (hv : FP.dneg x = z) (q : Go tb e below F T (mkF m pc' Ls (.double z :: sk))) : Go tb e below F T (mkF m pc Ls (.double x :: sk)) := by
  subst hp; exact Go.st (fun _ r => XS.dnegS (g := mkF m pc Ls (.double x :: sk)) h hx rfl hd rfl hv r) q
theorem s_dcmpl (h : At T m c below) (hx : tb.exec = Jvm.exec) {x y : UInt64} {z : Int32} (hd : decode c.code pc = .ok (.dcmp .l, 1)) (hp : pc + 1 = pc') (hv : cmpValue (FP.dcmp x y) .l = z) (q : Go tb e below F T (mkF m pc' Ls (.int z :: sk))) : Go tb e below F T (mkF m pc Ls (.double y :: .double x :: sk)) := by
  subst hp; exact Go.st (fun _ r => XS.dcmpS (g := mkF m pc Ls (.double y :: .double x :: sk)) h hx rfl hd rfl hv r) q
theorem s_dcmpg (h : At T m c below) (hx : tb.exec = Jvm.exec) {x y : UInt64} {z : Int32} (hd : decode c.code pc = .ok (.dcmp .g, 1)) (hp : pc + 1 = pc') (hv : cmpValue (FP.dcmp x y) .g = z) (q : Go tb e below F T (mkF m pc' Ls (.int z :: sk))) : Go tb e below F T (mkF m pc Ls (.double y :: .double x :: sk)) := by
  subst hp; exact Go.st (fun _ r => XS.dcmpS (g := mkF m pc Ls (.double y :: .double x :: sk)) h hx rfl hd rfl hv r) q
theorem s_dadd (h : At T m c below) (hx : tb.exec = Jvm.exec) {x y z : UInt64} (hd : decode c.code pc = .ok (.dadd, 1)) (hp : pc + 1 = pc') (hn : Jvm.Free.Fl.NoNaN64 (FP.dadd x y)) (hv : FP.dadd x y = z) (q : Go tb e below F T (mkF m pc' Ls (.double z :: sk))) : Go tb e below F T (mkF m pc Ls (.double y :: .double x :: sk)) := by
  subst hp; exact Go.st (fun _ r => XS.daddS (g := mkF m pc Ls (.double y :: .double x :: sk)) h hx rfl hd rfl hn hv r) q
theorem s_dsub (h : At T m c below) (hx : tb.exec = Jvm.exec) {x y z : UInt64} (hd : decode c.code pc = .ok (.dsub, 1)) (hp : pc + 1 = pc') (hn : Jvm.Free.Fl.NoNaN64 (FP.dsub x y)) (hv : FP.dsub x y = z) (q : Go tb e below F T (mkF m pc' Ls (.double z :: sk))) : Go tb e below F T (mkF m pc Ls (.double y :: .double x :: sk)) := by
  subst hp; exact Go.st (fun _ r => XS.dsubS (g := mkF m pc Ls (.double y :: .double x :: sk)) h hx rfl hd rfl hn hv r) q
theorem s_dmul (h : At T m c below) (hx : tb.exec = Jvm.exec) {x y z : UInt64} (hd : decode c.code pc = .ok (.dmul, 1)) (hp : pc + 1 = pc') (hn : Jvm.Free.Fl.NoNaN64 (FP.dmul x y)) (hv : FP.dmul x y = z) (q : Go tb e below F T (mkF m pc' Ls (.double z :: sk))) : Go tb e below F T (mkF m pc Ls (.double y :: .double x :: sk)) := by
  subst hp; exact Go.st (fun _ r => XS.dmulS (g := mkF m pc Ls (.double y :: .double x :: sk)) h hx rfl hd rfl hn hv r) q
theorem s_ddiv (h : At T m c below) (hx : tb.exec = Jvm.exec) {x y z : UInt64} (hd : decode c.code pc = .ok (.ddiv, 1)) (hp : pc + 1 = pc') (hn : Jvm.Free.Fl.NoNaN64 (FP.ddiv x y)) (hv : FP.ddiv x y = z) (q : Go tb e below F T (mkF m pc' Ls (.double z :: sk))) : Go tb e below F T (mkF m pc Ls (.double y :: .double x :: sk)) := by
  subst hp; exact Go.st (fun _ r => XS.ddivS (g := mkF m pc Ls (.double y :: .double x :: sk)) h hx rfl hd rfl hn hv r) q
theorem s_dconst0 (h : At T m c below) (hx : tb.exec = Jvm.exec) {v : UInt64} (hd : decode c.code pc = .ok (.dconst 0, 1)) (hp : pc + 1 = pc') (hv : FP.dconst0 = v) (q : Go tb e below F T (mkF m pc' Ls (.double v :: sk))) : Go tb e below F T (mkF m pc Ls (sk)) := by
  subst hp; exact Go.st (fun _ r => XS.dconst0 (g := mkF m pc Ls (sk)) h hx rfl hd hv r) q
theorem s_dconst1 (h : At T m c below) (hx : tb.exec = Jvm.exec) {v : UInt64} (hd : decode c.code pc = .ok (.dconst 1, 1)) (hp : pc + 1 = pc') (hv : FP.dconst1 = v) (q : Go tb e below F T (mkF m pc' Ls (.double v :: sk))) : Go tb e below F T (mkF m pc Ls (sk)) := by
  subst hp; exact Go.st (fun _ r => XS.dconst1 (g := mkF m pc Ls (sk)) h hx rfl hd hv r) q
theorem s_goto (h : At T m c below) (hx : tb.exec = Jvm.exec) {o : Int} (hd : decode c.code pc = .ok (.goto o, 3)) (ho : 0 ≤ (pc : Int) + o) (hp : ((pc : Int) + o).toNat = pc') (q : Go tb e below F T (mkF m pc' Ls sk)) : Go tb e below F T (mkF m pc Ls sk) :=
  Go.st (fun _ r => XS.goto (g := mkF m pc Ls sk) h hx rfl (pc0 := pc) (pc' := pc') rfl hd ho hp r) q
theorem s_ifY (h : At T m c below) (hx : tb.exec = Jvm.exec) {cd : ClassFile.Cond} {o : Int} {x : Int32} (hd : decode c.code pc = .ok (.ifCond cd o, 3)) (hc : ifCond.holds cd x = true) (ho : 0 ≤ (pc : Int) + o) (hp : ((pc : Int) + o).toNat = pc') (q : Go tb e below F T (mkF m pc' Ls sk)) : Go tb e below F T (mkF m pc Ls (.int x :: sk)) :=
  Go.st (fun _ r => XS.ifYes (g := mkF m pc Ls (.int x :: sk)) h hx rfl (pc0 := pc) (pc' := pc') rfl hd rfl hc ho hp r) q
theorem s_ifN (h : At T m c below) (hx : tb.exec = Jvm.exec) {cd : ClassFile.Cond} {o : Int} {x : Int32} (hd : decode c.code pc = .ok (.ifCond cd o, 3)) (hp : pc + 3 = pc') (hc : ifCond.holds cd x = false) (q : Go tb e below F T (mkF m pc' Ls sk)) : Go tb e below F T (mkF m pc Ls (.int x :: sk)) := by
  subst hp; exact Go.st (fun _ r => XS.ifNo (g := mkF m pc Ls (.int x :: sk)) h hx rfl hd rfl hc r) q
theorem s_icmpY (h : At T m c below) (hx : tb.exec = Jvm.exec) {cd : ClassFile.Cond} {o : Int} {x y : Int32} (hd : decode c.code pc = .ok (.if_icmp cd o, 3)) (hc : if_icmp.holds cd x y = true) (ho : 0 ≤ (pc : Int) + o) (hp : ((pc : Int) + o).toNat = pc') (q : Go tb e below F T (mkF m pc' Ls sk)) : Go tb e below F T (mkF m pc Ls (.int y :: .int x :: sk)) :=
  Go.st (fun _ r => XS.icmpYes (g := mkF m pc Ls (.int y :: .int x :: sk)) h hx rfl (pc0 := pc) (pc' := pc') rfl hd rfl hc ho hp r) q
theorem s_icmpN (h : At T m c below) (hx : tb.exec = Jvm.exec) {cd : ClassFile.Cond} {o : Int} {x y : Int32} (hd : decode c.code pc = .ok (.if_icmp cd o, 3)) (hp : pc + 3 = pc') (hc : if_icmp.holds cd x y = false) (q : Go tb e below F T (mkF m pc' Ls sk)) : Go tb e below F T (mkF m pc Ls (.int y :: .int x :: sk)) := by
  subst hp; exact Go.st (fun _ r => XS.icmpNo (g := mkF m pc Ls (.int y :: .int x :: sk)) h hx rfl hd rfl hc r) q
theorem s_ifnullY (h : At T m c below) (hx : tb.exec = Jvm.exec) {o : Int} (hd : decode c.code pc = .ok (.ifnull o, 3)) (ho : 0 ≤ (pc : Int) + o) (hp : ((pc : Int) + o).toNat = pc') (q : Go tb e below F T (mkF m pc' Ls sk)) : Go tb e below F T (mkF m pc Ls (.null :: sk)) :=
  Go.st (fun _ r => XS.ifnullYes (g := mkF m pc Ls (.null :: sk)) h hx rfl (pc0 := pc) (pc' := pc') rfl hd rfl ho hp r) q
theorem s_ifnullN (h : At T m c below) (hx : tb.exec = Jvm.exec) {o : Int} {b : Addr} (hd : decode c.code pc = .ok (.ifnull o, 3)) (hp : pc + 3 = pc') (q : Go tb e below F T (mkF m pc' Ls sk)) : Go tb e below F T (mkF m pc Ls ((.ref b) :: sk)) := by
  subst hp; exact Go.st (fun _ r => XS.ifnullNo (g := mkF m pc Ls ((.ref b) :: sk)) h hx rfl hd rfl r) q
theorem s_ifnonnullY (h : At T m c below) (hx : tb.exec = Jvm.exec) {o : Int} {b : Addr} (hd : decode c.code pc = .ok (.ifnonnull o, 3)) (ho : 0 ≤ (pc : Int) + o) (hp : ((pc : Int) + o).toNat = pc') (q : Go tb e below F T (mkF m pc' Ls sk)) : Go tb e below F T (mkF m pc Ls ((.ref b) :: sk)) :=
  Go.st (fun _ r => XS.ifnonnullYes (g := mkF m pc Ls ((.ref b) :: sk)) h hx rfl (pc0 := pc) (pc' := pc') rfl hd rfl ho hp r) q
theorem s_ifnonnullN (h : At T m c below) (hx : tb.exec = Jvm.exec) {o : Int} (hd : decode c.code pc = .ok (.ifnonnull o, 3)) (hp : pc + 3 = pc') (q : Go tb e below F T (mkF m pc' Ls sk)) : Go tb e below F T (mkF m pc Ls (.null :: sk)) := by
  subst hp; exact Go.st (fun _ r => XS.ifnonnullNo (g := mkF m pc Ls (.null :: sk)) h hx rfl hd rfl r) q
end Steps
end Jvm.Own
namespace Jvm.Own
open Sem ClassFile Op Lib Bundle Jvm.Stand Jvm.Free Jvm.LawKit Jvm.RoadKit
section Ends
variable {tb : Tables} {e : Env} {below : List Frame} {F : State → Prop} {T t : State} {g : JFrame}
theorem Go.fin (h : Steps tb e below (T.setTop g) t) (k : F t) : Go tb e below F T g := ⟨t, h, k⟩
theorem fin_of {P : State → Outcome → Prop} (k : ∀ F : State → Prop, (∀ t o, t.status = .running → Ended t below o → P t o → F t) → Go tb e below F T g) : ∃ s₂ o, Steps tb e below (T.setTop g) s₂ ∧ s₂.status = .running ∧ Ended s₂ below o ∧ P s₂ o := by
  obtain ⟨t, h1, o, h2, h3, h4⟩ := k (fun t => ∃ o, t.status = .running ∧ Ended t below o ∧ P t o) fun t o h2 h3 h4 => ⟨o, h2, h3, h4⟩
  exact ⟨t, o, h1, h2, h3, h4⟩
end Ends
theorem cat_of_ref {v : Value} (h : v.isRef = true) : v.category = 1 := by rcases ref_cases h with rfl | ⟨a, rfl⟩ <;> rfl
theorem own_fits_ref {v : Value} {t : FieldType} (ht : t.isReference = true) (h : v.isRef = true) : fits t v = true := by rcases ref_cases h with rfl | ⟨a, rfl⟩ <;> cases t <;> first | rfl | (cases ht)
theorem own_narrow_ref {v : Value} {t : FieldType} (h : v.isRef = true) : narrow t v = v := by rcases ref_cases h with rfl | ⟨a, rfl⟩ <;> cases t <;> rfl
theorem wideOn {Z s : State} {vm0 vm1 : Vm} {n : Nat} {own : String} {k : ClassId} (hZ : Z.Warmed39 vm0) (hS : (s.setVm vm0).Since vm1 n) (hown : vm0.findClass own = some k) : Z.Warmed39 vm1 ∧ vm1.findClass own = some k :=
  ⟨State.Warmed39.trans (t := s.setVm vm0) hZ hS.1, by rw [hS.1.alike.findClass]; exact hown⟩
section BackX
variable {p : Program} {l : Launch} {e : Env} {R : Room} {s : State} {args : Array Value} {below : List Frame} {Z : State} {a0 : Array Value} {EL : List (String × Nat)} {h : Heap} {vm0 : Vm}
/-- what pays a call of a body that may load literals, whose objects xs are no literal's -/
theorem backX {y : MethodName} {bytes : ByteArray} {maxL : Nat} {ret : Option FieldType} {rm : Room} {len W : Nat} {as' : Array Value} {Q : Option Value → Heap → List Loc → Prop} {xs : List Addr}
    (hM : MetFree l y (head1 [Cond.code y bytes maxL ret] rm) (fun a U => a = as' ∧ Z.Warmed39 U.vm ∧ U.heap = h ∧ CHv Z EL U.vm h ∧ ∀ x ∈ xs, Safe Z EL U.vm h x) (fun _ _ _ _ _ => True) (fun _ U o U' => ∃ v L, o = .returned v ∧ Q v U'.heap L ∧ CHr Z EL U.vm U.heap U'.vm U'.heap ∧ ReturnedEndW U o U' L rm.cells rm.slots))
    (hZ : Z.Warmed39 vm0) (wc : (Cond.code y bytes maxL ret).before a0 Z = true) (wz : (Cond.initialized y.cls).before a0 Z = true) (hf : rm.frames + 1 ≤ R.frames) (hl : W + (maxL + 11) + rm.locals ≤ R.locals) (hEL : EW Z a0 EL) (H : CHv Z EL vm0 h) (hs : ∀ x ∈ xs, x < h.size ∧ Safe Z EL vm0 h x) :
    BackS l R p e below (s.setVm vm0) args y len W (fun A a => a = as' ∧ A.U.heap = h ∧ A.cells + rm.cells ≤ R.cells ∧ A.slots + rm.slots ≤ R.slots)
      (fun A _ v B => ∃ L, Q v B.U.heap L ∧ B.locs = A.locs ++ L ∧ B.cells = A.cells + rm.cells ∧ B.slots = A.slots + rm.slots ∧ CHr Z EL vm0 h B.U.vm B.U.heap) := by
  refine BackS.of_freeW (bytes := bytes) (maxL := maxL) (ret := ret) (E := fun _ first o t L k n => k = rm.cells ∧ n = rm.slots ∧ (∃ v, o = .returned v ∧ Q v t.heap L) ∧ CHr Z EL first.vm first.heap t.vm t.heap) hM hf hl ?_ ?_ (fun _ _ _ _ _ _ _ _ _ => trivial) ?_ ?_
  · intro m meth c A a Y hp
    have hU : Z.Warmed39 A.U.vm := wtrans (s := s.setVm vm0) hZ Y.warmed
    exact ⟨by show (Cond.and _ .tt).before a A.U = true; rw [Cond.before_and, mv hU wc]; rfl, mv hU wc, mv hU wz, hp.2.2.1, hp.2.2.2⟩
  · intro m meth c A a g mk Y hp
    have K := CHv.at Y hZ hEL H
    exact ⟨hp.1, wtrans (s := s.setVm vm0) hZ Y.warmed, hp.2.1, K.1, fun x hx => K.safe (hs x hx).1 (hs x hx).2⟩
  · intro _ _ _ _ ⟨v, L, h1, h2, h3, h4⟩
    exact ⟨L, _, _, h4, rfl, rfl, ⟨v, h1, h2⟩, h3⟩
  · intro m meth c A a g mk v t L k n Y hp _ _ ⟨e1, e2, ⟨v', e3, e4⟩, e5⟩
    cases e3; subst e1 e2
    refine ⟨L, e4, rfl, rfl, rfl, (CHv.at Y hZ hEL H).trans ?_⟩
    rw [← hp.2.1]; exact e5
end BackX
/-! small numbers -/
theorem eq32 {a b : Int32} (h : a.toInt = b.toInt) : a = b := Int32.toInt_inj.mp h
theorem chr_nar {c : Int32} (h : ¬ c < 0 ∧ ¬ (255 : Int32) < c) : nar .char c = c := by
  have q := c_i2c c
  have e1 : (255 : Int32).toInt = 255 := rfl
  have e0 : (0 : Int32).toInt = 0 := rfl
  have h1 := h.1; have h2 := h.2
  rw [Int32.lt_iff_toInt_lt] at h1 h2
  exact eq32 (by show c.toUInt32.toUInt16.toUInt32.toInt32.toInt = _; omega)
theorem chr_i2c {c : Int32} (h : ¬ c < 0 ∧ ¬ (255 : Int32) < c) : c.toUInt32.toUInt16.toUInt32.toInt32 = c := chr_nar h
theorem chr_mask (x : Int32) : ¬ (x &&& 255) < 0 ∧ ¬ (255 : Int32) < (x &&& 255) := by
  have q := c_mask x 255 8 (by decide) (by decide)
  have e1 : (255 : Int32).toInt = 255 := rfl
  have e0 : (0 : Int32).toInt = 0 := rfl
  rw [Int32.lt_iff_toInt_lt, Int32.lt_iff_toInt_lt]
  omega
theorem chr_lit {k : Nat} (h : k < 256) : ¬ (Int32.ofNat k) < 0 ∧ ¬ (255 : Int32) < (Int32.ofNat k) := by
  have q : (Int32.ofNat k).toInt = k := Int32.toInt_ofNat_small (by omega)
  have e1 : (255 : Int32).toInt = 255 := rfl
  have e0 : (0 : Int32).toInt = 0 := rfl
  rw [Int32.lt_iff_toInt_lt, Int32.lt_iff_toInt_lt]
  omega
theorem chr_up {cs : List Int32} (h : ∀ c ∈ cs, ¬ c < 0 ∧ ¬ (255 : Int32) < c) : ∀ c ∈ cs, ¬ c < 0 ∧ ¬ (65535 : Int32) < c := fun c hc => ⟨(h c hc).1, fun q => (h c hc).2 (by rw [Int32.lt_iff_toInt_lt] at q ⊢; have e1 : (65535 : Int32).toInt = 65535 := rfl; have e2 : (255 : Int32).toInt = 255 := rfl; omega)⟩
theorem bit01 (P : Prop) [Decidable P] : (if P then (0 : Int32) else 1) = 0 ∨ (if P then (0 : Int32) else 1) = 1 := by by_cases h : P <;> simp [h]
theorem nar_b {x : Int32} (h : x = 0 ∨ x = 1) : nar .boolean x = x := by rcases h with rfl | rfl <;> decide
theorem narZ {k : Int32} (h : k = 0 ∨ k = 1) : narrow .boolean (.int k) = .int k := by rcases h with rfl | rfl <;> decide
theorem fitZ {k : Int32} (h : k = 0 ∨ k = 1) : fits .boolean (.int k) = true := by rcases h with rfl | rfl <;> decide
end Jvm.Own
/- laws to paste: Road.backV, Road.codOf, Road.eqW (cut by pick.py; bodies as the Statement names them) -/
namespace Jvm.Pilot.@@N@@
namespace StrChars
open Jvm Sem ClassFile Op Lib Jvm.Stand Jvm.Free.XT Jvm.Free.ALB Jvm.Free.JM Jvm.Free
open Jvm.Lib.Cold (StaticIs)
/-- a char array whose places are chars -/
def Ch (a : Addr) (A : Cell) (U : State) : Prop := Arr .char a A U ∧ Typed .char A
theorem Ch.mv {a : Addr} {A : Cell} {U U' : State} (h : Ch a A U) (hal : U.vm.Alike U'.vm) (hh : U'.heap = U.heap) : Ch a A U' := ⟨h.1.mv hal hh, h.2⟩
theorem Ch.keep {a : Addr} {A : Cell} {U U' : State} (h : Ch a A U) (hal : U.vm.Alike U'.vm) (hk : U'.heap[a]? = some A) : Ch a A U' := ⟨h.1.keep hal hk, h.2⟩
/-- what place i of a char[]'s cell holds -/
def cv (A : Cell) (i : Nat) : Int32 := match A.slots[i]? with | some (.int x) => x | _ => 0
theorem Ch.get {a : Addr} {A : Cell} {U : State} (h : Ch a A U) {i : Nat} (hi : i < A.slots.size) : A.slots[i]? = some (.int (cv A i)) := by
  have e := Array.getElem?_eq_getElem hi
  have f := h.2 i _ e
  unfold cv; rw [e]
  generalize A.slots[i] = v at f
  cases v <;> simp [fits] at f ⊢
/-- the byte that i2b leaves of a char -/
def lo8 (x : Int32) : Int32 := x.toInt8.toInt32
theorem fits_lo8 (y : Int32) : fits .byte (.int (lo8 y)) = true := by
  have h1 := y.toInt8.le_toInt
  have h2 := y.toInt8.toInt_lt
  simp only [lo8, fits, Bool.and_eq_true, decide_eq_true_eq, Int32.le_iff_toInt_le, Int8.toInt_toInt32, show (-128 : Int32).toInt = -128 from by decide, show (127 : Int32).toInt = 127 from by decide]
  omega
/-- A' is A but that each place j of lo .. hi - 1 holds f j -/
def Laid (A A' : Cell) (lo hi : Nat) (f : Nat → Value) : Prop := A'.cls = A.cls ∧ A'.vm = A.vm ∧ A'.slots.size = A.slots.size ∧ ∀ i, A'.slots[i]? = if lo ≤ i ∧ i < hi then some (f i) else A.slots[i]?
theorem Laid.zero (A : Cell) (lo : Nat) (f : Nat → Value) : Laid A A lo (lo + 0) f := ⟨rfl, rfl, rfl, fun i => by rw [if_neg (by omega)]⟩
theorem Laid.step {A Ak : Cell} {lo k : Nat} {f : Nat → Value} {v : Value} (h : Laid A Ak lo k f) (hlo : lo ≤ k) (hk : k < Ak.slots.size) (hv : v = f k) : Laid A (Ak.setSlot k v) lo (k + 1) f := by
  refine ⟨h.1, h.2.1, by simpa [Cell.setSlot] using h.2.2.1, fun i => ?_⟩
  by_cases e : k = i
  · subst e; rw [Cell.slots_setSlot_self v hk, if_pos (by omega), hv]
  · rw [Cell.slots_setSlot_ne v e, h.2.2.2 i]
    by_cases q : lo ≤ i ∧ i < k
    · rw [if_pos q, if_pos (by omega)]
    · rw [if_neg q, if_neg (by omega)]
def U16 : String := "java/lang/StringUTF16"
namespace Cmp5
def yN : MethodName := ⟨"java/lang/StringUTF16", "compress", "([CI[BII)I"⟩
abbrev yB : ByteArray := jdk_52_method_21_code
theorem d0 : decode yB 0 = .ok (.iconst 0, 1) := by decide +kernel
theorem d1 : decode yB 1 = .ok (.istore 5, 2) := by decide +kernel
theorem d3 : decode yB 3 = .ok (.iload 5, 2) := by decide +kernel
theorem d5 : decode yB 5 = .ok (.iload 4, 2) := by decide +kernel
theorem d7 : decode yB 7 = .ok (.if_icmp (.ge) 37, 3) := by decide +kernel
theorem d10 : decode yB 10 = .ok (.aload_n 0, 1) := by decide +kernel
theorem d11 : decode yB 11 = .ok (.iload_n 1, 1) := by decide +kernel
theorem d12 : decode yB 12 = .ok (.caload, 1) := by decide +kernel
theorem d13 : decode yB 13 = .ok (.istore 6, 2) := by decide +kernel
theorem d15 : decode yB 15 = .ok (.iload 6, 2) := by decide +kernel
theorem d17 : decode yB 17 = .ok (.sipush 255, 3) := by decide +kernel
theorem d20 : decode yB 20 = .ok (.if_icmp (.le) 6, 3) := by decide +kernel
theorem d26 : decode yB 26 = .ok (.aload_n 2, 1) := by decide +kernel
theorem d27 : decode yB 27 = .ok (.iload_n 3, 1) := by decide +kernel
theorem d28 : decode yB 28 = .ok (.iload 6, 2) := by decide +kernel
theorem d30 : decode yB 30 = .ok (.i2b, 1) := by decide +kernel
theorem d31 : decode yB 31 = .ok (.bastore, 1) := by decide +kernel
theorem d32 : decode yB 32 = .ok (.iinc 1 1, 3) := by decide +kernel
theorem d35 : decode yB 35 = .ok (.iinc 3 1, 3) := by decide +kernel
theorem d38 : decode yB 38 = .ok (.iinc 5 1, 3) := by decide +kernel
theorem d41 : decode yB 41 = .ok (.goto (-38), 3) := by decide +kernel
theorem d44 : decode yB 44 = .ok (.iload 4, 2) := by decide +kernel
theorem d46 : decode yB 46 = .ok (.ireturn, 1) := by decide +kernel
def site : List Cond := []
def tab : Cond := tabOf yN yB 7 (some .int) site
def P (b : Addr) (A : Cell) (d : Addr) (B : Cell) (o q len : Nat) (args : Array Value) (s : State) : Prop := args = #[.ref b, .int (Int32.ofNat o), .ref d, .int (Int32.ofNat q), .int (Int32.ofNat len)] ∧ Ch b A s ∧ Arr .byte d B s ∧ b ≠ d ∧ o + len ≤ A.slots.size ∧ q + len ≤ B.slots.size ∧ ∀ i, i < len → ¬ 255 < cv A (o + i)
def E (b : Addr) (A : Cell) (d : Addr) (B : Cell) (o q len : Nat) (r : Option Value) (s u : State) : Prop := r = some (.int (Int32.ofNat len)) ∧ ∃ B', Put d B' s u ∧ Laid B B' q (q + len) (fun j => Value.int (lo8 (cv A (o + (j - q)))))
/-- no char of the range above 255: len; the places written hold each char's low byte -/
theorem law (l : Launch) (b : Addr) (A : Cell) (d : Addr) (B : Cell) (o q len : Nat) : Law l yN 5 5 0 0 yB 7 (some .int) site (P b A d B o q len) (E b A d B o q len) (copyLocs d q len) 0 0 := by
  refine Law.of_walk (plainFor_of_name (by decide +kernel)) (by decide +kernel) (by decide +kernel) (by decide) (fun _ _ h => by rw [h.1]; rfl) (fun _ U U' hal hh h => ⟨h.1, h.2.1.mv hal hh, h.2.2.1.mv hal hh, h.2.2.2⟩) (fun r U U' V V' h1 hal h2 h => ⟨h.1, h.2.elim fun B' q => ⟨B', q.1.mv h1 h2, q.2⟩⟩) ?_
  intro p e s m args below meth c s₁ X0 hexec hbytes hml hret hlk hnm hown hh0 W hP
  obtain ⟨rfl, hA, hB, hne, l1, l2, hp⟩ := hP
  have c1 : Steps p.tables e below (s₁.setTop (entryFrame m #[.ref b, .int (Int32.ofNat o), .ref d, .int (Int32.ofNat q), .int (Int32.ofNat len)] 7)) (s₁.setTop (mkF m 0 #[.val (.ref b), .val (.int (Int32.ofNat o)), .val (.ref d), .val (.int (Int32.ofNat q)), .val (.int (Int32.ofNat len)), .unset, .unset] [])) := entry rfl
  have hA0 := hA.1.mv X0.warmed.alike hh0
  have hB0 := hB.mv X0.warmed.alike hh0
  have a31 := hA.1.2.2.2
  have c2 : Steps p.tables e below (s₁.setTop (entryFrame m #[.ref b, .int (Int32.ofNat o), .ref d, .int (Int32.ofNat q), .int (Int32.ofNat len)] 7)) (s₁.setTop (mkF m 3 #[.val (.ref b), .val (.int (Int32.ofNat o)), .val (.ref d), .val (.int (Int32.ofNat q)), .val (.int (Int32.ofNat len)), .val (.int 0), .unset] [])) := c1.trans (by
    refine iconstV X0.here hexec rfl 0 (hb hbytes d0) (by decide) ?_
    refine XS.istore X0.here hexec rfl (hb hbytes d1) rfl rfl ?_
    exact Steps.refl _)
  have loop : ∀ (r i : Nat), i + r = len → ∀ (z : Slot), (z = .unset ∨ ∃ w, z = .val w ∧ w.category = 1) → ∀ (Tl : State) (Bk : Cell), Stand p l e { frames := 0, locals := 0, cells := 0, slots := 0 } s m #[.ref b, .int (Int32.ofNat o), .ref d, .int (Int32.ofNat q), .int (Int32.ofNat len)] below meth c Tl ([] ++ copyLocs d q i) 0 0 → Put d Bk s₁ Tl → Laid B Bk q (q + i) (fun j => Value.int (lo8 (cv A (o + (j - q))))) →
      Steps p.tables e below (s₁.setTop (entryFrame m #[.ref b, .int (Int32.ofNat o), .ref d, .int (Int32.ofNat q), .int (Int32.ofNat len)] 7)) (Tl.setTop (mkF m 3 #[.val (.ref b), .val (.int (Int32.ofNat (o + i))), .val (.ref d), .val (.int (Int32.ofNat (q + i))), .val (.int (Int32.ofNat len)), .val (.int (Int32.ofNat i)), z] [])) → ∃ (T' : State) (B' : Cell) (z' : Slot), Stand p l e { frames := 0, locals := 0, cells := 0, slots := 0 } s m #[.ref b, .int (Int32.ofNat o), .ref d, .int (Int32.ofNat q), .int (Int32.ofNat len)] below meth c T' ([] ++ copyLocs d q len) 0 0 ∧ Put d B' s₁ T' ∧ Laid B B' q (q + len) (fun j => Value.int (lo8 (cv A (o + (j - q))))) ∧
      Steps p.tables e below (s₁.setTop (entryFrame m #[.ref b, .int (Int32.ofNat o), .ref d, .int (Int32.ofNat q), .int (Int32.ofNat len)] 7)) (T'.setTop (mkF m 3 #[.val (.ref b), .val (.int (Int32.ofNat (o + len))), .val (.ref d), .val (.int (Int32.ofNat (q + len))), .val (.int (Int32.ofNat len)), .val (.int (Int32.ofNat len)), z'] [])) := by
    intro r
    induction r with
    | zero =>
      intro i hi z hz Tl Bk Xl pl fl cl
      have hil : i = len := by omega
      rw [hil] at Xl fl cl
      exact ⟨Tl, Bk, z, Xl, pl, fl, cl⟩
    | succ r ih =>
      intro i hi z hz Tl Bk Xl pl fl cl
      have all := X0.warmed.alike.symm.trans Xl.warmed.alike
      have hAl := hA0.keep all (pl.other hne hA0.1)
      have hBk := hB0.like all pl.1 fl.1 fl.2.1 fl.2.2.1
      have hlt : q + i < Bk.slots.size := by rw [fl.2.2.1]; omega
      have c3 : Steps p.tables e below (s₁.setTop (entryFrame m #[.ref b, .int (Int32.ofNat o), .ref d, .int (Int32.ofNat q), .int (Int32.ofNat len)] 7)) (Tl.setTop (mkF m 12 #[.val (.ref b), .val (.int (Int32.ofNat (o + i))), .val (.ref d), .val (.int (Int32.ofNat (q + i))), .val (.int (Int32.ofNat len)), .val (.int (Int32.ofNat i)), z] [.int (Int32.ofNat (o + i)), .ref b])) := cl.trans (by
        refine XS.iload Xl.here hexec rfl (hb hbytes d3) rfl ?_
        refine XS.iload Xl.here hexec rfl (hb hbytes d5) rfl ?_
        refine XS.icmpNo Xl.here hexec rfl (hb hbytes d7) rfl (ii_ge_f (lt32 (by omega) (by omega))) ?_
        refine XS.aloadN Xl.here hexec rfl (hb hbytes d10) rfl rfl ?_
        refine XS.iloadN Xl.here hexec rfl (hb hbytes d11) rfl ?_
        exact Steps.refl _)
      have c4 : Steps p.tables e below (s₁.setTop (entryFrame m #[.ref b, .int (Int32.ofNat o), .ref d, .int (Int32.ofNat q), .int (Int32.ofNat len)] 7)) (Tl.setTop (mkF m 13 #[.val (.ref b), .val (.int (Int32.ofNat (o + i))), .val (.ref d), .val (.int (Int32.ofNat (q + i))), .val (.int (Int32.ofNat len)), .val (.int (Int32.ofNat i)), z] [.int (cv A (o + i))])) := c3.trans (by
        refine Xl.aget hexec hAl rfl (hA.get (i := o + i) (by omega)) rfl rfl (hb hbytes d12) ?_
        exact Steps.refl _)
      have c5 : Steps p.tables e below (s₁.setTop (entryFrame m #[.ref b, .int (Int32.ofNat o), .ref d, .int (Int32.ofNat q), .int (Int32.ofNat len)] 7)) (Tl.setTop (mkF m 15 #[.val (.ref b), .val (.int (Int32.ofNat (o + i))), .val (.ref d), .val (.int (Int32.ofNat (q + i))), .val (.int (Int32.ofNat len)), .val (.int (Int32.ofNat i)), .val (.int (cv A (o + i)))] [])) := c4.trans (by
        refine XS.istoreS Xl.here hexec rfl (hb hbytes d13) rfl rfl hz ?_
        exact Steps.refl _)
      have c6 : Steps p.tables e below (s₁.setTop (entryFrame m #[.ref b, .int (Int32.ofNat o), .ref d, .int (Int32.ofNat q), .int (Int32.ofNat len)] 7)) (Tl.setTop (mkF m 31 #[.val (.ref b), .val (.int (Int32.ofNat (o + i))), .val (.ref d), .val (.int (Int32.ofNat (q + i))), .val (.int (Int32.ofNat len)), .val (.int (Int32.ofNat i)), .val (.int (cv A (o + i)))] [.int (lo8 (cv A (o + i))), .int (Int32.ofNat (q + i)), .ref d])) := c5.trans (by
        refine XS.iload Xl.here hexec rfl (hb hbytes d15) rfl ?_
        refine sipushV Xl.here hexec rfl 255 (hb hbytes d17) (by decide) ?_
        refine XS.icmpYes Xl.here hexec rfl (pc0 := 20) rfl (hb hbytes d20) rfl (ii_le_t (hp i (by omega))) (by decide) rfl ?_
        refine XS.aloadN Xl.here hexec rfl (hb hbytes d26) rfl rfl ?_
        refine XS.iloadN Xl.here hexec rfl (hb hbytes d27) rfl ?_
        refine XS.iload Xl.here hexec rfl (hb hbytes d28) rfl ?_
        refine i2b Xl.here hexec rfl (hb hbytes d30) rfl ?_
        exact Steps.refl _)
      obtain ⟨T7, X7, p7, st7⟩ := Xl.aput hexec hBk rfl hlt rfl (fits_lo8 (cv A (o + i))) (g := (mkF m 31 #[.val (.ref b), .val (.int (Int32.ofNat (o + i))), .val (.ref d), .val (.int (Int32.ofNat (q + i))), .val (.int (Int32.ofNat len)), .val (.int (Int32.ofNat i)), .val (.int (cv A (o + i)))] [.int (lo8 (cv A (o + i))), .int (Int32.ofNat (q + i)), .ref d])) rfl (rest := []) rfl (hb hbytes d31)
      have c8 : Steps p.tables e below (s₁.setTop (entryFrame m #[.ref b, .int (Int32.ofNat o), .ref d, .int (Int32.ofNat q), .int (Int32.ofNat len)] 7)) (T7.setTop (mkF m 32 #[.val (.ref b), .val (.int (Int32.ofNat (o + i))), .val (.ref d), .val (.int (Int32.ofNat (q + i))), .val (.int (Int32.ofNat len)), .val (.int (Int32.ofNat i)), .val (.int (cv A (o + i)))] [])) := c6.trans (st7 _ (Steps.refl _))
      have c9 : Steps p.tables e below (s₁.setTop (entryFrame m #[.ref b, .int (Int32.ofNat o), .ref d, .int (Int32.ofNat q), .int (Int32.ofNat len)] 7)) (T7.setTop (mkF m 3 #[.val (.ref b), .val (.int (Int32.ofNat (o + i) + 1)), .val (.ref d), .val (.int (Int32.ofNat (q + i) + 1)), .val (.int (Int32.ofNat len)), .val (.int (Int32.ofNat i + 1)), .val (.int (cv A (o + i)))] [])) := c8.trans (by
        refine iincV X7.here hexec rfl 1 (hb hbytes d32) (by decide) rfl rfl ?_
        refine iincV X7.here hexec rfl 1 (hb hbytes d35) (by decide) rfl rfl ?_
        refine iincV X7.here hexec rfl 1 (hb hbytes d38) (by decide) rfl rfl ?_
        refine XS.goto X7.here hexec rfl (pc0 := 41) rfl (hb hbytes d41) (by decide) rfl ?_
        exact Steps.refl _)
      have c10 : Steps p.tables e below (s₁.setTop (entryFrame m #[.ref b, .int (Int32.ofNat o), .ref d, .int (Int32.ofNat q), .int (Int32.ofNat len)] 7)) (T7.setTop (mkF m 3 #[.val (.ref b), .val (.int (Int32.ofNat (o + (i + 1)))), .val (.ref d), .val (.int (Int32.ofNat (q + (i + 1)))), .val (.int (Int32.ofNat len)), .val (.int (Int32.ofNat (i + 1))), .val (.int (cv A (o + i)))] [])) := by
        have := c9
        rw [succ32, succ32, succ32] at this
        exact this
      exact ih (i + 1) (by omega) _ (Or.inr ⟨_, rfl, rfl⟩) T7 _ (by rw [copyLocs_step, ← List.append_assoc]; exact X7) (pl.trans p7) (fl.step (by omega) hlt (by simp)) c10
  obtain ⟨T9, B9, z9, X9, p9, f9, g9⟩ := loop len 0 (by omega) .unset (Or.inl rfl) s₁ B (by simpa [copyLocs] using X0) ⟨hB0.1, fun _ _ => rfl, rfl⟩ (Laid.zero _ _ _) c2
  have c11 : Steps p.tables e below (s₁.setTop (entryFrame m #[.ref b, .int (Int32.ofNat o), .ref d, .int (Int32.ofNat q), .int (Int32.ofNat len)] 7)) (T9.setTop (mkF m 46 #[.val (.ref b), .val (.int (Int32.ofNat (o + len))), .val (.ref d), .val (.int (Int32.ofNat (q + len))), .val (.int (Int32.ofNat len)), .val (.int (Int32.ofNat len)), z9] [.int (Int32.ofNat len)])) := g9.trans (by
    refine XS.iload X9.here hexec rfl (hb hbytes d3) rfl ?_
    refine XS.iload X9.here hexec rfl (hb hbytes d5) rfl ?_
    refine XS.icmpYes X9.here hexec rfl (pc0 := 7) rfl (hb hbytes d7) rfl (ii_ge_t (nlt32 (by omega) (Nat.le_refl _))) (by decide) rfl ?_
    refine XS.iload X9.here hexec rfl (hb hbytes d44) rfl ?_
    exact Steps.refl _)
  exact ⟨T9, some (.int (Int32.ofNat len)), _, _, _, X9, by simp, rfl, rfl, (fun h => by cases h), ⟨rfl, B9, p9.from hh0, f9⟩, fun fs hl => c11.trans (X9.ireturnOut hexec hret rfl (Or.inl rfl) (hb hbytes d46) hl)⟩
end Cmp5
namespace Cmp3
def yN : MethodName := ⟨"java/lang/StringUTF16", "compress", "([CII)[B"⟩
abbrev yB : ByteArray := jdk_52_method_16_code
theorem d0 : decode yB 0 = .ok (.iload_n 2, 1) := by decide +kernel
theorem d1 : decode yB 1 = .ok (.newarray .byte, 2) := by decide +kernel
theorem d3 : decode yB 3 = .ok (.astore_n 3, 1) := by decide +kernel
theorem d4 : decode yB 4 = .ok (.aload_n 0, 1) := by decide +kernel
theorem d5 : decode yB 5 = .ok (.iload_n 1, 1) := by decide +kernel
theorem d6 : decode yB 6 = .ok (.aload_n 3, 1) := by decide +kernel
theorem d7 : decode yB 7 = .ok (.iconst 0, 1) := by decide +kernel
theorem d8 : decode yB 8 = .ok (.iload_n 2, 1) := by decide +kernel
theorem d9 : decode yB 9 = .ok (.invokestatic 115, 3) := by decide +kernel
theorem d12 : decode yB 12 = .ok (.istore 4, 2) := by decide +kernel
theorem d14 : decode yB 14 = .ok (.iload 4, 2) := by decide +kernel
theorem d16 : decode yB 16 = .ok (.iload_n 2, 1) := by decide +kernel
theorem d17 : decode yB 17 = .ok (.if_icmp (.eq) 40, 3) := by decide +kernel
theorem d57 : decode yB 57 = .ok (.aload_n 3, 1) := by decide +kernel
theorem d58 : decode yB 58 = .ok (.areturn, 1) := by decide +kernel
def site : List Cond := [.arrayClass .byte, Cmp5.tab] ++ staticW U16 115 Cmp5.yN
def tab : Cond := tabOf yN yB 6 (some (.array .byte)) site
def P (b : Addr) (A : Cell) (o len : Nat) (args : Array Value) (s : State) : Prop := args = #[.ref b, .int (Int32.ofNat o), .int (Int32.ofNat len)] ∧ Ch b A s ∧ o + len ≤ A.slots.size ∧ len ≤ 536870912 ∧ ∀ i, i < len → ¬ 255 < cv A (o + i)
def E (b : Addr) (A : Cell) (o len : Nat) (r : Option Value) (s u : State) : Prop := NewArr .byte "[B" len (fun j => .int (lo8 (cv A (o + j)))) r s u ∧ u.heap.size = s.heap.size + 1
/-- no char of the range above 255: a new byte[] of their low bytes -/
theorem law (l : Launch) (b : Addr) (A : Cell) (o len : Nat) : Law l yN 3 3 1 18 yB 6 (some (.array .byte)) site (P b A o len) (E b A o len) [] 1 len := by
  refine Law.of_walk (plainFor_of_name (by decide +kernel)) (by decide +kernel) (by decide +kernel) (by decide) (fun _ _ h => by rw [h.1]; rfl) (fun _ U U' hal hh h => ⟨h.1, h.2.1.mv hal hh, h.2.2⟩) (fun r U U' V V' h1 hal h2 h => ⟨NewArr.mv r U U' V V' h1 hal h2 h.1, by rw [h1, h2]; exact h.2⟩) ?_
  intro p e s m args below meth c s₁ X0 hexec hbytes hml hret hlk hnm hown hh0 W hP
  obtain ⟨rfl, hA, l1, l2, hp⟩ := hP
  have a31 := hA.1.2.2.2
  have c1 : Steps p.tables e below (s₁.setTop (entryFrame m #[.ref b, .int (Int32.ofNat o), .int (Int32.ofNat len)] 6)) (s₁.setTop (mkF m 0 #[.val (.ref b), .val (.int (Int32.ofNat o)), .val (.int (Int32.ofNat len)), .unset, .unset, .unset] [])) := entry rfl
  have c2 : Steps p.tables e below (s₁.setTop (entryFrame m #[.ref b, .int (Int32.ofNat o), .int (Int32.ofNat len)] 6)) (s₁.setTop (mkF m 1 #[.val (.ref b), .val (.int (Int32.ofNat o)), .val (.int (Int32.ofNat len)), .unset, .unset, .unset] [.int (Int32.ofNat len)])) := c1.trans (by
    refine XS.iloadN X0.here hexec rfl (hb hbytes d0) rfl ?_
    exact Steps.refl _)
  obtain ⟨T3, B3, X3, ba3, bs3, bv3, bh3, bf3, st3⟩ := X0.anew hexec (atype := .byte) (wk W (.arrayClass .byte)) rfl (by show len * 1 ≤ _; omega) (by omega) (g := (mkF m 1 #[.val (.ref b), .val (.int (Int32.ofNat o)), .val (.int (Int32.ofNat len)), .unset, .unset, .unset] [.int (Int32.ofNat len)])) rfl (hb hbytes d1) (rest := []) rfl (Nat.le_refl _) (by show 0 + len ≤ len; omega)
  rw [hh0] at ba3 st3
  have kp3 : XT.Kept s T3 := (XT.Kept.of_eq hh0).push bh3
  have hA3 := hA.keep X3.warmed.alike (kp3 _ _ hA.1.1)
  have hne : b ≠ s.heap.size := hA.1.ne
  have c4 : Steps p.tables e below (s₁.setTop (entryFrame m #[.ref b, .int (Int32.ofNat o), .int (Int32.ofNat len)] 6)) (T3.setTop (mkF m 3 #[.val (.ref b), .val (.int (Int32.ofNat o)), .val (.int (Int32.ofNat len)), .unset, .unset, .unset] [.ref s.heap.size])) := c2.trans (st3 _ (Steps.refl _))
  have c5 : Steps p.tables e below (s₁.setTop (entryFrame m #[.ref b, .int (Int32.ofNat o), .int (Int32.ofNat len)] 6)) (T3.setTop (mkF m 9 #[.val (.ref b), .val (.int (Int32.ofNat o)), .val (.int (Int32.ofNat len)), .val (.ref s.heap.size), .unset, .unset] [.int (Int32.ofNat len), .int 0, .ref s.heap.size, .int (Int32.ofNat o), .ref b])) := c4.trans (by
    refine XS.astoreN X3.here hexec rfl (hb hbytes d3) rfl rfl rfl ?_
    refine XS.aloadN X3.here hexec rfl (hb hbytes d4) rfl rfl ?_
    refine XS.iloadN X3.here hexec rfl (hb hbytes d5) rfl ?_
    refine XS.aloadN X3.here hexec rfl (hb hbytes d6) rfl rfl ?_
    refine iconstV X3.here hexec rfl 0 (hb hbytes d7) (by decide) ?_
    refine XS.iloadN X3.here hexec rfl (hb hbytes d8) rfl ?_
    exact Steps.refl _)
  obtain ⟨v6, T6, X6, E6, g6⟩ := X3.callS hexec (Cmp5.law l b A s.heap.size B3 o 0 len) hown (wks W (staticW U16 115 Cmp5.yN)) (wk W Cmp5.tab) (W := 0) (Nat.le_of_ble_eq_true rfl) (Nat.le_of_ble_eq_true rfl) (Nat.le_refl _) (by show 0 + len + 0 ≤ len; omega) (g := (mkF m 9 #[.val (.ref b), .val (.int (Int32.ofNat o)), .val (.int (Int32.ofNat len)), .val (.ref s.heap.size), .unset, .unset] [.int (Int32.ofNat len), .int (Int32.ofNat 0), .ref s.heap.size, .int (Int32.ofNat o), .ref b])) rfl (by rw [hml]; rfl) c5 (argsL := [.ref b, .int (Int32.ofNat o), .ref s.heap.size, .int (Int32.ofNat 0), .int (Int32.ofNat len)]) (rest := []) rfl rfl (by show 2 * 0 + 0 ≤ _; decide) (hb hbytes d9) (⟨rfl, hA3, ba3, hne, l1, by rw [bs3]; simp, hp⟩)
  obtain ⟨rfl, B6, p6, f6⟩ := E6
  have c7 : Steps p.tables e below (s₁.setTop (entryFrame m #[.ref b, .int (Int32.ofNat o), .int (Int32.ofNat len)] 6)) (T6.setTop (mkF m 12 #[.val (.ref b), .val (.int (Int32.ofNat o)), .val (.int (Int32.ofNat len)), .val (.ref s.heap.size), .unset, .unset] [.int (Int32.ofNat len)])) := g6
  have c8 : Steps p.tables e below (s₁.setTop (entryFrame m #[.ref b, .int (Int32.ofNat o), .int (Int32.ofNat len)] 6)) (T6.setTop (mkF m 58 #[.val (.ref b), .val (.int (Int32.ofNat o)), .val (.int (Int32.ofNat len)), .val (.ref s.heap.size), .val (.int (Int32.ofNat len)), .unset] [.ref s.heap.size])) := c7.trans (by
    refine XS.istore X6.here hexec rfl (hb hbytes d12) rfl rfl ?_
    refine XS.iload X6.here hexec rfl (hb hbytes d14) rfl ?_
    refine XS.iloadN X6.here hexec rfl (hb hbytes d16) rfl ?_
    refine XS.icmpYes X6.here hexec rfl (pc0 := 17) rfl (hb hbytes d17) rfl (ii_eq_t rfl) (by decide) rfl ?_
    refine XS.aloadN X6.here hexec rfl (hb hbytes d57) rfl rfl ?_
    exact Steps.refl _)
  have X8 := X6.wide (L' := []) (cells' := 1) (slots' := len) (fun x hx hlt => by
    simp only [List.nil_append, copyLocs, List.mem_map, List.mem_range] at hx
    obtain ⟨i, -, rfl⟩ := hx
    exact absurd hlt (Nat.lt_irrefl _)) (Nat.le_refl _) (by omega)
  exact ⟨T6, some (.ref s.heap.size), _, _, _, X8, rfl, rfl, rfl, (fun h => by cases h), ⟨⟨rfl, B6, ba3.like (X3.warmed.alike.symm.trans X6.warmed.alike) p6.1 f6.1 f6.2.1 f6.2.2.1, f6.2.1.trans bv3, by rw [X6.warmed.alike.findClass, f6.1]; exact bf3, by rw [f6.2.2.1, bs3]; simp, fun j hj => by rw [f6.2.2.2 j, if_pos (by omega)]; rfl, kp3.put p6 (Nat.le_refl _)⟩, by rw [p6.2.2, bh3, hh0]; simp⟩, fun fs hl => c8.trans (X8.areturnOut hexec rfl hret rfl (hb hbytes d58) hl)⟩
end Cmp3
namespace CodL
def yN : MethodName := ⟨"java/lang/StringUTF16", "coderFromArrayLen", "([BI)B"⟩
abbrev yB : ByteArray := jdk_52_method_15_code
theorem d0 : decode yB 0 = .ok (.iload_n 1, 1) := by decide +kernel
theorem d1 : decode yB 1 = .ok (.aload_n 0, 1) := by decide +kernel
theorem d2 : decode yB 2 = .ok (.arraylength, 1) := by decide +kernel
theorem d3 : decode yB 3 = .ok (.isub, 1) := by decide +kernel
theorem d4 : decode yB 4 = .ok (.bipush 31, 2) := by decide +kernel
theorem d6 : decode yB 6 = .ok (.iushr, 1) := by decide +kernel
theorem d7 : decode yB 7 = .ok (.i2b, 1) := by decide +kernel
theorem d8 : decode yB 8 = .ok (.ireturn, 1) := by decide +kernel
def site : List Cond := []
def tab : Cond := tabOf yN yB 2 (some .byte) site
def P (d : Addr) (B : Cell) (args : Array Value) (s : State) : Prop := args = #[.ref d, .int (Int32.ofNat B.slots.size)] ∧ Arr .byte d B s
def E (r : Option Value) (s u : State) : Prop := XT.PureE (some (.int 0)) r s u
/-- an array as long as the number of chars: LATIN1 -/
theorem law (l : Launch) (d : Addr) (B : Cell) : Law l yN 2 2 0 0 yB 2 (some .byte) site (P d B) E [] 0 0 := by
  refine Law.of_walk (plainFor_of_name (by decide +kernel)) (by decide +kernel) (by decide +kernel) (by decide) (fun _ _ h => by rw [h.1]; rfl) (fun _ U U' hal hh h => ⟨h.1, h.2.mv hal hh⟩) (fun r U U' V V' h1 hal h2 h => XT.PureE.mv r U U' V V' h1 hal h2 h) ?_
  intro p e s m args below meth c s₁ X0 hexec hbytes hml hret hlk hnm hown hh0 W hP
  obtain ⟨rfl, hB⟩ := hP
  have hB0 := hB.mv X0.warmed.alike hh0
  have c1 : Steps p.tables e below (s₁.setTop (entryFrame m #[.ref d, .int (Int32.ofNat B.slots.size)] 2)) (s₁.setTop (mkF m 0 #[.val (.ref d), .val (.int (Int32.ofNat B.slots.size))] [])) := entry rfl
  have c2 : Steps p.tables e below (s₁.setTop (entryFrame m #[.ref d, .int (Int32.ofNat B.slots.size)] 2)) (s₁.setTop (mkF m 2 #[.val (.ref d), .val (.int (Int32.ofNat B.slots.size))] [.ref d, .int (Int32.ofNat B.slots.size)])) := c1.trans (by
    refine XS.iloadN X0.here hexec rfl (hb hbytes d0) rfl ?_
    refine XS.aloadN X0.here hexec rfl (hb hbytes d1) rfl rfl ?_
    exact Steps.refl _)
  have c3 : Steps p.tables e below (s₁.setTop (entryFrame m #[.ref d, .int (Int32.ofNat B.slots.size)] 2)) (s₁.setTop (mkF m 8 #[.val (.ref d), .val (.int (Int32.ofNat B.slots.size))] [.int (lo8 (ushr (Int32.ofNat B.slots.size - Int32.ofNat B.slots.size) 31))])) := c2.trans (by
    refine X0.alen hexec hB0 rfl rfl (hb hbytes d2) ?_
    refine XS.isub X0.here hexec rfl (hb hbytes d3) rfl ?_
    refine bipushV X0.here hexec rfl 31 (hb hbytes d4) (by decide) ?_
    refine iushr X0.here hexec rfl (hb hbytes d6) rfl ?_
    refine i2b X0.here hexec rfl (hb hbytes d7) rfl ?_
    exact Steps.refl _)
  have e0 : lo8 (ushr (Int32.ofNat B.slots.size - Int32.ofNat B.slots.size) 31) = 0 := by rw [Int32.sub_self]; decide
  rw [e0] at c3
  exact ⟨s₁, some (.int 0), _, _, _, X0, rfl, rfl, rfl, (fun h => by cases h), ⟨rfl, hh0⟩, fun fs hl => c3.trans (X0.ireturnOut hexec hret rfl (Or.inr (Or.inr (Or.inl rfl))) (hb hbytes d8) hl)⟩
end CodL
/-- the String at a is Latin-1 over a new byte[] (the heap's one new cell): the low bytes of the len chars of A from o on; every cell but a is kept -/
def Got (a : Addr) (D : Cell) (fV fC : Field) (A : Cell) (o len : Nat) (r : Option Value) (s u : State) : Prop := r = none ∧ ∃ D' V : Cell, Blank "java/lang/String" a D' u ∧ Same D D' [fV.slot, fC.slot] ∧ D'.slots[fV.slot]? = some (.ref s.heap.size) ∧ D'.slots[fC.slot]? = some (.int 0) ∧ Arr .byte s.heap.size V u ∧ V.vm = .none ∧ u.vm.findClass "[B" = some V.cls ∧ V.slots.size = len ∧ (∀ j, j < len → V.slots[j]? = some (.int (lo8 (cv A (o + j))))) ∧ (∀ (y : Addr) (c : Cell), y ≠ a → s.heap[y]? = some c → u.heap[y]? = some c) ∧ u.heap.size = s.heap.size + 1
theorem Got.mv {a : Addr} {D A : Cell} {fV fC : Field} {o len : Nat} : ∀ r (U U' V V' : State), U'.heap = U.heap → V.vm.Alike V'.vm → V'.heap = V.heap → Got a D fV fC A o len r U V → Got a D fV fC A o len r U' V' :=
  fun r U U' V V' h1 hal h2 ⟨e0, D', X, a1, a2, a3, a4, a5, a6, a7, a8, a9, a10, a11⟩ => ⟨e0, D', X, a1.mv hal h2, a2, by rw [h1]; exact a3, a4, by rw [h1]; exact a5.mv hal h2, a6, by rw [hal.findClass]; exact a7, a8, a9, by rw [h1, h2]; exact a10, by rw [h1, h2]; exact a11⟩
namespace New4
def yN : MethodName := ⟨"java/lang/String", "<init>", "([CIILjava/lang/Void;)V"⟩
abbrev yB : ByteArray := jdk_42_method_149_code
theorem d0 : decode yB 0 = .ok (.aload_n 0, 1) := by decide +kernel
theorem d1 : decode yB 1 = .ok (.invokespecial 1, 3) := by decide +kernel
theorem d4 : decode yB 4 = .ok (.iload_n 3, 1) := by decide +kernel
theorem d5 : decode yB 5 = .ok (.ifCond (.ne) 22, 3) := by decide +kernel
theorem d27 : decode yB 27 = .ok (.getstatic 38, 3) := by decide +kernel
theorem d30 : decode yB 30 = .ok (.ifCond (.eq) 28, 3) := by decide +kernel
theorem d33 : decode yB 33 = .ok (.aload_n 1, 1) := by decide +kernel
theorem d34 : decode yB 34 = .ok (.iload_n 2, 1) := by decide +kernel
theorem d35 : decode yB 35 = .ok (.iload_n 3, 1) := by decide +kernel
theorem d36 : decode yB 36 = .ok (.invokestatic 177, 3) := by decide +kernel
theorem d39 : decode yB 39 = .ok (.astore 5, 2) := by decide +kernel
theorem d41 : decode yB 41 = .ok (.aload_n 0, 1) := by decide +kernel
theorem d42 : decode yB 42 = .ok (.aload 5, 2) := by decide +kernel
theorem d44 : decode yB 44 = .ok (.iload_n 3, 1) := by decide +kernel
theorem d45 : decode yB 45 = .ok (.invokestatic 47, 3) := by decide +kernel
theorem d48 : decode yB 48 = .ok (.putfield 15, 3) := by decide +kernel
theorem d51 : decode yB 51 = .ok (.aload_n 0, 1) := by decide +kernel
theorem d52 : decode yB 52 = .ok (.aload 5, 2) := by decide +kernel
theorem d54 : decode yB 54 = .ok (.putfield 9, 3) := by decide +kernel
theorem d57 : decode yB 57 = .ok (.return_, 1) := by decide +kernel
def site : List Cond := [.fieldLink "java/lang/String" 38 "java/lang/String" "COMPACT_STRINGS" "Z", Cmp3.tab, CodL.tab, .laysFinal "java/lang/String" "java/lang/String" "value" "[B", .fieldLink "java/lang/String" 9 "java/lang/String" "value" "[B", .laysFinal "java/lang/String" "java/lang/String" "coder" "B", .fieldLink "java/lang/String" 15 "java/lang/String" "coder" "B"] ++ objW "java/lang/String" 1 ++ staticW "java/lang/String" 177 Cmp3.yN ++ staticW "java/lang/String" 47 CodL.yN
def tab : Cond := tabOf yN yB 6 none site
def P (a : Addr) (D : Cell) (fV fC : Field) (b : Addr) (A : Cell) (z : Int32) (o len : Nat) (args : Array Value) (s : State) : Prop := args = #[.ref a, .ref b, .int (Int32.ofNat o), .int (Int32.ofNat len), .null] ∧ Blank "java/lang/String" a D s ∧ Found "java/lang/String" "value" "[B" fV s ∧ Found "java/lang/String" "coder" "B" fC s ∧ Ch b A s ∧ StaticIs s "java/lang/String" "COMPACT_STRINGS" "Z" (.int z) ∧ ¬ z = 0 ∧ 0 < len ∧ o + len ≤ A.slots.size ∧ len ≤ 536870912 ∧ ∀ i, i < len → ¬ 255 < cv A (o + i)
def E (a : Addr) (D : Cell) (fV fC : Field) (A : Cell) (o len : Nat) (r : Option Value) (s u : State) : Prop := Got a D fV fC A o len r s u
/-- len > 0, no char of the range above 255: a Latin-1 String of their low bytes -/
theorem law (l : Launch) (a : Addr) (D : Cell) (fV fC : Field) (b : Addr) (A : Cell) (z : Int32) (o len : Nat) : Law l yN 5 4 2 35 yB 6 none site (P a D fV fC b A z o len) (E a D fV fC A o len) [⟨a, fC.slot⟩, ⟨a, fV.slot⟩] 1 len := by
  refine Law.of_walk (plainFor_of_name (by decide +kernel)) (by decide +kernel) (by decide +kernel) (by decide) (fun _ _ h => by rw [h.1]; rfl) (fun _ U U' hal hh h => ⟨h.1, h.2.1.mv hal hh, h.2.2.1.al hal, h.2.2.2.1.al hal, h.2.2.2.2.1.mv hal hh, h.2.2.2.2.2.1.there hal hh, h.2.2.2.2.2.2⟩) (fun r U U' V V' h1 hal h2 h => Got.mv r U U' V V' h1 hal h2 h) ?_
  intro p e s m args below meth c s₁ X0 hexec hbytes hml hret hlk hnm hown hh0 W hP
  obtain ⟨rfl, hB, f1, f2, hA, s1, hz, l0, l1, l2, hp⟩ := hP
  have a31 := hA.1.2.2.2
  have c1 : Steps p.tables e below (s₁.setTop (entryFrame m #[.ref a, .ref b, .int (Int32.ofNat o), .int (Int32.ofNat len), .null] 6)) (s₁.setTop (mkF m 0 #[.val (.ref a), .val (.ref b), .val (.int (Int32.ofNat o)), .val (.int (Int32.ofNat len)), .val .null, .unset] [])) := entry rfl
  have c2 : Steps p.tables e below (s₁.setTop (entryFrame m #[.ref a, .ref b, .int (Int32.ofNat o), .int (Int32.ofNat len), .null] 6)) (s₁.setTop (mkF m 1 #[.val (.ref a), .val (.ref b), .val (.int (Int32.ofNat o)), .val (.int (Int32.ofNat len)), .val .null, .unset] [.ref a])) := c1.trans (by
    refine XS.aloadN X0.here hexec rfl (hb hbytes d0) rfl rfl ?_
    exact Steps.refl _)
  obtain ⟨T3, X3, q3, st3⟩ := X0.oinit hexec hown (wks W (objW "java/lang/String" 1)) (g := (mkF m 1 #[.val (.ref a), .val (.ref b), .val (.int (Int32.ofNat o)), .val (.int (Int32.ofNat len)), .val .null, .unset] [.ref a])) rfl (by rw [hml]; rfl) (rest := []) rfl (hb hbytes d1) (W := 0) (by show 2 * 0 + 0 ≤ _; decide) (Nat.le_of_ble_eq_true rfl) (Nat.le_of_ble_eq_true rfl)
  have hh3 := q3.trans hh0
  have c4 : Steps p.tables e below (s₁.setTop (entryFrame m #[.ref a, .ref b, .int (Int32.ofNat o), .int (Int32.ofNat len), .null] 6)) (T3.setTop (mkF m 27 #[.val (.ref a), .val (.ref b), .val (.int (Int32.ofNat o)), .val (.int (Int32.ofNat len)), .val .null, .unset] [])) := (c2.trans (st3 _ (Steps.refl _))).trans (by
    refine XS.iloadN X3.here hexec rfl (hb hbytes d4) rfl ?_
    refine XS.ifYes X3.here hexec rfl (pc0 := 5) rfl (hb hbytes d5) rfl (i0_ne_t (nz32 (by omega) l0)) (by decide) rfl ?_
    exact Steps.refl _)
  obtain ⟨T5, X5, q5, st5⟩ := X3.sget hexec hown (wk W (.fieldLink "java/lang/String" 38 "java/lang/String" "COMPACT_STRINGS" "Z")) s1 (fun _ _ h => by rw [hh3]; exact h) (g := (mkF m 27 #[.val (.ref a), .val (.ref b), .val (.int (Int32.ofNat o)), .val (.int (Int32.ofNat len)), .val .null, .unset] [])) rfl (hb hbytes d27)
  have hh5 := q5.trans hh3
  have c6 : Steps p.tables e below (s₁.setTop (entryFrame m #[.ref a, .ref b, .int (Int32.ofNat o), .int (Int32.ofNat len), .null] 6)) (T5.setTop (mkF m 30 #[.val (.ref a), .val (.ref b), .val (.int (Int32.ofNat o)), .val (.int (Int32.ofNat len)), .val .null, .unset] [.int z])) := c4.trans (st5 _ (Steps.refl _))
  have c7 : Steps p.tables e below (s₁.setTop (entryFrame m #[.ref a, .ref b, .int (Int32.ofNat o), .int (Int32.ofNat len), .null] 6)) (T5.setTop (mkF m 36 #[.val (.ref a), .val (.ref b), .val (.int (Int32.ofNat o)), .val (.int (Int32.ofNat len)), .val .null, .unset] [.int (Int32.ofNat len), .int (Int32.ofNat o), .ref b])) := c6.trans (by
    refine XS.ifNo X5.here hexec rfl (hb hbytes d30) rfl (i0_eq_f hz) ?_
    refine XS.aloadN X5.here hexec rfl (hb hbytes d33) rfl rfl ?_
    refine XS.iloadN X5.here hexec rfl (hb hbytes d34) rfl ?_
    refine XS.iloadN X5.here hexec rfl (hb hbytes d35) rfl ?_
    exact Steps.refl _)
  obtain ⟨v8, T8, X8, E8, g8⟩ := X5.callS hexec (Cmp3.law l b A o len) hown (wks W (staticW "java/lang/String" 177 Cmp3.yN)) (wk W Cmp3.tab) (W := 0) (Nat.le_of_ble_eq_true rfl) (Nat.le_of_ble_eq_true rfl) (Nat.le_refl _) (by show 0 + len ≤ len; omega) (g := (mkF m 36 #[.val (.ref a), .val (.ref b), .val (.int (Int32.ofNat o)), .val (.int (Int32.ofNat len)), .val .null, .unset] [.int (Int32.ofNat len), .int (Int32.ofNat o), .ref b])) rfl (by rw [hml]; rfl) c7 (argsL := [.ref b, .int (Int32.ofNat o), .int (Int32.ofNat len)]) (rest := []) rfl rfl (by show 2 * 0 + 0 ≤ _; decide) (hb hbytes d36) (⟨rfl, hA.mv X5.warmed.alike hh5, l1, l2, hp⟩)
  obtain ⟨e8, z8⟩ := E8
  obtain ⟨rfl, N, n1, n2, n3, n4, n5, n6⟩ := NewArr.mv _ T5 s _ _ hh5.symm (Vm.Alike.refl _) rfl e8
  rw [hh5] at z8
  have hB1 := hB.keep X8.warmed.alike (n6 _ _ hB.1)
  have hne : s.heap.size ≠ a := (Nat.ne_of_lt (Array.getElem?_eq_some_iff.mp hB.1).1).symm
  have c9 : Steps p.tables e below (s₁.setTop (entryFrame m #[.ref a, .ref b, .int (Int32.ofNat o), .int (Int32.ofNat len), .null] 6)) (T8.setTop (mkF m 39 #[.val (.ref a), .val (.ref b), .val (.int (Int32.ofNat o)), .val (.int (Int32.ofNat len)), .val .null, .unset] [.ref s.heap.size])) := g8
  have c10 : Steps p.tables e below (s₁.setTop (entryFrame m #[.ref a, .ref b, .int (Int32.ofNat o), .int (Int32.ofNat len), .null] 6)) (T8.setTop (mkF m 45 #[.val (.ref a), .val (.ref b), .val (.int (Int32.ofNat o)), .val (.int (Int32.ofNat len)), .val .null, .val (.ref s.heap.size)] [.int (Int32.ofNat N.slots.size), .ref s.heap.size, .ref a])) := by
    have hc : Steps p.tables e below (s₁.setTop (entryFrame m #[.ref a, .ref b, .int (Int32.ofNat o), .int (Int32.ofNat len), .null] 6)) (T8.setTop (mkF m 45 #[.val (.ref a), .val (.ref b), .val (.int (Int32.ofNat o)), .val (.int (Int32.ofNat len)), .val .null, .val (.ref s.heap.size)] [.int (Int32.ofNat len), .ref s.heap.size, .ref a])) := c9.trans (by
      refine XS.astore X8.here hexec rfl (hb hbytes d39) rfl rfl rfl ?_
      refine XS.aloadN X8.here hexec rfl (hb hbytes d41) rfl rfl ?_
      refine XS.aload X8.here hexec rfl (hb hbytes d42) rfl rfl ?_
      refine XS.iloadN X8.here hexec rfl (hb hbytes d44) rfl ?_
      exact Steps.refl _)
    rw [n4]; exact hc
  obtain ⟨v11, T11, X11, E11, g11⟩ := X8.callS hexec (CodL.law l s.heap.size N) hown (wks W (staticW "java/lang/String" 47 CodL.yN)) (wk W CodL.tab) (W := 1) (Nat.le_of_ble_eq_true rfl) (Nat.le_of_ble_eq_true rfl) (Nat.le_refl _) (by show 0 + len + 0 ≤ len; omega) (g := (mkF m 45 #[.val (.ref a), .val (.ref b), .val (.int (Int32.ofNat o)), .val (.int (Int32.ofNat len)), .val .null, .val (.ref s.heap.size)] [.int (Int32.ofNat N.slots.size), .ref s.heap.size, .ref a])) rfl (by rw [hml]; rfl) c10 (argsL := [.ref s.heap.size, .int (Int32.ofNat N.slots.size)]) (rest := [.ref a]) rfl rfl (by show 2 * 0 + (1 + 0) ≤ _; decide) (hb hbytes d45) (⟨rfl, n1⟩)
  obtain ⟨rfl, q11⟩ := E11
  have hB11 := hB1.mv (X8.warmed.alike.symm.trans X11.warmed.alike) q11
  have c12 : Steps p.tables e below (s₁.setTop (entryFrame m #[.ref a, .ref b, .int (Int32.ofNat o), .int (Int32.ofNat len), .null] 6)) (T11.setTop (mkF m 48 #[.val (.ref a), .val (.ref b), .val (.int (Int32.ofNat o)), .val (.int (Int32.ofNat len)), .val .null, .val (.ref s.heap.size)] [.int 0, .ref a])) := g11
  obtain ⟨T13, X13, p13, bl13, sl13, st13⟩ := X11.finit hexec hown (wk W (.fieldLink "java/lang/String" 15 "java/lang/String" "coder" "B")) (Or.inr ⟨_, (wk W (.laysFinal "java/lang/String" "java/lang/String" "coder" "B"))⟩) (Or.inl ⟨rfl, hnm⟩) f2 (Or.inl rfl) hB11 (t := .byte) (by decide +kernel) rfl (g := (mkF m 48 #[.val (.ref a), .val (.ref b), .val (.int (Int32.ofNat o)), .val (.int (Int32.ofNat len)), .val .null, .val (.ref s.heap.size)] [.int 0, .ref a])) rfl (rest := []) rfl (hb hbytes d48)
  have c14 : Steps p.tables e below (s₁.setTop (entryFrame m #[.ref a, .ref b, .int (Int32.ofNat o), .int (Int32.ofNat len), .null] 6)) (T13.setTop (mkF m 54 #[.val (.ref a), .val (.ref b), .val (.int (Int32.ofNat o)), .val (.int (Int32.ofNat len)), .val .null, .val (.ref s.heap.size)] [.ref s.heap.size, .ref a])) := (c12.trans (st13 _ (Steps.refl _))).trans (by
    refine XS.aloadN X13.here hexec rfl (hb hbytes d51) rfl rfl ?_
    refine XS.aload X13.here hexec rfl (hb hbytes d52) rfl rfl ?_
    exact Steps.refl _)
  obtain ⟨T15, X15, p15, bl15, sl15, st15⟩ := X13.finit hexec hown (wk W (.fieldLink "java/lang/String" 9 "java/lang/String" "value" "[B")) (Or.inr ⟨_, (wk W (.laysFinal "java/lang/String" "java/lang/String" "value" "[B"))⟩) (Or.inl ⟨rfl, hnm⟩) f1 (Or.inl rfl) bl13 (t := (.array .byte)) (by decide +kernel) rfl (g := (mkF m 54 #[.val (.ref a), .val (.ref b), .val (.int (Int32.ofNat o)), .val (.int (Int32.ofNat len)), .val .null, .val (.ref s.heap.size)] [.ref s.heap.size, .ref a])) rfl (rest := []) rfl (hb hbytes d54)
  have c16 : Steps p.tables e below (s₁.setTop (entryFrame m #[.ref a, .ref b, .int (Int32.ofNat o), .int (Int32.ofNat len), .null] 6)) (T15.setTop (mkF m 57 #[.val (.ref a), .val (.ref b), .val (.int (Int32.ofNat o)), .val (.int (Int32.ofNat len)), .val .null, .val (.ref s.heap.size)] [])) := c14.trans (st15 _ (Steps.refl _))
  have ap := apart (Or.inr ⟨_, (wk W (.laysFinal "java/lang/String" "java/lang/String" "value" "[B"))⟩) (Or.inr ⟨_, (wk W (.laysFinal "java/lang/String" "java/lang/String" "coder" "B"))⟩) f1 f2 (t₁ := .array .byte) (t₂ := .byte) (by decide +kernel) (by decide +kernel) (by decide)
  have al := X8.warmed.alike.symm.trans X15.warmed.alike
  have n7 : T11.heap[s.heap.size]? = some N := by rw [q11]; exact n1.1
  exact ⟨T15, none, _, _, _, X15, by simp, rfl, by omega, (fun _ => rfl), ⟨rfl, _, N, bl15, ((Same.refl D _).set _ (by simp)).set _ (by simp), sl15, (Cell.slots_setSlot_ne _ ap).trans sl13, n1.keep al (p15.other hne (p13.other hne n7)), n2, by rw [al.findClass]; exact n3, n4, n5, fun y c h1 h2 => p15.other h1 (p13.other h1 (by rw [q11]; exact n6 y c h2)), by rw [p15.2.2, p13.2.2, q11]; exact z8⟩, fun fs hl => c16.trans (X15.returnOut hexec hret (hb hbytes d57) hl)⟩
end New4
namespace New1
def yN : MethodName := ⟨"java/lang/String", "<init>", "([C)V"⟩
abbrev yB : ByteArray := jdk_42_method_3_code
theorem d0 : decode yB 0 = .ok (.aload_n 0, 1) := by decide +kernel
theorem d1 : decode yB 1 = .ok (.aload_n 1, 1) := by decide +kernel
theorem d2 : decode yB 2 = .ok (.iconst 0, 1) := by decide +kernel
theorem d3 : decode yB 3 = .ok (.aload_n 1, 1) := by decide +kernel
theorem d4 : decode yB 4 = .ok (.arraylength, 1) := by decide +kernel
theorem d5 : decode yB 5 = .ok (.aconst_null, 1) := by decide +kernel
theorem d6 : decode yB 6 = .ok (.invokespecial 27, 3) := by decide +kernel
theorem d9 : decode yB 9 = .ok (.return_, 1) := by decide +kernel
def site : List Cond := [New4.tab] ++ initW "java/lang/String" 27 New4.yN
def tab : Cond := tabOf yN yB 2 none site
def P (a : Addr) (D : Cell) (fV fC : Field) (b : Addr) (A : Cell) (z : Int32) (args : Array Value) (s : State) : Prop := args = #[.ref a, .ref b] ∧ Blank "java/lang/String" a D s ∧ Found "java/lang/String" "value" "[B" fV s ∧ Found "java/lang/String" "coder" "B" fC s ∧ Ch b A s ∧ StaticIs s "java/lang/String" "COMPACT_STRINGS" "Z" (.int z) ∧ ¬ z = 0 ∧ 0 < A.slots.size ∧ A.slots.size ≤ 536870912 ∧ ∀ i, i < A.slots.size → ¬ 255 < cv A i
def E (a : Addr) (D : Cell) (fV fC : Field) (A : Cell) (r : Option Value) (s u : State) : Prop := Got a D fV fC A 0 A.slots.size r s u
/-- new String(chars), not empty, no char above 255: a Latin-1 String of their low bytes -/
theorem law (l : Launch) (a : Addr) (D : Cell) (fV fC : Field) (b : Addr) (A : Cell) (z : Int32) : Law l yN 2 1 3 52 yB 2 none site (P a D fV fC b A z) (E a D fV fC A) [⟨a, fC.slot⟩, ⟨a, fV.slot⟩] 1 A.slots.size := by
  refine Law.of_walk (plainFor_of_name (by decide +kernel)) (by decide +kernel) (by decide +kernel) (by decide) (fun _ _ h => by rw [h.1]; rfl) (fun _ U U' hal hh h => ⟨h.1, h.2.1.mv hal hh, h.2.2.1.al hal, h.2.2.2.1.al hal, h.2.2.2.2.1.mv hal hh, h.2.2.2.2.2.1.there hal hh, h.2.2.2.2.2.2⟩) (fun r U U' V V' h1 hal h2 h => Got.mv r U U' V V' h1 hal h2 h) ?_
  intro p e s m args below meth c s₁ X0 hexec hbytes hml hret hlk hnm hown hh0 W hP
  obtain ⟨rfl, hB, f1, f2, hA, s1, hz, l0, l2, hp⟩ := hP
  have c1 : Steps p.tables e below (s₁.setTop (entryFrame m #[.ref a, .ref b] 2)) (s₁.setTop (mkF m 0 #[.val (.ref a), .val (.ref b)] [])) := entry rfl
  have c2 : Steps p.tables e below (s₁.setTop (entryFrame m #[.ref a, .ref b] 2)) (s₁.setTop (mkF m 6 #[.val (.ref a), .val (.ref b)] [.null, .int (Int32.ofNat A.slots.size), .int 0, .ref b, .ref a])) := c1.trans (by
    refine XS.aloadN X0.here hexec rfl (hb hbytes d0) rfl rfl ?_
    refine XS.aloadN X0.here hexec rfl (hb hbytes d1) rfl rfl ?_
    refine iconstV X0.here hexec rfl 0 (hb hbytes d2) (by decide) ?_
    refine XS.aloadN X0.here hexec rfl (hb hbytes d3) rfl rfl ?_
    refine X0.alen hexec (hA.1.mv X0.warmed.alike hh0) rfl rfl (hb hbytes d4) ?_
    refine XS.aconstNull X0.here hexec rfl (hb hbytes d5) ?_
    exact Steps.refl _)
  obtain ⟨v3, T3, X3, E3, g3⟩ := X0.callN hexec (New4.law l a D fV fC b A z 0 A.slots.size) rfl hown (wks W (initW "java/lang/String" 27 New4.yN)) (W New4.tab (by simp only [site, List.mem_cons, List.mem_append, true_or, or_true])) (W := 0) (Nat.le_of_ble_eq_true rfl) (Nat.le_of_ble_eq_true rfl) (Nat.le_refl _) (by show 0 + A.slots.size ≤ A.slots.size; omega) (g := (mkF m 6 #[.val (.ref a), .val (.ref b)] [.null, .int (Int32.ofNat A.slots.size), .int (Int32.ofNat 0), .ref b, .ref a])) rfl (by rw [hml]; rfl) c2 (argsL := [.ref b, .int (Int32.ofNat 0), .int (Int32.ofNat A.slots.size), .null]) (rest := []) rfl rfl (by show 2 * 0 + 0 ≤ _; decide) (hb hbytes d6) (⟨rfl, hB.mv X0.warmed.alike hh0, f1.al X0.warmed.alike, f2.al X0.warmed.alike, hA.mv X0.warmed.alike hh0, s1.there X0.warmed.alike hh0, hz, l0, by omega, l2, fun i hi => by rw [Nat.zero_add]; exact hp i hi⟩)
  have e0 := Got.mv _ s₁ s _ _ hh0.symm (Vm.Alike.refl _) rfl E3
  obtain rfl := e0.1
  have c4 : Steps p.tables e below (s₁.setTop (entryFrame m #[.ref a, .ref b] 2)) (T3.setTop (mkF m 9 #[.val (.ref a), .val (.ref b)] [])) := g3
  exact ⟨T3, none, _, _, _, X3, by simp, rfl, by omega, (fun _ => rfl), e0, fun fs hl => c4.trans (X3.returnOut hexec hret (hb hbytes d9) hl)⟩
theorem pays {l : Launch} {R : Room} {p : Program} {e : Env} {below : List Frame} {s : State} {sargs : Array Value} {len W : Nat} (a : Addr) (D : Cell) (fV fC : Field) (b : Addr) (A : Cell) (z : Int32) (htab : tab.before sargs s = true) (hfr : 4 ≤ R.frames) (hlo : W + 65 ≤ R.locals) :
    Back l R p e below s sargs yN len W (fun A₁ a₁ => A₁.cells + 1 ≤ R.cells ∧ A₁.slots + A.slots.size ≤ R.slots ∧ P a D fV fC b A z a₁ A₁.U) (fun A₁ _ v₁ B₁ => E a D fV fC A v₁ A₁.U B₁.U ∧ B₁.locs = A₁.locs ++ [⟨a, fC.slot⟩, ⟨a, fV.slot⟩] ∧ B₁.cells = A₁.cells + 1 ∧ B₁.slots = A₁.slots + A.slots.size) :=
  (law l a D fV fC b A z).pays htab hfr (by omega)
end New1
/-- the byte, read back as charAt reads it, is the char -/
theorem lo8_mask {x : Int32} (h0 : ¬ x < 0) (h1 : ¬ 255 < x) : lo8 x &&& 255 = x := by
  have t : ∀ k : Fin 256, lo8 (Int32.ofNat k.val) &&& 255 = Int32.ofNat k.val := by decide +kernel
  rw [Int32.lt_iff_toInt_lt] at h0 h1
  have e0 : (0 : Int32).toInt = 0 := rfl
  have e1 : (255 : Int32).toInt = 255 := rfl
  obtain ⟨k, hk⟩ : ∃ k : Nat, x.toInt = k := ⟨x.toInt.toNat, by omega⟩
  have hx : x = Int32.ofNat k := Int32.toInt_inj.mp (by rw [hk, Int32.toInt_ofNat_small (by omega)])
  rw [hx]
  exact t ⟨k, by omega⟩
end StrChars
namespace StrChars.Road
open Jvm Sem ClassFile Op Lib Jvm.Stand Jvm.Free Jvm.Free.XT
open Jvm.Lib.Cold (StaticIs)
abbrev ST : String := "java/lang/String"
/-- every table word that New1's law asks, flat -/
abbrev words : List Jvm.Cond := [.code New1.yN New1.yB 2 none, .initialized ST, .methodLink ST 27 New4.yN, .instanceMethod New4.yN,
  .code New4.yN New4.yB 6 none, .fieldLink ST 38 ST "COMPACT_STRINGS" "Z", .laysFinal ST ST "value" "[B", .fieldLink ST 9 ST "value" "[B", .laysFinal ST ST "coder" "B", .fieldLink ST 15 ST "coder" "B",
  .methodLink ST 1 Lib.objectInit, .instanceMethod Lib.objectInit, .code Lib.objectInit ⟨#[0xb1]⟩ 1 none, .methodLink ST 177 Cmp3.yN, .static Cmp3.yN, .methodLink ST 47 CodL.yN, .static CodL.yN,
  .code Cmp3.yN Cmp3.yB 6 (some (.array .byte)), .initialized U16, .arrayClass .byte, .methodLink U16 115 Cmp5.yN, .static Cmp5.yN, .code Cmp5.yN Cmp5.yB 7 (some .int), .code CodL.yN CodL.yB 2 (some .byte)]
theorem tab_of {a : Array Value} {s : State} (h : ∀ w ∈ words, w.before a s = true) : New1.tab.before a s = true := by
  have h5 : Cmp5.tab.before a s = true := unparts (wk h (.code Cmp5.yN Cmp5.yB 7 (some .int))) (wks h (.initialized Cmp5.yN.cls :: Cmp5.site))
  have hc : CodL.tab.before a s = true := unparts (wk h (.code CodL.yN CodL.yB 2 (some .byte))) (wks h (.initialized CodL.yN.cls :: CodL.site))
  have q5 : ∀ w ∈ Cmp5.tab :: words, w.before a s = true := fun w hw => (List.mem_cons.mp hw).elim (fun e => e ▸ h5) (h w)
  have h3 : Cmp3.tab.before a s = true := unparts (wk q5 (.code Cmp3.yN Cmp3.yB 6 (some (.array .byte)))) (wks q5 (.initialized Cmp3.yN.cls :: Cmp3.site))
  have q3 : ∀ w ∈ Cmp3.tab :: CodL.tab :: words, w.before a s = true := fun w hw => (List.mem_cons.mp hw).elim (fun e => e ▸ h3) fun hw => (List.mem_cons.mp hw).elim (fun e => e ▸ hc) (h w)
  have h4 : New4.tab.before a s = true := unparts (wk q3 (.code New4.yN New4.yB 6 none)) (wks q3 (.initialized New4.yN.cls :: New4.site))
  have q4 : ∀ w ∈ New4.tab :: words, w.before a s = true := fun w hw => (List.mem_cons.mp hw).elim (fun e => e ▸ h4) (h w)
  exact unparts (wk q4 (.code New1.yN New1.yB 2 none)) (wks q4 (.initialized New1.yN.cls :: New1.site))
/-- the words ride from the start Z to the walk's own state -/
theorem moved {Z s : State} {a0 args : Array Value} (hZ : Z.Warmed39 s.vm) (hw : ∀ d ∈ words, d.before a0 Z = true) : ∀ d ∈ words, d.before args s = true := fun d hd => by
  have q := hw d hd
  have t : ∀ d ∈ words, d = .arrayClass .byte ∨ (d.onTables && d.keepsFace) = true := by decide +kernel
  rcases t d hd with rfl | t
  · exact RoadKit.mvA hZ q
  · exact RoadKit.mv hZ q t
/-- WHAT COMES BACK, over the tables of the start Z: h the heap at the call, h' behind it -/
def Q (Z : State) (x : Addr) (A : Cell) (h : Heap) (v : Option Value) (h' : Heap) (L : List Loc) : Prop := v = none ∧ (∀ y ∈ L, y.base = x) ∧ RoadKit.Keep h h' [x] ∧ h'.size = h.size + 1 ∧ RoadKit.Exa Z h' x ST ∧ RoadKit.Fld Z h' x ST "value" "[B" (.ref h.size) ∧ RoadKit.Fld Z h' x ST "coder" "B" (.int 0) ∧
  (∃ V : Cell, RoadKit.Arr Z h' h.size V .byte ∧ V.vm = .none ∧ Z.vm.findClass "[B" = some V.cls ∧ V.slots.size = A.slots.size ∧ ∀ j, j < A.slots.size → V.slots[j]? = some (.int (lo8 (cv A j)))) ∧
  ∀ (O n d : String) (w : Value), RoadKit.Fld Z h x O n d w → RoadKit.slotOf Z O n d ≠ RoadKit.slotOf Z ST "value" "[B" → RoadKit.slotOf Z O n d ≠ RoadKit.slotOf Z ST "coder" "B" → RoadKit.Fld Z h' x O n d w
/-- **new String(chars) AT A CALL, IN THE ROAD'S FORM**: for specialBack behind newO: x the fresh String, b the char[] with the cell A -/
theorem back {p : Program} {l : Launch} {e : Env} {R : Room} {s : State} {args : Array Value} {below : List Frame} {len W : Nat} {Z : State} {a0 : Array Value} {h : Heap} (hZ : Z.Warmed39 s.vm) (hw : ∀ d ∈ words, d.before a0 Z = true) {kI : Nat} (wi : (Jvm.Cond.instantiable ST kI).before a0 Z = true)
    {x b : Addr} {A : Cell} {z : Int32} {v0 c0 : Value} (E : RoadKit.Exa Z h x ST) (V : RoadKit.Fld Z h x ST "value" "[B" v0) (C : RoadKit.Fld Z h x ST "coder" "B" c0) (K : RoadKit.Arr Z h b A .char) (hty : Typed .char A) (S : RoadKit.Sta Z h ST "COMPACT_STRINGS" "Z" (.int z)) (hz : ¬ z = 0)
    (l0 : 0 < A.slots.size) (l2 : A.slots.size ≤ 536870912) (hp : ∀ i, i < A.slots.size → ¬ 255 < cv A i) (hfr : 4 ≤ R.frames) (hlo : W + 65 ≤ R.locals) :
    Back l R p e below s args New1.yN len W (fun P a => a = #[.ref x, .ref b] ∧ P.U.heap = h ∧ P.cells + 1 ≤ R.cells ∧ P.slots + A.slots.size ≤ R.slots)
      (fun P _ v B => ∃ L, Q Z x A h v B.U.heap L ∧ B.locs = P.locs ++ L ∧ B.cells = P.cells + 1 ∧ B.slots = P.slots + A.slots.size) := by
  intro m meth c P g ig mk a X hg hsize hdg hW hn hp'
  obtain ⟨rfl, rfl, r1, r2⟩ := hp'
  have al : Z.vm.Alike P.U.vm := hZ.alike.trans X.warmed.alike
  obtain ⟨D, cfV, kV, iV, fV, hD, gV, stV, knV, obV, asV, slV⟩ := id V
  obtain ⟨D', cfC, kC, iC, fC, hD', gC, stC, -, -, asC, slC⟩ := id C
  cases hD.symm.trans hD'
  obtain ⟨D2, kD, e1, e2, e3, e4, e5⟩ := id E
  cases hD.symm.trans e1
  obtain ⟨c2, k2, i1, i2, i3, -⟩ := Cond.instantiable_spec wi
  cases e2.symm.trans i1
  cases e3.symm.trans i2
  obtain ⟨kU, u1, u2⟩ := al.2.2 _ _ e3
  have hB : Blank ST x D P.U := ⟨hD, ⟨knV, fun q hq => by rw [hq] at obV; cases obV⟩, by rw [al.findClass]; exact e2, kU, u1, by rw [u2]; exact i3, by rw [u2]; exact e5 i3⟩
  have F1 : Found ST "value" "[B" fV P.U := ⟨SBG.found_only al ⟨cfV, kV, iV, gV⟩, stV⟩
  have F2 : Found ST "coder" "B" fC P.U := ⟨SBG.found_only al ⟨cfC, kC, iC, gC⟩, stC⟩
  have hA : Ch b A P.U := ⟨⟨K.1, State.isArrayOf_alike al K.2.1, K.2.2, by omega⟩, hty⟩
  have hS : StaticIs P.U ST "COMPACT_STRINGS" "Z" (.int z) := by
    obtain ⟨cfS, iS, kS, fS, st, cS, t1, t2, t3, t4, t5, t6, t7⟩ := S
    exact StaticIs.there (s := { Z with heap := P.U.heap }) ⟨cfS, iS, kS, fS, st, cS, t1, t2, t3, t4, t5, (fun q => by rw [q] at t6; cases t6), t7⟩ al rfl
  obtain ⟨v, B, X', ⟨⟨hv, E', V', q1, q2, q3, q4, q5, q6, q7, q8, q9, q10, q11⟩, hl, hc, hs⟩, st⟩ := New1.pays x D fV fC b A z (tab_of (moved hZ hw)) hfr hlo m meth c P g ig mk _ X hg hsize hdg hW hn ⟨r1, r2, rfl, hB, F1, F2, hA, hS, hz, l0, l2, hp⟩
  have al' : Z.vm.Alike B.U.vm := hZ.alike.trans X'.warmed.alike
  have hsz : E'.slots.size = D.slots.size := by
    obtain ⟨-, -, -, kB, w1, w2, w3⟩ := q1
    obtain ⟨kB', y1, y2⟩ := al'.2.2 _ _ e3
    rw [q2.2.1] at w1
    cases w1.symm.trans y1
    rw [w3, e5 i3, y2]
  refine ⟨v, B, X', ⟨_, ⟨hv, ?_, ⟨by omega, fun y cy hy hn' => q10 y cy (by simpa using hn') hy, fun y cy hy => ?_⟩, q11, ⟨E', _, q1.1, by rw [q2.2.1]; exact e2, by rw [q2.2.1]; exact e3, by rw [q2.1]; exact obV, fun _ => by rw [hsz]; exact e5 i3⟩,
    ⟨E', cfV, kV, iV, fV, q1.1, gV, stV, by rw [q2.1]; exact knV, by rw [q2.1]; exact obV, by rw [q2.2.1]; exact asV, q3⟩, ⟨E', cfC, kC, iC, fC, q1.1, gC, stC, by rw [q2.1]; exact knV, by rw [q2.1]; exact obV, by rw [q2.2.1]; exact asC, q4⟩,
    ⟨V', ⟨q5.1, State.isArrayOf_alike al'.symm q5.2.1, q5.2.2.1⟩, q6, by rw [← al'.findClass]; exact q7, q8, fun j hj => by have := q9 j hj; rwa [Nat.zero_add] at this⟩, fun O n d w F n1 n2 => ?_⟩, hl, hc, hs⟩, st⟩
  · intro y hy
    simp only [List.mem_cons, List.not_mem_nil, or_false] at hy
    rcases hy with rfl | rfl <;> rfl
  · by_cases q : y = x
    · subst q
      cases hD.symm.trans hy
      exact ⟨E', q1.1, q2.2.1, q2.1, hsz⟩
    · exact ⟨cy, q10 y cy q hy, rfl, rfl, rfl⟩
  · obtain ⟨D3, cf, k, i, f, g1, g2, g3, g4, g5, g6, g7⟩ := F
    cases hD.symm.trans g1
    simp only [RoadKit.slotOf, g2, gV, gC, Option.map_some, Option.getD_some] at n1 n2
    exact ⟨E', cf, k, i, f, q1.1, g2, g3, by rw [q2.1]; exact g4, by rw [q2.1]; exact g5, by rw [q2.2.1]; exact g6, by rw [q2.2.2 f.slot (by simp [n1, n2])]; exact g7⟩
end StrChars.Road
namespace StrChars.Road
open Jvm Sem ClassFile Op Lib Jvm.Stand Jvm.Free Jvm.Free.XT
/-- WHAT COMES BACK, the byte[] as a list of values -/
def QA (Z : State) (x : Addr) (zn : Int32) (cs : List Int32) (h : Heap) (v : Option Value) (h' : Heap) (L : List Loc) : Prop := v = none ∧ (∀ y ∈ L, y.base = x) ∧ RoadKit.Keep h h' [x] ∧ h'.size = h.size + 1 ∧ RoadKit.Exa Z h' x ST ∧ RoadKit.Fld Z h' x ST "value" "[B" (.ref h.size) ∧ RoadKit.Fld Z h' x ST "coder" "B" (.int 0) ∧
  (∃ kb, Z.vm.findClass "[B" = some kb ∧ RoadKit.Arv Z h' h.size kb .byte zn (cs.map fun c => .int (lo8 c)) (.int 0)) ∧
  ∀ (O n d : String) (w : Value), RoadKit.Fld Z h x O n d w → RoadKit.slotOf Z O n d ≠ RoadKit.slotOf Z ST "value" "[B" → RoadKit.slotOf Z O n d ≠ RoadKit.slotOf Z ST "coder" "B" → RoadKit.Fld Z h' x O n d w
/-- **new String(chars) AT A CALL, THE ARRAYS AS LISTS**: the char[] at b holds cs, not empty, no char above 255 -/
theorem backArv {p : Program} {l : Launch} {e : Env} {R : Room} {s : State} {args : Array Value} {below : List Frame} {len W : Nat} {Z : State} {a0 : Array Value} {h : Heap} (hZ : Z.Warmed39 s.vm) (hw : ∀ d ∈ words, d.before a0 Z = true) {kI : Nat} (wi : (Jvm.Cond.instantiable ST kI).before a0 Z = true)
    {x b : Addr} {k : ClassId} {zn z : Int32} {cs : List Int32} {dv v0 c0 : Value} (E : RoadKit.Exa Z h x ST) (V : RoadKit.Fld Z h x ST "value" "[B" v0) (C : RoadKit.Fld Z h x ST "coder" "B" c0) (K : RoadKit.Arv Z h b k .char zn (cs.map Value.int) dv) (S : RoadKit.Sta Z h ST "COMPACT_STRINGS" "Z" (.int z)) (hz : ¬ z = 0)
    (hlen : zn.toNatClampNeg = cs.length) (h0 : 0 < cs.length) (hbig : cs.length ≤ 536870912) (hall : ∀ c ∈ cs, ¬ 255 < c) (hfr : 4 ≤ R.frames) (hlo : W + 65 ≤ R.locals) :
    Back l R p e below s args New1.yN len W (fun P a => a = #[.ref x, .ref b] ∧ P.U.heap = h ∧ P.cells + 1 ≤ R.cells ∧ P.slots + cs.length ≤ R.slots)
      (fun P _ v B => ∃ L, QA Z x zn cs h v B.U.heap L ∧ B.locs = P.locs ++ L ∧ B.cells = P.cells + 1 ∧ B.slots = P.slots + cs.length) := by
  obtain ⟨A, K1, K2, K3, K4, K5, K6⟩ := K
  have e : A.slots.size = cs.length := K3.trans hlen
  have hat : ∀ (i : Nat) (hi : i < cs.length), A.slots[i]? = some (.int cs[i]) := fun i hi => by rw [K5 i (by omega)]; simp [List.getD_eq_getElem?_getD, hi]
  have hcv : ∀ (i : Nat) (hi : i < cs.length), cv A i = cs[i] := fun i hi => by unfold cv; rw [hat i hi]
  have hty : Typed .char A := fun i v hv => by
    have hi : i < A.slots.size := (Array.getElem?_eq_some_iff.mp hv).1
    have q := K5 i hi
    rw [hv] at q
    rw [Option.some.inj q]
    exact K6 i hi
  refine Back.mono (back hZ hw wi E V C K1 hty S hz (by omega) (by omega) (fun i hi => by rw [hcv i (by omega)]; exact hall _ (List.getElem_mem _)) hfr hlo) (fun P a hp => ⟨hp.1, hp.2.1, hp.2.2.1, by rw [e]; exact hp.2.2.2⟩) (fun P a v B hp hq => ?_)
  obtain ⟨L, ⟨q1, q2, q3, q4, q5, q6, q7, ⟨V', v1, v2, v3, v4, v5⟩, q9⟩, hl, hc, hs⟩ := hq
  refine ⟨L, ⟨q1, q2, q3, q4, q5, q6, q7, ⟨V'.cls, v3, V', v1, rfl, by rw [v4, e, hlen], K4, fun i hi => ?_, fun i hi => ?_⟩, q9⟩, hl, hc, by rw [hs, e]⟩
  · have hi' : i < cs.length := by omega
    rw [v5 i (by omega), hcv i hi']; simp [List.getD_eq_getElem?_getD, hi']
  · have hi' : i < cs.length := by omega
    simp only [List.getD_eq_getElem?_getD, List.getElem?_map, List.getElem?_eq_getElem hi', Option.map_some, Option.getD_some]
    exact fits_lo8 _
end StrChars.Road
namespace StrChars.Road
open Jvm Sem ClassFile Op Lib Jvm.Stand Jvm.Free Jvm.Free.XT
/-- WHAT COMES BACK, in the writer's own shape -/
def QV (Z : State) (x : Addr) (N : Int32) (bs : List Int32) (h : Heap) (n0 : Nat) (v : Option Value) (h' : Heap) (L : List Loc) : Prop := v = none ∧ RoadKit.Fr n0 L ∧ RoadKit.Keep h h' [x] ∧ RoadKit.Exa Z h' x ST ∧ RoadKit.Fld Z h' x ST "coder" "B" (.int 0) ∧
  ∃ (t : Addr) (kb : ClassId), n0 ≤ t ∧ h.size ≤ t ∧ ¬ t = x ∧ RoadKit.Fld Z h' x ST "value" "[B" (.ref t) ∧ RoadKit.Arv Z h' t kb .byte N (bs.map Value.int) (.int 0)
/-- **new String(chars) AT A CALL, FOR THE WRITER**: a char[] of n known ints, each 0 to 255 -/
theorem backV {p : Program} {l : Launch} {e : Env} {R : Room} {s : State} {args : Array Value} {below : List Frame} {len W : Nat} {Z : State} {a0 : Array Value} {h : Heap} (hZ : Z.Warmed39 s.vm) (hw : ∀ d ∈ words, d.before a0 Z = true) {kI : Nat} (wi : (Jvm.Cond.instantiable ST kI).before a0 Z = true)
    {x b : Addr} {kC : ClassId} {cs bs : List Int32} {d v0 c0 : Value} {z N : Int32} {n n0 : Nat} (hx0 : n0 ≤ x) (hh0 : n0 ≤ h.size) (E : RoadKit.Exa Z h x ST) (V : RoadKit.Fld Z h x ST "value" "[B" v0) (C : RoadKit.Fld Z h x ST "coder" "B" c0) (K : RoadKit.Arv Z h b kC .char N (cs.map Value.int) d) (S : RoadKit.Sta Z h ST "COMPACT_STRINGS" "Z" (.int z)) (hz : ¬ z = 0)
    (hn : cs.length = n) (hN : N = Int32.ofNat n) (l0 : 0 < n) (l2 : n ≤ 4000) (hp : ∀ c ∈ cs, ¬ c < 0 ∧ ¬ (255 : Int32) < c) (hb : bs = cs.map (fun c => c.toInt8.toInt32)) (hfr : 4 ≤ R.frames) (hlo : W + 65 ≤ R.locals) :
    Back l R p e below s args (⟨"java/lang/String", "<init>", "([C)V"⟩ : MethodName) len W (fun P a => a = #[.ref x, .ref b] ∧ P.U.heap = h ∧ P.cells + 1 ≤ R.cells ∧ P.slots + n ≤ R.slots)
      (fun P _ v B => ∃ L, QV Z x N bs h n0 v B.U.heap L ∧ B.locs = P.locs ++ L ∧ B.cells = P.cells + 1 ∧ B.slots = P.slots + n) := by
  subst hn hN hb
  refine Back.mono (backArv hZ hw wi E V C K S hz (n32 (by omega)) l0 (by omega) (fun c hc => (hp c hc).2) hfr hlo) (fun P a hp => hp) (fun P a v B hp hq => ?_)
  obtain ⟨L, ⟨q1, q2, q3, q4, q5, q6, q7, ⟨kb, v1, v2⟩, q9⟩, hl, hc, hs⟩ := hq
  exact ⟨L, ⟨q1, fun y hy => by rw [q2 y hy]; exact hx0, q3, q5, q7, h.size, kb, hh0, Nat.le_refl _, Nat.ne_of_gt E.lt, q6, by rw [List.map_map]; exact v2⟩, hl, hc, hs⟩
end StrChars.Road
namespace StrChars
open Jvm Sem ClassFile Op Lib Jvm.Stand Jvm.Free.XT Jvm.Free.ALB Jvm.Free.JM Jvm.Free
open Jvm.Lib.Cold (StaticIs)
def hi8 (x : Int32) : Int32 := lo8 (x >>> ((8 : Int32) &&& 31))
/-- what StringUTF16.getChar makes of two bytes -/
def pairCh (u v : Int32) : Int32 := (((u &&& 255) <<< ((0 : Int32) &&& 31)) ||| ((v &&& 255) <<< ((8 : Int32) &&& 31))).toUInt32.toUInt16.toUInt32.toInt32
theorem lo8_and (x : Int32) : (lo8 x &&& 255).toBitVec.toNat = x.toBitVec.toNat % 256 := by
  have h : (lo8 x).toBitVec = (x.toBitVec.signExtend 8).signExtend 32 := by rw [lo8, Int8.toBitVec_toInt32, Int32.toBitVec_toInt8]
  rw [Int32.toBitVec_and, BitVec.toNat_and, h]
  have e : ((x.toBitVec.signExtend 8).signExtend 32).toNat % 256 = x.toBitVec.toNat % 256 := by
    rw [BitVec.toNat_signExtend]
    have hlt := x.toBitVec.isLt
    simp only [BitVec.toNat_setWidth, BitVec.toNat_signExtend]
    split <;> split <;> omega
  rw [← e]
  exact Nat.and_two_pow_sub_one_eq_mod _ 8
theorem pair_says {c : Int32} (h0 : ¬ c < 0) (h1 : ¬ 65535 < c) : pairCh (lo8 c) (hi8 c) = c := by
  rw [Int32.lt_iff_toInt_lt] at h0 h1
  have e0 : (0 : Int32).toInt = 0 := rfl
  have e1 : (65535 : Int32).toInt = 65535 := rfl
  have hc : c.toInt = c.toBitVec.toNat := by
    have := c.toBitVec.isLt
    have e : c.toInt = c.toBitVec.toInt := rfl
    rw [e] at h0 h1
    rw [e]
    rw [BitVec.toInt_eq_toNat_cond] at h0 h1 ⊢
    split at h0 <;> split <;> omega
  have hn : c.toBitVec.toNat < 65536 := by omega
  have a1 := lo8_and c
  have a2 : (hi8 c &&& 255).toBitVec.toNat = c.toBitVec.toNat / 256 := by
    rw [hi8, lo8_and]
    have e : ((8 : Int32) &&& 31) = 8 := by decide
    rw [e, Int32.toBitVec_shiftRight]
    have e2 : ((8 : Int32).toBitVec.smod 32) = 8#32 := by decide
    rw [e2, BitVec.sshiftRight_eq', BitVec.toNat_sshiftRight_of_msb_false (by rw [BitVec.msb_eq_false_iff_two_mul_lt]; omega)]
    show c.toBitVec.toNat >>> 8 % 256 = _
    rw [Nat.shiftRight_eq_div_pow]
    omega
  unfold pairCh
  apply Int32.toBitVec_inj.mp
  apply BitVec.eq_of_toNat_eq
  have f0 : ((0 : Int32) &&& 31) = 0 := by decide
  have f8 : ((8 : Int32) &&& 31) = 8 := by decide
  rw [f0, f8]
  have g : (((lo8 c &&& 255) <<< (0 : Int32)) ||| ((hi8 c &&& 255) <<< (8 : Int32))).toBitVec.toNat = c.toBitVec.toNat := by
    rw [Int32.toBitVec_or, Int32.toBitVec_shiftLeft, Int32.toBitVec_shiftLeft]
    have s0 : ((0 : Int32).toBitVec.smod 32) = 0#32 := by decide
    have s8 : ((8 : Int32).toBitVec.smod 32) = 8#32 := by decide
    rw [s0, s8, BitVec.toNat_or]
    simp only [BitVec.shiftLeft_eq', BitVec.toNat_shiftLeft, a1, a2]
    show (c.toBitVec.toNat % 256) <<< 0 % 2 ^ 32 ||| (c.toBitVec.toNat / 256) <<< 8 % 2 ^ 32 = _
    rw [Nat.shiftLeft_zero, Nat.mod_eq_of_lt (show c.toBitVec.toNat % 256 < 2 ^ 32 by omega), Nat.mod_eq_of_lt (show (c.toBitVec.toNat / 256) <<< 8 < 2 ^ 32 by rw [Nat.shiftLeft_eq]; omega), Nat.or_comm, ← Nat.shiftLeft_add_eq_or_of_lt (by omega), Nat.shiftLeft_eq]
    omega
  show BitVec.toNat (((((lo8 c &&& 255) <<< (0 : Int32)) ||| ((hi8 c &&& 255) <<< (8 : Int32))).toBitVec.setWidth 16).setWidth 32) = _
  rw [BitVec.toNat_setWidth, BitVec.toNat_setWidth, g]
  omega
end StrChars
namespace StrChars
open Jvm Sem ClassFile Op Lib Jvm.Stand Jvm.Free.XT Jvm.Free.ALB Jvm.Free.JM Jvm.Free
open Jvm.Lib.Cold (StaticIs)
/-- the array's cell V codes the n chars f 0 .. f (n - 1) by the coder cd, as the JDK does: coder 1 just where some char is above 255 -/
def Cod (cd : Int32) (n : Nat) (f : Nat → Int32) (V : Cell) : Prop := (cd = 0 ∧ V.slots.size = n ∧ ∀ j, j < n → V.slots[j]? = some (.int (lo8 (f j))) ∧ ¬ 255 < f j) ∨ (cd = 1 ∧ V.slots.size = 2 * n ∧ (∀ j, j < n → V.slots[2 * j]? = some (.int (lo8 (f j))) ∧ V.slots[2 * j + 1]? = some (.int (hi8 (f j)))) ∧ ∃ j, j < n ∧ 255 < f j)
/-- **x is a String of the n chars f 0 .. f (n - 1)**, Latin-1 or UTF-16; its array at t has the cell V -/
def Txt (x t : Addr) (V : Cell) (cd : Int32) (n : Nat) (f : Nat → Int32) (U : State) : Prop := Exact "java/lang/String" x U ∧ Has x "java/lang/String" "value" "[B" (.ref t) U ∧ Has x "java/lang/String" "coder" "B" (.int cd) U ∧ XT.Arr .byte t V U ∧ Cod cd n f V ∧ ∀ j, j < n → ¬ f j < 0 ∧ ¬ 65535 < f j
theorem Txt.mv {x t : Addr} {V : Cell} {cd : Int32} {n : Nat} {f : Nat → Int32} {U U' : State} (h : Txt x t V cd n f U) (hal : U.vm.Alike U'.vm) (hh : U'.heap = U.heap) : Txt x t V cd n f U' := ⟨h.1.mv hal hh, h.2.1.mv hal hh, h.2.2.1.mv hal hh, h.2.2.2.1.mv hal hh, h.2.2.2.2⟩
end StrChars
namespace StrChars.Road
open Jvm Sem ClassFile Op Lib Jvm.Stand Jvm.Free Jvm.Free.XT
open Jvm.Lib.Cold (StaticIs)
theorem consq {a : Array Value} {s : State} {c : Jvm.Cond} {L : List Jvm.Cond} (h0 : c.before a s = true) (h : ∀ w ∈ L, w.before a s = true) : ∀ w ∈ c :: L, w.before a s = true := fun w hw => (List.mem_cons.mp hw).elim (fun e => e ▸ h0) (h w)
/-- the bytes of the chars cs, low before high -/
def wideBytes : List Int32 → List Value
  | [] => []
  | c :: cs => .int (lo8 c) :: .int (hi8 c) :: wideBytes cs
theorem wide_lo (d : Value) : ∀ (cs : List Int32) (j : Nat), j < cs.length → (wideBytes cs).getD (2 * j) d = .int (lo8 (cs.getD j 0))
  | [], j, h => absurd h (Nat.not_lt_zero j)
  | c :: cs, 0, _ => rfl
  | c :: cs, j + 1, h => by
    have q := wide_lo d cs j (by simpa using h)
    rw [show 2 * (j + 1) = 2 * j + 1 + 1 from by omega]
    simpa [wideBytes] using q
theorem wide_hi (d : Value) : ∀ (cs : List Int32) (j : Nat), j < cs.length → (wideBytes cs).getD (2 * j + 1) d = .int (hi8 (cs.getD j 0))
  | [], j, h => absurd h (Nat.not_lt_zero j)
  | c :: cs, 0, _ => rfl
  | c :: cs, j + 1, h => by
    have q := wide_hi d cs j (by simpa using h)
    rw [show 2 * (j + 1) + 1 = 2 * j + 1 + 1 + 1 from by omega]
    simpa [wideBytes] using q
theorem low_at (d : Value) (cs : List Int32) (j : Nat) (h : j < cs.length) : (cs.map fun c => Value.int (lo8 c)).getD j d = .int (lo8 (cs.getD j 0)) := by
  simp [List.getD_eq_getElem?_getD, h]
/-- an array of N2 bytes vs codes the chars cs by the coder cd -/
def CodA (cs : List Int32) (cd N2 : Int32) (vs : List Value) : Prop := (cd = 0 ∧ N2 = Int32.ofNat cs.length ∧ vs = (cs.map fun c => Value.int (lo8 c)) ∧ ∀ c ∈ cs, ¬ 255 < c) ∨ (cd = 1 ∧ N2 = Int32.ofNat (2 * cs.length) ∧ vs = wideBytes cs ∧ ∃ c ∈ cs, 255 < c)
theorem CodA.cod {cs : List Int32} {cd N2 : Int32} {vs : List Value} {V : Cell} (h : CodA cs cd N2 vs) (hn : 2 * cs.length < 2 ^ 31) (hs : V.slots.size = N2.toNatClampNeg) (hv : RoadKit.Has V vs (.int 0)) : Cod cd cs.length (fun j => cs.getD j 0) V := by
  rcases h with ⟨rfl, rfl, rfl, h⟩ | ⟨rfl, rfl, rfl, c, hc, hw⟩
  · rw [n32 (by omega)] at hs
    exact Or.inl ⟨rfl, hs, fun j hj => ⟨by rw [hv j (by omega), low_at _ _ _ hj], by
      have e : cs.getD j 0 = cs[j] := by simp [List.getD_eq_getElem?_getD, hj]
      show ¬ 255 < cs.getD j 0
      rw [e]; exact h _ (List.getElem_mem _)⟩⟩
  · rw [n32 (by omega)] at hs
    obtain ⟨j, hj, rfl⟩ := List.getElem_of_mem hc
    exact Or.inr ⟨rfl, hs, fun j hj => ⟨by rw [hv _ (by omega), wide_lo _ _ _ hj], by rw [hv _ (by omega), wide_hi _ _ _ hj]⟩, j, hj, by
      have e : cs.getD j 0 = cs[j] := by simp [List.getD_eq_getElem?_getD, hj]
      show 255 < cs.getD j 0
      rw [e]; exact hw⟩
/-- an object of exactly java/lang/String, its two fields found: as the laws ask it -/
theorem strObj {Z U : State} {a0 : Array Value} {kI : Nat} (wi : (Jvm.Cond.instantiable ST kI).before a0 Z = true) (al : Z.vm.Alike U.vm) {x : Addr} {v0 c0 : Value} (E : RoadKit.Exa Z U.heap x ST) (V : RoadKit.Fld Z U.heap x ST "value" "[B" v0) (C : RoadKit.Fld Z U.heap x ST "coder" "B" c0) :
    ∃ (D : Cell) (fV fC : Field), Blank ST x D U ∧ Found ST "value" "[B" fV U ∧ Found ST "coder" "B" fC U ∧ D.slots[fV.slot]? = some v0 ∧ D.slots[fC.slot]? = some c0 ∧ RoadKit.slotOf Z ST "value" "[B" = fV.slot ∧ RoadKit.slotOf Z ST "coder" "B" = fC.slot := by
  obtain ⟨D, cfV, kV, iV, fV, hD, gV, stV, knV, obV, asV, slV⟩ := V
  obtain ⟨D', cfC, kC, iC, fC, hD', gC, stC, -, -, asC, slC⟩ := C
  cases hD.symm.trans hD'
  obtain ⟨D2, kD, e1, e2, e3, e4, e5⟩ := E
  cases hD.symm.trans e1
  obtain ⟨c2, k2, i1, i2, i3, -⟩ := Cond.instantiable_spec wi
  cases e2.symm.trans i1
  cases e3.symm.trans i2
  obtain ⟨kU, u1, u2⟩ := al.2.2 _ _ e3
  exact ⟨D, fV, fC, ⟨hD, ⟨knV, fun q hq => by rw [hq] at obV; cases obV⟩, by rw [al.findClass]; exact e2, kU, u1, by rw [u2]; exact i3, by rw [u2]; exact e5 i3⟩, ⟨SBG.found_only al ⟨cfV, kV, iV, gV⟩, stV⟩, ⟨SBG.found_only al ⟨cfC, kC, iC, gC⟩, stC⟩, slV, slC, by simp [RoadKit.slotOf, gV], by simp [RoadKit.slotOf, gC]⟩
theorem sta_is {Z U : State} (al : Z.vm.Alike U.vm) {C n d : String} {v : Value} (S : RoadKit.Sta Z U.heap C n d v) : StaticIs U C n d v := by
  obtain ⟨cfS, iS, kS, fS, st, cS, t1, t2, t3, t4, t5, t6, t7⟩ := S
  exact StaticIs.there (s := { Z with heap := U.heap }) ⟨cfS, iS, kS, fS, st, cS, t1, t2, t3, t4, t5, (fun q => by rw [q] at t6; cases t6), t7⟩ al rfl
end StrChars.Road
namespace StrChars
open Jvm Sem ClassFile Op Lib Jvm.Stand Jvm.Free.XT Jvm.Free.ALB Jvm.Free.JM Jvm.Free
open Jvm.Lib.Cold (StaticIs)
/-- what place i of a byte[]'s cell holds -/
def yv (A : Cell) (i : Nat) : Int32 := match A.slots[i]? with | some (.int x) => x | _ => 0
theorem yv_get {a : Addr} {A : Cell} {U : State} (h : XT.Arr .byte a A U) (ht : Typed .byte A) {i : Nat} (hi : i < A.slots.size) : A.slots[i]? = some (.int (yv A i)) := by
  have e := Array.getElem?_eq_getElem hi
  have f := ht i _ e
  unfold yv; rw [e]
  generalize A.slots[i] = v at f
  cases v <;> simp [fits] at f ⊢
/-- the two arrays are equal, place for place -/
def EqC (A B : Cell) : Prop := A.slots.size = B.slots.size ∧ ∀ i, i < A.slots.size → yv A i = yv B i
/-- a boolean that says whether p -/
def Says01 (q : Prop) (r : Option Value) (s u : State) : Prop := ∃ v : Int32, r = some (.int v) ∧ u.heap = s.heap ∧ ((v = 1 ∧ q) ∨ (v = 0 ∧ ¬ q))
theorem Says01.mv {q : Prop} : ∀ r (U U' V V' : State), U'.heap = U.heap → V.vm.Alike V'.vm → V'.heap = V.heap → Says01 q r U V → Says01 q r U' V' :=
  fun r U U' V V' h1 _ h2 ⟨v, a, b, c⟩ => ⟨v, a, by rw [h1, h2]; exact b, c⟩
namespace LEq
def yN : MethodName := ⟨"java/lang/StringLatin1", "equals", "([B[B)Z"⟩
abbrev yB : ByteArray := jdk_43_method_13_code
theorem d0 : decode yB 0 = .ok (.aload_n 0, 1) := by decide +kernel
theorem d1 : decode yB 1 = .ok (.arraylength, 1) := by decide +kernel
theorem d2 : decode yB 2 = .ok (.aload_n 1, 1) := by decide +kernel
theorem d3 : decode yB 3 = .ok (.arraylength, 1) := by decide +kernel
theorem d4 : decode yB 4 = .ok (.if_icmp (.ne) 30, 3) := by decide +kernel
theorem d7 : decode yB 7 = .ok (.iconst 0, 1) := by decide +kernel
theorem d8 : decode yB 8 = .ok (.istore_n 2, 1) := by decide +kernel
theorem d9 : decode yB 9 = .ok (.iload_n 2, 1) := by decide +kernel
theorem d10 : decode yB 10 = .ok (.aload_n 0, 1) := by decide +kernel
theorem d11 : decode yB 11 = .ok (.arraylength, 1) := by decide +kernel
theorem d12 : decode yB 12 = .ok (.if_icmp (.ge) 20, 3) := by decide +kernel
theorem d15 : decode yB 15 = .ok (.aload_n 0, 1) := by decide +kernel
theorem d16 : decode yB 16 = .ok (.iload_n 2, 1) := by decide +kernel
theorem d17 : decode yB 17 = .ok (.baload, 1) := by decide +kernel
theorem d18 : decode yB 18 = .ok (.aload_n 1, 1) := by decide +kernel
theorem d19 : decode yB 19 = .ok (.iload_n 2, 1) := by decide +kernel
theorem d20 : decode yB 20 = .ok (.baload, 1) := by decide +kernel
theorem d21 : decode yB 21 = .ok (.if_icmp (.eq) 5, 3) := by decide +kernel
theorem d24 : decode yB 24 = .ok (.iconst 0, 1) := by decide +kernel
theorem d25 : decode yB 25 = .ok (.ireturn, 1) := by decide +kernel
theorem d26 : decode yB 26 = .ok (.iinc 2 1, 3) := by decide +kernel
theorem d29 : decode yB 29 = .ok (.goto (-20), 3) := by decide +kernel
theorem d32 : decode yB 32 = .ok (.iconst 1, 1) := by decide +kernel
theorem d33 : decode yB 33 = .ok (.ireturn, 1) := by decide +kernel
theorem d34 : decode yB 34 = .ok (.iconst 0, 1) := by decide +kernel
theorem d35 : decode yB 35 = .ok (.ireturn, 1) := by decide +kernel
def site : List Cond := []
def tab : Cond := tabOf yN yB 3 (some .boolean) site
def P (a : Addr) (A : Cell) (b : Addr) (B : Cell) (args : Array Value) (s : State) : Prop := args = #[.ref a, .ref b] ∧ XT.Arr .byte a A s ∧ Typed .byte A ∧ XT.Arr .byte b B s ∧ Typed .byte B
/-- whether two byte[] are equal, place for place -/
theorem law (l : Launch) (a : Addr) (A : Cell) (b : Addr) (B : Cell) : Law l yN 2 2 0 0 yB 3 (some .boolean) site (P a A b B) (Says01 (EqC A B)) [] 0 0 := by
  refine Law.of_walk (plainFor_of_name (by decide +kernel)) (by decide +kernel) (by decide +kernel) (by decide) (fun _ _ h => by rw [h.1]; rfl) (fun _ U U' hal hh h => ⟨h.1, h.2.1.mv hal hh, h.2.2.1, h.2.2.2.1.mv hal hh, h.2.2.2.2⟩) (fun r U U' V V' h1 hal h2 h => Says01.mv r U U' V V' h1 hal h2 h) ?_
  intro p e s m args below meth c s₁ X0 hexec hbytes hml hret hlk hnm hown hh0 W hP
  obtain ⟨rfl, hA, tA, hB, tB⟩ := hP
  have a31 := hA.2.2.2
  have b31 := hB.2.2.2
  have hA0 := hA.mv X0.warmed.alike hh0
  have hB0 := hB.mv X0.warmed.alike hh0
  have c1 : Steps p.tables e below (s₁.setTop (entryFrame m #[.ref a, .ref b] 3)) (s₁.setTop (mkF m 0 #[.val (.ref a), .val (.ref b), .unset] [])) := entry rfl
  have c2 : Steps p.tables e below (s₁.setTop (entryFrame m #[.ref a, .ref b] 3)) (s₁.setTop (mkF m 4 #[.val (.ref a), .val (.ref b), .unset] [.int (Int32.ofNat B.slots.size), .int (Int32.ofNat A.slots.size)])) := c1.trans (by
    refine XS.aloadN X0.here hexec rfl (hb hbytes d0) rfl rfl ?_
    refine X0.alen hexec hA0 rfl rfl (hb hbytes d1) ?_
    refine XS.aloadN X0.here hexec rfl (hb hbytes d2) rfl rfl ?_
    refine X0.alen hexec hB0 rfl rfl (hb hbytes d3) ?_
    exact Steps.refl _)
  by_cases hs : A.slots.size = B.slots.size
  · have c3 : Steps p.tables e below (s₁.setTop (entryFrame m #[.ref a, .ref b] 3)) (s₁.setTop (mkF m 9 #[.val (.ref a), .val (.ref b), .val (.int 0)] [])) := c2.trans (by
      refine XS.icmpNo X0.here hexec rfl (hb hbytes d4) rfl (ii_ne_f (by rw [hs])) ?_
      refine iconstV X0.here hexec rfl 0 (hb hbytes d7) (by decide) ?_
      refine XS.istoreN X0.here hexec rfl (hb hbytes d8) rfl rfl ?_
      exact Steps.refl _)
    have loop : ∀ (r i : Nat), i + r = A.slots.size → (∀ j, j < i → yv A j = yv B j) → Steps p.tables e below (s₁.setTop (entryFrame m #[.ref a, .ref b] 3)) (s₁.setTop (mkF m 9 #[.val (.ref a), .val (.ref b), .val (.int (Int32.ofNat i))] [])) → ∃ (pc : Nat) (Ls : Array Slot) (v : Int32), (pc = 25 ∨ pc = 33) ∧ ((v = 1 ∧ EqC A B) ∨ (v = 0 ∧ ¬ EqC A B)) ∧ Steps p.tables e below (s₁.setTop (entryFrame m #[.ref a, .ref b] 3)) (s₁.setTop (mkF m pc Ls [.int v])) := by
      intro r
      induction r with
      | zero =>
        intro i hi he cl
        exact ⟨33, _, 1, Or.inr rfl, Or.inl ⟨rfl, hs, fun j hj => he j (by omega)⟩, cl.trans (by
          refine XS.iloadN X0.here hexec rfl (hb hbytes d9) rfl ?_
          refine XS.aloadN X0.here hexec rfl (hb hbytes d10) rfl rfl ?_
          refine X0.alen hexec hA0 rfl rfl (hb hbytes d11) ?_
          refine XS.icmpYes X0.here hexec rfl (pc0 := 12) rfl (hb hbytes d12) rfl (ii_ge_t (nlt32 (by omega) (by omega))) (by decide) rfl ?_
          refine iconstV X0.here hexec rfl 1 (hb hbytes d32) (by decide) ?_
          exact Steps.refl _)⟩
      | succ r ih =>
        intro i hi he cl
        have c4 : Steps p.tables e below (s₁.setTop (entryFrame m #[.ref a, .ref b] 3)) (s₁.setTop (mkF m 21 #[.val (.ref a), .val (.ref b), .val (.int (Int32.ofNat i))] [.int (yv B i), .int (yv A i)])) := cl.trans (by
          refine XS.iloadN X0.here hexec rfl (hb hbytes d9) rfl ?_
          refine XS.aloadN X0.here hexec rfl (hb hbytes d10) rfl rfl ?_
          refine X0.alen hexec hA0 rfl rfl (hb hbytes d11) ?_
          refine XS.icmpNo X0.here hexec rfl (hb hbytes d12) rfl (ii_ge_f (lt32 (by omega) (by omega))) ?_
          refine XS.aloadN X0.here hexec rfl (hb hbytes d15) rfl rfl ?_
          refine XS.iloadN X0.here hexec rfl (hb hbytes d16) rfl ?_
          refine X0.aget hexec hA0 rfl (yv_get hA tA (i := i) (by omega)) rfl rfl (hb hbytes d17) ?_
          refine XS.aloadN X0.here hexec rfl (hb hbytes d18) rfl rfl ?_
          refine XS.iloadN X0.here hexec rfl (hb hbytes d19) rfl ?_
          refine X0.aget hexec hB0 rfl (yv_get hB tB (i := i) (by omega)) rfl rfl (hb hbytes d20) ?_
          exact Steps.refl _)
        by_cases hv : yv A i = yv B i
        · have c5 : Steps p.tables e below (s₁.setTop (entryFrame m #[.ref a, .ref b] 3)) (s₁.setTop (mkF m 9 #[.val (.ref a), .val (.ref b), .val (.int (Int32.ofNat i + 1))] [])) := c4.trans (by
            refine XS.icmpYes X0.here hexec rfl (pc0 := 21) rfl (hb hbytes d21) rfl (ii_eq_t hv) (by decide) rfl ?_
            refine iincV X0.here hexec rfl 1 (hb hbytes d26) (by decide) rfl rfl ?_
            refine XS.goto X0.here hexec rfl (pc0 := 29) rfl (hb hbytes d29) (by decide) rfl ?_
            exact Steps.refl _)
          rw [succ32] at c5
          exact ih (i + 1) (by omega) (fun j hj => by
            by_cases e : j = i
            · rw [e]; exact hv
            · exact he j (by omega)) c5
        · exact ⟨25, _, 0, Or.inl rfl, Or.inr ⟨rfl, fun q => hv (q.2 i (by omega))⟩, c4.trans (by
            refine XS.icmpNo X0.here hexec rfl (hb hbytes d21) rfl (ii_eq_f hv) ?_
            refine iconstV X0.here hexec rfl 0 (hb hbytes d24) (by decide) ?_
            exact Steps.refl _)⟩
    obtain ⟨pc, Ls, v, hpc, hv, cz⟩ := loop A.slots.size 0 (by omega) (fun j hj => absurd hj (Nat.not_lt_zero j)) c3
    have nv : narrow .boolean (.int v) = .int v := by rcases hv with ⟨rfl, -⟩ | ⟨rfl, -⟩ <;> rfl
    rcases hpc with rfl | rfl
    · exact ⟨s₁, some (.int v), _, _, _, X0, rfl, rfl, rfl, (fun h => by cases h), ⟨v, rfl, hh0, hv⟩, fun fs hl => cz.trans (X0.ireturnOut hexec hret nv (Or.inr (Or.inl rfl)) (hb hbytes d25) hl)⟩
    · exact ⟨s₁, some (.int v), _, _, _, X0, rfl, rfl, rfl, (fun h => by cases h), ⟨v, rfl, hh0, hv⟩, fun fs hl => cz.trans (X0.ireturnOut hexec hret nv (Or.inr (Or.inl rfl)) (hb hbytes d33) hl)⟩
  · have c3 : Steps p.tables e below (s₁.setTop (entryFrame m #[.ref a, .ref b] 3)) (s₁.setTop (mkF m 35 #[.val (.ref a), .val (.ref b), .unset] [.int 0])) := c2.trans (by
      refine XS.icmpYes X0.here hexec rfl (pc0 := 4) rfl (hb hbytes d4) rfl (ii_ne_t (ne32 a31 b31 hs)) (by decide) rfl ?_
      refine iconstV X0.here hexec rfl 0 (hb hbytes d34) (by decide) ?_
      exact Steps.refl _)
    exact ⟨s₁, some (.int 0), _, _, _, X0, rfl, rfl, rfl, (fun h => by cases h), ⟨0, rfl, hh0, Or.inr ⟨rfl, fun q => hs q.1⟩⟩, fun fs hl => c3.trans (X0.ireturnOut hexec hret rfl (Or.inr (Or.inl rfl)) (hb hbytes d35) hl)⟩
end LEq
theorem Cod.ty {cd : Int32} {n : Nat} {f : Nat → Int32} {V : Cell} (h : Cod cd n f V) : Typed .byte V := fun i v hv => by
  have hi : i < V.slots.size := (Array.getElem?_eq_some_iff.mp hv).1
  rcases h with ⟨-, k1, k2⟩ | ⟨-, k1, k2, -⟩
  · rw [(k2 i (by omega)).1] at hv; cases hv; exact fits_lo8 _
  · rcases Nat.mod_two_eq_zero_or_one i with e | e
    · obtain ⟨j, rfl⟩ : ∃ j, i = 2 * j := ⟨i / 2, by omega⟩
      rw [(k2 j (by omega)).1] at hv; cases hv; exact fits_lo8 _
    · obtain ⟨j, rfl⟩ : ∃ j, i = 2 * j + 1 := ⟨i / 2, by omega⟩
      rw [(k2 j (by omega)).2] at hv; cases hv; exact fits_lo8 _
/-- the same text -/
def SameT (n : Nat) (f : Nat → Int32) (k : Nat) (g : Nat → Int32) : Prop := n = k ∧ ∀ j, j < n → f j = g j
theorem lo8_inj {x y : Int32} (h0 : ¬ x < 0) (h1 : ¬ 255 < x) (k0 : ¬ y < 0) (k1 : ¬ 255 < y) (h : lo8 x = lo8 y) : x = y := by
  rw [← lo8_mask h0 h1, ← lo8_mask k0 k1, h]
/-- arrays coded by one coder are equal just where the texts are -/
theorem Cod.eqv {cd : Int32} {n k : Nat} {f g : Nat → Int32} {V V' : Cell} (h : Cod cd n f V) (h' : Cod cd k g V') (hf : ∀ j, j < n → ¬ f j < 0 ∧ ¬ 65535 < f j) (hg : ∀ j, j < k → ¬ g j < 0 ∧ ¬ 65535 < g j) : EqC V V' ↔ SameT n f k g := by
  have yvv : ∀ {W : Cell} {i : Nat} {x : Int32}, W.slots[i]? = some (.int x) → yv W i = x := fun q => by unfold yv; rw [q]
  rcases h with ⟨rfl, k1, k2⟩ | ⟨rfl, k1, k2, -⟩
  · rcases h' with ⟨-, m1, m2⟩ | ⟨e, -⟩
    · constructor
      · rintro ⟨e1, e2⟩
        refine ⟨by omega, fun j hj => ?_⟩
        have q := e2 j (by omega)
        rw [yvv (k2 j hj).1, yvv (m2 j (by omega)).1] at q
        exact lo8_inj (hf j hj).1 (k2 j hj).2 (hg j (by omega)).1 (m2 j (by omega)).2 q
      · rintro ⟨rfl, e2⟩
        refine ⟨by omega, fun j hj => ?_⟩
        rw [yvv (k2 j (by omega)).1, yvv (m2 j (by omega)).1, e2 j (by omega)]
    · exact absurd e (by decide)
  · rcases h' with ⟨e, -⟩ | ⟨-, m1, m2, -⟩
    · exact absurd e (by decide)
    · constructor
      · rintro ⟨e1, e2⟩
        refine ⟨by omega, fun j hj => ?_⟩
        have q1 := e2 (2 * j) (by omega)
        have q2 := e2 (2 * j + 1) (by omega)
        rw [yvv (k2 j hj).1, yvv (m2 j (by omega)).1] at q1
        rw [yvv (k2 j hj).2, yvv (m2 j (by omega)).2] at q2
        rw [← pair_says (hf j hj).1 (hf j hj).2, ← pair_says (hg j (by omega)).1 (hg j (by omega)).2, q1, q2]
      · rintro ⟨rfl, e2⟩
        refine ⟨by omega, fun i hi => ?_⟩
        rcases Nat.mod_two_eq_zero_or_one i with e | e
        · obtain ⟨j, rfl⟩ : ∃ j, i = 2 * j := ⟨i / 2, by omega⟩
          rw [yvv (k2 j (by omega)).1, yvv (m2 j (by omega)).1, e2 j (by omega)]
        · obtain ⟨j, rfl⟩ : ∃ j, i = 2 * j + 1 := ⟨i / 2, by omega⟩
          rw [yvv (k2 j (by omega)).2, yvv (m2 j (by omega)).2, e2 j (by omega)]
/-- two codings differ: so do the texts -/
theorem Cod.dif {cd cd' : Int32} {n k : Nat} {f g : Nat → Int32} {V V' : Cell} (h : Cod cd n f V) (h' : Cod cd' k g V') (hne : ¬ cd = cd') : ¬ SameT n f k g := by
  rintro ⟨rfl, e⟩
  rcases h with ⟨rfl, -, k2⟩ | ⟨rfl, -, -, j, hj, hw⟩
  · rcases h' with ⟨rfl, -⟩ | ⟨-, -, -, j, hj, hw⟩
    · exact hne rfl
    · exact (k2 j hj).2 (by rw [e j hj]; exact hw)
  · rcases h' with ⟨-, -, m2⟩ | ⟨rfl, -⟩
    · exact (m2 j hj).2 (by rw [← e j hj]; exact hw)
    · exact hne rfl
/-- an object of exactly C is an instance of C -/
theorem cinst {p : Program} {l : Launch} {e : Env} {R : Room} {s : State} {m : MethodId} {args : Array Value} {below : List Frame} {meth : Method} {c : Code} {T : State} {locs : List Loc} {cells slots : Nat} (X : Stand p l e R s m args below meth c T locs cells slots) (hexec : p.tables.exec = Jvm.exec) {own C : String} {index : Nat} (hown : s.vm.findClass own = some m.cls) (hlink : (Cond.classLink own index C).before args s = true) {a : Addr} (hE : Exact C a T)
    {g : JFrame} (hg : g.method = m) {rest : List Value} (hstack : g.stack = .ref a :: rest) (hdg : decode c.code g.pc = .ok (.instanceof index, 3)) :
    ∃ T', Stand p l e R s m args below meth c T' locs cells slots ∧ T'.heap = T.heap ∧ ∀ target, Steps p.tables e below (T'.setTop { g with pc := g.pc + 3, stack := .int 1 :: rest }) target → Steps p.tables e below (T.setTop g) target := by
  obtain ⟨cB, h1, D, h2, h3, h4⟩ := hE
  have h1' : s.vm.findClass C = some cB := by rw [← X.warmed.alike.findClass]; exact h1
  obtain ⟨vm', X', st⟩ := X.instanceofYes hexec hown hlink h2 h4 h1' (by rw [h3]; exact Jvm.Free.SB.assignable_self _ _) hg hstack hdg
  exact ⟨_, X', rfl, st⟩
theorem cself {p : Program} {l : Launch} {e : Env} {R : Room} {s : State} {m : MethodId} {args : Array Value} {below : List Frame} {meth : Method} {c : Code} {T : State} {locs : List Loc} {cells slots : Nat} (X : Stand p l e R s m args below meth c T locs cells slots) (hexec : p.tables.exec = Jvm.exec) {own C : String} {index : Nat} (hown : s.vm.findClass own = some m.cls) (hlink : (Cond.classLink own index C).before args s = true) {a : Addr} (hE : Exact C a T)
    {g : JFrame} (hg : g.method = m) {rest : List Value} (hstack : g.stack = .ref a :: rest) (hdg : decode c.code g.pc = .ok (.checkcast index, 3)) :
    ∃ T', Stand p l e R s m args below meth c T' locs cells slots ∧ T'.heap = T.heap ∧ ∀ target, Steps p.tables e below (T'.setTop { g with pc := g.pc + 3, stack := .ref a :: rest }) target → Steps p.tables e below (T.setTop g) target := by
  obtain ⟨cB, h1, D, h2, h3, h4⟩ := hE
  have h1' : s.vm.findClass C = some cB := by rw [← X.warmed.alike.findClass]; exact h1
  obtain ⟨vm', X', st⟩ := X.checkcastYes hexec hown hlink h2 h4 h1' (by rw [h3]; exact Jvm.Free.SB.assignable_self _ _) hg hstack hdg
  exact ⟨_, X', rfl, fun t h => st t (by rw [← hstack] at h; exact h)⟩
namespace SEq
def yN : MethodName := ⟨"java/lang/String", "equals", "(Ljava/lang/Object;)Z"⟩
abbrev yB : ByteArray := jdk_42_method_66_code
theorem d0 : decode yB 0 = .ok (.aload_n 0, 1) := by decide +kernel
theorem d1 : decode yB 1 = .ok (.aload_n 1, 1) := by decide +kernel
theorem d2 : decode yB 2 = .ok (.if_acmp (.ne) 5, 3) := by decide +kernel
theorem d5 : decode yB 5 = .ok (.iconst 1, 1) := by decide +kernel
theorem d6 : decode yB 6 = .ok (.ireturn, 1) := by decide +kernel
theorem d7 : decode yB 7 = .ok (.aload_n 1, 1) := by decide +kernel
theorem d8 : decode yB 8 = .ok (.instanceof 10, 3) := by decide +kernel
theorem d11 : decode yB 11 = .ok (.ifCond (.eq) 43, 3) := by decide +kernel
theorem d14 : decode yB 14 = .ok (.aload_n 1, 1) := by decide +kernel
theorem d15 : decode yB 15 = .ok (.checkcast 10, 3) := by decide +kernel
theorem d18 : decode yB 18 = .ok (.astore_n 2, 1) := by decide +kernel
theorem d19 : decode yB 19 = .ok (.getstatic 38, 3) := by decide +kernel
theorem d22 : decode yB 22 = .ok (.ifCond (.eq) 14, 3) := by decide +kernel
theorem d25 : decode yB 25 = .ok (.aload_n 0, 1) := by decide +kernel
theorem d26 : decode yB 26 = .ok (.getfield 15, 3) := by decide +kernel
theorem d29 : decode yB 29 = .ok (.aload_n 2, 1) := by decide +kernel
theorem d30 : decode yB 30 = .ok (.getfield 15, 3) := by decide +kernel
theorem d33 : decode yB 33 = .ok (.if_icmp (.ne) 21, 3) := by decide +kernel
theorem d36 : decode yB 36 = .ok (.aload_n 0, 1) := by decide +kernel
theorem d37 : decode yB 37 = .ok (.getfield 9, 3) := by decide +kernel
theorem d40 : decode yB 40 = .ok (.aload_n 2, 1) := by decide +kernel
theorem d41 : decode yB 41 = .ok (.getfield 9, 3) := by decide +kernel
theorem d44 : decode yB 44 = .ok (.invokestatic 541, 3) := by decide +kernel
theorem d47 : decode yB 47 = .ok (.ifCond (.eq) 7, 3) := by decide +kernel
theorem d50 : decode yB 50 = .ok (.iconst 1, 1) := by decide +kernel
theorem d51 : decode yB 51 = .ok (.goto 4, 3) := by decide +kernel
theorem d54 : decode yB 54 = .ok (.iconst 0, 1) := by decide +kernel
theorem d55 : decode yB 55 = .ok (.ireturn, 1) := by decide +kernel
def site : List Cond := [.classLink "java/lang/String" 10 "java/lang/String", .fieldLink "java/lang/String" 38 "java/lang/String" "COMPACT_STRINGS" "Z", .fieldLink "java/lang/String" 15 "java/lang/String" "coder" "B", .fieldLink "java/lang/String" 9 "java/lang/String" "value" "[B", LEq.tab] ++ staticW "java/lang/String" 541 LEq.yN
def tab : Cond := tabOf yN yB 3 (some .boolean) site
def P (x t : Addr) (V : Cell) (cd : Int32) (n : Nat) (f : Nat → Int32) (y t' : Addr) (V' : Cell) (cd' : Int32) (k : Nat) (g : Nat → Int32) (z : Int32) (args : Array Value) (s : State) : Prop := args = #[.ref x, .ref y] ∧ Txt x t V cd n f s ∧ Txt y t' V' cd' k g s ∧ StaticIs s "java/lang/String" "COMPACT_STRINGS" "Z" (.int z) ∧ ¬ z = 0
/-- equals(Object) of two Strings: whether the texts are the same -/
theorem law (l : Launch) (x t : Addr) (V : Cell) (cd : Int32) (n : Nat) (f : Nat → Int32) (y t' : Addr) (V' : Cell) (cd' : Int32) (k : Nat) (g : Nat → Int32) (z : Int32) : Law l yN 2 1 1 14 yB 3 (some .boolean) site (P x t V cd n f y t' V' cd' k g z) (Says01 (SameT n f k g)) [] 0 0 := by
  refine Law.of_walk (plainFor_of_name (by decide +kernel)) (by decide +kernel) (by decide +kernel) (by decide) (fun _ _ h => by rw [h.1]; rfl) (fun _ U U' hal hh h => ⟨h.1, h.2.1.mv hal hh, h.2.2.1.mv hal hh, h.2.2.2.1.there hal hh, h.2.2.2.2⟩) (fun r U U' V V' h1 hal h2 h => Says01.mv r U U' V V' h1 hal h2 h) ?_
  intro p e s m args below meth c s₁ X0 hexec hbytes hml hret hlk hnm hown hh0 W hP
  obtain ⟨rfl, hx, hy, s1, hz⟩ := hP
  have c1 : Steps p.tables e below (s₁.setTop (entryFrame m #[.ref x, .ref y] 3)) (s₁.setTop (mkF m 2 #[.val (.ref x), .val (.ref y), .unset] [.ref y, .ref x])) := Steps.trans (entry rfl) (by
    show Steps p.tables e below (s₁.setTop (mkF m 0 #[.val (.ref x), .val (.ref y), .unset] [])) _
    refine XS.aloadN X0.here hexec rfl (hb hbytes d0) rfl rfl ?_
    refine XS.aloadN X0.here hexec rfl (hb hbytes d1) rfl rfl ?_
    exact Steps.refl _)
  by_cases hxy : x = y
  · have c2 : Steps p.tables e below (s₁.setTop (entryFrame m #[.ref x, .ref y] 3)) (s₁.setTop (mkF m 6 #[.val (.ref x), .val (.ref y), .unset] [.int 1])) := c1.trans (by
      refine acmpNo X0.here hexec rfl (hb hbytes d2) rfl rfl rfl (by simp [acmp, hxy]) ?_
      refine iconstV X0.here hexec rfl 1 (hb hbytes d5) (by decide) ?_
      exact Steps.refl _)
    subst hxy
    have ec : cd = cd' := by
      obtain ⟨D, fd, a1, a2, a3⟩ := hx.2.2.1
      obtain ⟨D', fd', b1, b2, b3⟩ := hy.2.2.1
      cases a1.symm.trans b1
      obtain ⟨q1, q2, q3, q4⟩ := a2.1
      obtain ⟨r1, r2, r3, r4⟩ := b2.1
      cases q4.symm.trans r4
      cases a3.symm.trans b3; rfl
    have et : t = t' := by
      obtain ⟨D, fd, a1, a2, a3⟩ := hx.2.1
      obtain ⟨D', fd', b1, b2, b3⟩ := hy.2.1
      cases a1.symm.trans b1
      obtain ⟨q1, q2, q3, q4⟩ := a2.1
      obtain ⟨r1, r2, r3, r4⟩ := b2.1
      cases q4.symm.trans r4
      cases a3.symm.trans b3; rfl
    subst ec et
    have ev : V = V' := by cases hx.2.2.2.1.1.symm.trans hy.2.2.2.1.1; rfl
    subst ev
    have hs : SameT n f k g := (Cod.eqv hx.2.2.2.2.1 hy.2.2.2.2.1 hx.2.2.2.2.2 hy.2.2.2.2.2).mp ⟨rfl, fun _ _ => rfl⟩
    exact ⟨s₁, some (.int 1), _, _, _, X0, rfl, rfl, rfl, (fun h => by cases h), ⟨1, rfl, hh0, Or.inl ⟨rfl, hs⟩⟩, fun fs hl => c2.trans (X0.ireturnOut hexec hret rfl (Or.inr (Or.inl rfl)) (hb hbytes d6) hl)⟩
  · have c2 : Steps p.tables e below (s₁.setTop (entryFrame m #[.ref x, .ref y] 3)) (s₁.setTop (mkF m 8 #[.val (.ref x), .val (.ref y), .unset] [.ref y])) := c1.trans (by
      refine acmpYes X0.here hexec rfl (pc0 := 2) rfl (hb hbytes d2) rfl rfl rfl (by simp [acmp, hxy]) (by decide) rfl ?_
      refine XS.aloadN X0.here hexec rfl (hb hbytes d7) rfl rfl ?_
      exact Steps.refl _)
    obtain ⟨T3, X3, q3, st3⟩ := cinst X0 hexec hown (wk W (.classLink "java/lang/String" 10 "java/lang/String")) (hy.mv X0.warmed.alike hh0).1 (g := (mkF m 8 #[.val (.ref x), .val (.ref y), .unset] [.ref y])) rfl (rest := []) rfl (hb hbytes d8)
    have hh3 := q3.trans hh0
    have c4 : Steps p.tables e below (s₁.setTop (entryFrame m #[.ref x, .ref y] 3)) (T3.setTop (mkF m 15 #[.val (.ref x), .val (.ref y), .unset] [.ref y])) := (c2.trans (st3 _ (Steps.refl _))).trans (by
      refine XS.ifNo X3.here hexec rfl (hb hbytes d11) rfl (i0_eq_f (by decide)) ?_
      refine XS.aloadN X3.here hexec rfl (hb hbytes d14) rfl rfl ?_
      exact Steps.refl _)
    obtain ⟨T5, X5, q5, st5⟩ := cself X3 hexec hown (wk W (.classLink "java/lang/String" 10 "java/lang/String")) (hy.mv X3.warmed.alike hh3).1 (g := (mkF m 15 #[.val (.ref x), .val (.ref y), .unset] [.ref y])) rfl (rest := []) rfl (hb hbytes d15)
    have hh5 := q5.trans hh3
    have c6 : Steps p.tables e below (s₁.setTop (entryFrame m #[.ref x, .ref y] 3)) (T5.setTop (mkF m 19 #[.val (.ref x), .val (.ref y), .val (.ref y)] [])) := (c4.trans (st5 _ (Steps.refl _))).trans (by
      refine XS.astoreN X5.here hexec rfl (hb hbytes d18) rfl rfl rfl ?_
      exact Steps.refl _)
    obtain ⟨T7, X7, q7, st7⟩ := X5.sget hexec hown (wk W (.fieldLink "java/lang/String" 38 "java/lang/String" "COMPACT_STRINGS" "Z")) s1 (fun _ _ h => by rw [hh5]; exact h) (g := (mkF m 19 #[.val (.ref x), .val (.ref y), .val (.ref y)] [])) rfl (hb hbytes d19)
    have hh7 := q7.trans hh5
    have c8 : Steps p.tables e below (s₁.setTop (entryFrame m #[.ref x, .ref y] 3)) (T7.setTop (mkF m 26 #[.val (.ref x), .val (.ref y), .val (.ref y)] [.ref x])) := (c6.trans (st7 _ (Steps.refl _))).trans (by
      refine XS.ifNo X7.here hexec rfl (hb hbytes d22) rfl (i0_eq_f hz) ?_
      refine XS.aloadN X7.here hexec rfl (hb hbytes d25) rfl rfl ?_
      exact Steps.refl _)
    obtain ⟨T9, X9, q9, st9⟩ := X7.hget hexec hown (wk W (.fieldLink "java/lang/String" 15 "java/lang/String" "coder" "B")) (hx.mv X7.warmed.alike hh7).2.2.1 (g := (mkF m 26 #[.val (.ref x), .val (.ref y), .val (.ref y)] [.ref x])) rfl (rest := []) rfl (hb hbytes d26)
    have hh9 := q9.trans hh7
    have c10 : Steps p.tables e below (s₁.setTop (entryFrame m #[.ref x, .ref y] 3)) (T9.setTop (mkF m 30 #[.val (.ref x), .val (.ref y), .val (.ref y)] [.ref y, .int cd])) := (c8.trans (st9 _ (Steps.refl _))).trans (by
      refine XS.aloadN X9.here hexec rfl (hb hbytes d29) rfl rfl ?_
      exact Steps.refl _)
    obtain ⟨T11, X11, q11, st11⟩ := X9.hget hexec hown (wk W (.fieldLink "java/lang/String" 15 "java/lang/String" "coder" "B")) (hy.mv X9.warmed.alike hh9).2.2.1 (g := (mkF m 30 #[.val (.ref x), .val (.ref y), .val (.ref y)] [.ref y, .int cd])) rfl (rest := [.int cd]) rfl (hb hbytes d30)
    have hh11 := q11.trans hh9
    have c12 : Steps p.tables e below (s₁.setTop (entryFrame m #[.ref x, .ref y] 3)) (T11.setTop (mkF m 33 #[.val (.ref x), .val (.ref y), .val (.ref y)] [.int cd', .int cd])) := c10.trans (st11 _ (Steps.refl _))
    by_cases hcd : cd = cd'
    · subst hcd
      have c13 : Steps p.tables e below (s₁.setTop (entryFrame m #[.ref x, .ref y] 3)) (T11.setTop (mkF m 37 #[.val (.ref x), .val (.ref y), .val (.ref y)] [.ref x])) := c12.trans (by
        refine XS.icmpNo X11.here hexec rfl (hb hbytes d33) rfl (ii_ne_f rfl) ?_
        refine XS.aloadN X11.here hexec rfl (hb hbytes d36) rfl rfl ?_
        exact Steps.refl _)
      obtain ⟨T14, X14, q14, st14⟩ := X11.hget hexec hown (wk W (.fieldLink "java/lang/String" 9 "java/lang/String" "value" "[B")) (hx.mv X11.warmed.alike hh11).2.1 (g := (mkF m 37 #[.val (.ref x), .val (.ref y), .val (.ref y)] [.ref x])) rfl (rest := []) rfl (hb hbytes d37)
      have hh14 := q14.trans hh11
      have c15 : Steps p.tables e below (s₁.setTop (entryFrame m #[.ref x, .ref y] 3)) (T14.setTop (mkF m 41 #[.val (.ref x), .val (.ref y), .val (.ref y)] [.ref y, .ref t])) := (c13.trans (st14 _ (Steps.refl _))).trans (by
        refine XS.aloadN X14.here hexec rfl (hb hbytes d40) rfl rfl ?_
        exact Steps.refl _)
      obtain ⟨T16, X16, q16, st16⟩ := X14.hget hexec hown (wk W (.fieldLink "java/lang/String" 9 "java/lang/String" "value" "[B")) (hy.mv X14.warmed.alike hh14).2.1 (g := (mkF m 41 #[.val (.ref x), .val (.ref y), .val (.ref y)] [.ref y, .ref t])) rfl (rest := [.ref t]) rfl (hb hbytes d41)
      have hh16 := q16.trans hh14
      have c17 : Steps p.tables e below (s₁.setTop (entryFrame m #[.ref x, .ref y] 3)) (T16.setTop (mkF m 44 #[.val (.ref x), .val (.ref y), .val (.ref y)] [.ref t', .ref t])) := c15.trans (st16 _ (Steps.refl _))
      obtain ⟨v18, T18, X18, E18, g18⟩ := X16.callS hexec (LEq.law l t V t' V') hown (wks W (staticW "java/lang/String" 541 LEq.yN)) (wk W LEq.tab) (W := 0) (Nat.le_of_ble_eq_true rfl) (Nat.le_of_ble_eq_true rfl) (Nat.le_refl _) (Nat.le_refl _) (g := (mkF m 44 #[.val (.ref x), .val (.ref y), .val (.ref y)] [.ref t', .ref t])) rfl (by rw [hml]; rfl) c17 (argsL := [.ref t, .ref t']) (rest := []) rfl rfl (by show 2 * 0 + 0 ≤ _; decide) (hb hbytes d44) (⟨rfl, hx.2.2.2.1.mv X16.warmed.alike hh16, hx.2.2.2.2.1.ty, hy.2.2.2.1.mv X16.warmed.alike hh16, hy.2.2.2.2.1.ty⟩)
      obtain ⟨v, rfl, q18, hv⟩ := E18
      have iff := Cod.eqv hx.2.2.2.2.1 hy.2.2.2.2.1 hx.2.2.2.2.2 hy.2.2.2.2.2
      rcases hv with ⟨rfl, he⟩ | ⟨rfl, he⟩
      · have c19 : Steps p.tables e below (s₁.setTop (entryFrame m #[.ref x, .ref y] 3)) (T18.setTop (mkF m 55 #[.val (.ref x), .val (.ref y), .val (.ref y)] [.int 1])) := Steps.trans g18 (by
          refine XS.ifNo X18.here hexec rfl (hb hbytes d47) rfl (i0_eq_f (by decide)) ?_
          refine iconstV X18.here hexec rfl 1 (hb hbytes d50) (by decide) ?_
          refine XS.goto X18.here hexec rfl (pc0 := 51) rfl (hb hbytes d51) (by decide) rfl ?_
          exact Steps.refl _)
        exact ⟨T18, some (.int 1), _, _, _, X18, rfl, rfl, rfl, (fun h => by cases h), ⟨1, rfl, q18.trans hh16, Or.inl ⟨rfl, iff.mp he⟩⟩, fun fs hl => c19.trans (X18.ireturnOut hexec hret rfl (Or.inr (Or.inl rfl)) (hb hbytes d55) hl)⟩
      · have c19 : Steps p.tables e below (s₁.setTop (entryFrame m #[.ref x, .ref y] 3)) (T18.setTop (mkF m 55 #[.val (.ref x), .val (.ref y), .val (.ref y)] [.int 0])) := Steps.trans g18 (by
          refine XS.ifYes X18.here hexec rfl (pc0 := 47) rfl (hb hbytes d47) rfl (i0_eq_t rfl) (by decide) rfl ?_
          refine iconstV X18.here hexec rfl 0 (hb hbytes d54) (by decide) ?_
          exact Steps.refl _)
        exact ⟨T18, some (.int 0), _, _, _, X18, rfl, rfl, rfl, (fun h => by cases h), ⟨0, rfl, q18.trans hh16, Or.inr ⟨rfl, fun q => he (iff.mpr q)⟩⟩, fun fs hl => c19.trans (X18.ireturnOut hexec hret rfl (Or.inr (Or.inl rfl)) (hb hbytes d55) hl)⟩
    · have c13 : Steps p.tables e below (s₁.setTop (entryFrame m #[.ref x, .ref y] 3)) (T11.setTop (mkF m 55 #[.val (.ref x), .val (.ref y), .val (.ref y)] [.int 0])) := c12.trans (by
        refine XS.icmpYes X11.here hexec rfl (pc0 := 33) rfl (hb hbytes d33) rfl (ii_ne_t hcd) (by decide) rfl ?_
        refine iconstV X11.here hexec rfl 0 (hb hbytes d54) (by decide) ?_
        exact Steps.refl _)
      exact ⟨T11, some (.int 0), _, _, _, X11, rfl, rfl, rfl, (fun h => by cases h), ⟨0, rfl, hh11, Or.inr ⟨rfl, Cod.dif hx.2.2.2.2.1 hy.2.2.2.2.1 hcd⟩⟩, fun fs hl => c13.trans (X11.ireturnOut hexec hret rfl (Or.inr (Or.inl rfl)) (hb hbytes d55) hl)⟩
theorem pays {l : Launch} {R : Room} {p : Program} {e : Env} {below : List Frame} {s : State} {sargs : Array Value} {len W : Nat} (x t : Addr) (V : Cell) (cd : Int32) (n : Nat) (f : Nat → Int32) (y t' : Addr) (V' : Cell) (cd' : Int32) (k : Nat) (g : Nat → Int32) (z : Int32) (htab : tab.before sargs s = true) (hfr : 2 ≤ R.frames) (hlo : W + 28 ≤ R.locals) :
    Back l R p e below s sargs yN len W (fun A₁ a₁ => A₁.cells + 0 ≤ R.cells ∧ A₁.slots + 0 ≤ R.slots ∧ P x t V cd n f y t' V' cd' k g z a₁ A₁.U) (fun A₁ _ v₁ B₁ => Says01 (SameT n f k g) v₁ A₁.U B₁.U ∧ B₁.locs = A₁.locs ++ [] ∧ B₁.cells = A₁.cells + 0 ∧ B₁.slots = A₁.slots + 0) :=
  (law l x t V cd n f y t' V' cd' k g z).pays htab hfr (by omega)
end SEq
end StrChars
namespace StrChars.Road
open Jvm Sem ClassFile Op Lib Jvm.Stand Jvm.Free Jvm.Free.XT
open Jvm.Lib.Cold (StaticIs)
/-- the words of String.equals(Object) -/
abbrev wordsEq : List Jvm.Cond := [.code SEq.yN SEq.yB 3 (some .boolean), .initialized ST, .classLink ST 10 ST, .fieldLink ST 38 ST "COMPACT_STRINGS" "Z", .fieldLink ST 15 ST "coder" "B", .fieldLink ST 9 ST "value" "[B", .methodLink ST 541 LEq.yN, .static LEq.yN, .code LEq.yN LEq.yB 3 (some .boolean), .initialized "java/lang/StringLatin1"]
theorem tabEq_of {a : Array Value} {s : State} (h : ∀ w ∈ wordsEq, w.before a s = true) : SEq.tab.before a s = true := by
  have hl : LEq.tab.before a s = true := unparts (wk h (.code LEq.yN LEq.yB 3 (some .boolean))) (wks h (.initialized LEq.yN.cls :: LEq.site))
  have q := consq hl h
  exact unparts (wk q (.code SEq.yN SEq.yB 3 (some .boolean))) (wks q (.initialized SEq.yN.cls :: SEq.site))
theorem movedEq {Z s : State} {a0 args : Array Value} (hZ : Z.Warmed39 s.vm) (hw : ∀ d ∈ wordsEq, d.before a0 Z = true) : ∀ d ∈ wordsEq, d.before args s = true := fun d hd => by
  have t : ∀ d ∈ wordsEq, (d.onTables && d.keepsFace) = true := by decide +kernel
  exact RoadKit.mv hZ (hw d hd) (t d hd)
/-- the road's facts of a String, as the laws ask it -/
theorem txt_of {Z U : State} {a0 : Array Value} {kI : Nat} (wi : (Jvm.Cond.instantiable ST kI).before a0 Z = true) (al : Z.vm.Alike U.vm) {x t : Addr} {kb : ClassId} {cs : List Int32} {cd N2 : Int32} {vs : List Value} (E : RoadKit.Exa Z U.heap x ST) (V : RoadKit.Fld Z U.heap x ST "value" "[B" (.ref t)) (C : RoadKit.Fld Z U.heap x ST "coder" "B" (.int cd)) (K : RoadKit.Arv Z U.heap t kb .byte N2 vs (.int 0)) (hc : CodA cs cd N2 vs) (hb : ∀ c ∈ cs, ¬ c < 0 ∧ ¬ (65535 : Int32) < c) (l2 : cs.length ≤ 4000) :
    ∃ A, Txt x t A cd cs.length (fun j => cs.getD j 0) U := by
  obtain ⟨A, K1, K2, K3, K4, K5, K6⟩ := K
  have hcod := hc.cod (by omega) K3 K5
  obtain ⟨D, fV, fC, hB, F1, F2, g1, g2, -, -⟩ := strObj wi al E V C
  exact ⟨A, ⟨_, hB.2.2.1, D, hB.1, rfl, by cases q : D.vm <;> first | rfl | exact absurd q (hB.2.1.2 _)⟩, Has.of hB F1 g1, Has.of hB F2 g2, ⟨K1.1, State.isArrayOf_alike al K1.2.1, K1.2.2, by rcases hcod with ⟨-, q, -⟩ | ⟨-, q, -⟩ <;> omega⟩, hcod, fun j hj => by
    have e : cs.getD j 0 = cs[j] := by simp [List.getD_eq_getElem?_getD, hj]
    show ¬ cs.getD j 0 < 0 ∧ ¬ 65535 < cs.getD j 0
    rw [e]; exact hb _ (List.getElem_mem _)⟩
theorem same_list (cs ds : List Int32) : SameT cs.length (fun j => cs.getD j 0) ds.length (fun j => ds.getD j 0) ↔ cs = ds := by
  constructor
  · rintro ⟨e, q⟩
    refine List.ext_getElem e fun j h1 h2 => ?_
    have := q j h1
    simpa [List.getD_eq_getElem?_getD, h1, h2] using this
  · rintro rfl
    exact ⟨rfl, fun _ _ => rfl⟩
/-- **equals(Object) OF TWO SUCH STRINGS**: 1 just where the chars are the same -/
theorem eqW {p : Program} {l : Launch} {e : Env} {R : Room} {s : State} {args : Array Value} {below : List Frame} {len W : Nat} {Z : State} {a0 : Array Value} {h : Heap} (hZ : Z.Warmed39 s.vm) (hw : ∀ d ∈ wordsEq, d.before a0 Z = true) {kI : Nat} (wi : (Jvm.Cond.instantiable ST kI).before a0 Z = true)
    {x t : Addr} {kb : ClassId} {cs : List Int32} {cd N2 : Int32} {vs : List Value} (E : RoadKit.Exa Z h x ST) (V : RoadKit.Fld Z h x ST "value" "[B" (.ref t)) (C : RoadKit.Fld Z h x ST "coder" "B" (.int cd)) (K : RoadKit.Arv Z h t kb .byte N2 vs (.int 0)) (hc : CodA cs cd N2 vs) (hb : ∀ c ∈ cs, ¬ c < 0 ∧ ¬ (65535 : Int32) < c) (l2 : cs.length ≤ 4000)
    {y t' : Addr} {kb' : ClassId} {ds : List Int32} {cd' N2' : Int32} {vs' : List Value} (E' : RoadKit.Exa Z h y ST) (V' : RoadKit.Fld Z h y ST "value" "[B" (.ref t')) (C' : RoadKit.Fld Z h y ST "coder" "B" (.int cd')) (K' : RoadKit.Arv Z h t' kb' .byte N2' vs' (.int 0)) (hc' : CodA ds cd' N2' vs') (hb' : ∀ c ∈ ds, ¬ c < 0 ∧ ¬ (65535 : Int32) < c) (l2' : ds.length ≤ 4000)
    {z : Int32} (S : RoadKit.Sta Z h ST "COMPACT_STRINGS" "Z" (.int z)) (hz : ¬ z = 0) (hfr : 2 ≤ R.frames) (hlo : W + 28 ≤ R.locals) :
    Back l R p e below s args (⟨"java/lang/String", "equals", "(Ljava/lang/Object;)Z"⟩ : MethodName) len W (fun P a => a = #[.ref x, .ref y] ∧ P.U.heap = h ∧ P.cells + 0 ≤ R.cells ∧ P.slots + 0 ≤ R.slots)
      (fun P _ v B => ∃ L, (((v = some (.int 1) ∧ cs = ds) ∨ (v = some (.int 0) ∧ ¬ cs = ds)) ∧ L = [] ∧ B.U.heap = h) ∧ B.locs = P.locs ++ L ∧ B.cells = P.cells + 0 ∧ B.slots = P.slots + 0) := by
  intro m meth c P g ig mk a X hg hsize hdg hW hn hp'
  obtain ⟨rfl, rfl, r1, r2⟩ := hp'
  have al : Z.vm.Alike P.U.vm := hZ.alike.trans X.warmed.alike
  obtain ⟨A, hx⟩ := txt_of wi al E V C K hc hb l2
  obtain ⟨A', hy⟩ := txt_of wi al E' V' C' K' hc' hb' l2'
  obtain ⟨v, B, X', ⟨⟨w, hv, hh, hq⟩, hl, hk, hs⟩, st⟩ := SEq.pays x t A cd cs.length (fun j => cs.getD j 0) y t' A' cd' ds.length (fun j => ds.getD j 0) z (tabEq_of (movedEq hZ hw)) hfr hlo m meth c P g ig mk _ X hg hsize hdg hW hn ⟨r1, r2, rfl, hx, hy, sta_is al S, hz⟩
  refine ⟨v, B, X', ⟨[], ⟨?_, rfl, hh⟩, hl, hk, hs⟩, st⟩
  rcases hq with ⟨rfl, q⟩ | ⟨rfl, q⟩
  · exact Or.inl ⟨hv, (same_list cs ds).mp q⟩
  · exact Or.inr ⟨hv, fun e => q ((same_list cs ds).mpr e)⟩
end StrChars.Road
namespace StrChars.Road
open Jvm Sem ClassFile Op Lib Jvm.Stand Jvm.Free Jvm.Free.XT
open Jvm.Lib.Cold (StaticIs)
/-- what backV says of its String, as the contracts of this text ask it: cs's low bytes, coder 0 -/
theorem codOf {cs : List Int32} {n : Nat} (hn : cs.length = n) (hb : ∀ c ∈ cs, ¬ 255 < c) : CodA cs 0 (Int32.ofNat n) ((cs.map lo8).map Value.int) := Or.inl ⟨rfl, by rw [hn], by simp [List.map_map, Function.comp_def], hb⟩
end StrChars.Road
end Jvm.Pilot.@@N@@
namespace Jvm.Own
open Jvm Jvm.ClassFile Sem Op Lib Jvm.Free Jvm.Stand Jvm.LawKit Jvm.RoadKit
theorem i8i8 (x : Int32) : (x.toInt8.toInt32).toInt8.toInt32 = x.toInt8.toInt32 := by simp
section More
variable {Z s : State} {a0 args : Array Value} {y z : MethodName} {C : String}
theorem decl_of {bytes : ByteArray} {n : Nat} {r : Option FieldType} (hi : (Cond.instanceMethod y).before a0 Z = true) (hc : (Cond.code y bytes n r).before a0 Z = true) : (Cond.declares y).before a0 Z = true := by
  obtain ⟨mk, me, hn, hm, hs, -⟩ := Cond.instanceMethod_spec hi
  obtain ⟨m2, cM, q1, -, -, -, -, -, -, hsig⟩ := Cond.code_spec hn hc
  cases hm.symm.trans q1
  simp [Cond.before, Cond.holds, Cond.value, hn, hm, hs, hsig]
theorem nf_of (h : z.cls = y.cls) (hs : (Cond.selects C z z).before args s = true) : NotFace s y := fun r0 h0 => by
  obtain ⟨c2, r2, m2, -, -, q3, -, kP, hkP, hkPi⟩ := Cond.selects_spec hs
  have e1 := findClass_of_methodNamed q3
  have e2 := findClass_of_methodNamed h0
  rw [h, e2] at e1
  have q := Option.some.inj e1
  exact ⟨kP, by rw [q]; exact hkP, hkPi⟩
theorem same_of (hy : y.cls ≠ "java/lang/invoke/MethodHandle" ∧ y.cls ≠ "java/lang/invoke/VarHandle") (hi : (Cond.instanceMethod y).before a0 Z = true) (h : z.cls = y.cls) (hs : (Cond.selects C z z).before a0 Z = true) : (Cond.sameMethod y.cls y.cls y.name y.desc).before a0 Z = true := by
  obtain ⟨mk, me, hn, hm, -, -⟩ := Cond.instanceMethod_spec hi
  obtain ⟨kP, hkP, hkPi⟩ := nf_of h hs mk hn
  have e1 := findClass_of_methodNamed hn
  have e2 := State.methodFound?_of_named hn hy
  simp [Cond.before, Cond.holds, Cond.value, hn, e1, e2, hkP, hkPi]
end More
end Jvm.Own
namespace Jvm.Own
open Sem ClassFile Op Lib Bundle Jvm.Stand Jvm.Free Jvm.LawKit Jvm.RoadKit
theorem nb {a b : Nat} (h : Nat.ble a b = true) : a ≤ b := Nat.le_of_ble_eq_true h
section Calls
variable {p : Program} {l : Launch} {e : Env} {R : Room} {s : State} {m : MethodId} {args : Array Value} {below : List Frame} {meth : Method} {c : Code} {T : State} {locs : List Loc} {cells slots : Nat} {Z : State} {a0 : Array Value} {h : Heap} {own : String} {index : Nat} {y z : MethodName} {bytes : ByteArray} {maxL W : Nat} {ret : Option FieldType} {rm : Room} {as' : Array Value} {Q : Option Value → Heap → List Loc → Prop} {g : JFrame} {argsL rest : List Value} {a : Addr} {C : String}
abbrev Pays (l : Launch) (Z : State) (h : Heap) (y : MethodName) (bytes : ByteArray) (maxL : Nat) (ret : Option FieldType) (rm : Room) (as' : Array Value) (Q : Option Value → Heap → List Loc → Prop) : Prop :=
  MetFree l y (head1 [Cond.code y bytes maxL ret] rm) (fun a U => a = as' ∧ Z.Warmed39 U.vm ∧ U.heap = h) (fun _ _ _ _ _ => True) (fun _ U o U' => ∃ v L, o = .returned v ∧ Q v U'.heap L ∧ FrameEnd U o U' L rm.cells rm.slots)
/-- a static call, its answer flat -/
theorem kS (X : Stand p l e R s m args below meth c T locs cells slots) (hx : p.tables.exec = Jvm.exec) (hZ : Z.Warmed39 s.vm) (hown : s.vm.findClass own = some m.cls) (w1 : (Cond.methodLink own index y).before a0 Z = true) (w2 : (Cond.static y).before a0 Z = true) (w3 : (Cond.initialized y.cls).before a0 Z = true) (w4 : (Cond.code y bytes maxL ret).before a0 Z = true)
    (hy : y.cls ≠ "java/lang/invoke/MethodHandle" ∧ y.cls ≠ "java/lang/invoke/VarHandle") (hM : Pays l Z h y bytes maxL ret rm as' Q) (eT : T.heap = h) (hg : g.method = m) (hsize : g.locals.size = c.maxLocals) (hlen : ∀ sig, parseMethodDescriptor y.desc = some sig → argsL.length = sig.parameters.length)
    (hstack : g.stack = argsL.reverse ++ rest) (hW : 2 * g.monitorRoom + (rest.map fun v => v.category).sum ≤ W) (hdg : decode c.code g.pc = .ok (.invokestatic index, 3)) (ha : argsL.toArray = as') (hf : rm.frames + 1 ≤ R.frames) (hl : W + (maxL + 11) + rm.locals ≤ R.locals) (hc : cells + rm.cells ≤ R.cells) (hs : slots + rm.slots ≤ R.slots) :
    ∃ v T' L, Stand p l e R s m args below meth c T' (locs ++ L) (cells + rm.cells) (slots + rm.slots) ∧ Q v T'.heap L ∧ ∀ target, Steps p.tables e below (T'.setTop { g with pc := g.pc + 3, stack := v.toList ++ rest }) target → Steps p.tables e below (T.setTop g) target := by
  obtain ⟨v, vm1, ⟨T', L', k', n'⟩, -, X', ⟨Lc, hQ, q1, q2, q3⟩, st⟩ := Jvm.LawKit.callS X hx hown (mvT hZ w1) (mvT hZ w2) (mvT hZ w3) (mvT hZ w4) hy (backOf (W := W) hM hZ w4 w3 hf hl) hg hsize hlen hstack hW hdg (fun _ _ => ⟨ha, eT, hc, hs⟩)
  dsimp only [Pt.U, Pt.locs, Pt.cells, Pt.slots] at X' q1 q2 q3 st hQ
  rw [q1, q2, q3] at X'
  exact ⟨v, T', Lc, X', hQ, st⟩
/-- a constructor's call -/
theorem kI (X : Stand p l e R s m args below meth c T locs cells slots) (hx : p.tables.exec = Jvm.exec) (hZ : Z.Warmed39 s.vm) (hn : y.name = "<init>") (hown : s.vm.findClass own = some m.cls) (w1 : (Cond.methodLink own index y).before a0 Z = true) (w2 : (Cond.instanceMethod y).before a0 Z = true) (w3 : (Cond.initialized y.cls).before a0 Z = true) (w4 : (Cond.code y bytes maxL none).before a0 Z = true)
    (hy : y.cls ≠ "java/lang/invoke/MethodHandle" ∧ y.cls ≠ "java/lang/invoke/VarHandle") (hM : Pays l Z h y bytes maxL none rm as' Q) (eT : T.heap = h) (hg : g.method = m) (hsize : g.locals.size = c.maxLocals) (hlen : ∀ sig, parseMethodDescriptor y.desc = some sig → argsL.length = sig.parameters.length)
    (hstack : g.stack = argsL.reverse ++ .ref a :: rest) (hW : 2 * g.monitorRoom + (rest.map fun v => v.category).sum ≤ W) (hdg : decode c.code g.pc = .ok (.invokespecial index, 3)) (ha : (.ref a :: argsL).toArray = as') (hf : rm.frames + 1 ≤ R.frames) (hl : W + (maxL + 11) + rm.locals ≤ R.locals) (hc : cells + rm.cells ≤ R.cells) (hs : slots + rm.slots ≤ R.slots) :
    ∃ v T' L, Stand p l e R s m args below meth c T' (locs ++ L) (cells + rm.cells) (slots + rm.slots) ∧ Q v T'.heap L ∧ Steps p.tables e below (T.setTop g) (T'.setTop { g with pc := g.pc + 3, stack := v.toList ++ rest }) := by
  obtain ⟨v, vm1, ⟨T', L', k', n'⟩, -, X', ⟨Lc, hQ, q1, q2, q3⟩, st⟩ := X.specialBack hx hn hown (mvT hZ w1) (mvT hZ w2) (mvT hZ w4) hy (backOf (W := W) hM hZ w4 w3 hf hl) hg hsize (Steps.refl _) hlen hstack hW hdg (fun _ _ => ⟨ha, eT, hc, hs⟩)
  dsimp only [Pt.U, Pt.locs, Pt.cells, Pt.slots] at X' q1 q2 q3 st hQ
  rw [q1, q2, q3] at X'
  exact ⟨v, T', Lc, X', hQ, st⟩
/-- a virtual call -/
theorem kV (X : Stand p l e R s m args below meth c T locs cells slots) (hx : p.tables.exec = Jvm.exec) (hZ : Z.Warmed39 s.vm) (hown : s.vm.findClass own = some m.cls) (w1 : (Cond.methodLink own index y).before a0 Z = true) (w2 : (Cond.declares y).before a0 Z = true) (nf : NotFace s y) (w5 : (Cond.selects C y z).before a0 Z = true) (w6 : (Cond.instanceMethod z).before a0 Z = true) (w3 : (Cond.initialized z.cls).before a0 Z = true) (w4 : (Cond.code z bytes maxL ret).before a0 Z = true)
    (hy : y.cls ≠ "java/lang/invoke/MethodHandle" ∧ y.cls ≠ "java/lang/invoke/VarHandle") (hM : Pays l Z h z bytes maxL ret rm as' Q) (eT : T.heap = h) (E : Exa Z h a C) (hg : g.method = m) (hsize : g.locals.size = c.maxLocals) (hlen : ∀ sig, parseMethodDescriptor y.desc = some sig → argsL.length = sig.parameters.length)
    (hstack : g.stack = argsL.reverse ++ .ref a :: rest) (hW : 2 * g.monitorRoom + (rest.map fun v => v.category).sum ≤ W) (hdg : decode c.code g.pc = .ok (.invokevirtual index, 3)) (ha : (.ref a :: argsL).toArray = as') (hf : rm.frames + 1 ≤ R.frames) (hl : W + (maxL + 11) + rm.locals ≤ R.locals) (hc : cells + rm.cells ≤ R.cells) (hs : slots + rm.slots ≤ R.slots) :
    ∃ v T' L, Stand p l e R s m args below meth c T' (locs ++ L) (cells + rm.cells) (slots + rm.slots) ∧ Q v T'.heap L ∧ Steps p.tables e below (T.setTop g) (T'.setTop { g with pc := g.pc + 3, stack := v.toList ++ rest }) := by
  obtain ⟨cB, kB, u1, -, u3⟩ := isOf hZ eT E
  obtain ⟨v, vm1, ⟨T', L', k', n'⟩, -, X', ⟨Lc, hQ, q1, q2, q3⟩, st⟩ := X.virtualBack hx hown (mvT hZ w1) (mvT hZ w2) nf (mvT hZ w5) (mvT hZ w6) hy (backOf (W := W) hM hZ w4 w3 hf hl) u1 u3 hg hsize (Steps.refl _) hlen hstack hW hdg (fun _ _ => ⟨ha, eT, hc, hs⟩)
  dsimp only [Pt.U, Pt.locs, Pt.cells, Pt.slots] at X' q1 q2 q3 st hQ
  rw [q1, q2, q3] at X'
  exact ⟨v, T', Lc, X', hQ, st⟩
end Calls
end Jvm.Own
namespace Jvm.Own
open Jvm Jvm.ClassFile Sem Op Lib Jvm.Free Jvm.Stand Jvm.LawKit Jvm.RoadKit
/-- X as values, filled up with zeros to n -/
def pad (n : Nat) (X : List Int32) : List Value := X.map Value.int ++ List.replicate (n - X.length) (.int 0)
theorem pad_len {n : Nat} {X : List Int32} (h : X.length ≤ n) : (pad n X).length = n := by simp [pad]; omega
theorem pad_app {n : Nat} {X us : List Int32} (h : X.length + us.length ≤ n) : (pad n X).take X.length ++ us.map Value.int ++ (pad n X).drop (X.length + us.length) = pad n (X ++ us) := by
  unfold pad
  rw [List.take_append_of_le_length (by simp), List.take_of_length_le (by simp), List.drop_append, List.drop_of_length_le (by simp), List.drop_replicate]
  simp only [List.length_map, List.map_append, List.nil_append, List.length_append, List.append_assoc]
  congr 3; omega
theorem hus_all (vs : List Value) (dv : Value) : vs = (List.range vs.length).map fun i => vs.getD (0 + i) dv := by
  apply List.ext_getElem (by simp)
  intro i h1 h2
  simp [List.getD_eq_getElem?_getD, List.getElem?_eq_getElem h1]
theorem hus_pre {n : Nat} (X : List Int32) (dv : Value) (h : X.length ≤ n) : X.map Value.int = (List.range X.length).map fun i => (pad n X).getD (0 + i) dv := by
  apply List.ext_getElem (by simp)
  intro i h1 h2
  have h3 : i < X.length := by simpa using h1
  simp [pad, List.getD_eq_getElem?_getD, List.getElem?_append_left, h3]
theorem nl {X : List Int32} (h : X.length ≤ 4000) : (Int32.ofNat X.length).toNatClampNeg = X.length := Jvm.Free.XT.n32 (by omega)
theorem nn0 {X : List Int32} (h : X.length ≤ 4000) : ¬ Int32.ofNat X.length < 0 := by
  have e := nl h
  intro q
  rw [Int32.lt_iff_toInt_lt] at q
  have e0 : (0 : Int32).toInt = 0 := rfl
  have k : (Int32.ofNat X.length).toInt = X.length := Int32.toInt_ofNat_of_lt (by omega)
  omega
theorem lapp (X us : List Int32) : Int32.ofNat X.length + Int32.ofNat us.length = Int32.ofNat (X ++ us).length := by rw [List.length_append, Int32.ofNat_add]
theorem shr0 (x : Int32) : x >>> ((0 : Int32) &&& 31) = x := by simp
theorem shl0 (x : Int32) : x <<< ((0 : Int32) &&& 31) = x := by simp
theorem hus_of {us : List Int32} (h : us.length ≤ 4000) (dv : Value) : us.map Value.int = (List.range (Int32.ofNat us.length).toNatClampNeg).map fun i => (us.map Value.int).getD ((0 : Int32).toNatClampNeg + i) dv := by
  rw [nl h]; have := hus_all (us.map Value.int) dv; rw [List.length_map] at this; exact this
theorem le4a {X us : List Int32} (h : X.length + us.length ≤ 16) : X.length ≤ 4000 := by omega
theorem le4b {X us : List Int32} (h : X.length + us.length ≤ 16) : us.length ≤ 4000 := by omega
theorem le4 {X : List Int32} (h : X.length < 16) : X.length ≤ 4000 := by omega
theorem ln_int {X : List Int32} (h : X.length ≤ 4000) : (Int32.ofNat X.length).toInt = X.length := Int32.toInt_ofNat_of_lt (by omega)
theorem cap16 {X us : List Int32} (h : X.length + us.length ≤ 16) : ¬ (0 : Int32) < (Int32.ofNat (X ++ us).length - (16 : Int32)) := by
  have e := ln_int (X := X ++ us) (by simp; omega)
  have k := c_isub (Int32.ofNat (X ++ us).length) 16
  have r := rng32 (Int32.ofNat (X ++ us).length - 16)
  have e16 : (16 : Int32).toInt = 16 := rfl
  have e0 : (0 : Int32).toInt = 0 := rfl
  have e2 : (X ++ us).length = X.length + us.length := List.length_append
  rw [Int32.lt_iff_toInt_lt]; omega
theorem lt16 {X : List Int32} (h : X.length < 16) : Int32.ofNat X.length < (16 : Int32) := by
  have e := ln_int (le4 h)
  have e16 : (16 : Int32).toInt = 16 := rfl
  rw [Int32.lt_iff_toInt_lt]; omega
theorem ne16 {X : List Int32} (h : X.length < 16) : ¬ Int32.ofNat X.length = (16 : Int32) := fun z => by
  have q := lt16 h; rw [z] at q; exact absurd q (by decide)
theorem at_mid {us d r : List Int32} {b : Int32} (h : us = d ++ b :: r) (hu : us.length ≤ 4000) (dv : Value) : (us.map Value.int).getD (Int32.ofNat d.length).toNatClampNeg dv = .int b ∧ (¬ Int32.ofNat d.length < 0 ∧ Int32.ofNat d.length < Int32.ofNat us.length) := by
  subst h
  have hd : d.length ≤ 4000 := by rw [List.length_append] at hu; omega
  refine ⟨?_, nn0 hd, ?_⟩
  · rw [nl hd, List.getD_eq_getElem?_getD]; simp
  · rw [Int32.lt_iff_toInt_lt, ln_int hd, ln_int hu, List.length_append, List.length_cons]; omega
theorem lsucc (d : List Int32) (b : Int32) : Int32.ofNat d.length + (1 : Int32) = Int32.ofNat (d ++ [b]).length := by rw [List.length_append, Int32.ofNat_add]; rfl
theorem lt_end {us d : List Int32} (h : us = d ++ []) : ¬ Int32.ofNat d.length < Int32.ofNat us.length := by
  rw [h, List.append_nil]; exact fun q => by rw [Int32.lt_iff_toInt_lt] at q; omega
theorem ne_mid {us d r : List Int32} {b : Int32} (h : us = d ++ b :: r) (hu : us.length ≤ 4000) : ¬ Int32.ofNat d.length = Int32.ofNat us.length := fun z => by
  have q := (at_mid h hu .null).2.2
  rw [z, Int32.lt_iff_toInt_lt] at q; omega
theorem app_mid {us d r : List Int32} {b : Int32} (h : us = d ++ b :: r) : us = (d ++ [b]) ++ r := by rw [h]; simp
theorem pad_set {n : Nat} {X : List Int32} {v : Int32} (h : X.length < n) : (pad n X).set X.length (.int v) = pad n (X ++ [v]) := by
  unfold pad
  rw [List.set_append_right _ _ (by simp)]
  obtain ⟨j, hj⟩ : ∃ j, n - X.length = j + 1 := ⟨n - X.length - 1, by omega⟩
  have e : n - (X ++ [v]).length = j := by rw [List.length_append, List.length_singleton]; omega
  rw [hj, e, List.length_map, Nat.sub_self, List.replicate_succ, List.set_cons_zero]; simp
theorem shl1 {us : List Int32} : Int32.ofNat us.length <<< ((1 : Int32) &&& 31) = Int32.ofNat (us ++ us).length := by
  rw [List.length_append, Int32.ofNat_add]
  have e : ((1 : Int32) &&& 31) = 1 := by decide
  rw [e]
  generalize Int32.ofNat us.length = x
  apply Int32.toBitVec.inj
  show x.toBitVec <<< ((1 : Int32).toBitVec.smod 32) = x.toBitVec + x.toBitVec
  rw [show (1 : Int32).toBitVec.smod 32 = 1#32 by decide, BitVec.shiftLeft_eq']
  apply BitVec.eq_of_toNat_eq
  simp [Nat.shiftLeft_eq]; omega
def e1 (b : Int32) : Int32 := (((192 : Int32) ||| ((b &&& (255 : Int32)) >>> ((6 : Int32) &&& 31))).toInt8.toInt32)
def e2 (b : Int32) : Int32 := (((128 : Int32) ||| (b &&& (63 : Int32))).toInt8.toInt32)
def encB (b : Int32) : List Int32 := if b < 0 then [e1 b, e2 b] else [b]
def enc (us : List Int32) : List Int32 := us.flatMap encB
theorem enc_app (X Y : List Int32) : enc (X ++ Y) = enc X ++ enc Y := List.flatMap_append
theorem enc_one (b : Int32) : enc [b] = encB b := by simp [enc]
theorem enc_p {d ee : List Int32} {b : Int32} (h : b < 0) (he : ee = enc d) : (ee ++ [(((192 : Int32) ||| ((b &&& (255 : Int32)) >>> ((6 : Int32) &&& 31))).toInt8.toInt32)]) ++ [(((128 : Int32) ||| (b &&& (63 : Int32))).toInt8.toInt32)] = enc (d ++ [b]) := by
  rw [enc_app, enc_one, encB, if_pos h, he, List.append_assoc]; rfl
theorem enc_n {d ee : List Int32} {b : Int32} (h : ¬ b < 0) (he : ee = enc d) : ee ++ [b] = enc (d ++ [b]) := by
  rw [enc_app, enc_one, encB, if_neg h, he]
theorem enc_cons (b : Int32) (r : List Int32) : enc (b :: r) = encB b ++ enc r := rfl
theorem encB_len (b : Int32) : 1 ≤ (encB b).length ∧ (encB b).length ≤ 2 := by unfold encB; split <;> simp
theorem enc_len (d : List Int32) : (enc d).length ≤ 2 * d.length := by
  induction d with
  | nil => simp [enc]
  | cons b r ih => rw [enc_cons, List.length_append, List.length_cons]; have := encB_len b; omega
theorem enc_all {us : List Int32} (h : ∀ b ∈ us, ¬ b < 0) : enc us = us := by
  induction us with
  | nil => rfl
  | cons b r ih => rw [enc_cons, ih fun c hc => h c (List.mem_cons_of_mem _ hc), encB, if_neg (h b (List.mem_cons_self))]; rfl
theorem enc_end {us d ee : List Int32} (hs : us = d ++ []) (he : ee = enc d) : ee = enc us := by rw [he, hs, List.append_nil]
theorem enc_lt {us : List Int32} (h : (58 : Int32) ∈ us) : (enc us).length < (us ++ us).length := by
  obtain ⟨a, b, rfl⟩ := List.append_of_mem h
  have e : encB 58 = [58] := by decide
  have q1 := enc_len a; have q2 := enc_len b
  rw [enc_app, enc_cons, e]
  simp only [List.length_append, List.length_cons, List.length_nil]; omega
theorem enc_in {us d r ee : List Int32} {b : Int32} (hs : us = d ++ b :: r) (he : ee = enc d) : ee.length + 1 < (us ++ us).length := by
  have q := enc_len d
  rw [he, hs]; simp only [List.length_append, List.length_cons]; omega
theorem inpad {X : List Int32} {n : Nat} (h : X.length < n) (hn : n ≤ 4000) : ¬ Int32.ofNat X.length < 0 ∧ Int32.ofNat X.length < Int32.ofNat n := by
  refine ⟨nn0 (by omega), ?_⟩
  rw [Int32.lt_iff_toInt_lt, ln_int (by omega), Int32.toInt_ofNat_of_lt (by omega)]; omega
theorem ne_len {X : List Int32} {n : Nat} (h : X.length < n) (hn : n ≤ 4000) : ¬ Int32.ofNat X.length = Int32.ofNat n := fun z => by
  have q := (inpad h hn).2
  rw [z, Int32.lt_iff_toInt_lt] at q; omega
theorem len2 {us : List Int32} (h : us.length < 16) : (us ++ us).length ≤ 30 := by rw [List.length_append]; omega
theorem len2k {us : List Int32} (h : us.length < 16) : (us ++ us).length ≤ 4000 := by rw [List.length_append]; omega
theorem lt_big {us : List Int32} (h : us.length < 16) : Int32.ofNat us.length < (1073741823 : Int32) := by
  have e : (1073741823 : Int32).toInt = 1073741823 := rfl
  rw [Int32.lt_iff_toInt_lt, ln_int (le4 h), e]; omega
theorem pos_len {us : List Int32} (h : us ≠ []) (hu : us.length ≤ 4000) : (0 : Int32) < Int32.ofNat us.length := by
  have e : (0 : Int32).toInt = 0 := rfl
  have q := List.length_pos_iff.mpr h
  rw [Int32.lt_iff_toInt_lt, ln_int hu, e]; omega
theorem nz_len {us : List Int32} (h : us ≠ []) (hu : us.length ≤ 4000) : ¬ Int32.ofNat us.length = (0 : Int32) := fun z => by
  have q := pos_len h hu
  rw [z] at q; exact absurd q (by decide)
section Copy
variable {p : Program} {l : Launch} {e : Env} {R : Room} {s : State} {m : MethodId} {args : Array Value} {below : List Frame} {meth : Method} {c : Code} {T : State} {locs : List Loc} {cells slots : Nat} {Z : State} {h : Heap} {a b : Addr} {k k' : ClassId}
/-- arraycopy of all bytes us to the end of X in an array of n -/
theorem cpApp (X0 : Stand p l e R s m args below meth c T locs cells slots) (hx : p.tables.exec = Jvm.exec) (hZ : Z.Warmed39 s.vm) {a0 : Array Value} {own : String} {index : Nat} (hown : s.vm.findClass own = some m.cls)
    (w1 : (Cond.methodLink own index Jvm.Stand.acN).before a0 Z = true) (w2 : (Cond.native Jvm.Stand.acN).before a0 Z = true) (w3 : (Cond.static Jvm.Stand.acN).before a0 Z = true) (w4 : (Cond.initialized "java/lang/System").before a0 Z = true) (eT : T.heap = h)
    {us X : List Int32} {n : Nat} (hus : us.length ≤ 4000) (hX : X.length ≤ 4000) (hn : n ≤ 4000) (hc : X.length + us.length ≤ n) (A : Arv Z h a k .byte (Int32.ofNat us.length) (us.map Value.int) (.int 0)) (B : Arv Z h b k' .byte (Int32.ofNat n) (pad n X) (.int 0)) {n0 : Nat} (N : Fr n0 locs) (ge : n0 ≤ b)
    {g : JFrame} (hg : g.method = m) (hsize : g.locals.size = c.maxLocals) {rest : List Value} (hs : g.stack = .int (Int32.ofNat us.length) :: .int (Int32.ofNat X.length) :: .ref b :: .int 0 :: .ref a :: rest) (hd : decode c.code g.pc = .ok (.invokestatic index, 3))
    (hf : 1 ≤ R.frames) {W : Nat} (hW : 2 * g.monitorRoom + (rest.map fun v => v.category).sum ≤ W) (hlo : W + 18 ≤ R.locals) :
    ∃ T' h' L, Stand p l e R s m args below meth c T' L cells slots ∧ T'.heap = h' ∧ Fr n0 L ∧ Keep h h' [b] ∧ Arv Z h' b k' .byte (Int32.ofNat n) (pad n (X ++ us)) (.int 0) ∧
      ∀ target, Steps p.tables e below (T'.setTop { g with pc := g.pc + 3, stack := rest }) target → Steps p.tables e below (T.setTop g) target := by
  have en : (Int32.ofNat n).toNatClampNeg = n := Jvm.Free.XT.n32 (by omega)
  obtain ⟨T', h', L, X', e', N', K, V, st⟩ := cpA X0 hx hZ hown w1 w2 w3 w4 eT A B (Or.inl ⟨rfl, rfl⟩) (sp := 0) (dp := Int32.ofNat X.length) (nn := Int32.ofNat us.length) (us := us.map Value.int) (by decide) (nn0 hX) (nn0 hus) (by show 0 + _ ≤ _; omega) (by rw [nl hX, nl hus, en]; exact hc) (hus_of hus _) (by rw [nl hX, nl hus, pad_len (by omega)]; exact hc) N ge hg hsize hs hd hf hW hlo
  rw [nl hX, nl hus, pad_app hc] at V
  exact ⟨T', h', L, X', e', N', K, V, st⟩
/-- arraycopy of X, the first part of an array of n, into a new array of X's length -/
theorem cpPre (X0 : Stand p l e R s m args below meth c T locs cells slots) (hx : p.tables.exec = Jvm.exec) (hZ : Z.Warmed39 s.vm) {a0 : Array Value} {own : String} {index : Nat} (hown : s.vm.findClass own = some m.cls)
    (w1 : (Cond.methodLink own index Jvm.Stand.acN).before a0 Z = true) (w2 : (Cond.native Jvm.Stand.acN).before a0 Z = true) (w3 : (Cond.static Jvm.Stand.acN).before a0 Z = true) (w4 : (Cond.initialized "java/lang/System").before a0 Z = true) (eT : T.heap = h)
    {X : List Int32} {n : Nat} (hX : X.length ≤ 4000) (hn : n ≤ 4000) (hc : X.length ≤ n) (A : Arv Z h a k .byte (Int32.ofNat n) (pad n X) (.int 0)) (B : Arv Z h b k' .byte (Int32.ofNat X.length) (pad X.length []) (.int 0)) {n0 : Nat} (N : Fr n0 locs) (ge : n0 ≤ b)
    {g : JFrame} (hg : g.method = m) (hsize : g.locals.size = c.maxLocals) {rest : List Value} (hs : g.stack = .int (Int32.ofNat X.length) :: .int 0 :: .ref b :: .int 0 :: .ref a :: rest) (hd : decode c.code g.pc = .ok (.invokestatic index, 3))
    (hf : 1 ≤ R.frames) {W : Nat} (hW : 2 * g.monitorRoom + (rest.map fun v => v.category).sum ≤ W) (hlo : W + 18 ≤ R.locals) :
    ∃ T' h' L, Stand p l e R s m args below meth c T' L cells slots ∧ T'.heap = h' ∧ Fr n0 L ∧ Keep h h' [b] ∧ Arv Z h' b k' .byte (Int32.ofNat X.length) (X.map Value.int) (.int 0) ∧
      ∀ target, Steps p.tables e below (T'.setTop { g with pc := g.pc + 3, stack := rest }) target → Steps p.tables e below (T.setTop g) target := by
  have en : (Int32.ofNat n).toNatClampNeg = n := Jvm.Free.XT.n32 (by omega)
  have z0 : (0 : Int32).toNatClampNeg = 0 := rfl
  obtain ⟨T', h', L, X', e', N', K, V, st⟩ := cpA X0 hx hZ hown w1 w2 w3 w4 eT A B (Or.inl ⟨rfl, rfl⟩) (sp := 0) (dp := 0) (nn := Int32.ofNat X.length) (us := X.map Value.int) (by decide) (by decide) (nn0 hX) (by rw [nl hX, en, z0]; omega) (by rw [nl hX, z0]; omega) (by rw [nl hX]; exact hus_pre X _ hc) (by rw [nl hX, z0, pad_len (by simp)]; omega) N ge hg hsize hs hd hf hW hlo
  have e2 : List.drop ((0 : Int32).toNatClampNeg + X.length) (pad X.length []) = [] := List.drop_of_length_le (by rw [pad_len (by simp), z0]; omega)
  have e3 : List.take (0 : Int32).toNatClampNeg (pad X.length []) = [] := rfl
  rw [nl hX, e2, e3, List.nil_append, List.append_nil] at V
  exact ⟨T', h', L, X', e', N', K, V, st⟩
theorem newPad {n : Nat} {k : ClassId} (A : Arr Z h a (newA k .byte (Int32.ofNat n)) .byte) (hn : n ≤ 4000) : Arv Z h a k .byte (Int32.ofNat n) (pad n []) (.int 0) := by
  have q : ¬ Int32.ofNat n < 0 := by have := nn0 (X := List.replicate n 0) (by simp; omega); rw [List.length_replicate] at this; exact this
  refine (Arv.new A q).pad fun i => ?_
  show (List.replicate (n - 0) (Value.int 0)).getD i _ = _
  rw [List.getD_eq_getElem?_getD, List.getElem?_replicate]; split <;> rfl
end Copy
end Jvm.Own
namespace Jvm.Own
open Jvm Jvm.ClassFile Sem Op Lib Jvm.Free Jvm.Stand Jvm.LawKit Jvm.RoadKit
theorem hus_mid {us A B C : List Int32} (hq : us = A ++ B ++ C) (dv : Value) : B.map Value.int = (List.range B.length).map fun i => (us.map Value.int).getD (A.length + i) dv := by
  subst hq
  apply List.ext_getElem (by simp)
  intro i h1 h2
  have h3 : i < B.length := by simpa using h1
  simp only [List.getElem_map, List.getElem_range, List.getD_eq_getElem?_getD, List.map_append, List.append_assoc]
  rw [List.getElem?_append_right (by simp), List.getElem?_append_left (by simp; omega)]
  simp [h3]
theorem lsub {us A B : List Int32} (hq : us = A ++ B) : Int32.ofNat us.length - Int32.ofNat A.length = Int32.ofNat B.length := by
  rw [hq, List.length_append, Int32.ofNat_add, Int32.add_comm, Int32.add_sub_cancel]
theorem lt_app {us B C : List Int32} (hq : us = B ++ C) (hC : C ≠ []) (hu : us.length ≤ 4000) : Int32.ofNat B.length < Int32.ofNat us.length := by
  have q := List.length_pos_iff.mpr hC
  have e : us.length = B.length + C.length := by rw [hq, List.length_append]
  rw [Int32.lt_iff_toInt_lt, ln_int (by omega), ln_int hu]; omega
theorem nlt_app {us A B : List Int32} (hq : us = A ++ B) (hu : us.length ≤ 4000) : ¬ Int32.ofNat us.length < Int32.ofNat A.length := by
  have e : us.length = A.length + B.length := by rw [hq, List.length_append]
  rw [Int32.lt_iff_toInt_lt, ln_int hu, ln_int (by omega)]; omega
theorem ne_app {us B C : List Int32} (hq : us = B ++ C) (hC : C ≠ []) (hu : us.length ≤ 4000) : ¬ Int32.ofNat B.length = Int32.ofNat us.length := fun z => by
  have q := lt_app hq hC hu
  rw [z, Int32.lt_iff_toInt_lt] at q; omega
theorem nem1 {X : List Int32} (h : X.length ≤ 4000) : ¬ Int32.ofNat X.length = (-1 : Int32) := fun z => by
  have q := nn0 h
  rw [z] at q; exact q (by decide)
theorem lirr (x : Int32) : ¬ x < x := by rw [Int32.lt_iff_toInt_lt]; omega
theorem nz_app {A : List Int32} (b : Int32) : A ++ [b] ≠ [] := by simp
section Copy2
variable {p : Program} {l : Launch} {e : Env} {R : Room} {s : State} {m : MethodId} {args : Array Value} {below : List Frame} {meth : Method} {c : Code} {T : State} {locs : List Loc} {cells slots : Nat} {Z : State} {h : Heap} {a b : Addr} {k k' : ClassId}
/-- arraycopy of B, a part of an array, into a new array of B's length -/
theorem cpMid (X0 : Stand p l e R s m args below meth c T locs cells slots) (hx : p.tables.exec = Jvm.exec) (hZ : Z.Warmed39 s.vm) {a0 : Array Value} {own : String} {index : Nat} (hown : s.vm.findClass own = some m.cls)
    (w1 : (Cond.methodLink own index Jvm.Stand.acN).before a0 Z = true) (w2 : (Cond.native Jvm.Stand.acN).before a0 Z = true) (w3 : (Cond.static Jvm.Stand.acN).before a0 Z = true) (w4 : (Cond.initialized "java/lang/System").before a0 Z = true) (eT : T.heap = h)
    {us A B C : List Int32} (hq : us = A ++ B ++ C) (hu : us.length ≤ 4000) (Av : Arv Z h a k .byte (Int32.ofNat us.length) (us.map Value.int) (.int 0)) (Bv : Arv Z h b k' .byte (Int32.ofNat B.length) (pad B.length []) (.int 0)) {n0 : Nat} (N : Fr n0 locs) (ge : n0 ≤ b)
    {g : JFrame} (hg : g.method = m) (hsize : g.locals.size = c.maxLocals) {rest : List Value} (hs : g.stack = .int (Int32.ofNat B.length) :: .int 0 :: .ref b :: .int (Int32.ofNat A.length) :: .ref a :: rest) (hd : decode c.code g.pc = .ok (.invokestatic index, 3))
    (hf : 1 ≤ R.frames) {W : Nat} (hW : 2 * g.monitorRoom + (rest.map fun v => v.category).sum ≤ W) (hlo : W + 18 ≤ R.locals) :
    ∃ T' h' L, Stand p l e R s m args below meth c T' L cells slots ∧ T'.heap = h' ∧ Fr n0 L ∧ Keep h h' [b] ∧ Arv Z h' b k' .byte (Int32.ofNat B.length) (B.map Value.int) (.int 0) ∧
      ∀ target, Steps p.tables e below (T'.setTop { g with pc := g.pc + 3, stack := rest }) target → Steps p.tables e below (T.setTop g) target := by
  have z0 : (0 : Int32).toNatClampNeg = 0 := rfl
  have eL : us.length = A.length + B.length + C.length := by rw [hq, List.length_append, List.length_append]
  have hA : A.length ≤ 4000 := by omega
  have hB : B.length ≤ 4000 := by omega
  obtain ⟨T', h', L, X', e', N', K, V, st⟩ := cpA X0 hx hZ hown w1 w2 w3 w4 eT Av Bv (Or.inl ⟨rfl, rfl⟩) (sp := Int32.ofNat A.length) (dp := 0) (nn := Int32.ofNat B.length) (us := B.map Value.int) (nn0 hA) (by decide) (nn0 hB) (by rw [nl hA, nl hB, nl hu]; omega) (by rw [nl hB, z0]; omega) (by rw [nl hA, nl hB]; exact hus_mid hq _) (by rw [nl hB, z0, pad_len (by simp)]; omega) N ge hg hsize hs hd hf hW hlo
  have e2 : List.drop ((0 : Int32).toNatClampNeg + B.length) (pad B.length []) = [] := List.drop_of_length_le (by rw [pad_len (by simp), z0]; omega)
  have e3 : List.take (0 : Int32).toNatClampNeg (pad B.length []) = [] := rfl
  rw [nl hB, e2, e3, List.nil_append, List.append_nil] at V
  exact ⟨T', h', L, X', e', N', K, V, st⟩
end Copy2
end Jvm.Own
namespace Jvm.Pilot.@@N@@
open Jvm Jvm.ClassFile Sem Op Lib Jvm.Free Jvm.Stand Jvm.LawKit Jvm.RoadKit Jvm.Own Bundle Jvm.Pilot.@@N@@.Jvm.D
set_option maxRecDepth 65536
set_option maxHeartbeats 40000000
abbrev yN0 : MethodName := ⟨"com/example/turnlock/turnlock/session/DigestCredentials", "<init>", "(Ljava/lang/String;Ljava/lang/String;)V"⟩
abbrev yN1 : MethodName := ⟨"com/example/turnlock/turnlock/session/DigestCredentials", "authData", "()[B"⟩
abbrev yN2 : MethodName := ⟨"com/example/turnlock/turnlock/session/DigestCredentials", "of", "(Ljava/lang/String;Ljava/lang/String;)Lcom/example/turnlock/turnlock/session/DigestCredentials;"⟩
abbrev yN3 : MethodName := ⟨"com/example/turnlock/turnlock/session/DigestCredentials", "parse", "(Ljava/lang/String;)Lcom/example/turnlock/turnlock/session/DigestCredentials;"⟩
abbrev yN4 : MethodName := ⟨"com/example/turnlock/turnlock/session/DigestCredentials", "user", "()Ljava/lang/String;"⟩
abbrev yN5 : MethodName := ⟨"com/example/turnlock/turnlock/session/DigestCredentialsParsePinLaw", "ch", "(JII)C"⟩
abbrev yN6 : MethodName := ⟨"com/example/turnlock/turnlock/session/DigestCredentialsParsePinLaw", "put", "([BIC)I"⟩
abbrev yN7 : MethodName := ⟨"com/example/turnlock/turnlock/session/DigestCredentialsParsePinLaw", "same", "([B[BII)Z"⟩
abbrev yN8 : MethodName := ⟨"java/lang/AbstractStringBuilder", "<init>", "(I)V"⟩
abbrev yN9 : MethodName := ⟨"java/lang/AbstractStringBuilder", "append", "(Ljava/lang/String;)Ljava/lang/AbstractStringBuilder;"⟩
abbrev yN10 : MethodName := ⟨"java/lang/AbstractStringBuilder", "ensureCapacityInternal", "(I)V"⟩
abbrev yN11 : MethodName := ⟨"java/lang/AbstractStringBuilder", "getValue", "()[B"⟩
abbrev yN12 : MethodName := ⟨"java/lang/AbstractStringBuilder", "inflateIfNeededFor", "(Ljava/lang/String;)V"⟩
abbrev yN13 : MethodName := ⟨"java/lang/AbstractStringBuilder", "isLatin1", "()Z"⟩
abbrev yN14 : MethodName := ⟨"java/lang/AbstractStringBuilder", "length", "()I"⟩
abbrev yN15 : MethodName := ⟨"java/lang/AbstractStringBuilder", "putStringAt", "(ILjava/lang/String;)V"⟩
abbrev yN16 : MethodName := ⟨"java/lang/Math", "max", "(II)I"⟩
abbrev yN17 : MethodName := ⟨"java/lang/Math", "min", "(II)I"⟩
abbrev yN18 : MethodName := ⟨"java/lang/String", "<init>", "(Ljava/lang/AbstractStringBuilder;Ljava/lang/Void;)V"⟩
abbrev yN19 : MethodName := ⟨"java/lang/String", "<init>", "(Ljava/lang/StringBuilder;)V"⟩
abbrev yN20 : MethodName := ⟨"java/lang/String", "<init>", "([BB)V"⟩
abbrev yN21 : MethodName := ⟨"java/lang/String", "<init>", "([C)V"⟩
abbrev yN22 : MethodName := ⟨"java/lang/String", "checkBoundsBeginEnd", "(III)V"⟩
abbrev yN23 : MethodName := ⟨"java/lang/String", "coder", "()B"⟩
abbrev yN24 : MethodName := ⟨"java/lang/String", "encode", "(Ljava/nio/charset/Charset;B[B)[B"⟩
abbrev yN25 : MethodName := ⟨"java/lang/String", "encodeUTF8", "(B[BZ)[B"⟩
abbrev yN26 : MethodName := ⟨"java/lang/String", "equals", "(Ljava/lang/Object;)Z"⟩
abbrev yN27 : MethodName := ⟨"java/lang/String", "getBytes", "(Ljava/nio/charset/Charset;)[B"⟩
abbrev yN28 : MethodName := ⟨"java/lang/String", "getBytes", "([BIB)V"⟩
abbrev yN29 : MethodName := ⟨"java/lang/String", "indexOf", "(I)I"⟩
abbrev yN30 : MethodName := ⟨"java/lang/String", "indexOf", "(II)I"⟩
abbrev yN31 : MethodName := ⟨"java/lang/String", "isEmpty", "()Z"⟩
abbrev yN32 : MethodName := ⟨"java/lang/String", "isLatin1", "()Z"⟩
abbrev yN33 : MethodName := ⟨"java/lang/String", "length", "()I"⟩
abbrev yN34 : MethodName := ⟨"java/lang/String", "substring", "(I)Ljava/lang/String;"⟩
abbrev yN35 : MethodName := ⟨"java/lang/String", "substring", "(II)Ljava/lang/String;"⟩
abbrev yN36 : MethodName := ⟨"java/lang/StringBuilder", "<init>", "()V"⟩
abbrev yN37 : MethodName := ⟨"java/lang/StringBuilder", "append", "(Ljava/lang/String;)Ljava/lang/StringBuilder;"⟩
abbrev yN38 : MethodName := ⟨"java/lang/StringBuilder", "length", "()I"⟩
abbrev yN39 : MethodName := ⟨"java/lang/StringBuilder", "toString", "()Ljava/lang/String;"⟩
abbrev yN40 : MethodName := ⟨"java/lang/StringCoding", "countPositives", "([BII)I"⟩
abbrev yN41 : MethodName := ⟨"java/lang/StringCoding", "hasNegatives", "([BII)Z"⟩
abbrev yN42 : MethodName := ⟨"java/lang/StringLatin1", "canEncode", "(I)Z"⟩
abbrev yN43 : MethodName := ⟨"java/lang/StringLatin1", "indexOf", "([BIII)I"⟩
abbrev yN44 : MethodName := ⟨"java/lang/StringLatin1", "indexOfChar", "([BIII)I"⟩
abbrev yN45 : MethodName := ⟨"java/lang/StringLatin1", "newString", "([BII)Ljava/lang/String;"⟩
abbrev yN46 : MethodName := ⟨"java/lang/StringUTF16", "newBytesFor", "(I)[B"⟩
abbrev yN47 : MethodName := ⟨"java/lang/StringUTF16", "newBytesLength", "(I)I"⟩
abbrev yN48 : MethodName := ⟨"java/util/Arrays", "checkLength", "(II)V"⟩
abbrev yN49 : MethodName := ⟨"java/util/Arrays", "copyOf", "([BI)[B"⟩
abbrev yN50 : MethodName := ⟨"java/util/Arrays", "copyOfRange", "([BII)[B"⟩
abbrev yN51 : MethodName := ⟨"java/util/Arrays", "copyOfRangeByte", "([BII)[B"⟩
abbrev yN52 : MethodName := ⟨"java/util/Objects", "requireNonNull", "(Ljava/lang/Object;Ljava/lang/String;)Ljava/lang/Object;"⟩
abbrev yN53 : MethodName := ⟨"jdk/internal/util/Preconditions", "checkFromToIndex", "(IIILjava/util/function/BiFunction;)I"⟩
abbrev vi (x : Int32) : Slot := .val (.int x)
abbrev vr (x : Addr) : Slot := .val (.ref x)
abbrev un : Slot := .unset
abbrev sn : Slot := .second
theorem hv {a0 : Array Value} {Z : State} (hw : ∀ d ∈ tables_1, d.before a0 Z = true) (i : Nat) {d : Jvm.Cond} (h : tables_1[i]? = some d) : d.before a0 Z = true := hw d (List.mem_of_getElem? h)
theorem hwsV (Z : State) (a0 : Array Value) (hw : ∀ d ∈ tables_1, d.before a0 Z = true) : ∀ d ∈ StrChars.Road.words, d.before a0 Z = true := fun d hd => hw d ((by decide +kernel : ∀ d ∈ StrChars.Road.words, d ∈ tables_1) d hd)
theorem hwsE (Z : State) (a0 : Array Value) (hw : ∀ d ∈ tables_1, d.before a0 Z = true) : ∀ d ∈ StrChars.Road.wordsEq, d.before a0 Z = true := fun d hd => hw d ((by decide +kernel : ∀ d ∈ StrChars.Road.wordsEq, d ∈ tables_1) d hd)
/-- x is a String of the chars cs (each 0 to 255), its cells below b -/
def Str (Z : State) (h : Heap) (b : Nat) (x : Addr) (cs : List Int32) : Prop :=
  x < b ∧ Exa Z h x "java/lang/String" ∧ Fld Z h x "java/lang/String" "coder" "B" (.int 0) ∧
    (∃ (t : Addr) (k : ClassId), t < b ∧ Fld Z h x "java/lang/String" "value" "[B" (.ref t) ∧ Arv Z h t k .byte (Int32.ofNat cs.length) ((cs.map fun c => c.toInt8.toInt32).map Value.int) (.int 0)) ∧
    (∀ c ∈ cs, ¬ c < 0 ∧ ¬ 255 < c) ∧ cs.length ≤ 4000
section StrFacts
variable {Z : State} {h h' : Heap} {b : Nat} {x a : Addr} {cs : List Int32} {ws : List Addr} {sl : Nat} {v : Value}
theorem Str.of {t : Addr} {k : ClassId} {N : Int32} {bs : List Int32} (E : Exa Z h x "java/lang/String") (C : Fld Z h x "java/lang/String" "coder" "B" (.int 0)) (F : Fld Z h x "java/lang/String" "value" "[B" (.ref t)) (A : Arv Z h t k .byte N (bs.map Value.int) (.int 0)) (hN : N = Int32.ofNat cs.length) (hb : bs = cs.map fun c => c.toInt8.toInt32)
    (hp : ∀ c ∈ cs, ¬ c < 0 ∧ ¬ 255 < c) (hl : cs.length ≤ 4000) : Str Z h h.size x cs := by subst hN hb; exact ⟨E.lt, E, C, ⟨t, k, A.lt, F, A⟩, hp, hl⟩
theorem Str.keep (S : Str Z h b x cs) (K : Keep h h' ws) (q : ∀ w ∈ ws, b ≤ w) : Str Z h' b x cs := by
  obtain ⟨l1, E, C, ⟨t, k, l2, F, A⟩, r⟩ := S
  have n1 : x ∉ ws := fun m => absurd (q _ m) (Nat.not_le_of_lt l1)
  have n2 : t ∉ ws := fun m => absurd (q _ m) (Nat.not_le_of_lt l2)
  exact ⟨l1, E.keep K, C.keep K n1, ⟨t, k, l2, F.keep K n1, A.keep K n2⟩, r⟩
theorem Str.wr (S : Str Z h b x cs) (W : Wr h h' a sl v) (q : b ≤ a) : Str Z h' b x cs := S.keep (Keep.of_wr W) (allS q all0)
theorem Str.ext (S : Str Z h b x cs) (E : Ext h h') : Str Z h' b x cs := by
  obtain ⟨l1, E1, C, ⟨t, k, l2, F, A⟩, r⟩ := S
  exact ⟨l1, E1.ext E, C.ext E, ⟨t, k, l2, F.ext E, A.ext E⟩, r⟩
end StrFacts
theorem i8val {c : Int32} (h : ¬ c < 0 ∧ ¬ (255 : Int32) < c) : 0 ≤ c.toInt ∧ c.toInt ≤ 255 ∧ (c.toInt8.toInt32).toInt = (if c.toInt < 128 then c.toInt else c.toInt - 256) := by
  have q := c_i2b c
  have h1 := h.1; have h2 := h.2
  rw [Int32.lt_iff_toInt_lt] at h1 h2
  have e : (255 : Int32).toInt = 255 := rfl
  have e0 : (0 : Int32).toInt = 0 := rfl
  split <;> omega
theorem m255 {c : Int32} (h : ¬ c < 0 ∧ ¬ 255 < c) : (c.toInt8.toInt32 &&& 255) = c := by
  have q := i8val h
  have k := c_mask c.toInt8.toInt32 255 8 (by decide) (by decide)
  refine eq32 ?_
  rw [k, q.2.2]; split <;> omega
theorem m63 {c : Int32} (h : ¬ c < 0 ∧ ¬ 255 < c) : (c.toInt8.toInt32 &&& 63) = (c &&& 63) := by
  have q := i8val h
  have k := c_mask c.toInt8.toInt32 63 6 (by decide) (by decide)
  have k2 := c_mask c 63 6 (by decide) (by decide)
  refine eq32 ?_
  rw [k, k2, q.2.2]; split <;> omega
theorem neg_n {c : Int32} (h : ¬ c < 0 ∧ ¬ 255 < c) (g : c < 128) : ¬ c.toInt8.toInt32 < 0 := by
  have q := i8val h
  rw [Int32.lt_iff_toInt_lt] at g ⊢
  have e : (128 : Int32).toInt = 128 := rfl
  have e0 : (0 : Int32).toInt = 0 := rfl
  rw [q.2.2]; split <;> omega
theorem neg_p {c : Int32} (h : ¬ c < 0 ∧ ¬ 255 < c) (g : ¬ c < 128) : c.toInt8.toInt32 < 0 := by
  have q := i8val h
  rw [Int32.lt_iff_toInt_lt] at g ⊢
  have e : (128 : Int32).toInt = 128 := rfl
  have e0 : (0 : Int32).toInt = 0 := rfl
  rw [q.2.2]; split <;> omega
/-- what put writes is the encoding of the char's byte -/
theorem put_n {X : List Int32} {c : Int32} (h : ¬ c < 0 ∧ ¬ 255 < c) (g : c < 128) : X ++ encB (c.toInt8.toInt32) = X ++ [(c.toInt8.toInt32)] := by rw [encB, if_neg (neg_n h g)]
theorem put_p {X : List Int32} {c : Int32} (h : ¬ c < 0 ∧ ¬ 255 < c) (g : ¬ c < 128) : X ++ encB (c.toInt8.toInt32) = (X ++ [(((192 : Int32) ||| (c >>> ((6 : Int32) &&& 31))).toInt8.toInt32)]) ++ [(((128 : Int32) ||| (c &&& 63)).toInt8.toInt32)] := by
  rw [encB, if_pos (neg_p h g), e1, e2, m255 h, m63 h]; simp
theorem lsucc2 (d : List Int32) (a b : Int32) : Int32.ofNat d.length + 2 = Int32.ofNat ((d ++ [a]) ++ [b]).length := by rw [List.length_append, List.length_append, Int32.ofNat_add, Int32.ofNat_add, Int32.add_assoc]; rfl
theorem neq8 {c k : Int32} (h : ¬ c < 0 ∧ ¬ 255 < c) (hk : 0 ≤ k.toInt ∧ k.toInt < 128) (g : ¬ c = k) : ¬ c.toInt8.toInt32 = k := fun z => by
  have q := i8val h
  rw [z] at q
  refine g (eq32 ?_)
  have := q.2.2; split at this <;> omega
/-- the bytes of a String's chars -/
def i8s (cs : List Int32) : List Int32 := cs.map fun c => c.toInt8.toInt32
theorem i8s_len (cs : List Int32) : (i8s cs).length = cs.length := by simp [i8s]
theorem i8s_bt {cs : List Int32} : ∀ b ∈ i8s cs, b.toInt8.toInt32 = b := fun b hb => by
  obtain ⟨c, -, rfl⟩ := List.mem_map.mp hb
  exact i8i8 c
theorem i8s_no {cs : List Int32} {k : Int32} (hk : 0 ≤ k.toInt ∧ k.toInt < 128) (hp : ∀ c ∈ cs, ¬ c < 0 ∧ ¬ 255 < c) (h : ∀ c ∈ cs, ¬ c = k) : ∀ b ∈ i8s cs, ¬ b = k := fun b hb => by
  obtain ⟨c, hc, rfl⟩ := List.mem_map.mp hb
  exact neq8 (hp c hc) hk (h c hc)
theorem i8s_nz {cs : List Int32} (h : cs ≠ []) : i8s cs ≠ [] := fun z => h (List.map_eq_nil_iff.mp z)
theorem i8s_4 {cs : List Int32} (h : cs.length ≤ 4000) : (i8s cs).length ≤ 4000 := by rw [i8s_len]; exact h
theorem i8arv {Z : State} {h : Heap} {t : Addr} {k : ClassId} {cs : List Int32} (A : Arv Z h t k .byte (Int32.ofNat cs.length) ((cs.map fun c => c.toInt8.toInt32).map Value.int) (.int 0)) : Arv Z h t k .byte (Int32.ofNat (i8s cs).length) ((i8s cs).map Value.int) (.int 0) := by rw [i8s_len]; exact A
theorem t58 : (58 : Int32).toInt8.toInt32 = 58 := by decide
theorem encB58 : encB 58 = [58] := by decide
def atg (X : List Int32) (i : Int32) : Int32 := X.getD i.toNatClampNeg 0
theorem ii_nat {X : List Int32} {i : Int32} (hi : ¬ i < 0) (h : i < Int32.ofNat X.length) (hX : X.length ≤ 4000) : i.toNatClampNeg < X.length := by
  rw [Int32.lt_iff_toInt_lt] at h hi
  rw [ln_int hX] at h
  have e0 : (0 : Int32).toInt = 0 := rfl
  simp only [Int32.toNatClampNeg]; omega
theorem atg_B {X : List Int32} {i : Int32} (hi : ¬ i < 0) (h : i < Int32.ofNat X.length) (hX : X.length ≤ 4000) (dv : Value) : (X.map Value.int).getD i.toNatClampNeg dv = .int (atg X i) := by
  have q := ii_nat hi h hX
  simp [atg, List.getD_eq_getElem?_getD, q]
theorem atg_P {X : List Int32} {i : Int32} {n : Nat} (hi : ¬ i < 0) (h : i < Int32.ofNat X.length) (hX : X.length ≤ 4000) (dv : Value) : (pad n X).getD i.toNatClampNeg dv = .int (atg X i) := by
  have q := ii_nat hi h hX
  simp [pad, atg, List.getD_eq_getElem?_getD, List.getElem?_append_left, q]
theorem lt_pad {X : List Int32} {i : Int32} {n : Nat} (h : i < Int32.ofNat X.length) (hX : X.length ≤ n) (hn : n ≤ 4000) : i < Int32.ofNat n := by
  rw [Int32.lt_iff_toInt_lt, ln_int (by omega)] at h
  rw [Int32.lt_iff_toInt_lt, Int32.toInt_ofNat_of_lt (by omega)]; omega
theorem i8_split {cu cp : List Int32} : i8s (cu ++ 58 :: cp) = i8s cu ++ 58 :: i8s cp := by simp [i8s, t58]
theorem i8_split2 {cu cp : List Int32} : i8s (cu ++ 58 :: cp) = (i8s cu ++ [(58 : Int32)]) ++ i8s cp := by simp [i8s, t58]
theorem strOf {Z : State} {h : Heap} {x t : Addr} {k : ClassId} {cs : List Int32} (E : Exa Z h x "java/lang/String") (C : Fld Z h x "java/lang/String" "coder" "B" (.int 0)) (F : Fld Z h x "java/lang/String" "value" "[B" (.ref t)) (A : Arv Z h t k .byte (Int32.ofNat (i8s cs).length) ((i8s cs).map Value.int) (.int 0)) (hp : ∀ c ∈ cs, ¬ c < 0 ∧ ¬ 255 < c) (hl : cs.length ≤ 4000) : Str Z h h.size x cs := Str.of E C F A (by rw [i8s_len]) rfl hp hl
theorem lm255 (x : Int64) : (x &&& (255 : Int64)).toInt32 = x.toInt32 &&& 255 := by rw [Int64.toInt32_and]; rfl
theorem chr_l (x : Int64) : ¬ (x &&& (255 : Int64)).toInt32 < 0 ∧ ¬ 255 < (x &&& (255 : Int64)).toInt32 := by rw [lm255]; exact chr_mask _
theorem p3 (x : Int32) : ((1 : Int32) + ((x &&& 2147483647) % 3)) = 1 ∨ ((1 : Int32) + ((x &&& 2147483647) % 3)) = 2 ∨ ((1 : Int32) + ((x &&& 2147483647) % 3)) = 3 := by
  have k := c_mask x 2147483647 31 (by decide) (by decide)
  have e := (c_irem (x &&& 2147483647) 3 3 (by decide)).1 (by omega)
  have a := c_iadd 1 ((x &&& 2147483647) % 3)
  have r := rng32 (1 + ((x &&& 2147483647) % 3))
  have e1 : (1 : Int32).toInt = 1 := rfl
  have e2 : (2 : Int32).toInt = 2 := rfl
  have e3 : (3 : Int32).toInt = 3 := rfl
  generalize hz : 1 + ((x &&& 2147483647) % 3) = z at *
  have q : z.toInt = 1 ∨ z.toInt = 2 ∨ z.toInt = 3 := by omega
  rcases q with q | q | q
  · exact Or.inl (eq32 (by omega))
  · exact Or.inr (Or.inl (eq32 (by omega)))
  · exact Or.inr (Or.inr (eq32 (by omega)))
theorem pn_0 : plainName "com/example/turnlock/turnlock/session/DigestCredentialsParsePinLaw" = true := by first | (simp [plainName, overriddenIn]; done) | decide +kernel
theorem d_m2_0 : decode method_2_code 0 = .ok (.lload_n 0, 1) := by decide +kernel
theorem d_m2_1 : decode method_2_code 1 = .ok (.bipush 8, 2) := by decide +kernel
theorem d_m2_3 : decode method_2_code 3 = .ok (.iload_n 2, 1) := by decide +kernel
theorem d_m2_4 : decode method_2_code 4 = .ok (.imul, 1) := by decide +kernel
theorem d_m2_5 : decode method_2_code 5 = .ok (.lushr, 1) := by decide +kernel
theorem d_m2_6 : decode method_2_code 6 = .ok (.ldc2_w 7, 3) := by decide +kernel
theorem d_m2_9 : decode method_2_code 9 = .ok (.land, 1) := by decide +kernel
theorem d_m2_10 : decode method_2_code 10 = .ok (.l2i, 1) := by decide +kernel
theorem d_m2_11 : decode method_2_code 11 = .ok (.istore 4, 2) := by decide +kernel
theorem d_m2_13 : decode method_2_code 13 = .ok (.iload_n 2, 1) := by decide +kernel
theorem d_m2_14 : decode method_2_code 14 = .ok (.iload_n 3, 1) := by decide +kernel
theorem d_m2_15 : decode method_2_code 15 = .ok (.if_icmp .ne 6, 3) := by decide +kernel
theorem d_m2_18 : decode method_2_code 18 = .ok (.bipush 58, 2) := by decide +kernel
theorem d_m2_20 : decode method_2_code 20 = .ok (.ireturn, 1) := by decide +kernel
def QCe (Z : State) (xw : Int64) (ii : Int32) (h0 : Heap) (n0 : Nat) (v : Option Value) (h : Heap) (L : List Loc) : Prop := v = some (.int 58) ∧ Fr n0 L ∧ h = h0
theorem rmCe (l : Launch) (Z : State) (a0 : Array Value) (hw : ∀ d ∈ tables_1, d.before a0 Z = true) (ws : List Jvm.Cond) (xw : Int64) (ii : Int32) (h0 : Heap) (n0 : Nat) (X00 : Old Z n0 h0)  :
  MetFree l yN5 (head1 (Jvm.Cond.code yN5 method_2_code 5 (some .char) :: ws) ({ frames := 0, cells := 0, slots := 0, locals := 0 } : Room)) (fun aa U => aa = #[(.long xw), (.int ii), (.int ii)] ∧ Z.Warmed39 U.vm ∧ U.heap = h0) (fun _ _ _ _ _ => True) (fun _ U o U' => ∃ v L, o = .returned v ∧ QCe Z xw ii h0 n0 v U'.heap L ∧ FrameEnd U o U' L ({ frames := 0, cells := 0, slots := 0, locals := 0 } : Room).cells ({ frames := 0, cells := 0, slots := 0, locals := 0 } : Room).slots) := by
 refine MetFree.of_bodySF (plainFor_of_name pn_0) hisR ?_
 intro p e s m args below meth c s₁ Bd hml0 hP hK
 obtain ⟨rfl, hZ, hh⟩ := hP
 have hx := Bd.exec
 have hby := Bd.bytes
 have hml : c.maxLocals = 5 := hml0
 have hown : s.vm.findClass "com/example/turnlock/turnlock/session/DigestCredentialsParsePinLaw" = some m.cls := findClass_of_methodNamed Bd.named
 have hnm := (name_of_methodNamed Bd.named Bd.method).1
 have X0 : Stand p l e ({ frames := 0, cells := 0, slots := 0, locals := 0 } : Room) s m #[(.long xw), (.int ii), (.int ii)] below meth c s₁ [] 0 0 := Stand.of_body Bd
 have e0 : s₁.heap = h0 := by rw [← hh, Bd.state]; rfl
 have N0 := Fr.nil n0
 have K0 := Keep.refl h0 []
 have ef : entryFrame m #[(.long xw), (.int ii), (.int ii)] 5 = mkF m 0 #[.val (.long xw), sn, vi ii, vi ii, un] [] := by first | (simp [entryFrame, mkF, argsToLocals, Value.category]; done) | rfl
 rw [ef]
 refine fin_of fun Kx hF => ?_
 show Go p.tables e below Kx _ (mkF m 0 _ [])
 refine s_lloadN (pc' := 1) X0.here hx (hb hby d_m2_0) rfl rfl ?_
 refine s_bipush (pc' := 3) (v := 8) X0.here hx (hb hby d_m2_1) rfl rfl ?_
 refine s_iloadN (pc' := 4) X0.here hx (hb hby d_m2_3) rfl rfl ?_
 refine s_imul (pc' := 5) X0.here hx (hb hby d_m2_4) rfl rfl ?_
 refine s_lushr (pc' := 6) X0.here hx (hb hby d_m2_5) rfl rfl ?_
 refine Go.st (X0.ldc2Long hx hown (mvT hZ (hv hw 5 rfl)) (g := (mkF m 6 #[.val (.long xw), sn, vi ii, vi ii, un] [(.long ((xw.toUInt64 >>> (((8 : Int32) * ii) &&& 0x3f).toInt64.toUInt64).toInt64))])) rfl (hb hby d_m2_6)) ?_
 show Go p.tables e below Kx _ (mkF m 9 _ [(.long (255 : Int64)), (.long ((xw.toUInt64 >>> (((8 : Int32) * ii) &&& 0x3f).toInt64.toUInt64).toInt64))])
 refine s_land (pc' := 10) X0.here hx (hb hby d_m2_9) rfl rfl ?_
 refine s_l2i (pc' := 11) X0.here hx (hb hby d_m2_10) rfl rfl ?_
 refine s_istore (pc' := 13) (Ls' := #[.val (.long xw), sn, vi ii, vi ii, .val (.int ((((xw.toUInt64 >>> (((8 : Int32) * ii) &&& 0x3f).toInt64.toUInt64).toInt64) &&& (255 : Int64)).toInt32))]) X0.here hx (hb hby d_m2_11) rfl  rfl ?_
 refine s_iloadN (pc' := 14) X0.here hx (hb hby d_m2_13) rfl rfl ?_
 refine s_iloadN (pc' := 15) X0.here hx (hb hby d_m2_14) rfl rfl ?_
 refine s_icmpN (pc' := 18) X0.here hx (hb hby d_m2_15) rfl (teq rfl).2 ?_
 refine s_bipush (pc' := 20) (v := 58) X0.here hx (hb hby d_m2_18) rfl rfl ?_
 obtain ⟨fs, hr, hrun, hended, hW, hsame⟩ := X0.leave (v := (some (.int 58))) (fun h => by rw [Bd.returns] at h; cases h)
 refine Go.fin (retN X0 hx (t := .char) Bd.returns (by simp) (hb hby d_m2_20) hr) (hF _ _ hrun hended ⟨_, _, rfl, ?_, ⟨_, rfl⟩, hW, hsame.mono (by decide) (by decide)⟩)
 ·
  show QCe Z xw ii h0 n0 ((some (.int 58)) : Option Value) s₁.heap _
  rw [e0]
  exact ⟨rfl, N0, rfl⟩
theorem d_m2_21 : decode method_2_code 21 = .ok (.iload 4, 2) := by decide +kernel
theorem d_m2_23 : decode method_2_code 23 = .ok (.bipush 10, 2) := by decide +kernel
theorem d_m2_25 : decode method_2_code 25 = .ok (.if_icmp .ne 7, 3) := by decide +kernel
theorem d_m2_28 : decode method_2_code 28 = .ok (.bipush 11, 2) := by decide +kernel
theorem d_m2_30 : decode method_2_code 30 = .ok (.istore 4, 2) := by decide +kernel
theorem d_m2_32 : decode method_2_code 32 = .ok (.iload 4, 2) := by decide +kernel
theorem d_m2_34 : decode method_2_code 34 = .ok (.bipush 13, 2) := by decide +kernel
theorem d_m2_36 : decode method_2_code 36 = .ok (.if_icmp .ne 7, 3) := by decide +kernel
theorem d_m2_43 : decode method_2_code 43 = .ok (.iload_n 2, 1) := by decide +kernel
theorem d_m2_44 : decode method_2_code 44 = .ok (.iload_n 3, 1) := by decide +kernel
theorem d_m2_45 : decode method_2_code 45 = .ok (.if_icmp .ge 14, 3) := by decide +kernel
theorem d_m2_48 : decode method_2_code 48 = .ok (.iload 4, 2) := by decide +kernel
theorem d_m2_50 : decode method_2_code 50 = .ok (.bipush 58, 2) := by decide +kernel
theorem d_m2_52 : decode method_2_code 52 = .ok (.if_icmp .ne 7, 3) := by decide +kernel
theorem d_m2_59 : decode method_2_code 59 = .ok (.iload 4, 2) := by decide +kernel
theorem d_m2_61 : decode method_2_code 61 = .ok (.i2c, 1) := by decide +kernel
theorem d_m2_62 : decode method_2_code 62 = .ok (.ireturn, 1) := by decide +kernel
theorem d_m2_39 : decode method_2_code 39 = .ok (.bipush 14, 2) := by decide +kernel
theorem d_m2_41 : decode method_2_code 41 = .ok (.istore 4, 2) := by decide +kernel
theorem d_m2_55 : decode method_2_code 55 = .ok (.bipush 59, 2) := by decide +kernel
theorem d_m2_57 : decode method_2_code 57 = .ok (.istore 4, 2) := by decide +kernel
def QCn (Z : State) (xw : Int64) (ii pp : Int32) (h0 : Heap) (n0 : Nat) (v : Option Value) (h : Heap) (L : List Loc) : Prop := (∃ r : Int32, v = some (.int r) ∧ (¬ r < 0 ∧ ¬ 255 < r) ∧ ¬ r = 10 ∧ ¬ r = 13 ∧ (ii < pp → ¬ r = 58)) ∧ Fr n0 L ∧ h = h0
theorem rmCn (l : Launch) (Z : State) (a0 : Array Value) (hw : ∀ d ∈ tables_1, d.before a0 Z = true) (ws : List Jvm.Cond) (xw : Int64) (ii pp : Int32) (h0 : Heap) (n0 : Nat) (X00 : Old Z n0 h0) (hne : ¬ ii = pp) :
  MetFree l yN5 (head1 (Jvm.Cond.code yN5 method_2_code 5 (some .char) :: ws) ({ frames := 0, cells := 0, slots := 0, locals := 0 } : Room)) (fun aa U => aa = #[(.long xw), (.int ii), (.int pp)] ∧ Z.Warmed39 U.vm ∧ U.heap = h0) (fun _ _ _ _ _ => True) (fun _ U o U' => ∃ v L, o = .returned v ∧ QCn Z xw ii pp h0 n0 v U'.heap L ∧ FrameEnd U o U' L ({ frames := 0, cells := 0, slots := 0, locals := 0 } : Room).cells ({ frames := 0, cells := 0, slots := 0, locals := 0 } : Room).slots) := by
 refine MetFree.of_bodySF (plainFor_of_name pn_0) hisR ?_
 intro p e s m args below meth c s₁ Bd hml0 hP hK
 obtain ⟨rfl, hZ, hh⟩ := hP
 have hx := Bd.exec
 have hby := Bd.bytes
 have hml : c.maxLocals = 5 := hml0
 have hown : s.vm.findClass "com/example/turnlock/turnlock/session/DigestCredentialsParsePinLaw" = some m.cls := findClass_of_methodNamed Bd.named
 have hnm := (name_of_methodNamed Bd.named Bd.method).1
 have X0 : Stand p l e ({ frames := 0, cells := 0, slots := 0, locals := 0 } : Room) s m #[(.long xw), (.int ii), (.int pp)] below meth c s₁ [] 0 0 := Stand.of_body Bd
 have e0 : s₁.heap = h0 := by rw [← hh, Bd.state]; rfl
 have N0 := Fr.nil n0
 have K0 := Keep.refl h0 []
 have ef : entryFrame m #[(.long xw), (.int ii), (.int pp)] 5 = mkF m 0 #[.val (.long xw), sn, vi ii, vi pp, un] [] := by first | (simp [entryFrame, mkF, argsToLocals, Value.category]; done) | rfl
 rw [ef]
 refine fin_of fun Kx hF => ?_
 show Go p.tables e below Kx _ (mkF m 0 _ [])
 refine s_lloadN (pc' := 1) X0.here hx (hb hby d_m2_0) rfl rfl ?_
 refine s_bipush (pc' := 3) (v := 8) X0.here hx (hb hby d_m2_1) rfl rfl ?_
 refine s_iloadN (pc' := 4) X0.here hx (hb hby d_m2_3) rfl rfl ?_
 refine s_imul (pc' := 5) X0.here hx (hb hby d_m2_4) rfl rfl ?_
 refine s_lushr (pc' := 6) X0.here hx (hb hby d_m2_5) rfl rfl ?_
 refine Go.st (X0.ldc2Long hx hown (mvT hZ (hv hw 5 rfl)) (g := (mkF m 6 #[.val (.long xw), sn, vi ii, vi pp, un] [(.long ((xw.toUInt64 >>> (((8 : Int32) * ii) &&& 0x3f).toInt64.toUInt64).toInt64))])) rfl (hb hby d_m2_6)) ?_
 show Go p.tables e below Kx _ (mkF m 9 _ [(.long (255 : Int64)), (.long ((xw.toUInt64 >>> (((8 : Int32) * ii) &&& 0x3f).toInt64.toUInt64).toInt64))])
 refine s_land (pc' := 10) X0.here hx (hb hby d_m2_9) rfl rfl ?_
 refine s_l2i (pc' := 11) X0.here hx (hb hby d_m2_10) rfl rfl ?_
 have hcc : ¬ ((((xw.toUInt64 >>> (((8 : Int32) * ii) &&& 0x3f).toInt64.toUInt64).toInt64) &&& (255 : Int64)).toInt32) < 0 ∧ ¬ 255 < ((((xw.toUInt64 >>> (((8 : Int32) * ii) &&& 0x3f).toInt64.toUInt64).toInt64) &&& (255 : Int64)).toInt32) := chr_l ((xw.toUInt64 >>> (((8 : Int32) * ii) &&& 0x3f).toInt64.toUInt64).toInt64)
 revert hcc
 generalize ((((xw.toUInt64 >>> (((8 : Int32) * ii) &&& 0x3f).toInt64.toUInt64).toInt64) &&& (255 : Int64)).toInt32) = cc
 intro hcc
 show Go p.tables e below Kx _ (mkF m 11 _ [(.int cc)])
 refine s_istore (pc' := 13) (Ls' := #[.val (.long xw), sn, vi ii, vi pp, vi cc]) X0.here hx (hb hby d_m2_11) rfl  rfl ?_
 refine s_iloadN (pc' := 14) X0.here hx (hb hby d_m2_13) rfl rfl ?_
 refine s_iloadN (pc' := 15) X0.here hx (hb hby d_m2_14) rfl rfl ?_
 refine s_icmpY (pc' := 21) X0.here hx (hb hby d_m2_15) (feq hne).2 (by decide) (by decide) ?_
 refine s_iload (pc' := 23) X0.here hx (hb hby d_m2_21) rfl rfl ?_
 refine s_bipush (pc' := 25) (v := 10) X0.here hx (hb hby d_m2_23) rfl rfl ?_
 by_cases hc1 : cc = (10 : Int32)
 ·
  refine s_icmpN (pc' := 28) X0.here hx (hb hby d_m2_25) rfl (teq hc1).2 ?_
  refine s_bipush (pc' := 30) (v := 11) X0.here hx (hb hby d_m2_28) rfl rfl ?_
  refine s_istore (pc' := 32) (Ls' := #[.val (.long xw), sn, vi ii, vi pp, vi 11]) X0.here hx (hb hby d_m2_30) rfl  rfl ?_
  refine s_iload (pc' := 34) X0.here hx (hb hby d_m2_32) rfl rfl ?_
  refine s_bipush (pc' := 36) (v := 13) X0.here hx (hb hby d_m2_34) rfl rfl ?_
  refine s_icmpY (pc' := 43) X0.here hx (hb hby d_m2_36) (feq (by decide)).2 (by decide) (by decide) ?_
  refine s_iloadN (pc' := 44) X0.here hx (hb hby d_m2_43) rfl rfl ?_
  refine s_iloadN (pc' := 45) X0.here hx (hb hby d_m2_44) rfl rfl ?_
  by_cases hc2 : ii < pp
  ·
   refine s_icmpN (pc' := 48) X0.here hx (hb hby d_m2_45) rfl (tlt hc2).2.1 ?_
   refine s_iload (pc' := 50) X0.here hx (hb hby d_m2_48) rfl rfl ?_
   refine s_bipush (pc' := 52) (v := 58) X0.here hx (hb hby d_m2_50) rfl rfl ?_
   refine s_icmpY (pc' := 59) X0.here hx (hb hby d_m2_52) (feq (by decide)).2 (by decide) (by decide) ?_
   refine s_iload (pc' := 61) X0.here hx (hb hby d_m2_59) rfl rfl ?_
   refine s_i2c (pc' := 62) (z := 11) X0.here hx (hb hby d_m2_61) rfl (by decide) ?_
   obtain ⟨fs, hr, hrun, hended, hW, hsame⟩ := X0.leave (v := (some (.int 11))) (fun h => by rw [Bd.returns] at h; cases h)
   refine Go.fin (retN X0 hx (t := .char) Bd.returns (by simp) (hb hby d_m2_62) hr) (hF _ _ hrun hended ⟨_, _, rfl, ?_, ⟨_, rfl⟩, hW, hsame.mono (by decide) (by decide)⟩)
   ·
    show QCn Z xw ii pp h0 n0 ((some (.int 11)) : Option Value) s₁.heap _
    rw [e0]
    exact ⟨⟨_, rfl, by decide, by decide, by decide, fun _ => by decide⟩, N0, rfl⟩
  ·
   refine s_icmpY (pc' := 59) X0.here hx (hb hby d_m2_45) (flt hc2).2.1 (by decide) (by decide) ?_
   refine s_iload (pc' := 61) X0.here hx (hb hby d_m2_59) rfl rfl ?_
   refine s_i2c (pc' := 62) (z := 11) X0.here hx (hb hby d_m2_61) rfl (by decide) ?_
   obtain ⟨fs, hr, hrun, hended, hW, hsame⟩ := X0.leave (v := (some (.int 11))) (fun h => by rw [Bd.returns] at h; cases h)
   refine Go.fin (retN X0 hx (t := .char) Bd.returns (by simp) (hb hby d_m2_62) hr) (hF _ _ hrun hended ⟨_, _, rfl, ?_, ⟨_, rfl⟩, hW, hsame.mono (by decide) (by decide)⟩)
   ·
    show QCn Z xw ii pp h0 n0 ((some (.int 11)) : Option Value) s₁.heap _
    rw [e0]
    exact ⟨⟨_, rfl, by decide, by decide, by decide, fun _ => by decide⟩, N0, rfl⟩
 ·
  refine s_icmpY (pc' := 32) X0.here hx (hb hby d_m2_25) (feq hc1).2 (by decide) (by decide) ?_
  refine s_iload (pc' := 34) X0.here hx (hb hby d_m2_32) rfl rfl ?_
  refine s_bipush (pc' := 36) (v := 13) X0.here hx (hb hby d_m2_34) rfl rfl ?_
  by_cases hc3 : cc = (13 : Int32)
  ·
   refine s_icmpN (pc' := 39) X0.here hx (hb hby d_m2_36) rfl (teq hc3).2 ?_
   refine s_bipush (pc' := 41) (v := 14) X0.here hx (hb hby d_m2_39) rfl rfl ?_
   refine s_istore (pc' := 43) (Ls' := #[.val (.long xw), sn, vi ii, vi pp, vi 14]) X0.here hx (hb hby d_m2_41) rfl  rfl ?_
   refine s_iloadN (pc' := 44) X0.here hx (hb hby d_m2_43) rfl rfl ?_
   refine s_iloadN (pc' := 45) X0.here hx (hb hby d_m2_44) rfl rfl ?_
   by_cases hc4 : ii < pp
   ·
    refine s_icmpN (pc' := 48) X0.here hx (hb hby d_m2_45) rfl (tlt hc4).2.1 ?_
    refine s_iload (pc' := 50) X0.here hx (hb hby d_m2_48) rfl rfl ?_
    refine s_bipush (pc' := 52) (v := 58) X0.here hx (hb hby d_m2_50) rfl rfl ?_
    refine s_icmpY (pc' := 59) X0.here hx (hb hby d_m2_52) (feq (by decide)).2 (by decide) (by decide) ?_
    refine s_iload (pc' := 61) X0.here hx (hb hby d_m2_59) rfl rfl ?_
    refine s_i2c (pc' := 62) (z := 14) X0.here hx (hb hby d_m2_61) rfl (by decide) ?_
    obtain ⟨fs, hr, hrun, hended, hW, hsame⟩ := X0.leave (v := (some (.int 14))) (fun h => by rw [Bd.returns] at h; cases h)
    refine Go.fin (retN X0 hx (t := .char) Bd.returns (by simp) (hb hby d_m2_62) hr) (hF _ _ hrun hended ⟨_, _, rfl, ?_, ⟨_, rfl⟩, hW, hsame.mono (by decide) (by decide)⟩)
    ·
     show QCn Z xw ii pp h0 n0 ((some (.int 14)) : Option Value) s₁.heap _
     rw [e0]
     exact ⟨⟨_, rfl, by decide, by decide, by decide, fun _ => by decide⟩, N0, rfl⟩
   ·
    refine s_icmpY (pc' := 59) X0.here hx (hb hby d_m2_45) (flt hc4).2.1 (by decide) (by decide) ?_
    refine s_iload (pc' := 61) X0.here hx (hb hby d_m2_59) rfl rfl ?_
    refine s_i2c (pc' := 62) (z := 14) X0.here hx (hb hby d_m2_61) rfl (by decide) ?_
    obtain ⟨fs, hr, hrun, hended, hW, hsame⟩ := X0.leave (v := (some (.int 14))) (fun h => by rw [Bd.returns] at h; cases h)
    refine Go.fin (retN X0 hx (t := .char) Bd.returns (by simp) (hb hby d_m2_62) hr) (hF _ _ hrun hended ⟨_, _, rfl, ?_, ⟨_, rfl⟩, hW, hsame.mono (by decide) (by decide)⟩)
    ·
     show QCn Z xw ii pp h0 n0 ((some (.int 14)) : Option Value) s₁.heap _
     rw [e0]
     exact ⟨⟨_, rfl, by decide, by decide, by decide, fun _ => by decide⟩, N0, rfl⟩
  ·
   refine s_icmpY (pc' := 43) X0.here hx (hb hby d_m2_36) (feq hc3).2 (by decide) (by decide) ?_
   refine s_iloadN (pc' := 44) X0.here hx (hb hby d_m2_43) rfl rfl ?_
   refine s_iloadN (pc' := 45) X0.here hx (hb hby d_m2_44) rfl rfl ?_
   by_cases hc5 : ii < pp
   ·
    refine s_icmpN (pc' := 48) X0.here hx (hb hby d_m2_45) rfl (tlt hc5).2.1 ?_
    refine s_iload (pc' := 50) X0.here hx (hb hby d_m2_48) rfl rfl ?_
    refine s_bipush (pc' := 52) (v := 58) X0.here hx (hb hby d_m2_50) rfl rfl ?_
    by_cases hc6 : cc = (58 : Int32)
    ·
     refine s_icmpN (pc' := 55) X0.here hx (hb hby d_m2_52) rfl (teq hc6).2 ?_
     refine s_bipush (pc' := 57) (v := 59) X0.here hx (hb hby d_m2_55) rfl rfl ?_
     refine s_istore (pc' := 59) (Ls' := #[.val (.long xw), sn, vi ii, vi pp, vi 59]) X0.here hx (hb hby d_m2_57) rfl  rfl ?_
     refine s_iload (pc' := 61) X0.here hx (hb hby d_m2_59) rfl rfl ?_
     refine s_i2c (pc' := 62) (z := 59) X0.here hx (hb hby d_m2_61) rfl (by decide) ?_
     obtain ⟨fs, hr, hrun, hended, hW, hsame⟩ := X0.leave (v := (some (.int 59))) (fun h => by rw [Bd.returns] at h; cases h)
     refine Go.fin (retN X0 hx (t := .char) Bd.returns (by simp) (hb hby d_m2_62) hr) (hF _ _ hrun hended ⟨_, _, rfl, ?_, ⟨_, rfl⟩, hW, hsame.mono (by decide) (by decide)⟩)
     ·
      show QCn Z xw ii pp h0 n0 ((some (.int 59)) : Option Value) s₁.heap _
      rw [e0]
      exact ⟨⟨_, rfl, by decide, by decide, by decide, fun _ => by decide⟩, N0, rfl⟩
    ·
     refine s_icmpY (pc' := 59) X0.here hx (hb hby d_m2_52) (feq hc6).2 (by decide) (by decide) ?_
     refine s_iload (pc' := 61) X0.here hx (hb hby d_m2_59) rfl rfl ?_
     refine s_i2c (pc' := 62) (z := cc) X0.here hx (hb hby d_m2_61) rfl (chr_i2c hcc) ?_
     obtain ⟨fs, hr, hrun, hended, hW, hsame⟩ := X0.leave (v := (some (.int (nar .char cc)))) (fun h => by rw [Bd.returns] at h; cases h)
     refine Go.fin (retN X0 hx (t := .char) Bd.returns (by simp) (hb hby d_m2_62) hr) (hF _ _ hrun hended ⟨_, _, rfl, ?_, ⟨_, rfl⟩, hW, hsame.mono (by decide) (by decide)⟩)
     ·
      show QCn Z xw ii pp h0 n0 ((some (.int (nar .char cc))) : Option Value) s₁.heap _
      rw [e0]
      exact ⟨⟨_, rfl, by rw [chr_nar hcc]; exact ⟨hcc, hc1, hc3, fun _ => hc6⟩⟩, N0, rfl⟩
   ·
    refine s_icmpY (pc' := 59) X0.here hx (hb hby d_m2_45) (flt hc5).2.1 (by decide) (by decide) ?_
    refine s_iload (pc' := 61) X0.here hx (hb hby d_m2_59) rfl rfl ?_
    refine s_i2c (pc' := 62) (z := cc) X0.here hx (hb hby d_m2_61) rfl (chr_i2c hcc) ?_
    obtain ⟨fs, hr, hrun, hended, hW, hsame⟩ := X0.leave (v := (some (.int (nar .char cc)))) (fun h => by rw [Bd.returns] at h; cases h)
    refine Go.fin (retN X0 hx (t := .char) Bd.returns (by simp) (hb hby d_m2_62) hr) (hF _ _ hrun hended ⟨_, _, rfl, ?_, ⟨_, rfl⟩, hW, hsame.mono (by decide) (by decide)⟩)
    ·
     show QCn Z xw ii pp h0 n0 ((some (.int (nar .char cc))) : Option Value) s₁.heap _
     rw [e0]
     exact ⟨⟨_, rfl, by rw [chr_nar hcc]; exact ⟨hcc, hc1, hc3, fun q => absurd q hc5⟩⟩, N0, rfl⟩
theorem pd_0 : parseMethodDescriptor "(JII)C" = some ⟨[.long, .int, .int], some .char⟩ := by decide +kernel
theorem pd_1 : parseMethodDescriptor "([C)V" = some ⟨[(.array .char)], none⟩ := by decide +kernel
theorem d_m3_0 : decode method_3_code 0 = .ok (.iload_n 2, 1) := by decide +kernel
theorem d_m3_1 : decode method_3_code 1 = .ok (.sipush 128, 3) := by decide +kernel
theorem d_m3_4 : decode method_3_code 4 = .ok (.if_icmp .ge 12, 3) := by decide +kernel
theorem d_m3_7 : decode method_3_code 7 = .ok (.aload_n 0, 1) := by decide +kernel
theorem d_m3_8 : decode method_3_code 8 = .ok (.iload_n 1, 1) := by decide +kernel
theorem d_m3_9 : decode method_3_code 9 = .ok (.iload_n 2, 1) := by decide +kernel
theorem d_m3_10 : decode method_3_code 10 = .ok (.i2b, 1) := by decide +kernel
theorem d_m3_11 : decode method_3_code 11 = .ok (.bastore, 1) := by decide +kernel
theorem d_m3_12 : decode method_3_code 12 = .ok (.iload_n 1, 1) := by decide +kernel
theorem d_m3_13 : decode method_3_code 13 = .ok (.iconst 1, 1) := by decide +kernel
theorem d_m3_14 : decode method_3_code 14 = .ok (.iadd, 1) := by decide +kernel
theorem d_m3_15 : decode method_3_code 15 = .ok (.ireturn, 1) := by decide +kernel
theorem d_m3_16 : decode method_3_code 16 = .ok (.aload_n 0, 1) := by decide +kernel
theorem d_m3_17 : decode method_3_code 17 = .ok (.iload_n 1, 1) := by decide +kernel
theorem d_m3_18 : decode method_3_code 18 = .ok (.sipush 192, 3) := by decide +kernel
theorem d_m3_21 : decode method_3_code 21 = .ok (.iload_n 2, 1) := by decide +kernel
theorem d_m3_22 : decode method_3_code 22 = .ok (.bipush 6, 2) := by decide +kernel
theorem d_m3_24 : decode method_3_code 24 = .ok (.ishr, 1) := by decide +kernel
theorem d_m3_25 : decode method_3_code 25 = .ok (.ior, 1) := by decide +kernel
theorem d_m3_26 : decode method_3_code 26 = .ok (.i2b, 1) := by decide +kernel
theorem d_m3_27 : decode method_3_code 27 = .ok (.bastore, 1) := by decide +kernel
theorem d_m3_28 : decode method_3_code 28 = .ok (.aload_n 0, 1) := by decide +kernel
theorem d_m3_29 : decode method_3_code 29 = .ok (.iload_n 1, 1) := by decide +kernel
theorem d_m3_30 : decode method_3_code 30 = .ok (.iconst 1, 1) := by decide +kernel
theorem d_m3_31 : decode method_3_code 31 = .ok (.iadd, 1) := by decide +kernel
theorem d_m3_32 : decode method_3_code 32 = .ok (.sipush 128, 3) := by decide +kernel
theorem d_m3_35 : decode method_3_code 35 = .ok (.iload_n 2, 1) := by decide +kernel
theorem d_m3_36 : decode method_3_code 36 = .ok (.bipush 63, 2) := by decide +kernel
theorem d_m3_38 : decode method_3_code 38 = .ok (.iand, 1) := by decide +kernel
theorem d_m3_39 : decode method_3_code 39 = .ok (.ior, 1) := by decide +kernel
theorem d_m3_40 : decode method_3_code 40 = .ok (.i2b, 1) := by decide +kernel
theorem d_m3_41 : decode method_3_code 41 = .ok (.bastore, 1) := by decide +kernel
theorem d_m3_42 : decode method_3_code 42 = .ok (.iload_n 1, 1) := by decide +kernel
theorem d_m3_43 : decode method_3_code 43 = .ok (.iconst 2, 1) := by decide +kernel
theorem d_m3_44 : decode method_3_code 44 = .ok (.iadd, 1) := by decide +kernel
theorem d_m3_45 : decode method_3_code 45 = .ok (.ireturn, 1) := by decide +kernel
def QDp (Z : State) (xe : Addr) (ke : ClassId) (X : List Int32) (cc : Int32) (h0 : Heap) (n0 : Nat) (v : Option Value) (h : Heap) (L : List Loc) : Prop := ∃ Y : List Int32, Y = X ++ encB (cc.toInt8.toInt32) ∧ Y.length ≤ X.length + 2 ∧ v = some (.int (Int32.ofNat Y.length)) ∧ Fr n0 L ∧ Keep h0 h [xe] ∧ Arv Z h xe ke .byte 10 (pad 10 Y) (.int 0)
theorem rmDp (l : Launch) (Z : State) (a0 : Array Value) (hw : ∀ d ∈ tables_1, d.before a0 Z = true) (ws : List Jvm.Cond) (xe : Addr) (ke : ClassId) (X : List Int32) (cc : Int32) (h0 : Heap) (n0 : Nat) (X00 : Old Z n0 h0) (ge_xe : n0 ≤ xe) (Axe : Arv Z h0 xe ke .byte 10 (pad 10 X) (.int 0)) (hch : ¬ cc < 0 ∧ ¬ 255 < cc) (hr : X.length + 1 < 10) :
  MetFree l yN6 (head1 (Jvm.Cond.code yN6 method_3_code 3 (some .int) :: ws) ({ frames := 0, cells := 0, slots := 0, locals := 0 } : Room)) (fun aa U => aa = #[(.ref xe), (.int (Int32.ofNat X.length)), (.int cc)] ∧ Z.Warmed39 U.vm ∧ U.heap = h0) (fun _ _ _ _ _ => True) (fun _ U o U' => ∃ v L, o = .returned v ∧ QDp Z xe ke X cc h0 n0 v U'.heap L ∧ FrameEnd U o U' L ({ frames := 0, cells := 0, slots := 0, locals := 0 } : Room).cells ({ frames := 0, cells := 0, slots := 0, locals := 0 } : Room).slots) := by
 refine MetFree.of_bodySF (plainFor_of_name pn_0) hisR ?_
 intro p e s m args below meth c s₁ Bd hml0 hP hK
 obtain ⟨rfl, hZ, hh⟩ := hP
 have hx := Bd.exec
 have hby := Bd.bytes
 have hml : c.maxLocals = 3 := hml0
 have hown : s.vm.findClass "com/example/turnlock/turnlock/session/DigestCredentialsParsePinLaw" = some m.cls := findClass_of_methodNamed Bd.named
 have hnm := (name_of_methodNamed Bd.named Bd.method).1
 have X0 : Stand p l e ({ frames := 0, cells := 0, slots := 0, locals := 0 } : Room) s m #[(.ref xe), (.int (Int32.ofNat X.length)), (.int cc)] below meth c s₁ [] 0 0 := Stand.of_body Bd
 have e0 : s₁.heap = h0 := by rw [← hh, Bd.state]; rfl
 have N0 := Fr.nil n0
 have K0 := Keep.refl h0 [xe]
 have ef : entryFrame m #[(.ref xe), (.int (Int32.ofNat X.length)), (.int cc)] 3 = mkF m 0 #[vr xe, .val (.int (Int32.ofNat X.length)), vi cc] [] := by first | (simp [entryFrame, mkF, argsToLocals, Value.category]; done) | rfl
 rw [ef]
 refine fin_of fun Kx hF => ?_
 show Go p.tables e below Kx _ (mkF m 0 _ [])
 refine s_iloadN (pc' := 1) X0.here hx (hb hby d_m3_0) rfl rfl ?_
 refine s_sipush (pc' := 4) (v := 128) X0.here hx (hb hby d_m3_1) rfl rfl ?_
 by_cases hc62 : cc < (128 : Int32)
 ·
  refine s_icmpN (pc' := 7) X0.here hx (hb hby d_m3_4) rfl (tlt hc62).2.1 ?_
  refine s_aloadN (pc' := 8) X0.here hx (hb hby d_m3_7) rfl rfl rfl ?_
  refine s_iloadN (pc' := 9) X0.here hx (hb hby d_m3_8) rfl rfl ?_
  refine s_iloadN (pc' := 10) X0.here hx (hb hby d_m3_9) rfl rfl ?_
  refine s_i2b (pc' := 11) X0.here hx (hb hby d_m3_10) rfl rfl ?_
  obtain ⟨cl63, Ar63, Aq63, As63, An63, Ah63, Ag63⟩ := id Axe
  have rm64 : X.length < 10 := (Nat.lt_of_succ_lt hr)
  have in64 := inb_of (j := (Int32.ofNat X.length)) As63 (inpad (n := 10) rm64 (by decide : 10 ≤ 4000))
  obtain ⟨T64, h64, X64, e64, W64, st64⟩ := stB X0 hx hZ e0 Ar63 (j := (Int32.ofNat X.length)) in64 (g := (mkF m 11 #[vr xe, .val (.int (Int32.ofNat X.length)), vi cc] [(.int (cc.toInt8.toInt32)), (.int (Int32.ofNat X.length)), (.ref xe)])) rfl rfl (hb hby d_m3_11)
  have V64 : Arv Z h64 xe ke .byte 10 (pad 10 (X ++ [(cc.toInt8.toInt32)])) (.int 0) := by
   have q := Arv.set Ar63 Aq63 As63 An63 Ah63 Ag63 (fits_nar_byte _) W64 X.length (nl (Nat.le_trans (Nat.le_of_lt rm64) (by decide : 10 ≤ 4000))) (by rw [pad_len (Nat.le_of_lt rm64)]; exact rm64)
   rw [i8i8 cc, pad_set rm64] at q; exact q
  have K64 : Keep h0 h64 [xe] := K0.wr W64 (Or.inl (List.mem_of_getElem? (i := 0) rfl))
  have O64 : Old Z n0 h64 := X00.wr W64 ge_xe
  have N64 := Fr.snoc X64 N0 ge_xe
  refine Go.st st64 ?_
  show Go p.tables e below Kx _ (mkF m 12 _ [])
  refine s_iloadN (pc' := 13) X64.here hx (hb hby d_m3_12) rfl rfl ?_
  refine s_iconst (pc' := 14) (v := 1) X64.here hx (hb hby d_m3_13) rfl rfl ?_
  refine s_iadd (pc' := 15) (z := (Int32.ofNat (X ++ [(cc.toInt8.toInt32)]).length)) X64.here hx (hb hby d_m3_14) rfl (lsucc _ _) ?_
  obtain ⟨fs, hr, hrun, hended, hW, hsame⟩ := X64.leave (v := (some (.int (Int32.ofNat (X ++ [(cc.toInt8.toInt32)]).length)))) (fun h => by rw [Bd.returns] at h; cases h)
  refine Go.fin (retI X64 hx Bd.returns (hb hby d_m3_15) hr) (hF _ _ hrun hended ⟨_, _, rfl, ?_, ⟨_, rfl⟩, hW, hsame.mono (by decide) (by decide)⟩)
  ·
   show QDp Z xe ke X cc h0 n0 ((some (.int (Int32.ofNat (X ++ [(cc.toInt8.toInt32)]).length))) : Option Value) T64.heap _
   rw [e64]
   exact ⟨_, (put_n hch hc62).symm, (by simp), rfl, N64, K64, V64⟩
 ·
  refine s_icmpY (pc' := 16) X0.here hx (hb hby d_m3_4) (flt hc62).2.1 (by decide) (by decide) ?_
  refine s_aloadN (pc' := 17) X0.here hx (hb hby d_m3_16) rfl rfl rfl ?_
  refine s_iloadN (pc' := 18) X0.here hx (hb hby d_m3_17) rfl rfl ?_
  refine s_sipush (pc' := 21) (v := 192) X0.here hx (hb hby d_m3_18) rfl rfl ?_
  refine s_iloadN (pc' := 22) X0.here hx (hb hby d_m3_21) rfl rfl ?_
  refine s_bipush (pc' := 24) (v := 6) X0.here hx (hb hby d_m3_22) rfl rfl ?_
  refine s_ishr (pc' := 25) X0.here hx (hb hby d_m3_24) rfl rfl ?_
  refine s_ior (pc' := 26) X0.here hx (hb hby d_m3_25) rfl rfl ?_
  refine s_i2b (pc' := 27) X0.here hx (hb hby d_m3_26) rfl rfl ?_
  obtain ⟨cl65, Ar65, Aq65, As65, An65, Ah65, Ag65⟩ := id Axe
  have rm66 : X.length < 10 := (Nat.lt_of_succ_lt hr)
  have in66 := inb_of (j := (Int32.ofNat X.length)) As65 (inpad (n := 10) rm66 (by decide : 10 ≤ 4000))
  obtain ⟨T66, h66, X66, e66, W66, st66⟩ := stB X0 hx hZ e0 Ar65 (j := (Int32.ofNat X.length)) in66 (g := (mkF m 27 #[vr xe, .val (.int (Int32.ofNat X.length)), vi cc] [(.int (((192 : Int32) ||| (cc >>> ((6 : Int32) &&& 31))).toInt8.toInt32)), (.int (Int32.ofNat X.length)), (.ref xe)])) rfl rfl (hb hby d_m3_27)
  have V66 : Arv Z h66 xe ke .byte 10 (pad 10 (X ++ [(((192 : Int32) ||| (cc >>> ((6 : Int32) &&& 31))).toInt8.toInt32)])) (.int 0) := by
   have q := Arv.set Ar65 Aq65 As65 An65 Ah65 Ag65 (fits_nar_byte _) W66 X.length (nl (Nat.le_trans (Nat.le_of_lt rm66) (by decide : 10 ≤ 4000))) (by rw [pad_len (Nat.le_of_lt rm66)]; exact rm66)
   rw [i8i8 ((192 : Int32) ||| (cc >>> ((6 : Int32) &&& 31))), pad_set rm66] at q; exact q
  have K66 : Keep h0 h66 [xe] := K0.wr W66 (Or.inl (List.mem_of_getElem? (i := 0) rfl))
  have O66 : Old Z n0 h66 := X00.wr W66 ge_xe
  have N66 := Fr.snoc X66 N0 ge_xe
  refine Go.st st66 ?_
  show Go p.tables e below Kx _ (mkF m 28 _ [])
  refine s_aloadN (pc' := 29) X66.here hx (hb hby d_m3_28) rfl rfl rfl ?_
  refine s_iloadN (pc' := 30) X66.here hx (hb hby d_m3_29) rfl rfl ?_
  refine s_iconst (pc' := 31) (v := 1) X66.here hx (hb hby d_m3_30) rfl rfl ?_
  refine s_iadd (pc' := 32) (z := (Int32.ofNat (X ++ [(((192 : Int32) ||| (cc >>> ((6 : Int32) &&& 31))).toInt8.toInt32)]).length)) X66.here hx (hb hby d_m3_31) rfl (lsucc _ _) ?_
  refine s_sipush (pc' := 35) (v := 128) X66.here hx (hb hby d_m3_32) rfl rfl ?_
  refine s_iloadN (pc' := 36) X66.here hx (hb hby d_m3_35) rfl rfl ?_
  refine s_bipush (pc' := 38) (v := 63) X66.here hx (hb hby d_m3_36) rfl rfl ?_
  refine s_iand (pc' := 39) X66.here hx (hb hby d_m3_38) rfl rfl ?_
  refine s_ior (pc' := 40) X66.here hx (hb hby d_m3_39) rfl rfl ?_
  refine s_i2b (pc' := 41) X66.here hx (hb hby d_m3_40) rfl rfl ?_
  obtain ⟨cl67, Ar67, Aq67, As67, An67, Ah67, Ag67⟩ := id V66
  have rm68 : (X ++ [(((192 : Int32) ||| (cc >>> ((6 : Int32) &&& 31))).toInt8.toInt32)]).length < 10 := (by rw [List.length_append]; exact hr)
  have in68 := inb_of (j := (Int32.ofNat (X ++ [(((192 : Int32) ||| (cc >>> ((6 : Int32) &&& 31))).toInt8.toInt32)]).length)) As67 (inpad (n := 10) rm68 (by decide : 10 ≤ 4000))
  obtain ⟨T68, h68, X68, e68, W68, st68⟩ := stB X66 hx hZ e66 Ar67 (j := (Int32.ofNat (X ++ [(((192 : Int32) ||| (cc >>> ((6 : Int32) &&& 31))).toInt8.toInt32)]).length)) in68 (g := (mkF m 41 #[vr xe, .val (.int (Int32.ofNat X.length)), vi cc] [(.int (((128 : Int32) ||| (cc &&& 63)).toInt8.toInt32)), (.int (Int32.ofNat (X ++ [(((192 : Int32) ||| (cc >>> ((6 : Int32) &&& 31))).toInt8.toInt32)]).length)), (.ref xe)])) rfl rfl (hb hby d_m3_41)
  have V68 : Arv Z h68 xe ke .byte 10 (pad 10 ((X ++ [(((192 : Int32) ||| (cc >>> ((6 : Int32) &&& 31))).toInt8.toInt32)]) ++ [(((128 : Int32) ||| (cc &&& 63)).toInt8.toInt32)])) (.int 0) := by
   have q := Arv.set Ar67 Aq67 As67 An67 Ah67 Ag67 (fits_nar_byte _) W68 (X ++ [(((192 : Int32) ||| (cc >>> ((6 : Int32) &&& 31))).toInt8.toInt32)]).length (nl (Nat.le_trans (Nat.le_of_lt rm68) (by decide : 10 ≤ 4000))) (by rw [pad_len (Nat.le_of_lt rm68)]; exact rm68)
   rw [i8i8 ((128 : Int32) ||| (cc &&& 63)), pad_set rm68] at q; exact q
  have K68 : Keep h0 h68 [xe] := K66.wr W68 (Or.inl (List.mem_of_getElem? (i := 0) rfl))
  have O68 : Old Z n0 h68 := O66.wr W68 ge_xe
  have N68 := Fr.snoc X68 N66 ge_xe
  refine Go.st st68 ?_
  show Go p.tables e below Kx _ (mkF m 42 _ [])
  refine s_iloadN (pc' := 43) X68.here hx (hb hby d_m3_42) rfl rfl ?_
  refine s_iconst (pc' := 44) (v := 2) X68.here hx (hb hby d_m3_43) rfl rfl ?_
  refine s_iadd (pc' := 45) (z := (Int32.ofNat ((X ++ [(((192 : Int32) ||| (cc >>> ((6 : Int32) &&& 31))).toInt8.toInt32)]) ++ [(((128 : Int32) ||| (cc &&& 63)).toInt8.toInt32)]).length)) X68.here hx (hb hby d_m3_44) rfl (lsucc2 _ _ _) ?_
  obtain ⟨fs, hr, hrun, hended, hW, hsame⟩ := X68.leave (v := (some (.int (Int32.ofNat ((X ++ [(((192 : Int32) ||| (cc >>> ((6 : Int32) &&& 31))).toInt8.toInt32)]) ++ [(((128 : Int32) ||| (cc &&& 63)).toInt8.toInt32)]).length)))) (fun h => by rw [Bd.returns] at h; cases h)
  refine Go.fin (retI X68 hx Bd.returns (hb hby d_m3_45) hr) (hF _ _ hrun hended ⟨_, _, rfl, ?_, ⟨_, rfl⟩, hW, hsame.mono (by decide) (by decide)⟩)
  ·
   show QDp Z xe ke X cc h0 n0 ((some (.int (Int32.ofNat ((X ++ [(((192 : Int32) ||| (cc >>> ((6 : Int32) &&& 31))).toInt8.toInt32)]) ++ [(((128 : Int32) ||| (cc &&& 63)).toInt8.toInt32)]).length))) : Option Value) T68.heap _
   rw [e68]
   exact ⟨_, (put_p hch hc62).symm, (by simp), rfl, N68, K68, V68⟩
theorem pd_2 : parseMethodDescriptor "([BIC)I" = some ⟨[(.array .byte), .int, .char], some .int⟩ := by decide +kernel
theorem pn_1 : plainName "com/example/turnlock/turnlock/session/DigestCredentials" = true := by first | (simp [plainName, overriddenIn]; done) | decide +kernel
theorem p15_3_0 : decode prog_15_method_3_code 0 = .ok (.aload_n 0, 1) := by decide +kernel
theorem p15_3_1 : decode prog_15_method_3_code 1 = .ok (.ldc 61, 2) := by decide +kernel
theorem pn_2 : plainName "java/util/Objects" = true := by first | (simp [plainName, overriddenIn]; done) | decide +kernel
theorem d31_11_0 : decode jdk_31_method_11_code 0 = .ok (.aload_n 0, 1) := by decide +kernel
theorem d31_11_1 : decode jdk_31_method_11_code 1 = .ok (.ifnonnull 12, 3) := by decide +kernel
theorem d31_11_13 : decode jdk_31_method_11_code 13 = .ok (.aload_n 0, 1) := by decide +kernel
theorem d31_11_14 : decode jdk_31_method_11_code 14 = .ok (.areturn, 1) := by decide +kernel
def QKrn (Z : State) (xx ms : Addr) (h0 : Heap) (n0 : Nat) (v : Option Value) (h : Heap) (L : List Loc) : Prop := v = some (.ref xx) ∧ Fr n0 L ∧ h = h0
theorem rmKrn (l : Launch) (Z : State) (a0 : Array Value) (hw : ∀ d ∈ tables_1, d.before a0 Z = true) (ws : List Jvm.Cond) (xx ms : Addr) (h0 : Heap) (n0 : Nat) (X00 : Old Z n0 h0)  :
  MetFree l yN52 (head1 (Jvm.Cond.code yN52 jdk_31_method_11_code 2 (some (.object "java/lang/Object")) :: ws) ({ frames := 0, cells := 0, slots := 0, locals := 0 } : Room)) (fun aa U => aa = #[(.ref xx), (.ref ms)] ∧ Z.Warmed39 U.vm ∧ U.heap = h0) (fun _ _ _ _ _ => True) (fun _ U o U' => ∃ v L, o = .returned v ∧ QKrn Z xx ms h0 n0 v U'.heap L ∧ FrameEnd U o U' L ({ frames := 0, cells := 0, slots := 0, locals := 0 } : Room).cells ({ frames := 0, cells := 0, slots := 0, locals := 0 } : Room).slots) := by
 refine MetFree.of_bodySF (plainFor_of_name pn_2) hisR ?_
 intro p e s m args below meth c s₁ Bd hml0 hP hK
 obtain ⟨rfl, hZ, hh⟩ := hP
 have hx := Bd.exec
 have hby := Bd.bytes
 have hml : c.maxLocals = 2 := hml0
 have hown : s.vm.findClass "java/util/Objects" = some m.cls := findClass_of_methodNamed Bd.named
 have hnm := (name_of_methodNamed Bd.named Bd.method).1
 have X0 : Stand p l e ({ frames := 0, cells := 0, slots := 0, locals := 0 } : Room) s m #[(.ref xx), (.ref ms)] below meth c s₁ [] 0 0 := Stand.of_body Bd
 have e0 : s₁.heap = h0 := by rw [← hh, Bd.state]; rfl
 have N0 := Fr.nil n0
 have K0 := Keep.refl h0 []
 have ef : entryFrame m #[(.ref xx), (.ref ms)] 2 = mkF m 0 #[vr xx, vr ms] [] := by first | (simp [entryFrame, mkF, argsToLocals, Value.category]; done) | rfl
 rw [ef]
 refine fin_of fun Kx hF => ?_
 show Go p.tables e below Kx _ (mkF m 0 _ [])
 refine s_aloadN (pc' := 1) X0.here hx (hb hby d31_11_0) rfl rfl rfl ?_
 refine s_ifnonnullY (pc' := 13) X0.here hx (hb hby d31_11_1) (by decide) (by decide) ?_
 refine s_aloadN (pc' := 14) X0.here hx (hb hby d31_11_13) rfl rfl rfl ?_
 obtain ⟨fs, hr, hrun, hended, hW, hsame⟩ := X0.leave (v := (some (.ref xx))) (fun h => by rw [Bd.returns] at h; cases h)
 refine Go.fin (retOut X0 hx Bd.returns rfl (Or.inr (Or.inr (Or.inr (Or.inr ⟨rfl, rfl, rfl⟩)))) (hb hby d31_11_14) hr) (hF _ _ hrun hended ⟨_, _, rfl, ?_, ⟨_, rfl⟩, hW, hsame.mono (by decide) (by decide)⟩)
 ·
  show QKrn Z xx ms h0 n0 ((some (.ref xx)) : Option Value) s₁.heap _
  rw [e0]
  exact ⟨rfl, N0, rfl⟩
theorem pd_3 : parseMethodDescriptor "(Ljava/lang/Object;Ljava/lang/String;)Ljava/lang/Object;" = some ⟨[(.object "java/lang/Object"), (.object "java/lang/String")], some (.object "java/lang/Object")⟩ := by decide +kernel
theorem p15_3_3 : decode prog_15_method_3_code 3 = .ok (.invokestatic 17, 3) := by decide +kernel
theorem p15_3_6 : decode prog_15_method_3_code 6 = .ok (.pop, 1) := by decide +kernel
theorem p15_3_7 : decode prog_15_method_3_code 7 = .ok (.aload_n 0, 1) := by decide +kernel
theorem p15_3_8 : decode prog_15_method_3_code 8 = .ok (.bipush 10, 2) := by decide +kernel
theorem pn_3 : plainName "java/lang/String" = true := by first | (simp [plainName, overriddenIn]; done) | decide +kernel
theorem d42_79_0 : decode jdk_42_method_79_code 0 = .ok (.aload_n 0, 1) := by decide +kernel
theorem d42_79_1 : decode jdk_42_method_79_code 1 = .ok (.iload_n 1, 1) := by decide +kernel
theorem d42_79_2 : decode jdk_42_method_79_code 2 = .ok (.iconst 0, 1) := by decide +kernel
theorem d42_80_0 : decode jdk_42_method_80_code 0 = .ok (.aload_n 0, 1) := by decide +kernel
theorem d42_154_0 : decode jdk_42_method_154_code 0 = .ok (.getstatic 38, 3) := by decide +kernel
theorem d42_154_3 : decode jdk_42_method_154_code 3 = .ok (.ifCond .eq 14, 3) := by decide +kernel
theorem d42_154_6 : decode jdk_42_method_154_code 6 = .ok (.aload_n 0, 1) := by decide +kernel
theorem d42_154_7 : decode jdk_42_method_154_code 7 = .ok (.getfield 15, 3) := by decide +kernel
theorem d42_154_10 : decode jdk_42_method_154_code 10 = .ok (.ifCond .ne 7, 3) := by decide +kernel
theorem d42_154_13 : decode jdk_42_method_154_code 13 = .ok (.iconst 1, 1) := by decide +kernel
theorem d42_154_14 : decode jdk_42_method_154_code 14 = .ok (.goto 4, 3) := by decide +kernel
theorem d42_154_18 : decode jdk_42_method_154_code 18 = .ok (.ireturn, 1) := by decide +kernel
def QKil (Z : State) (xy : Addr) (h0 : Heap) (n0 : Nat) (v : Option Value) (h : Heap) (L : List Loc) : Prop := v = some (.int 1) ∧ Fr n0 L ∧ h = h0
theorem rmKil (l : Launch) (Z : State) (a0 : Array Value) (hw : ∀ d ∈ tables_1, d.before a0 Z = true) (ws : List Jvm.Cond) (xy : Addr) (h0 : Heap) (n0 : Nat) (X00 : Old Z n0 h0) (G1 : Int32) (S1 : Sta Z Z.heap "java/lang/String" "COMPACT_STRINGS" "Z" (.int G1)) (P1 : ¬ G1 = 0) (C : Fld Z h0 xy "java/lang/String" "coder" "B" (.int 0)) :
  MetFree l yN32 (head1 (Jvm.Cond.code yN32 jdk_42_method_154_code 1 (some .boolean) :: ws) ({ frames := 0, cells := 0, slots := 0, locals := 0 } : Room)) (fun aa U => aa = #[(.ref xy)] ∧ Z.Warmed39 U.vm ∧ U.heap = h0) (fun _ _ _ _ _ => True) (fun _ U o U' => ∃ v L, o = .returned v ∧ QKil Z xy h0 n0 v U'.heap L ∧ FrameEnd U o U' L ({ frames := 0, cells := 0, slots := 0, locals := 0 } : Room).cells ({ frames := 0, cells := 0, slots := 0, locals := 0 } : Room).slots) := by
 refine MetFree.of_bodySF (plainFor_of_name pn_3) hisR ?_
 intro p e s m args below meth c s₁ Bd hml0 hP hK
 obtain ⟨rfl, hZ, hh⟩ := hP
 have hx := Bd.exec
 have hby := Bd.bytes
 have hml : c.maxLocals = 1 := hml0
 have hown : s.vm.findClass "java/lang/String" = some m.cls := findClass_of_methodNamed Bd.named
 have hnm := (name_of_methodNamed Bd.named Bd.method).1
 have X0 : Stand p l e ({ frames := 0, cells := 0, slots := 0, locals := 0 } : Room) s m #[(.ref xy)] below meth c s₁ [] 0 0 := Stand.of_body Bd
 have e0 : s₁.heap = h0 := by rw [← hh, Bd.state]; rfl
 have N0 := Fr.nil n0
 have K0 := Keep.refl h0 []
 have ef : entryFrame m #[(.ref xy)] 1 = mkF m 0 #[vr xy] [] := by first | (simp [entryFrame, mkF, argsToLocals, Value.category]; done) | rfl
 rw [ef]
 refine fin_of fun Kx hF => ?_
 show Go p.tables e below Kx _ (mkF m 0 _ [])
 obtain ⟨T84, X84, e84, st84⟩ := getS2 X0 hx hZ hown (host := "") (Or.inl (hv hw 20 rfl)) Via.refl e0 (S1.ext X00.2) (g := (mkF m 0 #[vr xy] [])) rfl (hb hby d42_154_0)
 refine Go.st st84 ?_
 show Go p.tables e below Kx _ (mkF m 3 _ [(.int G1)])
 refine s_ifN (pc' := 6) X84.here hx (hb hby d42_154_3) rfl ((if0 _ _).trans (feq P1).1) ?_
 refine s_aloadN (pc' := 7) X84.here hx (hb hby d42_154_6) rfl rfl rfl ?_
 obtain ⟨T85, X85, e85, st85⟩ := getF X84 hx hZ hown (host := "") (Or.inl (hv hw 32 rfl)) Via.refl e84 C (g := (mkF m 7 #[vr xy] [(.ref xy)])) rfl rfl (hb hby d42_154_7)
 refine Go.st st85 ?_
 show Go p.tables e below Kx _ (mkF m 10 _ [(.int 0)])
 refine s_ifN (pc' := 13) X85.here hx (hb hby d42_154_10) rfl ((if0 _ _).trans (teq (by decide)).2) ?_
 refine s_iconst (pc' := 14) (v := 1) X85.here hx (hb hby d42_154_13) rfl rfl ?_
 refine s_goto (pc' := 18) X85.here hx (hb hby d42_154_14) (by decide) (by decide) ?_
 obtain ⟨fs, hr, hrun, hended, hW, hsame⟩ := X85.leave (v := (some (.int 1))) (fun h => by rw [Bd.returns] at h; cases h)
 refine Go.fin (retN X85 hx (t := .boolean) Bd.returns (by simp) (hb hby d42_154_18) hr) (hF _ _ hrun hended ⟨_, _, rfl, ?_, ⟨_, rfl⟩, hW, hsame.mono (by decide) (by decide)⟩)
 ·
  show QKil Z xy h0 n0 ((some (.int 1)) : Option Value) T85.heap _
  rw [e85]
  exact ⟨rfl, N0, rfl⟩
theorem pd_4 : parseMethodDescriptor "()Z" = some ⟨[], some .boolean⟩ := by decide +kernel
theorem d42_80_1 : decode jdk_42_method_80_code 1 = .ok (.invokevirtual 492, 3) := by decide +kernel
theorem d42_80_4 : decode jdk_42_method_80_code 4 = .ok (.ifCond .eq 19, 3) := by decide +kernel
theorem d42_80_7 : decode jdk_42_method_80_code 7 = .ok (.aload_n 0, 1) := by decide +kernel
theorem d42_80_8 : decode jdk_42_method_80_code 8 = .ok (.getfield 9, 3) := by decide +kernel
theorem d42_80_11 : decode jdk_42_method_80_code 11 = .ok (.iload_n 1, 1) := by decide +kernel
theorem d42_80_12 : decode jdk_42_method_80_code 12 = .ok (.iload_n 2, 1) := by decide +kernel
theorem d42_80_13 : decode jdk_42_method_80_code 13 = .ok (.aload_n 0, 1) := by decide +kernel
theorem d42_54_0 : decode jdk_42_method_54_code 0 = .ok (.aload_n 0, 1) := by decide +kernel
theorem d42_54_1 : decode jdk_42_method_54_code 1 = .ok (.getfield 9, 3) := by decide +kernel
theorem d42_54_4 : decode jdk_42_method_54_code 4 = .ok (.arraylength, 1) := by decide +kernel
theorem d42_54_5 : decode jdk_42_method_54_code 5 = .ok (.aload_n 0, 1) := by decide +kernel
theorem d42_152_0 : decode jdk_42_method_152_code 0 = .ok (.getstatic 38, 3) := by decide +kernel
theorem d42_152_3 : decode jdk_42_method_152_code 3 = .ok (.ifCond .eq 10, 3) := by decide +kernel
theorem d42_152_6 : decode jdk_42_method_152_code 6 = .ok (.aload_n 0, 1) := by decide +kernel
theorem d42_152_7 : decode jdk_42_method_152_code 7 = .ok (.getfield 15, 3) := by decide +kernel
theorem d42_152_10 : decode jdk_42_method_152_code 10 = .ok (.goto 4, 3) := by decide +kernel
theorem d42_152_14 : decode jdk_42_method_152_code 14 = .ok (.ireturn, 1) := by decide +kernel
def QKc (Z : State) (xy : Addr) (h0 : Heap) (n0 : Nat) (v : Option Value) (h : Heap) (L : List Loc) : Prop := v = some (.int 0) ∧ Fr n0 L ∧ h = h0
theorem rmKc (l : Launch) (Z : State) (a0 : Array Value) (hw : ∀ d ∈ tables_1, d.before a0 Z = true) (ws : List Jvm.Cond) (xy : Addr) (h0 : Heap) (n0 : Nat) (X00 : Old Z n0 h0) (G1 : Int32) (S1 : Sta Z Z.heap "java/lang/String" "COMPACT_STRINGS" "Z" (.int G1)) (P1 : ¬ G1 = 0) (C : Fld Z h0 xy "java/lang/String" "coder" "B" (.int 0)) :
  MetFree l yN23 (head1 (Jvm.Cond.code yN23 jdk_42_method_152_code 1 (some .byte) :: ws) ({ frames := 0, cells := 0, slots := 0, locals := 0 } : Room)) (fun aa U => aa = #[(.ref xy)] ∧ Z.Warmed39 U.vm ∧ U.heap = h0) (fun _ _ _ _ _ => True) (fun _ U o U' => ∃ v L, o = .returned v ∧ QKc Z xy h0 n0 v U'.heap L ∧ FrameEnd U o U' L ({ frames := 0, cells := 0, slots := 0, locals := 0 } : Room).cells ({ frames := 0, cells := 0, slots := 0, locals := 0 } : Room).slots) := by
 refine MetFree.of_bodySF (plainFor_of_name pn_3) hisR ?_
 intro p e s m args below meth c s₁ Bd hml0 hP hK
 obtain ⟨rfl, hZ, hh⟩ := hP
 have hx := Bd.exec
 have hby := Bd.bytes
 have hml : c.maxLocals = 1 := hml0
 have hown : s.vm.findClass "java/lang/String" = some m.cls := findClass_of_methodNamed Bd.named
 have hnm := (name_of_methodNamed Bd.named Bd.method).1
 have X0 : Stand p l e ({ frames := 0, cells := 0, slots := 0, locals := 0 } : Room) s m #[(.ref xy)] below meth c s₁ [] 0 0 := Stand.of_body Bd
 have e0 : s₁.heap = h0 := by rw [← hh, Bd.state]; rfl
 have N0 := Fr.nil n0
 have K0 := Keep.refl h0 []
 have ef : entryFrame m #[(.ref xy)] 1 = mkF m 0 #[vr xy] [] := by first | (simp [entryFrame, mkF, argsToLocals, Value.category]; done) | rfl
 rw [ef]
 refine fin_of fun Kx hF => ?_
 show Go p.tables e below Kx _ (mkF m 0 _ [])
 obtain ⟨T90, X90, e90, st90⟩ := getS2 X0 hx hZ hown (host := "") (Or.inl (hv hw 20 rfl)) Via.refl e0 (S1.ext X00.2) (g := (mkF m 0 #[vr xy] [])) rfl (hb hby d42_152_0)
 refine Go.st st90 ?_
 show Go p.tables e below Kx _ (mkF m 3 _ [(.int G1)])
 refine s_ifN (pc' := 6) X90.here hx (hb hby d42_152_3) rfl ((if0 _ _).trans (feq P1).1) ?_
 refine s_aloadN (pc' := 7) X90.here hx (hb hby d42_152_6) rfl rfl rfl ?_
 obtain ⟨T91, X91, e91, st91⟩ := getF X90 hx hZ hown (host := "") (Or.inl (hv hw 32 rfl)) Via.refl e90 C (g := (mkF m 7 #[vr xy] [(.ref xy)])) rfl rfl (hb hby d42_152_7)
 refine Go.st st91 ?_
 show Go p.tables e below Kx _ (mkF m 10 _ [(.int 0)])
 refine s_goto (pc' := 14) X91.here hx (hb hby d42_152_10) (by decide) (by decide) ?_
 obtain ⟨fs, hr, hrun, hended, hW, hsame⟩ := X91.leave (v := (some (.int 0))) (fun h => by rw [Bd.returns] at h; cases h)
 refine Go.fin (retN X91 hx (t := .byte) Bd.returns (by simp) (hb hby d42_152_14) hr) (hF _ _ hrun hended ⟨_, _, rfl, ?_, ⟨_, rfl⟩, hW, hsame.mono (by decide) (by decide)⟩)
 ·
  show QKc Z xy h0 n0 ((some (.int 0)) : Option Value) T91.heap _
  rw [e91]
  exact ⟨rfl, N0, rfl⟩
theorem pd_5 : parseMethodDescriptor "()B" = some ⟨[], some .byte⟩ := by decide +kernel
theorem d42_54_6 : decode jdk_42_method_54_code 6 = .ok (.invokevirtual 335, 3) := by decide +kernel
theorem d42_54_9 : decode jdk_42_method_54_code 9 = .ok (.ishr, 1) := by decide +kernel
theorem d42_54_10 : decode jdk_42_method_54_code 10 = .ok (.ireturn, 1) := by decide +kernel
def QGl (Z : State) (xy yb : Addr) (ky : ClassId) (us : List Int32) (h0 : Heap) (n0 : Nat) (v : Option Value) (h : Heap) (L : List Loc) : Prop := v = some (.int (Int32.ofNat us.length)) ∧ Fr n0 L ∧ h = h0
theorem rmGl (l : Launch) (Z : State) (a0 : Array Value) (hw : ∀ d ∈ tables_1, d.before a0 Z = true) (ws : List Jvm.Cond) (xy yb : Addr) (ky : ClassId) (us : List Int32) (h0 : Heap) (n0 : Nat) (X00 : Old Z n0 h0) (G1 : Int32) (S1 : Sta Z Z.heap "java/lang/String" "COMPACT_STRINGS" "Z" (.int G1)) (P1 : ¬ G1 = 0) (Exy : Exa Z h0 xy "java/lang/String") (Cxy : Fld Z h0 xy "java/lang/String" "coder" "B" (.int 0)) (Vxy : Fld Z h0 xy "java/lang/String" "value" "[B" (.ref yb)) (Axy : Arv Z h0 yb ky .byte (Int32.ofNat us.length) (us.map Value.int) (.int 0)) :
  MetFree l yN33 (head1 (Jvm.Cond.code yN33 jdk_42_method_54_code 1 (some .int) :: ws) ({ frames := 1, cells := 0, slots := 0, locals := 13 } : Room)) (fun aa U => aa = #[(.ref xy)] ∧ Z.Warmed39 U.vm ∧ U.heap = h0) (fun _ _ _ _ _ => True) (fun _ U o U' => ∃ v L, o = .returned v ∧ QGl Z xy yb ky us h0 n0 v U'.heap L ∧ FrameEnd U o U' L ({ frames := 1, cells := 0, slots := 0, locals := 13 } : Room).cells ({ frames := 1, cells := 0, slots := 0, locals := 13 } : Room).slots) := by
 refine MetFree.of_bodySF (plainFor_of_name pn_3) hisR ?_
 intro p e s m args below meth c s₁ Bd hml0 hP hK
 obtain ⟨rfl, hZ, hh⟩ := hP
 have hx := Bd.exec
 have hby := Bd.bytes
 have hml : c.maxLocals = 1 := hml0
 have hown : s.vm.findClass "java/lang/String" = some m.cls := findClass_of_methodNamed Bd.named
 have hnm := (name_of_methodNamed Bd.named Bd.method).1
 have X0 : Stand p l e ({ frames := 1, cells := 0, slots := 0, locals := 13 } : Room) s m #[(.ref xy)] below meth c s₁ [] 0 0 := Stand.of_body Bd
 have e0 : s₁.heap = h0 := by rw [← hh, Bd.state]; rfl
 have N0 := Fr.nil n0
 have K0 := Keep.refl h0 []
 have ef : entryFrame m #[(.ref xy)] 1 = mkF m 0 #[vr xy] [] := by first | (simp [entryFrame, mkF, argsToLocals, Value.category]; done) | rfl
 rw [ef]
 refine fin_of fun Kx hF => ?_
 show Go p.tables e below Kx _ (mkF m 0 _ [])
 refine s_aloadN (pc' := 1) X0.here hx (hb hby d42_54_0) rfl rfl rfl ?_
 obtain ⟨T88, X88, e88, st88⟩ := getF X0 hx hZ hown (host := "") (Or.inl (hv hw 34 rfl)) Via.refl e0 Vxy (g := (mkF m 1 #[vr xy] [(.ref xy)])) rfl rfl (hb hby d42_54_1)
 refine Go.st st88 ?_
 show Go p.tables e below Kx _ (mkF m 4 _ [(.ref yb)])
 obtain ⟨cl89, Ar89, Aq89, As89, An89, Ah89, Ag89⟩ := id Axy
 refine Go.st (X88.arraylength hx (by rw [e88]; exact Ar89.1) (State.isArrayOf_alike hZ.alike Ar89.2.1) (g := (mkF m 4 #[vr xy] [(.ref yb)])) rfl rfl (hb hby d42_54_4)) ?_
 rw [len_of As89 An89]
 show Go p.tables e below Kx _ (mkF m 5 _ [(.int (Int32.ofNat us.length))])
 refine s_aloadN (pc' := 6) X88.here hx (hb hby d42_54_5) rfl rfl rfl ?_
 obtain ⟨_, T92, L92, X92, hQ92, st92⟩ := kV X88 hx hZ (y := yN23) hown (hv hw 70 rfl) (hv hw 71 rfl) (notFace_of_selects (args := #[]) (mvT hZ (hv hw 73 rfl))) (hv hw 73 rfl) (hv hw 72 rfl) (hv hw 8 rfl) (hv hw 74 rfl) (by decide) (rmKc l Z a0 hw [] xy h0 n0 X00 G1 S1 P1 Cxy) e88 Exy (W := 1) (g := (mkF m 6 #[vr xy] [(.ref xy), (.int (Int32.ofNat us.length))])) rfl (by rw [hml]; rfl) (argsL := []) (rest := [(.int (Int32.ofNat us.length))]) (lenOf pd_5 rfl) rfl (by exact Nat.le_of_eq rfl) (hb hby d42_54_6) rfl (nb rfl) (nb rfl) (nb rfl) (nb rfl)
 obtain ⟨rfl, Nq92, hE92⟩ := hQ92
 have N92 := Fr.app N0 Nq92
 refine Go.tr st92 ?_
 show Go p.tables e below Kx _ (mkF m 9 _ [(.int 0), (.int (Int32.ofNat us.length))])
 refine s_ishr (pc' := 10) (z := (Int32.ofNat us.length)) X92.here hx (hb hby d42_54_9) rfl (shr0 _) ?_
 obtain ⟨fs, hr, hrun, hended, hW, hsame⟩ := X92.leave (v := (some (.int (Int32.ofNat us.length)))) (fun h => by rw [Bd.returns] at h; cases h)
 refine Go.fin (retI X92 hx Bd.returns (hb hby d42_54_10) hr) (hF _ _ hrun hended ⟨_, _, rfl, ?_, ⟨_, rfl⟩, hW, hsame.mono (by decide) (by decide)⟩)
 ·
  show QGl Z xy yb ky us h0 n0 ((some (.int (Int32.ofNat us.length))) : Option Value) T92.heap _
  rw [hE92]
  exact ⟨rfl, N92, rfl⟩
theorem pd_6 : parseMethodDescriptor "()I" = some ⟨[], some .int⟩ := by decide +kernel
theorem d42_80_14 : decode jdk_42_method_80_code 14 = .ok (.invokevirtual 505, 3) := by decide +kernel
theorem pn_4 : plainName "java/lang/StringLatin1" = true := by first | (simp [plainName, overriddenIn]; done) | decide +kernel
theorem d43_22_0 : decode jdk_43_method_22_code 0 = .ok (.iload_n 1, 1) := by decide +kernel
theorem d43_4_0 : decode jdk_43_method_4_code 0 = .ok (.iload_n 0, 1) := by decide +kernel
theorem d43_4_1 : decode jdk_43_method_4_code 1 = .ok (.ifCond .lt 14, 3) := by decide +kernel
theorem d43_4_4 : decode jdk_43_method_4_code 4 = .ok (.iload_n 0, 1) := by decide +kernel
theorem d43_4_5 : decode jdk_43_method_4_code 5 = .ok (.sipush 255, 3) := by decide +kernel
theorem d43_4_8 : decode jdk_43_method_4_code 8 = .ok (.if_icmp .gt 7, 3) := by decide +kernel
theorem d43_4_11 : decode jdk_43_method_4_code 11 = .ok (.iconst 1, 1) := by decide +kernel
theorem d43_4_12 : decode jdk_43_method_4_code 12 = .ok (.goto 4, 3) := by decide +kernel
theorem d43_4_16 : decode jdk_43_method_4_code 16 = .ok (.ireturn, 1) := by decide +kernel
def QGce (Z : State) (kc : Int32) (h0 : Heap) (n0 : Nat) (v : Option Value) (h : Heap) (L : List Loc) : Prop := v = some (.int 1) ∧ Fr n0 L ∧ h = h0
theorem rmGce (l : Launch) (Z : State) (a0 : Array Value) (hw : ∀ d ∈ tables_1, d.before a0 Z = true) (ws : List Jvm.Cond) (kc : Int32) (h0 : Heap) (n0 : Nat) (X00 : Old Z n0 h0) (hk0 : ¬ kc < 0) (hk5 : ¬ 255 < kc) :
  MetFree l yN42 (head1 (Jvm.Cond.code yN42 jdk_43_method_4_code 1 (some .boolean) :: ws) ({ frames := 0, cells := 0, slots := 0, locals := 0 } : Room)) (fun aa U => aa = #[(.int kc)] ∧ Z.Warmed39 U.vm ∧ U.heap = h0) (fun _ _ _ _ _ => True) (fun _ U o U' => ∃ v L, o = .returned v ∧ QGce Z kc h0 n0 v U'.heap L ∧ FrameEnd U o U' L ({ frames := 0, cells := 0, slots := 0, locals := 0 } : Room).cells ({ frames := 0, cells := 0, slots := 0, locals := 0 } : Room).slots) := by
 refine MetFree.of_bodySF (plainFor_of_name pn_4) hisR ?_
 intro p e s m args below meth c s₁ Bd hml0 hP hK
 obtain ⟨rfl, hZ, hh⟩ := hP
 have hx := Bd.exec
 have hby := Bd.bytes
 have hml : c.maxLocals = 1 := hml0
 have hown : s.vm.findClass "java/lang/StringLatin1" = some m.cls := findClass_of_methodNamed Bd.named
 have hnm := (name_of_methodNamed Bd.named Bd.method).1
 have X0 : Stand p l e ({ frames := 0, cells := 0, slots := 0, locals := 0 } : Room) s m #[(.int kc)] below meth c s₁ [] 0 0 := Stand.of_body Bd
 have e0 : s₁.heap = h0 := by rw [← hh, Bd.state]; rfl
 have N0 := Fr.nil n0
 have K0 := Keep.refl h0 []
 have ef : entryFrame m #[(.int kc)] 1 = mkF m 0 #[vi kc] [] := by first | (simp [entryFrame, mkF, argsToLocals, Value.category]; done) | rfl
 rw [ef]
 refine fin_of fun Kx hF => ?_
 show Go p.tables e below Kx _ (mkF m 0 _ [])
 refine s_iloadN (pc' := 1) X0.here hx (hb hby d43_4_0) rfl rfl ?_
 refine s_ifN (pc' := 4) X0.here hx (hb hby d43_4_1) rfl ((if0 _ _).trans (flt hk0).1) ?_
 refine s_iloadN (pc' := 5) X0.here hx (hb hby d43_4_4) rfl rfl ?_
 refine s_sipush (pc' := 8) (v := 255) X0.here hx (hb hby d43_4_5) rfl rfl ?_
 refine s_icmpN (pc' := 11) X0.here hx (hb hby d43_4_8) rfl (flt hk5).2.2.1 ?_
 refine s_iconst (pc' := 12) (v := 1) X0.here hx (hb hby d43_4_11) rfl rfl ?_
 refine s_goto (pc' := 16) X0.here hx (hb hby d43_4_12) (by decide) (by decide) ?_
 obtain ⟨fs, hr, hrun, hended, hW, hsame⟩ := X0.leave (v := (some (.int 1))) (fun h => by rw [Bd.returns] at h; cases h)
 refine Go.fin (retN X0 hx (t := .boolean) Bd.returns (by simp) (hb hby d43_4_16) hr) (hF _ _ hrun hended ⟨_, _, rfl, ?_, ⟨_, rfl⟩, hW, hsame.mono (by decide) (by decide)⟩)
 ·
  show QGce Z kc h0 n0 ((some (.int 1)) : Option Value) s₁.heap _
  rw [e0]
  exact ⟨rfl, N0, rfl⟩
theorem pd_7 : parseMethodDescriptor "(I)Z" = some ⟨[.int], some .boolean⟩ := by decide +kernel
theorem d43_22_1 : decode jdk_43_method_22_code 1 = .ok (.invokestatic 88, 3) := by decide +kernel
theorem d43_22_4 : decode jdk_43_method_22_code 4 = .ok (.ifCond .ne 5, 3) := by decide +kernel
theorem d43_22_9 : decode jdk_43_method_22_code 9 = .ok (.iload_n 2, 1) := by decide +kernel
theorem d43_22_10 : decode jdk_43_method_22_code 10 = .ok (.iconst 0, 1) := by decide +kernel
theorem d29_65_0 : decode jdk_29_method_65_code 0 = .ok (.iload_n 0, 1) := by decide +kernel
theorem d29_65_1 : decode jdk_29_method_65_code 1 = .ok (.iload_n 1, 1) := by decide +kernel
theorem d29_65_2 : decode jdk_29_method_65_code 2 = .ok (.if_icmp .lt 7, 3) := by decide +kernel
theorem d29_65_5 : decode jdk_29_method_65_code 5 = .ok (.iload_n 0, 1) := by decide +kernel
theorem d29_65_6 : decode jdk_29_method_65_code 6 = .ok (.goto 4, 3) := by decide +kernel
theorem d29_65_10 : decode jdk_29_method_65_code 10 = .ok (.ireturn, 1) := by decide +kernel
def QKmax_0_0 (Z : State) (zz0 : Nat) (h0 : Heap) (n0 : Nat) (v : Option Value) (h : Heap) (L : List Loc) : Prop := v = some (.int 0) ∧ Fr n0 L ∧ h = h0
theorem rmKmax_0_0 (l : Launch) (Z : State) (a0 : Array Value) (hw : ∀ d ∈ tables_1, d.before a0 Z = true) (ws : List Jvm.Cond) (zz0 : Nat) (h0 : Heap) (n0 : Nat) (X00 : Old Z n0 h0)  :
  MetFree l yN16 (head1 (Jvm.Cond.code yN16 jdk_29_method_65_code 2 (some .int) :: ws) ({ frames := 0, cells := 0, slots := 0, locals := 0 } : Room)) (fun aa U => aa = #[(.int 0), (.int 0)] ∧ Z.Warmed39 U.vm ∧ U.heap = h0) (fun _ _ _ _ _ => True) (fun _ U o U' => ∃ v L, o = .returned v ∧ QKmax_0_0 Z zz0 h0 n0 v U'.heap L ∧ FrameEnd U o U' L ({ frames := 0, cells := 0, slots := 0, locals := 0 } : Room).cells ({ frames := 0, cells := 0, slots := 0, locals := 0 } : Room).slots) := by
 refine MetFree.of_bodySF (Jvm.Free.JP.mathPlain rfl (by decide +kernel)) hisR ?_
 intro p e s m args below meth c s₁ Bd hml0 hP hK
 obtain ⟨rfl, hZ, hh⟩ := hP
 have hx := Bd.exec
 have hby := Bd.bytes
 have hml : c.maxLocals = 2 := hml0
 have hown : s.vm.findClass "java/lang/Math" = some m.cls := findClass_of_methodNamed Bd.named
 have hnm := (name_of_methodNamed Bd.named Bd.method).1
 have X0 : Stand p l e ({ frames := 0, cells := 0, slots := 0, locals := 0 } : Room) s m #[(.int 0), (.int 0)] below meth c s₁ [] 0 0 := Stand.of_body Bd
 have e0 : s₁.heap = h0 := by rw [← hh, Bd.state]; rfl
 have N0 := Fr.nil n0
 have K0 := Keep.refl h0 []
 have ef : entryFrame m #[(.int 0), (.int 0)] 2 = mkF m 0 #[vi 0, vi 0] [] := by first | (simp [entryFrame, mkF, argsToLocals, Value.category]; done) | rfl
 rw [ef]
 refine fin_of fun Kx hF => ?_
 show Go p.tables e below Kx _ (mkF m 0 _ [])
 refine s_iloadN (pc' := 1) X0.here hx (hb hby d29_65_0) rfl rfl ?_
 refine s_iloadN (pc' := 2) X0.here hx (hb hby d29_65_1) rfl rfl ?_
 refine s_icmpN (pc' := 5) X0.here hx (hb hby d29_65_2) rfl (flt (by decide)).1 ?_
 refine s_iloadN (pc' := 6) X0.here hx (hb hby d29_65_5) rfl rfl ?_
 refine s_goto (pc' := 10) X0.here hx (hb hby d29_65_6) (by decide) (by decide) ?_
 obtain ⟨fs, hr, hrun, hended, hW, hsame⟩ := X0.leave (v := (some (.int 0))) (fun h => by rw [Bd.returns] at h; cases h)
 refine Go.fin (retI X0 hx Bd.returns (hb hby d29_65_10) hr) (hF _ _ hrun hended ⟨_, _, rfl, ?_, ⟨_, rfl⟩, hW, hsame.mono (by decide) (by decide)⟩)
 ·
  show QKmax_0_0 Z zz0 h0 n0 ((some (.int 0)) : Option Value) s₁.heap _
  rw [e0]
  exact ⟨rfl, N0, rfl⟩
theorem pd_8 : parseMethodDescriptor "(II)I" = some ⟨[.int, .int], some .int⟩ := by decide +kernel
theorem d43_22_11 : decode jdk_43_method_22_code 11 = .ok (.invokestatic 92, 3) := by decide +kernel
theorem d43_22_14 : decode jdk_43_method_22_code 14 = .ok (.istore_n 2, 1) := by decide +kernel
theorem d43_22_15 : decode jdk_43_method_22_code 15 = .ok (.iload_n 3, 1) := by decide +kernel
theorem d43_22_16 : decode jdk_43_method_22_code 16 = .ok (.aload_n 0, 1) := by decide +kernel
theorem d43_22_17 : decode jdk_43_method_22_code 17 = .ok (.arraylength, 1) := by decide +kernel
theorem d29_69_0 : decode jdk_29_method_69_code 0 = .ok (.iload_n 0, 1) := by decide +kernel
theorem d29_69_1 : decode jdk_29_method_69_code 1 = .ok (.iload_n 1, 1) := by decide +kernel
theorem d29_69_2 : decode jdk_29_method_69_code 2 = .ok (.if_icmp .gt 7, 3) := by decide +kernel
theorem d29_69_5 : decode jdk_29_method_69_code 5 = .ok (.iload_n 0, 1) := by decide +kernel
theorem d29_69_6 : decode jdk_29_method_69_code 6 = .ok (.goto 4, 3) := by decide +kernel
theorem d29_69_10 : decode jdk_29_method_69_code 10 = .ok (.ireturn, 1) := by decide +kernel
def QGmie (Z : State) (ja : Int32) (h0 : Heap) (n0 : Nat) (v : Option Value) (h : Heap) (L : List Loc) : Prop := v = some (.int ja) ∧ Fr n0 L ∧ h = h0
theorem rmGmie (l : Launch) (Z : State) (a0 : Array Value) (hw : ∀ d ∈ tables_1, d.before a0 Z = true) (ws : List Jvm.Cond) (ja : Int32) (h0 : Heap) (n0 : Nat) (X00 : Old Z n0 h0)  :
  MetFree l yN17 (head1 (Jvm.Cond.code yN17 jdk_29_method_69_code 2 (some .int) :: ws) ({ frames := 0, cells := 0, slots := 0, locals := 0 } : Room)) (fun aa U => aa = #[(.int ja), (.int ja)] ∧ Z.Warmed39 U.vm ∧ U.heap = h0) (fun _ _ _ _ _ => True) (fun _ U o U' => ∃ v L, o = .returned v ∧ QGmie Z ja h0 n0 v U'.heap L ∧ FrameEnd U o U' L ({ frames := 0, cells := 0, slots := 0, locals := 0 } : Room).cells ({ frames := 0, cells := 0, slots := 0, locals := 0 } : Room).slots) := by
 refine MetFree.of_bodySF (Jvm.Free.JP.mathPlain rfl (by decide +kernel)) hisR ?_
 intro p e s m args below meth c s₁ Bd hml0 hP hK
 obtain ⟨rfl, hZ, hh⟩ := hP
 have hx := Bd.exec
 have hby := Bd.bytes
 have hml : c.maxLocals = 2 := hml0
 have hown : s.vm.findClass "java/lang/Math" = some m.cls := findClass_of_methodNamed Bd.named
 have hnm := (name_of_methodNamed Bd.named Bd.method).1
 have X0 : Stand p l e ({ frames := 0, cells := 0, slots := 0, locals := 0 } : Room) s m #[(.int ja), (.int ja)] below meth c s₁ [] 0 0 := Stand.of_body Bd
 have e0 : s₁.heap = h0 := by rw [← hh, Bd.state]; rfl
 have N0 := Fr.nil n0
 have K0 := Keep.refl h0 []
 have ef : entryFrame m #[(.int ja), (.int ja)] 2 = mkF m 0 #[vi ja, vi ja] [] := by first | (simp [entryFrame, mkF, argsToLocals, Value.category]; done) | rfl
 rw [ef]
 refine fin_of fun Kx hF => ?_
 show Go p.tables e below Kx _ (mkF m 0 _ [])
 refine s_iloadN (pc' := 1) X0.here hx (hb hby d29_69_0) rfl rfl ?_
 refine s_iloadN (pc' := 2) X0.here hx (hb hby d29_69_1) rfl rfl ?_
 refine s_icmpN (pc' := 5) X0.here hx (hb hby d29_69_2) rfl (flt (Int32.lt_irrefl)).2.2.1 ?_
 refine s_iloadN (pc' := 6) X0.here hx (hb hby d29_69_5) rfl rfl ?_
 refine s_goto (pc' := 10) X0.here hx (hb hby d29_69_6) (by decide) (by decide) ?_
 obtain ⟨fs, hr, hrun, hended, hW, hsame⟩ := X0.leave (v := (some (.int ja))) (fun h => by rw [Bd.returns] at h; cases h)
 refine Go.fin (retI X0 hx Bd.returns (hb hby d29_69_10) hr) (hF _ _ hrun hended ⟨_, _, rfl, ?_, ⟨_, rfl⟩, hW, hsame.mono (by decide) (by decide)⟩)
 ·
  show QGmie Z ja h0 n0 ((some (.int ja)) : Option Value) s₁.heap _
  rw [e0]
  exact ⟨rfl, N0, rfl⟩
theorem d43_22_18 : decode jdk_43_method_22_code 18 = .ok (.invokestatic 38, 3) := by decide +kernel
theorem d43_22_21 : decode jdk_43_method_22_code 21 = .ok (.istore_n 3, 1) := by decide +kernel
theorem d43_22_22 : decode jdk_43_method_22_code 22 = .ok (.iload_n 2, 1) := by decide +kernel
theorem d43_22_23 : decode jdk_43_method_22_code 23 = .ok (.iload_n 3, 1) := by decide +kernel
theorem d43_22_24 : decode jdk_43_method_22_code 24 = .ok (.if_icmp .lt 5, 3) := by decide +kernel
theorem d43_22_29 : decode jdk_43_method_22_code 29 = .ok (.aload_n 0, 1) := by decide +kernel
theorem d43_22_30 : decode jdk_43_method_22_code 30 = .ok (.iload_n 1, 1) := by decide +kernel
theorem d43_22_31 : decode jdk_43_method_22_code 31 = .ok (.iload_n 2, 1) := by decide +kernel
theorem d43_22_32 : decode jdk_43_method_22_code 32 = .ok (.iload_n 3, 1) := by decide +kernel
theorem d43_23_0 : decode jdk_43_method_23_code 0 = .ok (.iload_n 1, 1) := by decide +kernel
theorem d43_23_1 : decode jdk_43_method_23_code 1 = .ok (.i2b, 1) := by decide +kernel
theorem d43_23_2 : decode jdk_43_method_23_code 2 = .ok (.istore 4, 2) := by decide +kernel
theorem d43_23_4 : decode jdk_43_method_23_code 4 = .ok (.iload_n 2, 1) := by decide +kernel
theorem d43_23_5 : decode jdk_43_method_23_code 5 = .ok (.istore 5, 2) := by decide +kernel
theorem d43_23_7 : decode jdk_43_method_23_code 7 = .ok (.iload 5, 2) := by decide +kernel
theorem d43_23_9 : decode jdk_43_method_23_code 9 = .ok (.iload_n 3, 1) := by decide +kernel
theorem d43_23_10 : decode jdk_43_method_23_code 10 = .ok (.if_icmp .ge 21, 3) := by decide +kernel
theorem d43_23_31 : decode jdk_43_method_23_code 31 = .ok (.iconst (-1), 1) := by decide +kernel
theorem d43_23_32 : decode jdk_43_method_23_code 32 = .ok (.ireturn, 1) := by decide +kernel
theorem d43_23_13 : decode jdk_43_method_23_code 13 = .ok (.aload_n 0, 1) := by decide +kernel
theorem d43_23_14 : decode jdk_43_method_23_code 14 = .ok (.iload 5, 2) := by decide +kernel
theorem d43_23_16 : decode jdk_43_method_23_code 16 = .ok (.baload, 1) := by decide +kernel
theorem d43_23_17 : decode jdk_43_method_23_code 17 = .ok (.iload 4, 2) := by decide +kernel
theorem d43_23_19 : decode jdk_43_method_23_code 19 = .ok (.if_icmp .ne 6, 3) := by decide +kernel
theorem d43_23_25 : decode jdk_43_method_23_code 25 = .ok (.iinc 5 1, 3) := by decide +kernel
theorem d43_23_28 : decode jdk_43_method_23_code 28 = .ok (.goto (-21), 3) := by decide +kernel
def QGio0 (Z : State) (kc : Int32) (xt : Addr) (kt : ClassId) (us : List Int32) (h0 : Heap) (n0 : Nat) (v : Option Value) (h : Heap) (L : List Loc) : Prop := v = some (.int (-1)) ∧ Fr n0 L ∧ h = h0
theorem rmGio0 (l : Launch) (Z : State) (a0 : Array Value) (hw : ∀ d ∈ tables_1, d.before a0 Z = true) (ws : List Jvm.Cond) (kc : Int32) (xt : Addr) (kt : ClassId) (us : List Int32) (h0 : Heap) (n0 : Nat) (X00 : Old Z n0 h0) (Axt : Arv Z h0 xt kt .byte (Int32.ofNat us.length) (us.map Value.int) (.int 0)) (hk8 : kc.toInt8.toInt32 = kc) (hk0 : ¬ kc < 0) (hk5 : ¬ 255 < kc) (hus : us.length ≤ 4000) (hnz : us ≠ []) (hno : ∀ b ∈ us, ¬ b = kc) :
  MetFree l yN44 (head1 (Jvm.Cond.code yN44 jdk_43_method_23_code 6 (some .int) :: ws) ({ frames := 0, cells := 0, slots := 0, locals := 0 } : Room)) (fun aa U => aa = #[(.ref xt), (.int kc), (.int 0), (.int (Int32.ofNat us.length))] ∧ Z.Warmed39 U.vm ∧ U.heap = h0) (fun _ _ _ _ _ => True) (fun _ U o U' => ∃ v L, o = .returned v ∧ QGio0 Z kc xt kt us h0 n0 v U'.heap L ∧ FrameEnd U o U' L ({ frames := 0, cells := 0, slots := 0, locals := 0 } : Room).cells ({ frames := 0, cells := 0, slots := 0, locals := 0 } : Room).slots) := by
 refine MetFree.of_bodySF (plainFor_of_name pn_4) hisR ?_
 intro p e s m args below meth c s₁ Bd hml0 hP hK
 obtain ⟨rfl, hZ, hh⟩ := hP
 have hx := Bd.exec
 have hby := Bd.bytes
 have hml : c.maxLocals = 6 := hml0
 have hown : s.vm.findClass "java/lang/StringLatin1" = some m.cls := findClass_of_methodNamed Bd.named
 have hnm := (name_of_methodNamed Bd.named Bd.method).1
 have X0 : Stand p l e ({ frames := 0, cells := 0, slots := 0, locals := 0 } : Room) s m #[(.ref xt), (.int kc), (.int 0), (.int (Int32.ofNat us.length))] below meth c s₁ [] 0 0 := Stand.of_body Bd
 have e0 : s₁.heap = h0 := by rw [← hh, Bd.state]; rfl
 have N0 := Fr.nil n0
 have K0 := Keep.refl h0 []
 have ef : entryFrame m #[(.ref xt), (.int kc), (.int 0), (.int (Int32.ofNat us.length))] 6 = mkF m 0 #[vr xt, vi kc, vi 0, .val (.int (Int32.ofNat us.length)), un, un] [] := by first | (simp [entryFrame, mkF, argsToLocals, Value.category]; done) | rfl
 rw [ef]
 refine fin_of fun Kx hF => ?_
 show Go p.tables e below Kx _ (mkF m 0 _ [])
 refine s_iloadN (pc' := 1) X0.here hx (hb hby d43_23_0) rfl rfl ?_
 refine s_i2b (pc' := 2) (z := kc) X0.here hx (hb hby d43_23_1) rfl hk8 ?_
 refine s_istore (pc' := 4) (Ls' := #[vr xt, vi kc, vi 0, .val (.int (Int32.ofNat us.length)), vi kc, un]) X0.here hx (hb hby d43_23_2) rfl  rfl ?_
 refine s_iloadN (pc' := 5) X0.here hx (hb hby d43_23_4) rfl rfl ?_
 refine s_istore (pc' := 7) (Ls' := #[vr xt, vi kc, vi 0, .val (.int (Int32.ofNat us.length)), vi kc, vi 0]) X0.here hx (hb hby d43_23_5) rfl  rfl ?_
 have J : ∀ (rr dd : List Int32) (TJ : State) (LJ : List Loc), Stand p l e ({ frames := 0, cells := 0, slots := 0, locals := 0 } : Room) s m #[(.ref xt), (.int kc), (.int 0), (.int (Int32.ofNat us.length))] below meth c TJ LJ 0 0 → Fr n0 LJ → TJ.heap = h0 → us = dd ++ rr → Go p.tables e below Kx TJ (mkF m 7 #[vr xt, vi kc, vi 0, .val (.int (Int32.ofNat us.length)), vi kc, .val (.int (Int32.ofNat dd.length))] []) := by
  intro rr
  induction rr with
  | nil =>
   intro dd TJ LJ XJ NJ eJ hs
   show Go p.tables e below Kx _ (mkF m 7 _ [])
   refine s_iload (pc' := 9) XJ.here hx (hb hby d43_23_7) rfl rfl ?_
   refine s_iloadN (pc' := 10) XJ.here hx (hb hby d43_23_9) rfl rfl ?_
   refine s_icmpY (pc' := 31) XJ.here hx (hb hby d43_23_10) (flt (lt_end hs)).2.1 (by decide) (by decide) ?_
   refine s_iconst (pc' := 32) (v := (-1 : Int32)) XJ.here hx (hb hby d43_23_31) rfl rfl ?_
   obtain ⟨fs, hr, hrun, hended, hW, hsame⟩ := XJ.leave (v := (some (.int (-1 : Int32)))) (fun h => by rw [Bd.returns] at h; cases h)
   refine Go.fin (retI XJ hx Bd.returns (hb hby d43_23_32) hr) (hF _ _ hrun hended ⟨_, _, rfl, ?_, ⟨_, rfl⟩, hW, hsame.mono (by decide) (by decide)⟩)
   ·
    show QGio0 Z kc xt kt us h0 n0 ((some (.int (-1 : Int32))) : Option Value) TJ.heap _
    rw [eJ]
    exact ⟨rfl, NJ, rfl⟩
  | cons bb rr ih =>
   intro dd TJ LJ XJ NJ eJ hs
   show Go p.tables e below Kx _ (mkF m 7 _ [])
   refine s_iload (pc' := 9) XJ.here hx (hb hby d43_23_7) rfl rfl ?_
   refine s_iloadN (pc' := 10) XJ.here hx (hb hby d43_23_9) rfl rfl ?_
   refine s_icmpN (pc' := 13) XJ.here hx (hb hby d43_23_10) rfl (tlt (at_mid hs hus .null).2.2).2.1 ?_
   refine s_aloadN (pc' := 14) XJ.here hx (hb hby d43_23_13) rfl rfl rfl ?_
   refine s_iload (pc' := 16) XJ.here hx (hb hby d43_23_14) rfl rfl ?_
   obtain ⟨cl98, Ar98, Aq98, As98, An98, Ah98, Ag98⟩ := id Axt
   have in99 := inb_of (j := (Int32.ofNat dd.length)) As98 (at_mid hs hus .null).2
   have at99 : cl98.slots[((Int32.ofNat dd.length)).toNatClampNeg]? = some (.int bb) := Ah98.at in99 (at_mid hs hus _).1
   refine Go.st (XJ.baloadBytes hx (j := (Int32.ofNat dd.length)) (v := (.int bb)) (by rw [eJ]; exact Ar98.1) (State.isArrayOf_alike hZ.alike Ar98.2.1) Ar98.2.2 in99 at99 (g := (mkF m 16 #[vr xt, vi kc, vi 0, .val (.int (Int32.ofNat us.length)), vi kc, .val (.int (Int32.ofNat dd.length))] [(.int (Int32.ofNat dd.length)), (.ref xt)])) rfl rfl (hb hby d43_23_16)) ?_
   show Go p.tables e below Kx _ (mkF m 17 _ [(.int bb)])
   refine s_iload (pc' := 19) XJ.here hx (hb hby d43_23_17) rfl rfl ?_
   refine s_icmpY (pc' := 25) XJ.here hx (hb hby d43_23_19) (feq (hno bb (by rw [hs]; simp))).2 (by decide) (by decide) ?_
   refine s_iinc (pc' := 28) (Ls' := #[vr xt, vi kc, vi 0, .val (.int (Int32.ofNat us.length)), vi kc, .val (.int (Int32.ofNat (dd ++ [bb]).length))]) (z := (Int32.ofNat (dd ++ [bb]).length)) XJ.here hx (hb hby d43_23_25) rfl rfl (lsucc _ _) rfl ?_
   refine s_goto (pc' := 7) XJ.here hx (hb hby d43_23_28) (by decide) (by decide) ?_
   exact ih _ _ _ XJ NJ eJ (app_mid hs)
 exact J us [] _ _ X0 N0 e0 rfl
theorem pd_9 : parseMethodDescriptor "([BIII)I" = some ⟨[(.array .byte), .int, .int, .int], some .int⟩ := by decide +kernel
theorem d43_22_33 : decode jdk_43_method_22_code 33 = .ok (.invokestatic 95, 3) := by decide +kernel
theorem d43_22_36 : decode jdk_43_method_22_code 36 = .ok (.ireturn, 1) := by decide +kernel
def QGio1 (Z : State) (kc : Int32) (xt : Addr) (kt : ClassId) (us : List Int32) (h0 : Heap) (n0 : Nat) (v : Option Value) (h : Heap) (L : List Loc) : Prop := v = some (.int (-1)) ∧ Fr n0 L ∧ h = h0
theorem rmGio1 (l : Launch) (Z : State) (a0 : Array Value) (hw : ∀ d ∈ tables_1, d.before a0 Z = true) (ws : List Jvm.Cond) (kc : Int32) (xt : Addr) (kt : ClassId) (us : List Int32) (h0 : Heap) (n0 : Nat) (X00 : Old Z n0 h0) (Axt : Arv Z h0 xt kt .byte (Int32.ofNat us.length) (us.map Value.int) (.int 0)) (hk8 : kc.toInt8.toInt32 = kc) (hk0 : ¬ kc < 0) (hk5 : ¬ 255 < kc) (hus : us.length ≤ 4000) (hnz : us ≠ []) (hno : ∀ b ∈ us, ¬ b = kc) :
  MetFree l yN43 (head1 (Jvm.Cond.code yN43 jdk_43_method_22_code 4 (some .int) :: ws) ({ frames := 1, cells := 0, slots := 0, locals := 17 } : Room)) (fun aa U => aa = #[(.ref xt), (.int kc), (.int 0), (.int (Int32.ofNat us.length))] ∧ Z.Warmed39 U.vm ∧ U.heap = h0) (fun _ _ _ _ _ => True) (fun _ U o U' => ∃ v L, o = .returned v ∧ QGio1 Z kc xt kt us h0 n0 v U'.heap L ∧ FrameEnd U o U' L ({ frames := 1, cells := 0, slots := 0, locals := 17 } : Room).cells ({ frames := 1, cells := 0, slots := 0, locals := 17 } : Room).slots) := by
 refine MetFree.of_bodySF (plainFor_of_name pn_4) hisR ?_
 intro p e s m args below meth c s₁ Bd hml0 hP hK
 obtain ⟨rfl, hZ, hh⟩ := hP
 have hx := Bd.exec
 have hby := Bd.bytes
 have hml : c.maxLocals = 4 := hml0
 have hown : s.vm.findClass "java/lang/StringLatin1" = some m.cls := findClass_of_methodNamed Bd.named
 have hnm := (name_of_methodNamed Bd.named Bd.method).1
 have X0 : Stand p l e ({ frames := 1, cells := 0, slots := 0, locals := 17 } : Room) s m #[(.ref xt), (.int kc), (.int 0), (.int (Int32.ofNat us.length))] below meth c s₁ [] 0 0 := Stand.of_body Bd
 have e0 : s₁.heap = h0 := by rw [← hh, Bd.state]; rfl
 have N0 := Fr.nil n0
 have K0 := Keep.refl h0 []
 have ef : entryFrame m #[(.ref xt), (.int kc), (.int 0), (.int (Int32.ofNat us.length))] 4 = mkF m 0 #[vr xt, vi kc, vi 0, .val (.int (Int32.ofNat us.length))] [] := by first | (simp [entryFrame, mkF, argsToLocals, Value.category]; done) | rfl
 rw [ef]
 refine fin_of fun Kx hF => ?_
 show Go p.tables e below Kx _ (mkF m 0 _ [])
 refine s_iloadN (pc' := 1) X0.here hx (hb hby d43_22_0) rfl rfl ?_
 obtain ⟨_, T94, L94, X94, hQ94, st94⟩ := kS X0 hx hZ (y := yN42) hown (hv hw 79 rfl) (hv hw 80 rfl) (hv hw 77 rfl) (hv hw 81 rfl) (by decide) (rmGce l Z a0 hw [] kc h0 n0 X00 hk0 hk5) e0 (W := 0) (g := (mkF m 1 #[vr xt, vi kc, vi 0, .val (.int (Int32.ofNat us.length))] [(.int kc)])) rfl (by rw [hml]; rfl) (argsL := [(.int kc)]) (rest := []) (lenOf pd_7 rfl) rfl (by exact Nat.le_of_eq rfl) (hb hby d43_22_1) rfl (nb rfl) (nb rfl) (nb rfl) (nb rfl)
 obtain ⟨rfl, Nq94, hE94⟩ := hQ94
 have N94 := Fr.app N0 Nq94
 refine Go.st st94 ?_
 show Go p.tables e below Kx _ (mkF m 4 _ [(.int 1)])
 refine s_ifY (pc' := 9) X94.here hx (hb hby d43_22_4) ((if0 _ _).trans (feq (by decide)).2) (by decide) (by decide) ?_
 refine s_iloadN (pc' := 10) X94.here hx (hb hby d43_22_9) rfl rfl ?_
 refine s_iconst (pc' := 11) (v := 0) X94.here hx (hb hby d43_22_10) rfl rfl ?_
 obtain ⟨_, T95, L95, X95, hQ95, st95⟩ := kS X94 hx hZ (y := yN16) hown (hv hw 82 rfl) (hv hw 83 rfl) (hv hw 84 rfl) (hv hw 85 rfl) (by decide) (rmKmax_0_0 l Z a0 hw [] 0 h0 n0 X00 ) hE94 (W := 0) (g := (mkF m 11 #[vr xt, vi kc, vi 0, .val (.int (Int32.ofNat us.length))] [(.int 0), (.int 0)])) rfl (by rw [hml]; rfl) (argsL := [(.int 0), (.int 0)]) (rest := []) (lenOf pd_8 rfl) rfl (by exact Nat.le_of_eq rfl) (hb hby d43_22_11) rfl (nb rfl) (nb rfl) (nb rfl) (nb rfl)
 obtain ⟨rfl, Nq95, hE95⟩ := hQ95
 have N95 := Fr.app N94 Nq95
 refine Go.st st95 ?_
 show Go p.tables e below Kx _ (mkF m 14 _ [(.int 0)])
 refine s_istoreN (pc' := 15) (Ls' := #[vr xt, vi kc, vi 0, .val (.int (Int32.ofNat us.length))]) X95.here hx (hb hby d43_22_14) rfl  rfl ?_
 refine s_iloadN (pc' := 16) X95.here hx (hb hby d43_22_15) rfl rfl ?_
 refine s_aloadN (pc' := 17) X95.here hx (hb hby d43_22_16) rfl rfl rfl ?_
 obtain ⟨cl96, Ar96, Aq96, As96, An96, Ah96, Ag96⟩ := id Axt
 refine Go.st (X95.arraylength hx (by rw [hE95]; exact Ar96.1) (State.isArrayOf_alike hZ.alike Ar96.2.1) (g := (mkF m 17 #[vr xt, vi kc, vi 0, .val (.int (Int32.ofNat us.length))] [(.ref xt), (.int (Int32.ofNat us.length))])) rfl rfl (hb hby d43_22_17)) ?_
 rw [len_of As96 An96]
 show Go p.tables e below Kx _ (mkF m 18 _ [(.int (Int32.ofNat us.length)), (.int (Int32.ofNat us.length))])
 obtain ⟨_, T97, L97, X97, hQ97, st97⟩ := kS X95 hx hZ (y := yN17) hown (hv hw 86 rfl) (hv hw 87 rfl) (hv hw 84 rfl) (hv hw 88 rfl) (by decide) (rmGmie l Z a0 hw [] (Int32.ofNat us.length) h0 n0 X00 ) hE95 (W := 0) (g := (mkF m 18 #[vr xt, vi kc, vi 0, .val (.int (Int32.ofNat us.length))] [(.int (Int32.ofNat us.length)), (.int (Int32.ofNat us.length))])) rfl (by rw [hml]; rfl) (argsL := [(.int (Int32.ofNat us.length)), (.int (Int32.ofNat us.length))]) (rest := []) (lenOf pd_8 rfl) rfl (by exact Nat.le_of_eq rfl) (hb hby d43_22_18) rfl (nb rfl) (nb rfl) (nb rfl) (nb rfl)
 obtain ⟨rfl, Nq97, hE97⟩ := hQ97
 have N97 := Fr.app N95 Nq97
 refine Go.st st97 ?_
 show Go p.tables e below Kx _ (mkF m 21 _ [(.int (Int32.ofNat us.length))])
 refine s_istoreN (pc' := 22) (Ls' := #[vr xt, vi kc, vi 0, .val (.int (Int32.ofNat us.length))]) X97.here hx (hb hby d43_22_21) rfl  rfl ?_
 refine s_iloadN (pc' := 23) X97.here hx (hb hby d43_22_22) rfl rfl ?_
 refine s_iloadN (pc' := 24) X97.here hx (hb hby d43_22_23) rfl rfl ?_
 refine s_icmpY (pc' := 29) X97.here hx (hb hby d43_22_24) (tlt (pos_len hnz hus)).1 (by decide) (by decide) ?_
 refine s_aloadN (pc' := 30) X97.here hx (hb hby d43_22_29) rfl rfl rfl ?_
 refine s_iloadN (pc' := 31) X97.here hx (hb hby d43_22_30) rfl rfl ?_
 refine s_iloadN (pc' := 32) X97.here hx (hb hby d43_22_31) rfl rfl ?_
 refine s_iloadN (pc' := 33) X97.here hx (hb hby d43_22_32) rfl rfl ?_
 obtain ⟨_, T100, L100, X100, hQ100, st100⟩ := kS X97 hx hZ (y := yN44) hown (hv hw 89 rfl) (hv hw 90 rfl) (hv hw 77 rfl) (hv hw 91 rfl) (by decide) (rmGio0 l Z a0 hw [] kc xt kt us h0 n0 X00 Axt hk8 hk0 hk5 hus hnz hno) hE97 (W := 0) (g := (mkF m 33 #[vr xt, vi kc, vi 0, .val (.int (Int32.ofNat us.length))] [(.int (Int32.ofNat us.length)), (.int 0), (.int kc), (.ref xt)])) rfl (by rw [hml]; rfl) (argsL := [(.ref xt), (.int kc), (.int 0), (.int (Int32.ofNat us.length))]) (rest := []) (lenOf pd_9 rfl) rfl (by exact Nat.le_of_eq rfl) (hb hby d43_22_33) rfl (nb rfl) (nb rfl) (nb rfl) (nb rfl)
 obtain ⟨rfl, Nq100, hE100⟩ := hQ100
 have N100 := Fr.app N97 Nq100
 refine Go.st st100 ?_
 show Go p.tables e below Kx _ (mkF m 36 _ [(.int (-1 : Int32))])
 obtain ⟨fs, hr, hrun, hended, hW, hsame⟩ := X100.leave (v := (some (.int (-1 : Int32)))) (fun h => by rw [Bd.returns] at h; cases h)
 refine Go.fin (retI X100 hx Bd.returns (hb hby d43_22_36) hr) (hF _ _ hrun hended ⟨_, _, rfl, ?_, ⟨_, rfl⟩, hW, hsame.mono (by decide) (by decide)⟩)
 ·
  show QGio1 Z kc xt kt us h0 n0 ((some (.int (-1 : Int32))) : Option Value) T100.heap _
  rw [hE100]
  exact ⟨rfl, N100, rfl⟩
theorem d42_80_17 : decode jdk_42_method_80_code 17 = .ok (.invokestatic 637, 3) := by decide +kernel
theorem d42_80_20 : decode jdk_42_method_80_code 20 = .ok (.goto 16, 3) := by decide +kernel
theorem d42_80_36 : decode jdk_42_method_80_code 36 = .ok (.ireturn, 1) := by decide +kernel
def QGio2 (Z : State) (kc : Int32) (xy yb : Addr) (ky : ClassId) (us : List Int32) (h0 : Heap) (n0 : Nat) (v : Option Value) (h : Heap) (L : List Loc) : Prop := v = some (.int (-1)) ∧ Fr n0 L ∧ h = h0
theorem rmGio2 (l : Launch) (Z : State) (a0 : Array Value) (hw : ∀ d ∈ tables_1, d.before a0 Z = true) (ws : List Jvm.Cond) (kc : Int32) (xy yb : Addr) (ky : ClassId) (us : List Int32) (h0 : Heap) (n0 : Nat) (X00 : Old Z n0 h0) (G1 : Int32) (S1 : Sta Z Z.heap "java/lang/String" "COMPACT_STRINGS" "Z" (.int G1)) (P1 : ¬ G1 = 0) (Exy : Exa Z h0 xy "java/lang/String") (Cxy : Fld Z h0 xy "java/lang/String" "coder" "B" (.int 0)) (Vxy : Fld Z h0 xy "java/lang/String" "value" "[B" (.ref yb)) (Axy : Arv Z h0 yb ky .byte (Int32.ofNat us.length) (us.map Value.int) (.int 0)) (hk8 : kc.toInt8.toInt32 = kc) (hk0 : ¬ kc < 0) (hk5 : ¬ 255 < kc) (hus : us.length ≤ 4000) (hnz : us ≠ []) (hno : ∀ b ∈ us, ¬ b = kc) :
  MetFree l yN30 (head1 (Jvm.Cond.code yN30 jdk_42_method_80_code 3 (some .int) :: ws) ({ frames := 2, cells := 0, slots := 0, locals := 32 } : Room)) (fun aa U => aa = #[(.ref xy), (.int kc), (.int 0)] ∧ Z.Warmed39 U.vm ∧ U.heap = h0) (fun _ _ _ _ _ => True) (fun _ U o U' => ∃ v L, o = .returned v ∧ QGio2 Z kc xy yb ky us h0 n0 v U'.heap L ∧ FrameEnd U o U' L ({ frames := 2, cells := 0, slots := 0, locals := 32 } : Room).cells ({ frames := 2, cells := 0, slots := 0, locals := 32 } : Room).slots) := by
 refine MetFree.of_bodySF (plainFor_of_name pn_3) hisR ?_
 intro p e s m args below meth c s₁ Bd hml0 hP hK
 obtain ⟨rfl, hZ, hh⟩ := hP
 have hx := Bd.exec
 have hby := Bd.bytes
 have hml : c.maxLocals = 3 := hml0
 have hown : s.vm.findClass "java/lang/String" = some m.cls := findClass_of_methodNamed Bd.named
 have hnm := (name_of_methodNamed Bd.named Bd.method).1
 have X0 : Stand p l e ({ frames := 2, cells := 0, slots := 0, locals := 32 } : Room) s m #[(.ref xy), (.int kc), (.int 0)] below meth c s₁ [] 0 0 := Stand.of_body Bd
 have e0 : s₁.heap = h0 := by rw [← hh, Bd.state]; rfl
 have N0 := Fr.nil n0
 have K0 := Keep.refl h0 []
 have ef : entryFrame m #[(.ref xy), (.int kc), (.int 0)] 3 = mkF m 0 #[vr xy, vi kc, vi 0] [] := by first | (simp [entryFrame, mkF, argsToLocals, Value.category]; done) | rfl
 rw [ef]
 refine fin_of fun Kx hF => ?_
 show Go p.tables e below Kx _ (mkF m 0 _ [])
 refine s_aloadN (pc' := 1) X0.here hx (hb hby d42_80_0) rfl rfl rfl ?_
 obtain ⟨_, T86, L86, X86, hQ86, st86⟩ := kV X0 hx hZ (y := yN32) hown (hv hw 60 rfl) (hv hw 61 rfl) (notFace_of_selects (args := #[]) (mvT hZ (hv hw 63 rfl))) (hv hw 63 rfl) (hv hw 62 rfl) (hv hw 8 rfl) (hv hw 64 rfl) (by decide) (rmKil l Z a0 hw [] xy h0 n0 X00 G1 S1 P1 Cxy) e0 Exy (W := 0) (g := (mkF m 1 #[vr xy, vi kc, vi 0] [(.ref xy)])) rfl (by rw [hml]; rfl) (argsL := []) (rest := []) (lenOf pd_4 rfl) rfl (by exact Nat.le_of_eq rfl) (hb hby d42_80_1) rfl (nb rfl) (nb rfl) (nb rfl) (nb rfl)
 obtain ⟨rfl, Nq86, hE86⟩ := hQ86
 have N86 := Fr.app N0 Nq86
 refine Go.tr st86 ?_
 show Go p.tables e below Kx _ (mkF m 4 _ [(.int 1)])
 refine s_ifN (pc' := 7) X86.here hx (hb hby d42_80_4) rfl ((if0 _ _).trans (feq (by decide)).1) ?_
 refine s_aloadN (pc' := 8) X86.here hx (hb hby d42_80_7) rfl rfl rfl ?_
 obtain ⟨T87, X87, e87, st87⟩ := getF X86 hx hZ hown (host := "") (Or.inl (hv hw 34 rfl)) Via.refl hE86 Vxy (g := (mkF m 8 #[vr xy, vi kc, vi 0] [(.ref xy)])) rfl rfl (hb hby d42_80_8)
 refine Go.st st87 ?_
 show Go p.tables e below Kx _ (mkF m 11 _ [(.ref yb)])
 refine s_iloadN (pc' := 12) X87.here hx (hb hby d42_80_11) rfl rfl ?_
 refine s_iloadN (pc' := 13) X87.here hx (hb hby d42_80_12) rfl rfl ?_
 refine s_aloadN (pc' := 14) X87.here hx (hb hby d42_80_13) rfl rfl rfl ?_
 obtain ⟨_, T93, L93, X93, hQ93, st93⟩ := kV X87 hx hZ (y := yN33) hown (hv hw 65 rfl) (hv hw 66 rfl) (notFace_of_selects (args := #[]) (mvT hZ (hv hw 68 rfl))) (hv hw 68 rfl) (hv hw 67 rfl) (hv hw 8 rfl) (hv hw 69 rfl) (by decide) (rmGl l Z a0 hw [] xy yb _ us h0 n0 X00 G1 S1 P1 Exy Cxy Vxy Axy) e87 Exy (W := 3) (g := (mkF m 14 #[vr xy, vi kc, vi 0] [(.ref xy), (.int 0), (.int kc), (.ref yb)])) rfl (by rw [hml]; rfl) (argsL := []) (rest := [(.int 0), (.int kc), (.ref yb)]) (lenOf pd_6 rfl) rfl (by exact Nat.le_of_eq rfl) (hb hby d42_80_14) rfl (nb rfl) (nb rfl) (nb rfl) (nb rfl)
 obtain ⟨rfl, Nq93, hE93⟩ := hQ93
 have N93 := Fr.app N86 Nq93
 refine Go.tr st93 ?_
 show Go p.tables e below Kx _ (mkF m 17 _ [(.int (Int32.ofNat us.length)), (.int 0), (.int kc), (.ref yb)])
 obtain ⟨_, T101, L101, X101, hQ101, st101⟩ := kS X93 hx hZ (y := yN43) hown (hv hw 75 rfl) (hv hw 76 rfl) (hv hw 77 rfl) (hv hw 78 rfl) (by decide) (rmGio1 l Z a0 hw [] kc yb ky us h0 n0 X00 Axy hk8 hk0 hk5 hus hnz hno) hE93 (W := 0) (g := (mkF m 17 #[vr xy, vi kc, vi 0] [(.int (Int32.ofNat us.length)), (.int 0), (.int kc), (.ref yb)])) rfl (by rw [hml]; rfl) (argsL := [(.ref yb), (.int kc), (.int 0), (.int (Int32.ofNat us.length))]) (rest := []) (lenOf pd_9 rfl) rfl (by exact Nat.le_of_eq rfl) (hb hby d42_80_17) rfl (nb rfl) (nb rfl) (nb rfl) (nb rfl)
 obtain ⟨rfl, Nq101, hE101⟩ := hQ101
 have N101 := Fr.app N93 Nq101
 refine Go.st st101 ?_
 show Go p.tables e below Kx _ (mkF m 20 _ [(.int (-1 : Int32))])
 refine s_goto (pc' := 36) X101.here hx (hb hby d42_80_20) (by decide) (by decide) ?_
 obtain ⟨fs, hr, hrun, hended, hW, hsame⟩ := X101.leave (v := (some (.int (-1 : Int32)))) (fun h => by rw [Bd.returns] at h; cases h)
 refine Go.fin (retI X101 hx Bd.returns (hb hby d42_80_36) hr) (hF _ _ hrun hended ⟨_, _, rfl, ?_, ⟨_, rfl⟩, hW, hsame.mono (by decide) (by decide)⟩)
 ·
  show QGio2 Z kc xy yb ky us h0 n0 ((some (.int (-1 : Int32))) : Option Value) T101.heap _
  rw [hE101]
  exact ⟨rfl, N101, rfl⟩
theorem d42_79_3 : decode jdk_42_method_79_code 3 = .ok (.invokevirtual 633, 3) := by decide +kernel
theorem d42_79_6 : decode jdk_42_method_79_code 6 = .ok (.ireturn, 1) := by decide +kernel
def QGio3 (Z : State) (kc : Int32) (xy yb : Addr) (ky : ClassId) (us : List Int32) (h0 : Heap) (n0 : Nat) (v : Option Value) (h : Heap) (L : List Loc) : Prop := v = some (.int (-1)) ∧ Fr n0 L ∧ h = h0
theorem rmGio3 (l : Launch) (Z : State) (a0 : Array Value) (hw : ∀ d ∈ tables_1, d.before a0 Z = true) (ws : List Jvm.Cond) (kc : Int32) (xy yb : Addr) (ky : ClassId) (us : List Int32) (h0 : Heap) (n0 : Nat) (X00 : Old Z n0 h0) (G1 : Int32) (S1 : Sta Z Z.heap "java/lang/String" "COMPACT_STRINGS" "Z" (.int G1)) (P1 : ¬ G1 = 0) (Exy : Exa Z h0 xy "java/lang/String") (Cxy : Fld Z h0 xy "java/lang/String" "coder" "B" (.int 0)) (Vxy : Fld Z h0 xy "java/lang/String" "value" "[B" (.ref yb)) (Axy : Arv Z h0 yb ky .byte (Int32.ofNat us.length) (us.map Value.int) (.int 0)) (hk8 : kc.toInt8.toInt32 = kc) (hk0 : ¬ kc < 0) (hk5 : ¬ 255 < kc) (hus : us.length ≤ 4000) (hnz : us ≠ []) (hno : ∀ b ∈ us, ¬ b = kc) :
  MetFree l yN29 (head1 (Jvm.Cond.code yN29 jdk_42_method_79_code 2 (some .int) :: ws) ({ frames := 3, cells := 0, slots := 0, locals := 46 } : Room)) (fun aa U => aa = #[(.ref xy), (.int kc)] ∧ Z.Warmed39 U.vm ∧ U.heap = h0) (fun _ _ _ _ _ => True) (fun _ U o U' => ∃ v L, o = .returned v ∧ QGio3 Z kc xy yb ky us h0 n0 v U'.heap L ∧ FrameEnd U o U' L ({ frames := 3, cells := 0, slots := 0, locals := 46 } : Room).cells ({ frames := 3, cells := 0, slots := 0, locals := 46 } : Room).slots) := by
 refine MetFree.of_bodySF (plainFor_of_name pn_3) hisR ?_
 intro p e s m args below meth c s₁ Bd hml0 hP hK
 obtain ⟨rfl, hZ, hh⟩ := hP
 have hx := Bd.exec
 have hby := Bd.bytes
 have hml : c.maxLocals = 2 := hml0
 have hown : s.vm.findClass "java/lang/String" = some m.cls := findClass_of_methodNamed Bd.named
 have hnm := (name_of_methodNamed Bd.named Bd.method).1
 have X0 : Stand p l e ({ frames := 3, cells := 0, slots := 0, locals := 46 } : Room) s m #[(.ref xy), (.int kc)] below meth c s₁ [] 0 0 := Stand.of_body Bd
 have e0 : s₁.heap = h0 := by rw [← hh, Bd.state]; rfl
 have N0 := Fr.nil n0
 have K0 := Keep.refl h0 []
 have ef : entryFrame m #[(.ref xy), (.int kc)] 2 = mkF m 0 #[vr xy, vi kc] [] := by first | (simp [entryFrame, mkF, argsToLocals, Value.category]; done) | rfl
 rw [ef]
 refine fin_of fun Kx hF => ?_
 show Go p.tables e below Kx _ (mkF m 0 _ [])
 refine s_aloadN (pc' := 1) X0.here hx (hb hby d42_79_0) rfl rfl rfl ?_
 refine s_iloadN (pc' := 2) X0.here hx (hb hby d42_79_1) rfl rfl ?_
 refine s_iconst (pc' := 3) (v := 0) X0.here hx (hb hby d42_79_2) rfl rfl ?_
 obtain ⟨_, T102, L102, X102, hQ102, st102⟩ := kV X0 hx hZ (y := yN30) hown (hv hw 55 rfl) (hv hw 56 rfl) (notFace_of_selects (args := #[]) (mvT hZ (hv hw 58 rfl))) (hv hw 58 rfl) (hv hw 57 rfl) (hv hw 8 rfl) (hv hw 59 rfl) (by decide) (rmGio2 l Z a0 hw [] kc xy yb ky us h0 n0 X00 G1 S1 P1 Exy Cxy Vxy Axy hk8 hk0 hk5 hus hnz hno) e0 Exy (W := 0) (g := (mkF m 3 #[vr xy, vi kc] [(.int 0), (.int kc), (.ref xy)])) rfl (by rw [hml]; rfl) (argsL := [(.int kc), (.int 0)]) (rest := []) (lenOf pd_8 rfl) rfl (by exact Nat.le_of_eq rfl) (hb hby d42_79_3) rfl (nb rfl) (nb rfl) (nb rfl) (nb rfl)
 obtain ⟨rfl, Nq102, hE102⟩ := hQ102
 have N102 := Fr.app N0 Nq102
 refine Go.tr st102 ?_
 show Go p.tables e below Kx _ (mkF m 6 _ [(.int (-1 : Int32))])
 obtain ⟨fs, hr, hrun, hended, hW, hsame⟩ := X102.leave (v := (some (.int (-1 : Int32)))) (fun h => by rw [Bd.returns] at h; cases h)
 refine Go.fin (retI X102 hx Bd.returns (hb hby d42_79_6) hr) (hF _ _ hrun hended ⟨_, _, rfl, ?_, ⟨_, rfl⟩, hW, hsame.mono (by decide) (by decide)⟩)
 ·
  show QGio3 Z kc xy yb ky us h0 n0 ((some (.int (-1 : Int32))) : Option Value) T102.heap _
  rw [hE102]
  exact ⟨rfl, N102, rfl⟩
theorem pd_10 : parseMethodDescriptor "(I)I" = some ⟨[.int], some .int⟩ := by decide +kernel
theorem p15_3_10 : decode prog_15_method_3_code 10 = .ok (.invokevirtual 37, 3) := by decide +kernel
theorem p15_3_13 : decode prog_15_method_3_code 13 = .ok (.iconst (-1), 1) := by decide +kernel
theorem p15_3_14 : decode prog_15_method_3_code 14 = .ok (.if_icmp .ne 13, 3) := by decide +kernel
theorem p15_3_17 : decode prog_15_method_3_code 17 = .ok (.aload_n 0, 1) := by decide +kernel
theorem p15_3_18 : decode prog_15_method_3_code 18 = .ok (.bipush 13, 2) := by decide +kernel
theorem p15_3_20 : decode prog_15_method_3_code 20 = .ok (.invokevirtual 37, 3) := by decide +kernel
theorem p15_3_23 : decode prog_15_method_3_code 23 = .ok (.iconst (-1), 1) := by decide +kernel
theorem p15_3_24 : decode prog_15_method_3_code 24 = .ok (.if_icmp .eq 13, 3) := by decide +kernel
theorem p15_3_37 : decode prog_15_method_3_code 37 = .ok (.aload_n 0, 1) := by decide +kernel
theorem p15_3_38 : decode prog_15_method_3_code 38 = .ok (.bipush 58, 2) := by decide +kernel
theorem d43_23_22 : decode jdk_43_method_23_code 22 = .ok (.iload 5, 2) := by decide +kernel
theorem d43_23_24 : decode jdk_43_method_23_code 24 = .ok (.ireturn, 1) := by decide +kernel
def QPio0_58 (Z : State) (xt : Addr) (kt : ClassId) (us dA rA : List Int32) (h0 : Heap) (n0 : Nat) (v : Option Value) (h : Heap) (L : List Loc) : Prop := v = some (.int (Int32.ofNat dA.length)) ∧ Fr n0 L ∧ h = h0
theorem rmPio0_58 (l : Launch) (Z : State) (a0 : Array Value) (hw : ∀ d ∈ tables_1, d.before a0 Z = true) (ws : List Jvm.Cond) (xt : Addr) (kt : ClassId) (us dA rA : List Int32) (h0 : Heap) (n0 : Nat) (X00 : Old Z n0 h0) (Axt : Arv Z h0 xt kt .byte (Int32.ofNat us.length) (us.map Value.int) (.int 0)) (hq : us = dA ++ 58 :: rA) (hus : us.length ≤ 4000) (hno : ∀ b ∈ dA, ¬ b = 58) :
  MetFree l yN44 (head1 (Jvm.Cond.code yN44 jdk_43_method_23_code 6 (some .int) :: ws) ({ frames := 0, cells := 0, slots := 0, locals := 0 } : Room)) (fun aa U => aa = #[(.ref xt), (.int 58), (.int 0), (.int (Int32.ofNat us.length))] ∧ Z.Warmed39 U.vm ∧ U.heap = h0) (fun _ _ _ _ _ => True) (fun _ U o U' => ∃ v L, o = .returned v ∧ QPio0_58 Z xt kt us dA rA h0 n0 v U'.heap L ∧ FrameEnd U o U' L ({ frames := 0, cells := 0, slots := 0, locals := 0 } : Room).cells ({ frames := 0, cells := 0, slots := 0, locals := 0 } : Room).slots) := by
 refine MetFree.of_bodySF (plainFor_of_name pn_4) hisR ?_
 intro p e s m args below meth c s₁ Bd hml0 hP hK
 obtain ⟨rfl, hZ, hh⟩ := hP
 have hx := Bd.exec
 have hby := Bd.bytes
 have hml : c.maxLocals = 6 := hml0
 have hown : s.vm.findClass "java/lang/StringLatin1" = some m.cls := findClass_of_methodNamed Bd.named
 have hnm := (name_of_methodNamed Bd.named Bd.method).1
 have X0 : Stand p l e ({ frames := 0, cells := 0, slots := 0, locals := 0 } : Room) s m #[(.ref xt), (.int 58), (.int 0), (.int (Int32.ofNat us.length))] below meth c s₁ [] 0 0 := Stand.of_body Bd
 have e0 : s₁.heap = h0 := by rw [← hh, Bd.state]; rfl
 have N0 := Fr.nil n0
 have K0 := Keep.refl h0 []
 have ef : entryFrame m #[(.ref xt), (.int 58), (.int 0), (.int (Int32.ofNat us.length))] 6 = mkF m 0 #[vr xt, vi 58, vi 0, .val (.int (Int32.ofNat us.length)), un, un] [] := by first | (simp [entryFrame, mkF, argsToLocals, Value.category]; done) | rfl
 rw [ef]
 refine fin_of fun Kx hF => ?_
 show Go p.tables e below Kx _ (mkF m 0 _ [])
 refine s_iloadN (pc' := 1) X0.here hx (hb hby d43_23_0) rfl rfl ?_
 refine s_i2b (pc' := 2) (z := 58) X0.here hx (hb hby d43_23_1) rfl (by decide) ?_
 refine s_istore (pc' := 4) (Ls' := #[vr xt, vi 58, vi 0, .val (.int (Int32.ofNat us.length)), vi 58, un]) X0.here hx (hb hby d43_23_2) rfl  rfl ?_
 refine s_iloadN (pc' := 5) X0.here hx (hb hby d43_23_4) rfl rfl ?_
 refine s_istore (pc' := 7) (Ls' := #[vr xt, vi 58, vi 0, .val (.int (Int32.ofNat us.length)), vi 58, vi 0]) X0.here hx (hb hby d43_23_5) rfl  rfl ?_
 have J : ∀ (rr dd : List Int32) (TJ : State) (LJ : List Loc), Stand p l e ({ frames := 0, cells := 0, slots := 0, locals := 0 } : Room) s m #[(.ref xt), (.int 58), (.int 0), (.int (Int32.ofNat us.length))] below meth c TJ LJ 0 0 → Fr n0 LJ → TJ.heap = h0 → dA = dd ++ rr → Go p.tables e below Kx TJ (mkF m 7 #[vr xt, vi 58, vi 0, .val (.int (Int32.ofNat us.length)), vi 58, .val (.int (Int32.ofNat dd.length))] []) := by
  intro rr
  induction rr with
  | nil =>
   intro dd TJ LJ XJ NJ eJ hs
   rw [List.append_nil] at hs
   subst hs
   show Go p.tables e below Kx _ (mkF m 7 _ [])
   refine s_iload (pc' := 9) XJ.here hx (hb hby d43_23_7) rfl rfl ?_
   refine s_iloadN (pc' := 10) XJ.here hx (hb hby d43_23_9) rfl rfl ?_
   refine s_icmpN (pc' := 13) XJ.here hx (hb hby d43_23_10) rfl (tlt (at_mid hq hus .null).2.2).2.1 ?_
   refine s_aloadN (pc' := 14) XJ.here hx (hb hby d43_23_13) rfl rfl rfl ?_
   refine s_iload (pc' := 16) XJ.here hx (hb hby d43_23_14) rfl rfl ?_
   obtain ⟨cl116, Ar116, Aq116, As116, An116, Ah116, Ag116⟩ := id Axt
   have in117 := inb_of (j := (Int32.ofNat dA.length)) As116 (at_mid hq hus .null).2
   have at117 : cl116.slots[((Int32.ofNat dA.length)).toNatClampNeg]? = some (.int 58) := Ah116.at in117 (at_mid hq hus _).1
   refine Go.st (XJ.baloadBytes hx (j := (Int32.ofNat dA.length)) (v := (.int 58)) (by rw [eJ]; exact Ar116.1) (State.isArrayOf_alike hZ.alike Ar116.2.1) Ar116.2.2 in117 at117 (g := (mkF m 16 #[vr xt, vi 58, vi 0, .val (.int (Int32.ofNat us.length)), vi 58, .val (.int (Int32.ofNat dA.length))] [(.int (Int32.ofNat dA.length)), (.ref xt)])) rfl rfl (hb hby d43_23_16)) ?_
   show Go p.tables e below Kx _ (mkF m 17 _ [(.int 58)])
   refine s_iload (pc' := 19) XJ.here hx (hb hby d43_23_17) rfl rfl ?_
   refine s_icmpN (pc' := 22) XJ.here hx (hb hby d43_23_19) rfl (teq (by decide)).2 ?_
   refine s_iload (pc' := 24) XJ.here hx (hb hby d43_23_22) rfl rfl ?_
   obtain ⟨fs, hr, hrun, hended, hW, hsame⟩ := XJ.leave (v := (some (.int (Int32.ofNat dA.length)))) (fun h => by rw [Bd.returns] at h; cases h)
   refine Go.fin (retI XJ hx Bd.returns (hb hby d43_23_24) hr) (hF _ _ hrun hended ⟨_, _, rfl, ?_, ⟨_, rfl⟩, hW, hsame.mono (by decide) (by decide)⟩)
   ·
    show QPio0_58 Z xt kt us dA rA h0 n0 ((some (.int (Int32.ofNat dA.length))) : Option Value) TJ.heap _
    rw [eJ]
    exact ⟨rfl, NJ, rfl⟩
  | cons bb rr ih =>
   intro dd TJ LJ XJ NJ eJ hs
   have ht : us = dd ++ bb :: (rr ++ 58 :: rA) := by rw [hq, hs]; simp
   show Go p.tables e below Kx _ (mkF m 7 _ [])
   refine s_iload (pc' := 9) XJ.here hx (hb hby d43_23_7) rfl rfl ?_
   refine s_iloadN (pc' := 10) XJ.here hx (hb hby d43_23_9) rfl rfl ?_
   refine s_icmpN (pc' := 13) XJ.here hx (hb hby d43_23_10) rfl (tlt (at_mid ht hus .null).2.2).2.1 ?_
   refine s_aloadN (pc' := 14) XJ.here hx (hb hby d43_23_13) rfl rfl rfl ?_
   refine s_iload (pc' := 16) XJ.here hx (hb hby d43_23_14) rfl rfl ?_
   obtain ⟨cl118, Ar118, Aq118, As118, An118, Ah118, Ag118⟩ := id Axt
   have in119 := inb_of (j := (Int32.ofNat dd.length)) As118 (at_mid ht hus .null).2
   have at119 : cl118.slots[((Int32.ofNat dd.length)).toNatClampNeg]? = some (.int bb) := Ah118.at in119 (at_mid ht hus _).1
   refine Go.st (XJ.baloadBytes hx (j := (Int32.ofNat dd.length)) (v := (.int bb)) (by rw [eJ]; exact Ar118.1) (State.isArrayOf_alike hZ.alike Ar118.2.1) Ar118.2.2 in119 at119 (g := (mkF m 16 #[vr xt, vi 58, vi 0, .val (.int (Int32.ofNat us.length)), vi 58, .val (.int (Int32.ofNat dd.length))] [(.int (Int32.ofNat dd.length)), (.ref xt)])) rfl rfl (hb hby d43_23_16)) ?_
   show Go p.tables e below Kx _ (mkF m 17 _ [(.int bb)])
   refine s_iload (pc' := 19) XJ.here hx (hb hby d43_23_17) rfl rfl ?_
   refine s_icmpY (pc' := 25) XJ.here hx (hb hby d43_23_19) (feq (hno bb (by rw [hs]; simp))).2 (by decide) (by decide) ?_
   refine s_iinc (pc' := 28) (Ls' := #[vr xt, vi 58, vi 0, .val (.int (Int32.ofNat us.length)), vi 58, .val (.int (Int32.ofNat (dd ++ [bb]).length))]) (z := (Int32.ofNat (dd ++ [bb]).length)) XJ.here hx (hb hby d43_23_25) rfl rfl (lsucc _ _) rfl ?_
   refine s_goto (pc' := 7) XJ.here hx (hb hby d43_23_28) (by decide) (by decide) ?_
   exact ih _ _ _ XJ NJ eJ (app_mid hs)
 exact J dA [] _ _ X0 N0 e0 rfl
def QPio1_58 (Z : State) (xt : Addr) (kt : ClassId) (us dA rA : List Int32) (h0 : Heap) (n0 : Nat) (v : Option Value) (h : Heap) (L : List Loc) : Prop := v = some (.int (Int32.ofNat dA.length)) ∧ Fr n0 L ∧ h = h0
theorem rmPio1_58 (l : Launch) (Z : State) (a0 : Array Value) (hw : ∀ d ∈ tables_1, d.before a0 Z = true) (ws : List Jvm.Cond) (xt : Addr) (kt : ClassId) (us dA rA : List Int32) (h0 : Heap) (n0 : Nat) (X00 : Old Z n0 h0) (Axt : Arv Z h0 xt kt .byte (Int32.ofNat us.length) (us.map Value.int) (.int 0)) (hq : us = dA ++ 58 :: rA) (hus : us.length ≤ 4000) (hno : ∀ b ∈ dA, ¬ b = 58) :
  MetFree l yN43 (head1 (Jvm.Cond.code yN43 jdk_43_method_22_code 4 (some .int) :: ws) ({ frames := 1, cells := 0, slots := 0, locals := 17 } : Room)) (fun aa U => aa = #[(.ref xt), (.int 58), (.int 0), (.int (Int32.ofNat us.length))] ∧ Z.Warmed39 U.vm ∧ U.heap = h0) (fun _ _ _ _ _ => True) (fun _ U o U' => ∃ v L, o = .returned v ∧ QPio1_58 Z xt kt us dA rA h0 n0 v U'.heap L ∧ FrameEnd U o U' L ({ frames := 1, cells := 0, slots := 0, locals := 17 } : Room).cells ({ frames := 1, cells := 0, slots := 0, locals := 17 } : Room).slots) := by
 refine MetFree.of_bodySF (plainFor_of_name pn_4) hisR ?_
 intro p e s m args below meth c s₁ Bd hml0 hP hK
 obtain ⟨rfl, hZ, hh⟩ := hP
 have hx := Bd.exec
 have hby := Bd.bytes
 have hml : c.maxLocals = 4 := hml0
 have hown : s.vm.findClass "java/lang/StringLatin1" = some m.cls := findClass_of_methodNamed Bd.named
 have hnm := (name_of_methodNamed Bd.named Bd.method).1
 have X0 : Stand p l e ({ frames := 1, cells := 0, slots := 0, locals := 17 } : Room) s m #[(.ref xt), (.int 58), (.int 0), (.int (Int32.ofNat us.length))] below meth c s₁ [] 0 0 := Stand.of_body Bd
 have e0 : s₁.heap = h0 := by rw [← hh, Bd.state]; rfl
 have N0 := Fr.nil n0
 have K0 := Keep.refl h0 []
 have ef : entryFrame m #[(.ref xt), (.int 58), (.int 0), (.int (Int32.ofNat us.length))] 4 = mkF m 0 #[vr xt, vi 58, vi 0, .val (.int (Int32.ofNat us.length))] [] := by first | (simp [entryFrame, mkF, argsToLocals, Value.category]; done) | rfl
 rw [ef]
 refine fin_of fun Kx hF => ?_
 show Go p.tables e below Kx _ (mkF m 0 _ [])
 refine s_iloadN (pc' := 1) X0.here hx (hb hby d43_22_0) rfl rfl ?_
 obtain ⟨_, T112, L112, X112, hQ112, st112⟩ := kS X0 hx hZ (y := yN42) hown (hv hw 79 rfl) (hv hw 80 rfl) (hv hw 77 rfl) (hv hw 81 rfl) (by decide) (rmGce l Z a0 hw [] 58 h0 n0 X00 (by decide) (by decide)) e0 (W := 0) (g := (mkF m 1 #[vr xt, vi 58, vi 0, .val (.int (Int32.ofNat us.length))] [(.int 58)])) rfl (by rw [hml]; rfl) (argsL := [(.int 58)]) (rest := []) (lenOf pd_7 rfl) rfl (by exact Nat.le_of_eq rfl) (hb hby d43_22_1) rfl (nb rfl) (nb rfl) (nb rfl) (nb rfl)
 obtain ⟨rfl, Nq112, hE112⟩ := hQ112
 have N112 := Fr.app N0 Nq112
 refine Go.st st112 ?_
 show Go p.tables e below Kx _ (mkF m 4 _ [(.int 1)])
 refine s_ifY (pc' := 9) X112.here hx (hb hby d43_22_4) ((if0 _ _).trans (feq (by decide)).2) (by decide) (by decide) ?_
 refine s_iloadN (pc' := 10) X112.here hx (hb hby d43_22_9) rfl rfl ?_
 refine s_iconst (pc' := 11) (v := 0) X112.here hx (hb hby d43_22_10) rfl rfl ?_
 obtain ⟨_, T113, L113, X113, hQ113, st113⟩ := kS X112 hx hZ (y := yN16) hown (hv hw 82 rfl) (hv hw 83 rfl) (hv hw 84 rfl) (hv hw 85 rfl) (by decide) (rmKmax_0_0 l Z a0 hw [] 0 h0 n0 X00 ) hE112 (W := 0) (g := (mkF m 11 #[vr xt, vi 58, vi 0, .val (.int (Int32.ofNat us.length))] [(.int 0), (.int 0)])) rfl (by rw [hml]; rfl) (argsL := [(.int 0), (.int 0)]) (rest := []) (lenOf pd_8 rfl) rfl (by exact Nat.le_of_eq rfl) (hb hby d43_22_11) rfl (nb rfl) (nb rfl) (nb rfl) (nb rfl)
 obtain ⟨rfl, Nq113, hE113⟩ := hQ113
 have N113 := Fr.app N112 Nq113
 refine Go.st st113 ?_
 show Go p.tables e below Kx _ (mkF m 14 _ [(.int 0)])
 refine s_istoreN (pc' := 15) (Ls' := #[vr xt, vi 58, vi 0, .val (.int (Int32.ofNat us.length))]) X113.here hx (hb hby d43_22_14) rfl  rfl ?_
 refine s_iloadN (pc' := 16) X113.here hx (hb hby d43_22_15) rfl rfl ?_
 refine s_aloadN (pc' := 17) X113.here hx (hb hby d43_22_16) rfl rfl rfl ?_
 obtain ⟨cl114, Ar114, Aq114, As114, An114, Ah114, Ag114⟩ := id Axt
 refine Go.st (X113.arraylength hx (by rw [hE113]; exact Ar114.1) (State.isArrayOf_alike hZ.alike Ar114.2.1) (g := (mkF m 17 #[vr xt, vi 58, vi 0, .val (.int (Int32.ofNat us.length))] [(.ref xt), (.int (Int32.ofNat us.length))])) rfl rfl (hb hby d43_22_17)) ?_
 rw [len_of As114 An114]
 show Go p.tables e below Kx _ (mkF m 18 _ [(.int (Int32.ofNat us.length)), (.int (Int32.ofNat us.length))])
 obtain ⟨_, T115, L115, X115, hQ115, st115⟩ := kS X113 hx hZ (y := yN17) hown (hv hw 86 rfl) (hv hw 87 rfl) (hv hw 84 rfl) (hv hw 88 rfl) (by decide) (rmGmie l Z a0 hw [] (Int32.ofNat us.length) h0 n0 X00 ) hE113 (W := 0) (g := (mkF m 18 #[vr xt, vi 58, vi 0, .val (.int (Int32.ofNat us.length))] [(.int (Int32.ofNat us.length)), (.int (Int32.ofNat us.length))])) rfl (by rw [hml]; rfl) (argsL := [(.int (Int32.ofNat us.length)), (.int (Int32.ofNat us.length))]) (rest := []) (lenOf pd_8 rfl) rfl (by exact Nat.le_of_eq rfl) (hb hby d43_22_18) rfl (nb rfl) (nb rfl) (nb rfl) (nb rfl)
 obtain ⟨rfl, Nq115, hE115⟩ := hQ115
 have N115 := Fr.app N113 Nq115
 refine Go.st st115 ?_
 show Go p.tables e below Kx _ (mkF m 21 _ [(.int (Int32.ofNat us.length))])
 refine s_istoreN (pc' := 22) (Ls' := #[vr xt, vi 58, vi 0, .val (.int (Int32.ofNat us.length))]) X115.here hx (hb hby d43_22_21) rfl  rfl ?_
 refine s_iloadN (pc' := 23) X115.here hx (hb hby d43_22_22) rfl rfl ?_
 refine s_iloadN (pc' := 24) X115.here hx (hb hby d43_22_23) rfl rfl ?_
 refine s_icmpY (pc' := 29) X115.here hx (hb hby d43_22_24) (tlt (pos_len (by rw [hq]; simp) hus)).1 (by decide) (by decide) ?_
 refine s_aloadN (pc' := 30) X115.here hx (hb hby d43_22_29) rfl rfl rfl ?_
 refine s_iloadN (pc' := 31) X115.here hx (hb hby d43_22_30) rfl rfl ?_
 refine s_iloadN (pc' := 32) X115.here hx (hb hby d43_22_31) rfl rfl ?_
 refine s_iloadN (pc' := 33) X115.here hx (hb hby d43_22_32) rfl rfl ?_
 obtain ⟨_, T120, L120, X120, hQ120, st120⟩ := kS X115 hx hZ (y := yN44) hown (hv hw 89 rfl) (hv hw 90 rfl) (hv hw 77 rfl) (hv hw 91 rfl) (by decide) (rmPio0_58 l Z a0 hw [] xt kt us dA rA h0 n0 X00 Axt hq hus hno) hE115 (W := 0) (g := (mkF m 33 #[vr xt, vi 58, vi 0, .val (.int (Int32.ofNat us.length))] [(.int (Int32.ofNat us.length)), (.int 0), (.int 58), (.ref xt)])) rfl (by rw [hml]; rfl) (argsL := [(.ref xt), (.int 58), (.int 0), (.int (Int32.ofNat us.length))]) (rest := []) (lenOf pd_9 rfl) rfl (by exact Nat.le_of_eq rfl) (hb hby d43_22_33) rfl (nb rfl) (nb rfl) (nb rfl) (nb rfl)
 obtain ⟨rfl, Nq120, hE120⟩ := hQ120
 have N120 := Fr.app N115 Nq120
 refine Go.st st120 ?_
 show Go p.tables e below Kx _ (mkF m 36 _ [(.int (Int32.ofNat dA.length))])
 obtain ⟨fs, hr, hrun, hended, hW, hsame⟩ := X120.leave (v := (some (.int (Int32.ofNat dA.length)))) (fun h => by rw [Bd.returns] at h; cases h)
 refine Go.fin (retI X120 hx Bd.returns (hb hby d43_22_36) hr) (hF _ _ hrun hended ⟨_, _, rfl, ?_, ⟨_, rfl⟩, hW, hsame.mono (by decide) (by decide)⟩)
 ·
  show QPio1_58 Z xt kt us dA rA h0 n0 ((some (.int (Int32.ofNat dA.length))) : Option Value) T120.heap _
  rw [hE120]
  exact ⟨rfl, N120, rfl⟩
def QPio2_58 (Z : State) (xy yb : Addr) (ky : ClassId) (us dA rA : List Int32) (h0 : Heap) (n0 : Nat) (v : Option Value) (h : Heap) (L : List Loc) : Prop := v = some (.int (Int32.ofNat dA.length)) ∧ Fr n0 L ∧ h = h0
theorem rmPio2_58 (l : Launch) (Z : State) (a0 : Array Value) (hw : ∀ d ∈ tables_1, d.before a0 Z = true) (ws : List Jvm.Cond) (xy yb : Addr) (ky : ClassId) (us dA rA : List Int32) (h0 : Heap) (n0 : Nat) (X00 : Old Z n0 h0) (G1 : Int32) (S1 : Sta Z Z.heap "java/lang/String" "COMPACT_STRINGS" "Z" (.int G1)) (P1 : ¬ G1 = 0) (Exy : Exa Z h0 xy "java/lang/String") (Cxy : Fld Z h0 xy "java/lang/String" "coder" "B" (.int 0)) (Vxy : Fld Z h0 xy "java/lang/String" "value" "[B" (.ref yb)) (Axy : Arv Z h0 yb ky .byte (Int32.ofNat us.length) (us.map Value.int) (.int 0)) (hq : us = dA ++ 58 :: rA) (hus : us.length ≤ 4000) (hno : ∀ b ∈ dA, ¬ b = 58) :
  MetFree l yN30 (head1 (Jvm.Cond.code yN30 jdk_42_method_80_code 3 (some .int) :: ws) ({ frames := 2, cells := 0, slots := 0, locals := 32 } : Room)) (fun aa U => aa = #[(.ref xy), (.int 58), (.int 0)] ∧ Z.Warmed39 U.vm ∧ U.heap = h0) (fun _ _ _ _ _ => True) (fun _ U o U' => ∃ v L, o = .returned v ∧ QPio2_58 Z xy yb ky us dA rA h0 n0 v U'.heap L ∧ FrameEnd U o U' L ({ frames := 2, cells := 0, slots := 0, locals := 32 } : Room).cells ({ frames := 2, cells := 0, slots := 0, locals := 32 } : Room).slots) := by
 refine MetFree.of_bodySF (plainFor_of_name pn_3) hisR ?_
 intro p e s m args below meth c s₁ Bd hml0 hP hK
 obtain ⟨rfl, hZ, hh⟩ := hP
 have hx := Bd.exec
 have hby := Bd.bytes
 have hml : c.maxLocals = 3 := hml0
 have hown : s.vm.findClass "java/lang/String" = some m.cls := findClass_of_methodNamed Bd.named
 have hnm := (name_of_methodNamed Bd.named Bd.method).1
 have X0 : Stand p l e ({ frames := 2, cells := 0, slots := 0, locals := 32 } : Room) s m #[(.ref xy), (.int 58), (.int 0)] below meth c s₁ [] 0 0 := Stand.of_body Bd
 have e0 : s₁.heap = h0 := by rw [← hh, Bd.state]; rfl
 have N0 := Fr.nil n0
 have K0 := Keep.refl h0 []
 have ef : entryFrame m #[(.ref xy), (.int 58), (.int 0)] 3 = mkF m 0 #[vr xy, vi 58, vi 0] [] := by first | (simp [entryFrame, mkF, argsToLocals, Value.category]; done) | rfl
 rw [ef]
 refine fin_of fun Kx hF => ?_
 show Go p.tables e below Kx _ (mkF m 0 _ [])
 refine s_aloadN (pc' := 1) X0.here hx (hb hby d42_80_0) rfl rfl rfl ?_
 obtain ⟨_, T109, L109, X109, hQ109, st109⟩ := kV X0 hx hZ (y := yN32) hown (hv hw 60 rfl) (hv hw 61 rfl) (notFace_of_selects (args := #[]) (mvT hZ (hv hw 63 rfl))) (hv hw 63 rfl) (hv hw 62 rfl) (hv hw 8 rfl) (hv hw 64 rfl) (by decide) (rmKil l Z a0 hw [] xy h0 n0 X00 G1 S1 P1 Cxy) e0 Exy (W := 0) (g := (mkF m 1 #[vr xy, vi 58, vi 0] [(.ref xy)])) rfl (by rw [hml]; rfl) (argsL := []) (rest := []) (lenOf pd_4 rfl) rfl (by exact Nat.le_of_eq rfl) (hb hby d42_80_1) rfl (nb rfl) (nb rfl) (nb rfl) (nb rfl)
 obtain ⟨rfl, Nq109, hE109⟩ := hQ109
 have N109 := Fr.app N0 Nq109
 refine Go.tr st109 ?_
 show Go p.tables e below Kx _ (mkF m 4 _ [(.int 1)])
 refine s_ifN (pc' := 7) X109.here hx (hb hby d42_80_4) rfl ((if0 _ _).trans (feq (by decide)).1) ?_
 refine s_aloadN (pc' := 8) X109.here hx (hb hby d42_80_7) rfl rfl rfl ?_
 obtain ⟨T110, X110, e110, st110⟩ := getF X109 hx hZ hown (host := "") (Or.inl (hv hw 34 rfl)) Via.refl hE109 Vxy (g := (mkF m 8 #[vr xy, vi 58, vi 0] [(.ref xy)])) rfl rfl (hb hby d42_80_8)
 refine Go.st st110 ?_
 show Go p.tables e below Kx _ (mkF m 11 _ [(.ref yb)])
 refine s_iloadN (pc' := 12) X110.here hx (hb hby d42_80_11) rfl rfl ?_
 refine s_iloadN (pc' := 13) X110.here hx (hb hby d42_80_12) rfl rfl ?_
 refine s_aloadN (pc' := 14) X110.here hx (hb hby d42_80_13) rfl rfl rfl ?_
 obtain ⟨_, T111, L111, X111, hQ111, st111⟩ := kV X110 hx hZ (y := yN33) hown (hv hw 65 rfl) (hv hw 66 rfl) (notFace_of_selects (args := #[]) (mvT hZ (hv hw 68 rfl))) (hv hw 68 rfl) (hv hw 67 rfl) (hv hw 8 rfl) (hv hw 69 rfl) (by decide) (rmGl l Z a0 hw [] xy yb _ us h0 n0 X00 G1 S1 P1 Exy Cxy Vxy Axy) e110 Exy (W := 3) (g := (mkF m 14 #[vr xy, vi 58, vi 0] [(.ref xy), (.int 0), (.int 58), (.ref yb)])) rfl (by rw [hml]; rfl) (argsL := []) (rest := [(.int 0), (.int 58), (.ref yb)]) (lenOf pd_6 rfl) rfl (by exact Nat.le_of_eq rfl) (hb hby d42_80_14) rfl (nb rfl) (nb rfl) (nb rfl) (nb rfl)
 obtain ⟨rfl, Nq111, hE111⟩ := hQ111
 have N111 := Fr.app N109 Nq111
 refine Go.tr st111 ?_
 show Go p.tables e below Kx _ (mkF m 17 _ [(.int (Int32.ofNat us.length)), (.int 0), (.int 58), (.ref yb)])
 obtain ⟨_, T121, L121, X121, hQ121, st121⟩ := kS X111 hx hZ (y := yN43) hown (hv hw 75 rfl) (hv hw 76 rfl) (hv hw 77 rfl) (hv hw 78 rfl) (by decide) (rmPio1_58 l Z a0 hw [] yb ky us dA rA h0 n0 X00 Axy hq hus hno) hE111 (W := 0) (g := (mkF m 17 #[vr xy, vi 58, vi 0] [(.int (Int32.ofNat us.length)), (.int 0), (.int 58), (.ref yb)])) rfl (by rw [hml]; rfl) (argsL := [(.ref yb), (.int 58), (.int 0), (.int (Int32.ofNat us.length))]) (rest := []) (lenOf pd_9 rfl) rfl (by exact Nat.le_of_eq rfl) (hb hby d42_80_17) rfl (nb rfl) (nb rfl) (nb rfl) (nb rfl)
 obtain ⟨rfl, Nq121, hE121⟩ := hQ121
 have N121 := Fr.app N111 Nq121
 refine Go.st st121 ?_
 show Go p.tables e below Kx _ (mkF m 20 _ [(.int (Int32.ofNat dA.length))])
 refine s_goto (pc' := 36) X121.here hx (hb hby d42_80_20) (by decide) (by decide) ?_
 obtain ⟨fs, hr, hrun, hended, hW, hsame⟩ := X121.leave (v := (some (.int (Int32.ofNat dA.length)))) (fun h => by rw [Bd.returns] at h; cases h)
 refine Go.fin (retI X121 hx Bd.returns (hb hby d42_80_36) hr) (hF _ _ hrun hended ⟨_, _, rfl, ?_, ⟨_, rfl⟩, hW, hsame.mono (by decide) (by decide)⟩)
 ·
  show QPio2_58 Z xy yb ky us dA rA h0 n0 ((some (.int (Int32.ofNat dA.length))) : Option Value) T121.heap _
  rw [hE121]
  exact ⟨rfl, N121, rfl⟩
def QPio3_58 (Z : State) (xy yb : Addr) (ky : ClassId) (us dA rA : List Int32) (h0 : Heap) (n0 : Nat) (v : Option Value) (h : Heap) (L : List Loc) : Prop := v = some (.int (Int32.ofNat dA.length)) ∧ Fr n0 L ∧ h = h0
theorem rmPio3_58 (l : Launch) (Z : State) (a0 : Array Value) (hw : ∀ d ∈ tables_1, d.before a0 Z = true) (ws : List Jvm.Cond) (xy yb : Addr) (ky : ClassId) (us dA rA : List Int32) (h0 : Heap) (n0 : Nat) (X00 : Old Z n0 h0) (G1 : Int32) (S1 : Sta Z Z.heap "java/lang/String" "COMPACT_STRINGS" "Z" (.int G1)) (P1 : ¬ G1 = 0) (Exy : Exa Z h0 xy "java/lang/String") (Cxy : Fld Z h0 xy "java/lang/String" "coder" "B" (.int 0)) (Vxy : Fld Z h0 xy "java/lang/String" "value" "[B" (.ref yb)) (Axy : Arv Z h0 yb ky .byte (Int32.ofNat us.length) (us.map Value.int) (.int 0)) (hq : us = dA ++ 58 :: rA) (hus : us.length ≤ 4000) (hno : ∀ b ∈ dA, ¬ b = 58) :
  MetFree l yN29 (head1 (Jvm.Cond.code yN29 jdk_42_method_79_code 2 (some .int) :: ws) ({ frames := 3, cells := 0, slots := 0, locals := 46 } : Room)) (fun aa U => aa = #[(.ref xy), (.int 58)] ∧ Z.Warmed39 U.vm ∧ U.heap = h0) (fun _ _ _ _ _ => True) (fun _ U o U' => ∃ v L, o = .returned v ∧ QPio3_58 Z xy yb ky us dA rA h0 n0 v U'.heap L ∧ FrameEnd U o U' L ({ frames := 3, cells := 0, slots := 0, locals := 46 } : Room).cells ({ frames := 3, cells := 0, slots := 0, locals := 46 } : Room).slots) := by
 refine MetFree.of_bodySF (plainFor_of_name pn_3) hisR ?_
 intro p e s m args below meth c s₁ Bd hml0 hP hK
 obtain ⟨rfl, hZ, hh⟩ := hP
 have hx := Bd.exec
 have hby := Bd.bytes
 have hml : c.maxLocals = 2 := hml0
 have hown : s.vm.findClass "java/lang/String" = some m.cls := findClass_of_methodNamed Bd.named
 have hnm := (name_of_methodNamed Bd.named Bd.method).1
 have X0 : Stand p l e ({ frames := 3, cells := 0, slots := 0, locals := 46 } : Room) s m #[(.ref xy), (.int 58)] below meth c s₁ [] 0 0 := Stand.of_body Bd
 have e0 : s₁.heap = h0 := by rw [← hh, Bd.state]; rfl
 have N0 := Fr.nil n0
 have K0 := Keep.refl h0 []
 have ef : entryFrame m #[(.ref xy), (.int 58)] 2 = mkF m 0 #[vr xy, vi 58] [] := by first | (simp [entryFrame, mkF, argsToLocals, Value.category]; done) | rfl
 rw [ef]
 refine fin_of fun Kx hF => ?_
 show Go p.tables e below Kx _ (mkF m 0 _ [])
 refine s_aloadN (pc' := 1) X0.here hx (hb hby d42_79_0) rfl rfl rfl ?_
 refine s_iloadN (pc' := 2) X0.here hx (hb hby d42_79_1) rfl rfl ?_
 refine s_iconst (pc' := 3) (v := 0) X0.here hx (hb hby d42_79_2) rfl rfl ?_
 obtain ⟨_, T122, L122, X122, hQ122, st122⟩ := kV X0 hx hZ (y := yN30) hown (hv hw 55 rfl) (hv hw 56 rfl) (notFace_of_selects (args := #[]) (mvT hZ (hv hw 58 rfl))) (hv hw 58 rfl) (hv hw 57 rfl) (hv hw 8 rfl) (hv hw 59 rfl) (by decide) (rmPio2_58 l Z a0 hw [] xy yb ky us dA rA h0 n0 X00 G1 S1 P1 Exy Cxy Vxy Axy hq hus hno) e0 Exy (W := 0) (g := (mkF m 3 #[vr xy, vi 58] [(.int 0), (.int 58), (.ref xy)])) rfl (by rw [hml]; rfl) (argsL := [(.int 58), (.int 0)]) (rest := []) (lenOf pd_8 rfl) rfl (by exact Nat.le_of_eq rfl) (hb hby d42_79_3) rfl (nb rfl) (nb rfl) (nb rfl) (nb rfl)
 obtain ⟨rfl, Nq122, hE122⟩ := hQ122
 have N122 := Fr.app N0 Nq122
 refine Go.tr st122 ?_
 show Go p.tables e below Kx _ (mkF m 6 _ [(.int (Int32.ofNat dA.length))])
 obtain ⟨fs, hr, hrun, hended, hW, hsame⟩ := X122.leave (v := (some (.int (Int32.ofNat dA.length)))) (fun h => by rw [Bd.returns] at h; cases h)
 refine Go.fin (retI X122 hx Bd.returns (hb hby d42_79_6) hr) (hF _ _ hrun hended ⟨_, _, rfl, ?_, ⟨_, rfl⟩, hW, hsame.mono (by decide) (by decide)⟩)
 ·
  show QPio3_58 Z xy yb ky us dA rA h0 n0 ((some (.int (Int32.ofNat dA.length))) : Option Value) T122.heap _
  rw [hE122]
  exact ⟨rfl, N122, rfl⟩
theorem p15_3_40 : decode prog_15_method_3_code 40 = .ok (.invokevirtual 37, 3) := by decide +kernel
theorem p15_3_43 : decode prog_15_method_3_code 43 = .ok (.istore_n 1, 1) := by decide +kernel
theorem p15_3_44 : decode prog_15_method_3_code 44 = .ok (.iload_n 1, 1) := by decide +kernel
theorem p15_3_45 : decode prog_15_method_3_code 45 = .ok (.iconst (-1), 1) := by decide +kernel
theorem p15_3_46 : decode prog_15_method_3_code 46 = .ok (.if_icmp .ne 13, 3) := by decide +kernel
theorem p15_3_59 : decode prog_15_method_3_code 59 = .ok (.aload_n 0, 1) := by decide +kernel
theorem p15_3_60 : decode prog_15_method_3_code 60 = .ok (.iconst 0, 1) := by decide +kernel
theorem p15_3_61 : decode prog_15_method_3_code 61 = .ok (.iload_n 1, 1) := by decide +kernel
theorem d42_92_0 : decode jdk_42_method_92_code 0 = .ok (.aload_n 0, 1) := by decide +kernel
theorem d42_92_1 : decode jdk_42_method_92_code 1 = .ok (.invokevirtual 505, 3) := by decide +kernel
theorem d42_92_4 : decode jdk_42_method_92_code 4 = .ok (.istore_n 3, 1) := by decide +kernel
theorem d42_92_5 : decode jdk_42_method_92_code 5 = .ok (.iload_n 1, 1) := by decide +kernel
theorem d42_92_6 : decode jdk_42_method_92_code 6 = .ok (.iload_n 2, 1) := by decide +kernel
theorem d42_92_7 : decode jdk_42_method_92_code 7 = .ok (.iload_n 3, 1) := by decide +kernel
theorem d42_158_0 : decode jdk_42_method_158_code 0 = .ok (.iload_n 0, 1) := by decide +kernel
theorem d42_158_1 : decode jdk_42_method_158_code 1 = .ok (.iload_n 1, 1) := by decide +kernel
theorem d42_158_2 : decode jdk_42_method_158_code 2 = .ok (.iload_n 2, 1) := by decide +kernel
theorem d42_158_3 : decode jdk_42_method_158_code 3 = .ok (.getstatic 1053, 3) := by decide +kernel
theorem pn_5 : plainName "jdk/internal/util/Preconditions" = true := by first | (simp [plainName, overriddenIn]; done) | decide +kernel
theorem d41_12_0 : decode jdk_41_method_12_code 0 = .ok (.iload_n 0, 1) := by decide +kernel
theorem d41_12_1 : decode jdk_41_method_12_code 1 = .ok (.ifCond .lt 13, 3) := by decide +kernel
theorem d41_12_4 : decode jdk_41_method_12_code 4 = .ok (.iload_n 0, 1) := by decide +kernel
theorem d41_12_5 : decode jdk_41_method_12_code 5 = .ok (.iload_n 1, 1) := by decide +kernel
theorem d41_12_6 : decode jdk_41_method_12_code 6 = .ok (.if_icmp .gt 8, 3) := by decide +kernel
theorem d41_12_9 : decode jdk_41_method_12_code 9 = .ok (.iload_n 1, 1) := by decide +kernel
theorem d41_12_10 : decode jdk_41_method_12_code 10 = .ok (.iload_n 2, 1) := by decide +kernel
theorem d41_12_11 : decode jdk_41_method_12_code 11 = .ok (.if_icmp .le 11, 3) := by decide +kernel
theorem d41_12_22 : decode jdk_41_method_12_code 22 = .ok (.iload_n 0, 1) := by decide +kernel
theorem d41_12_23 : decode jdk_41_method_12_code 23 = .ok (.ireturn, 1) := by decide +kernel
def QPcf (Z : State) (ja jb jc : Int32) (vf : Value) (h0 : Heap) (n0 : Nat) (v : Option Value) (h : Heap) (L : List Loc) : Prop := v = some (.int ja) ∧ Fr n0 L ∧ h = h0
theorem rmPcf (l : Launch) (Z : State) (a0 : Array Value) (hw : ∀ d ∈ tables_1, d.before a0 Z = true) (ws : List Jvm.Cond) (ja jb jc : Int32) (vf : Value) (h0 : Heap) (n0 : Nat) (X00 : Old Z n0 h0) (hvf : vf.isRef = true) (h1 : ¬ ja < 0) (h2 : ¬ jb < ja) (h3 : ¬ jc < jb) :
  MetFree l yN53 (head1 (Jvm.Cond.code yN53 jdk_41_method_12_code 4 (some .int) :: ws) ({ frames := 0, cells := 0, slots := 0, locals := 0 } : Room)) (fun aa U => aa = #[(.int ja), (.int jb), (.int jc), vf] ∧ Z.Warmed39 U.vm ∧ U.heap = h0) (fun _ _ _ _ _ => True) (fun _ U o U' => ∃ v L, o = .returned v ∧ QPcf Z ja jb jc vf h0 n0 v U'.heap L ∧ FrameEnd U o U' L ({ frames := 0, cells := 0, slots := 0, locals := 0 } : Room).cells ({ frames := 0, cells := 0, slots := 0, locals := 0 } : Room).slots) := by
 refine MetFree.of_bodySF (plainFor_of_name pn_5) hisR ?_
 intro p e s m args below meth c s₁ Bd hml0 hP hK
 obtain ⟨rfl, hZ, hh⟩ := hP
 have hx := Bd.exec
 have hby := Bd.bytes
 have hml : c.maxLocals = 4 := hml0
 have hown : s.vm.findClass "jdk/internal/util/Preconditions" = some m.cls := findClass_of_methodNamed Bd.named
 have hnm := (name_of_methodNamed Bd.named Bd.method).1
 have X0 : Stand p l e ({ frames := 0, cells := 0, slots := 0, locals := 0 } : Room) s m #[(.int ja), (.int jb), (.int jc), vf] below meth c s₁ [] 0 0 := Stand.of_body Bd
 have e0 : s₁.heap = h0 := by rw [← hh, Bd.state]; rfl
 have N0 := Fr.nil n0
 have K0 := Keep.refl h0 []
 have ef : entryFrame m #[(.int ja), (.int jb), (.int jc), vf] 4 = mkF m 0 #[vi ja, vi jb, vi jc, .val vf] [] := (by rcases ref_cases hvf with rfl | ⟨_, rfl⟩ <;> rfl)
 rw [ef]
 refine fin_of fun Kx hF => ?_
 show Go p.tables e below Kx _ (mkF m 0 _ [])
 refine s_iloadN (pc' := 1) X0.here hx (hb hby d41_12_0) rfl rfl ?_
 refine s_ifN (pc' := 4) X0.here hx (hb hby d41_12_1) rfl ((if0 _ _).trans (flt h1).1) ?_
 refine s_iloadN (pc' := 5) X0.here hx (hb hby d41_12_4) rfl rfl ?_
 refine s_iloadN (pc' := 6) X0.here hx (hb hby d41_12_5) rfl rfl ?_
 refine s_icmpN (pc' := 9) X0.here hx (hb hby d41_12_6) rfl (flt h2).2.2.1 ?_
 refine s_iloadN (pc' := 10) X0.here hx (hb hby d41_12_9) rfl rfl ?_
 refine s_iloadN (pc' := 11) X0.here hx (hb hby d41_12_10) rfl rfl ?_
 refine s_icmpY (pc' := 22) X0.here hx (hb hby d41_12_11) (flt h3).2.2.2 (by decide) (by decide) ?_
 refine s_iloadN (pc' := 23) X0.here hx (hb hby d41_12_22) rfl rfl ?_
 obtain ⟨fs, hr, hrun, hended, hW, hsame⟩ := X0.leave (v := (some (.int ja))) (fun h => by rw [Bd.returns] at h; cases h)
 refine Go.fin (retI X0 hx Bd.returns (hb hby d41_12_23) hr) (hF _ _ hrun hended ⟨_, _, rfl, ?_, ⟨_, rfl⟩, hW, hsame.mono (by decide) (by decide)⟩)
 ·
  show QPcf Z ja jb jc vf h0 n0 ((some (.int ja)) : Option Value) s₁.heap _
  rw [e0]
  exact ⟨rfl, N0, rfl⟩
theorem pd_11 : parseMethodDescriptor "(IIILjava/util/function/BiFunction;)I" = some ⟨[.int, .int, .int, (.object "java/util/function/BiFunction")], some .int⟩ := by decide +kernel
theorem d42_158_6 : decode jdk_42_method_158_code 6 = .ok (.invokestatic 1062, 3) := by decide +kernel
theorem d42_158_9 : decode jdk_42_method_158_code 9 = .ok (.pop, 1) := by decide +kernel
theorem d42_158_10 : decode jdk_42_method_158_code 10 = .ok (.return_, 1) := by decide +kernel
def QPcb (Z : State) (ja jb jc : Int32) (h0 : Heap) (n0 : Nat) (v : Option Value) (h : Heap) (L : List Loc) : Prop := v = none ∧ Fr n0 L ∧ h = h0
theorem rmPcb (l : Launch) (Z : State) (a0 : Array Value) (hw : ∀ d ∈ tables_1, d.before a0 Z = true) (ws : List Jvm.Cond) (ja jb jc : Int32) (h0 : Heap) (n0 : Nat) (X00 : Old Z n0 h0) (vf : Value) (hvf : vf.isRef = true) (SFm : Sta Z Z.heap "jdk/internal/util/Preconditions" "SIOOBE_FORMATTER" "Ljava/util/function/BiFunction;" vf) (h1 : ¬ ja < 0) (h2 : ¬ jb < ja) (h3 : ¬ jc < jb) :
  MetFree l yN22 (head1 (Jvm.Cond.code yN22 jdk_42_method_158_code 3 none :: ws) ({ frames := 1, cells := 0, slots := 0, locals := 15 } : Room)) (fun aa U => aa = #[(.int ja), (.int jb), (.int jc)] ∧ Z.Warmed39 U.vm ∧ U.heap = h0) (fun _ _ _ _ _ => True) (fun _ U o U' => ∃ v L, o = .returned v ∧ QPcb Z ja jb jc h0 n0 v U'.heap L ∧ FrameEnd U o U' L ({ frames := 1, cells := 0, slots := 0, locals := 15 } : Room).cells ({ frames := 1, cells := 0, slots := 0, locals := 15 } : Room).slots) := by
 refine MetFree.of_bodySF (plainFor_of_name pn_3) hisR ?_
 intro p e s m args below meth c s₁ Bd hml0 hP hK
 obtain ⟨rfl, hZ, hh⟩ := hP
 have hx := Bd.exec
 have hby := Bd.bytes
 have hml : c.maxLocals = 3 := hml0
 have hown : s.vm.findClass "java/lang/String" = some m.cls := findClass_of_methodNamed Bd.named
 have hnm := (name_of_methodNamed Bd.named Bd.method).1
 have X0 : Stand p l e ({ frames := 1, cells := 0, slots := 0, locals := 15 } : Room) s m #[(.int ja), (.int jb), (.int jc)] below meth c s₁ [] 0 0 := Stand.of_body Bd
 have e0 : s₁.heap = h0 := by rw [← hh, Bd.state]; rfl
 have N0 := Fr.nil n0
 have K0 := Keep.refl h0 []
 have ef : entryFrame m #[(.int ja), (.int jb), (.int jc)] 3 = mkF m 0 #[vi ja, vi jb, vi jc] [] := by first | (simp [entryFrame, mkF, argsToLocals, Value.category]; done) | rfl
 rw [ef]
 refine fin_of fun Kx hF => ?_
 show Go p.tables e below Kx _ (mkF m 0 _ [])
 refine s_iloadN (pc' := 1) X0.here hx (hb hby d42_158_0) rfl rfl ?_
 refine s_iloadN (pc' := 2) X0.here hx (hb hby d42_158_1) rfl rfl ?_
 refine s_iloadN (pc' := 3) X0.here hx (hb hby d42_158_2) rfl rfl ?_
 obtain ⟨T125, X125, e125, st125⟩ := getS2 X0 hx hZ hown (host := "") (Or.inl (hv hw 100 rfl)) Via.refl e0 (SFm.ext X00.2) (g := (mkF m 3 #[vi ja, vi jb, vi jc] [(.int jc), (.int jb), (.int ja)])) rfl (hb hby d42_158_3)
 refine Go.st st125 ?_
 show Go p.tables e below Kx _ (mkF m 6 _ [vf, (.int jc), (.int jb), (.int ja)])
 obtain ⟨_, T126, L126, X126, hQ126, st126⟩ := kS X125 hx hZ (y := yN53) hown (hv hw 102 rfl) (hv hw 103 rfl) (hv hw 101 rfl) (hv hw 104 rfl) (by decide) (rmPcf l Z a0 hw [] ja jb jc vf h0 n0 X00 hvf h1 h2 h3) e125 (W := 0) (g := (mkF m 6 #[vi ja, vi jb, vi jc] [vf, (.int jc), (.int jb), (.int ja)])) rfl (by rw [hml]; rfl) (argsL := [(.int ja), (.int jb), (.int jc), vf]) (rest := []) (lenOf pd_11 rfl) rfl (by exact Nat.le_of_eq rfl) (hb hby d42_158_6) rfl (nb rfl) (nb rfl) (nb rfl) (nb rfl)
 obtain ⟨rfl, Nq126, hE126⟩ := hQ126
 have N126 := Fr.app N0 Nq126
 refine Go.st st126 ?_
 show Go p.tables e below Kx _ (mkF m 9 _ [(.int ja)])
 refine s_pop (pc' := 10) X126.here hx (hb hby d42_158_9) rfl rfl ?_
 obtain ⟨fs, hr, hrun, hended, hW, hsame⟩ := X126.leave (v := none) (fun _ => rfl)
 refine Go.fin (X126.returnOut hx Bd.returns (hb hby d42_158_10) hr) (hF _ _ hrun hended ⟨_, _, rfl, ?_, ⟨_, rfl⟩, hW, hsame.mono (by decide) (by decide)⟩)
 ·
  show QPcb Z ja jb jc h0 n0 (none : Option Value) T126.heap _
  rw [hE126]
  exact ⟨rfl, N126, rfl⟩
theorem pd_12 : parseMethodDescriptor "(III)V" = some ⟨[.int, .int, .int], none⟩ := by decide +kernel
theorem d42_92_8 : decode jdk_42_method_92_code 8 = .ok (.invokestatic 521, 3) := by decide +kernel
theorem d42_92_11 : decode jdk_42_method_92_code 11 = .ok (.iload_n 1, 1) := by decide +kernel
theorem d42_92_12 : decode jdk_42_method_92_code 12 = .ok (.ifCond .ne 10, 3) := by decide +kernel
theorem d42_92_15 : decode jdk_42_method_92_code 15 = .ok (.iload_n 2, 1) := by decide +kernel
theorem d42_92_16 : decode jdk_42_method_92_code 16 = .ok (.iload_n 3, 1) := by decide +kernel
theorem d42_92_17 : decode jdk_42_method_92_code 17 = .ok (.if_icmp .ne 5, 3) := by decide +kernel
theorem d42_92_22 : decode jdk_42_method_92_code 22 = .ok (.iload_n 2, 1) := by decide +kernel
theorem d42_92_23 : decode jdk_42_method_92_code 23 = .ok (.iload_n 1, 1) := by decide +kernel
theorem d42_92_24 : decode jdk_42_method_92_code 24 = .ok (.isub, 1) := by decide +kernel
theorem d42_92_25 : decode jdk_42_method_92_code 25 = .ok (.istore 4, 2) := by decide +kernel
theorem d42_92_27 : decode jdk_42_method_92_code 27 = .ok (.aload_n 0, 1) := by decide +kernel
theorem d42_92_28 : decode jdk_42_method_92_code 28 = .ok (.invokevirtual 492, 3) := by decide +kernel
theorem d42_92_31 : decode jdk_42_method_92_code 31 = .ok (.ifCond .eq 16, 3) := by decide +kernel
theorem d42_92_34 : decode jdk_42_method_92_code 34 = .ok (.aload_n 0, 1) := by decide +kernel
theorem d42_92_35 : decode jdk_42_method_92_code 35 = .ok (.getfield 9, 3) := by decide +kernel
theorem d42_92_38 : decode jdk_42_method_92_code 38 = .ok (.iload_n 1, 1) := by decide +kernel
theorem d42_92_39 : decode jdk_42_method_92_code 39 = .ok (.iload 4, 2) := by decide +kernel
theorem d43_47_0 : decode jdk_43_method_47_code 0 = .ok (.iload_n 2, 1) := by decide +kernel
theorem d43_47_1 : decode jdk_43_method_47_code 1 = .ok (.ifCond .ne 6, 3) := by decide +kernel
theorem d43_47_7 : decode jdk_43_method_47_code 7 = .ok (.new 1, 3) := by decide +kernel
theorem d43_47_10 : decode jdk_43_method_47_code 10 = .ok (.dup, 1) := by decide +kernel
theorem d43_47_11 : decode jdk_43_method_47_code 11 = .ok (.aload_n 0, 1) := by decide +kernel
theorem d43_47_12 : decode jdk_43_method_47_code 12 = .ok (.iload_n 1, 1) := by decide +kernel
theorem d43_47_13 : decode jdk_43_method_47_code 13 = .ok (.iload_n 1, 1) := by decide +kernel
theorem d43_47_14 : decode jdk_43_method_47_code 14 = .ok (.iload_n 2, 1) := by decide +kernel
theorem d43_47_15 : decode jdk_43_method_47_code 15 = .ok (.iadd, 1) := by decide +kernel
theorem pn_6 : plainName "java/util/Arrays" = true := by first | (simp [plainName, overriddenIn]; done) | decide +kernel
theorem d65_132_0 : decode jdk_65_method_132_code 0 = .ok (.iload_n 1, 1) := by decide +kernel
theorem d65_132_1 : decode jdk_65_method_132_code 1 = .ok (.ifCond .ne 9, 3) := by decide +kernel
theorem d65_132_4 : decode jdk_65_method_132_code 4 = .ok (.iload_n 2, 1) := by decide +kernel
theorem d65_132_5 : decode jdk_65_method_132_code 5 = .ok (.aload_n 0, 1) := by decide +kernel
theorem d65_132_6 : decode jdk_65_method_132_code 6 = .ok (.arraylength, 1) := by decide +kernel
theorem d65_132_7 : decode jdk_65_method_132_code 7 = .ok (.if_icmp .eq 10, 3) := by decide +kernel
theorem d65_132_10 : decode jdk_65_method_132_code 10 = .ok (.aload_n 0, 1) := by decide +kernel
theorem d65_132_11 : decode jdk_65_method_132_code 11 = .ok (.iload_n 1, 1) := by decide +kernel
theorem d65_132_12 : decode jdk_65_method_132_code 12 = .ok (.iload_n 2, 1) := by decide +kernel
theorem d65_133_0 : decode jdk_65_method_133_code 0 = .ok (.iload_n 1, 1) := by decide +kernel
theorem d65_133_1 : decode jdk_65_method_133_code 1 = .ok (.iload_n 2, 1) := by decide +kernel
theorem d65_131_0 : decode jdk_65_method_131_code 0 = .ok (.iload_n 1, 1) := by decide +kernel
theorem d65_131_1 : decode jdk_65_method_131_code 1 = .ok (.iload_n 0, 1) := by decide +kernel
theorem d65_131_2 : decode jdk_65_method_131_code 2 = .ok (.if_icmp .ge 35, 3) := by decide +kernel
theorem d65_131_37 : decode jdk_65_method_131_code 37 = .ok (.return_, 1) := by decide +kernel
def QPck (Z : State) (ja jb : Int32) (h0 : Heap) (n0 : Nat) (v : Option Value) (h : Heap) (L : List Loc) : Prop := v = none ∧ Fr n0 L ∧ h = h0
theorem rmPck (l : Launch) (Z : State) (a0 : Array Value) (hw : ∀ d ∈ tables_1, d.before a0 Z = true) (ws : List Jvm.Cond) (ja jb : Int32) (h0 : Heap) (n0 : Nat) (X00 : Old Z n0 h0) (hlt : ¬ jb < ja) :
  MetFree l yN48 (head1 (Jvm.Cond.code yN48 jdk_65_method_131_code 2 none :: ws) ({ frames := 0, cells := 0, slots := 0, locals := 0 } : Room)) (fun aa U => aa = #[(.int ja), (.int jb)] ∧ Z.Warmed39 U.vm ∧ U.heap = h0) (fun _ _ _ _ _ => True) (fun _ U o U' => ∃ v L, o = .returned v ∧ QPck Z ja jb h0 n0 v U'.heap L ∧ FrameEnd U o U' L ({ frames := 0, cells := 0, slots := 0, locals := 0 } : Room).cells ({ frames := 0, cells := 0, slots := 0, locals := 0 } : Room).slots) := by
 refine MetFree.of_bodySF (plainFor_of_name pn_6) hisR ?_
 intro p e s m args below meth c s₁ Bd hml0 hP hK
 obtain ⟨rfl, hZ, hh⟩ := hP
 have hx := Bd.exec
 have hby := Bd.bytes
 have hml : c.maxLocals = 2 := hml0
 have hown : s.vm.findClass "java/util/Arrays" = some m.cls := findClass_of_methodNamed Bd.named
 have hnm := (name_of_methodNamed Bd.named Bd.method).1
 have X0 : Stand p l e ({ frames := 0, cells := 0, slots := 0, locals := 0 } : Room) s m #[(.int ja), (.int jb)] below meth c s₁ [] 0 0 := Stand.of_body Bd
 have e0 : s₁.heap = h0 := by rw [← hh, Bd.state]; rfl
 have N0 := Fr.nil n0
 have K0 := Keep.refl h0 []
 have ef : entryFrame m #[(.int ja), (.int jb)] 2 = mkF m 0 #[vi ja, vi jb] [] := by first | (simp [entryFrame, mkF, argsToLocals, Value.category]; done) | rfl
 rw [ef]
 refine fin_of fun Kx hF => ?_
 show Go p.tables e below Kx _ (mkF m 0 _ [])
 refine s_iloadN (pc' := 1) X0.here hx (hb hby d65_131_0) rfl rfl ?_
 refine s_iloadN (pc' := 2) X0.here hx (hb hby d65_131_1) rfl rfl ?_
 refine s_icmpY (pc' := 37) X0.here hx (hb hby d65_131_2) (flt hlt).2.1 (by decide) (by decide) ?_
 obtain ⟨fs, hr, hrun, hended, hW, hsame⟩ := X0.leave (v := none) (fun _ => rfl)
 refine Go.fin (X0.returnOut hx Bd.returns (hb hby d65_131_37) hr) (hF _ _ hrun hended ⟨_, _, rfl, ?_, ⟨_, rfl⟩, hW, hsame.mono (by decide) (by decide)⟩)
 ·
  show QPck Z ja jb h0 n0 (none : Option Value) s₁.heap _
  rw [e0]
  exact ⟨rfl, N0, rfl⟩
theorem pd_13 : parseMethodDescriptor "(II)V" = some ⟨[.int, .int], none⟩ := by decide +kernel
theorem d65_133_2 : decode jdk_65_method_133_code 2 = .ok (.invokestatic 343, 3) := by decide +kernel
theorem d65_133_5 : decode jdk_65_method_133_code 5 = .ok (.iload_n 2, 1) := by decide +kernel
theorem d65_133_6 : decode jdk_65_method_133_code 6 = .ok (.iload_n 1, 1) := by decide +kernel
theorem d65_133_7 : decode jdk_65_method_133_code 7 = .ok (.isub, 1) := by decide +kernel
theorem d65_133_8 : decode jdk_65_method_133_code 8 = .ok (.istore_n 3, 1) := by decide +kernel
theorem d65_133_9 : decode jdk_65_method_133_code 9 = .ok (.iload_n 3, 1) := by decide +kernel
theorem d65_133_10 : decode jdk_65_method_133_code 10 = .ok (.newarray .byte, 2) := by decide +kernel
theorem d65_133_12 : decode jdk_65_method_133_code 12 = .ok (.astore 4, 2) := by decide +kernel
theorem d65_133_14 : decode jdk_65_method_133_code 14 = .ok (.aload_n 0, 1) := by decide +kernel
theorem d65_133_15 : decode jdk_65_method_133_code 15 = .ok (.iload_n 1, 1) := by decide +kernel
theorem d65_133_16 : decode jdk_65_method_133_code 16 = .ok (.aload 4, 2) := by decide +kernel
theorem d65_133_18 : decode jdk_65_method_133_code 18 = .ok (.iconst 0, 1) := by decide +kernel
theorem d65_133_19 : decode jdk_65_method_133_code 19 = .ok (.aload_n 0, 1) := by decide +kernel
theorem d65_133_20 : decode jdk_65_method_133_code 20 = .ok (.arraylength, 1) := by decide +kernel
theorem d65_133_21 : decode jdk_65_method_133_code 21 = .ok (.iload_n 1, 1) := by decide +kernel
theorem d65_133_22 : decode jdk_65_method_133_code 22 = .ok (.isub, 1) := by decide +kernel
theorem d65_133_23 : decode jdk_65_method_133_code 23 = .ok (.iload_n 3, 1) := by decide +kernel
theorem d29_69_9 : decode jdk_29_method_69_code 9 = .ok (.iload_n 1, 1) := by decide +kernel
def QGmin (Z : State) (ja jb : Int32) (h0 : Heap) (n0 : Nat) (v : Option Value) (h : Heap) (L : List Loc) : Prop := v = some (.int jb) ∧ Fr n0 L ∧ h = h0
theorem rmGmin (l : Launch) (Z : State) (a0 : Array Value) (hw : ∀ d ∈ tables_1, d.before a0 Z = true) (ws : List Jvm.Cond) (ja jb : Int32) (h0 : Heap) (n0 : Nat) (X00 : Old Z n0 h0) (hlt : jb < ja) :
  MetFree l yN17 (head1 (Jvm.Cond.code yN17 jdk_29_method_69_code 2 (some .int) :: ws) ({ frames := 0, cells := 0, slots := 0, locals := 0 } : Room)) (fun aa U => aa = #[(.int ja), (.int jb)] ∧ Z.Warmed39 U.vm ∧ U.heap = h0) (fun _ _ _ _ _ => True) (fun _ U o U' => ∃ v L, o = .returned v ∧ QGmin Z ja jb h0 n0 v U'.heap L ∧ FrameEnd U o U' L ({ frames := 0, cells := 0, slots := 0, locals := 0 } : Room).cells ({ frames := 0, cells := 0, slots := 0, locals := 0 } : Room).slots) := by
 refine MetFree.of_bodySF (Jvm.Free.JP.mathPlain rfl (by decide +kernel)) hisR ?_
 intro p e s m args below meth c s₁ Bd hml0 hP hK
 obtain ⟨rfl, hZ, hh⟩ := hP
 have hx := Bd.exec
 have hby := Bd.bytes
 have hml : c.maxLocals = 2 := hml0
 have hown : s.vm.findClass "java/lang/Math" = some m.cls := findClass_of_methodNamed Bd.named
 have hnm := (name_of_methodNamed Bd.named Bd.method).1
 have X0 : Stand p l e ({ frames := 0, cells := 0, slots := 0, locals := 0 } : Room) s m #[(.int ja), (.int jb)] below meth c s₁ [] 0 0 := Stand.of_body Bd
 have e0 : s₁.heap = h0 := by rw [← hh, Bd.state]; rfl
 have N0 := Fr.nil n0
 have K0 := Keep.refl h0 []
 have ef : entryFrame m #[(.int ja), (.int jb)] 2 = mkF m 0 #[vi ja, vi jb] [] := by first | (simp [entryFrame, mkF, argsToLocals, Value.category]; done) | rfl
 rw [ef]
 refine fin_of fun Kx hF => ?_
 show Go p.tables e below Kx _ (mkF m 0 _ [])
 refine s_iloadN (pc' := 1) X0.here hx (hb hby d29_69_0) rfl rfl ?_
 refine s_iloadN (pc' := 2) X0.here hx (hb hby d29_69_1) rfl rfl ?_
 refine s_icmpY (pc' := 9) X0.here hx (hb hby d29_69_2) (tlt hlt).2.2.1 (by decide) (by decide) ?_
 refine s_iloadN (pc' := 10) X0.here hx (hb hby d29_69_9) rfl rfl ?_
 obtain ⟨fs, hr, hrun, hended, hW, hsame⟩ := X0.leave (v := (some (.int jb))) (fun h => by rw [Bd.returns] at h; cases h)
 refine Go.fin (retI X0 hx Bd.returns (hb hby d29_69_10) hr) (hF _ _ hrun hended ⟨_, _, rfl, ?_, ⟨_, rfl⟩, hW, hsame.mono (by decide) (by decide)⟩)
 ·
  show QGmin Z ja jb h0 n0 ((some (.int jb)) : Option Value) s₁.heap _
  rw [e0]
  exact ⟨rfl, N0, rfl⟩
theorem d65_133_24 : decode jdk_65_method_133_code 24 = .ok (.invokestatic 304, 3) := by decide +kernel
theorem d65_133_27 : decode jdk_65_method_133_code 27 = .ok (.invokestatic 150, 3) := by decide +kernel
theorem d65_133_30 : decode jdk_65_method_133_code 30 = .ok (.aload 4, 2) := by decide +kernel
theorem d65_133_32 : decode jdk_65_method_133_code 32 = .ok (.areturn, 1) := by decide +kernel
def QPq1 (Z : State) (xt : Addr) (kt : ClassId) (us B Cc : List Int32) (h0 : Heap) (n0 : Nat) (v : Option Value) (h : Heap) (L : List Loc) : Prop := ∃ (t : Addr) (k : ClassId), v = some (.ref t) ∧ Fr n0 L ∧ Keep h0 h [] ∧ h0.size ≤ t ∧ Exa Z h t "[B" ∧ Arv Z h t k .byte (Int32.ofNat B.length) (B.map Value.int) (.int 0)
theorem rmPq1 (l : Launch) (Z : State) (a0 : Array Value) (hw : ∀ d ∈ tables_1, d.before a0 Z = true) (ws : List Jvm.Cond) (xt : Addr) (kt : ClassId) (us B Cc : List Int32) (h0 : Heap) (n0 : Nat) (X00 : Old Z n0 h0) (Axt : Arv Z h0 xt kt .byte (Int32.ofNat us.length) (us.map Value.int) (.int 0)) (hq : us = B ++ Cc) (hC : Cc ≠ []) (hB : B ≠ []) (hl : us.length < 16) :
  MetFree l yN51 (head1 (Jvm.Cond.code yN51 jdk_65_method_133_code 5 (some (.array .byte)) :: ws) ({ frames := 1, cells := 1, slots := 16, locals := 18 } : Room)) (fun aa U => aa = #[(.ref xt), (.int 0), (.int (Int32.ofNat B.length))] ∧ Z.Warmed39 U.vm ∧ U.heap = h0) (fun _ _ _ _ _ => True) (fun _ U o U' => ∃ v L, o = .returned v ∧ QPq1 Z xt kt us B Cc h0 n0 v U'.heap L ∧ FrameEnd U o U' L ({ frames := 1, cells := 1, slots := 16, locals := 18 } : Room).cells ({ frames := 1, cells := 1, slots := 16, locals := 18 } : Room).slots) := by
 refine MetFree.of_bodySF (plainFor_of_name pn_6) hisR ?_
 intro p e s m args below meth c s₁ Bd hml0 hP hK
 obtain ⟨rfl, hZ, hh⟩ := hP
 have hx := Bd.exec
 have hby := Bd.bytes
 have hml : c.maxLocals = 5 := hml0
 have hown : s.vm.findClass "java/util/Arrays" = some m.cls := findClass_of_methodNamed Bd.named
 have hnm := (name_of_methodNamed Bd.named Bd.method).1
 have X0 : Stand p l e ({ frames := 1, cells := 1, slots := 16, locals := 18 } : Room) s m #[(.ref xt), (.int 0), (.int (Int32.ofNat B.length))] below meth c s₁ [] 0 0 := Stand.of_body Bd
 have e0 : s₁.heap = h0 := by rw [← hh, Bd.state]; rfl
 have N0 := Fr.nil n0
 have K0 := Keep.refl h0 []
 have ef : entryFrame m #[(.ref xt), (.int 0), (.int (Int32.ofNat B.length))] 5 = mkF m 0 #[vr xt, vi 0, .val (.int (Int32.ofNat B.length)), un, un] [] := by first | (simp [entryFrame, mkF, argsToLocals, Value.category]; done) | rfl
 rw [ef]
 refine fin_of fun Kx hF => ?_
 show Go p.tables e below Kx _ (mkF m 0 _ [])
 have hb4 : B.length ≤ 4000 := by have e := congrArg List.length hq; rw [List.length_append] at e; omega
 have hb16 : B.length ≤ 16 := by have e := congrArg List.length hq; rw [List.length_append] at e; omega
 show Go p.tables e below Kx _ (mkF m 0 _ [])
 refine s_iloadN (pc' := 1) X0.here hx (hb hby d65_133_0) rfl rfl ?_
 refine s_iloadN (pc' := 2) X0.here hx (hb hby d65_133_1) rfl rfl ?_
 obtain ⟨_, T132, L132, X132, hQ132, st132⟩ := kS X0 hx hZ (y := yN48) hown (hv hw 116 rfl) (hv hw 117 rfl) (hv hw 111 rfl) (hv hw 118 rfl) (by decide) (rmPck l Z a0 hw [] 0 (Int32.ofNat B.length) h0 n0 X00 (nn0 hb4)) e0 (W := 0) (g := (mkF m 2 #[vr xt, vi 0, .val (.int (Int32.ofNat B.length)), un, un] [(.int (Int32.ofNat B.length)), (.int 0)])) rfl (by rw [hml]; rfl) (argsL := [(.int 0), (.int (Int32.ofNat B.length))]) (rest := []) (lenOf pd_13 rfl) rfl (by exact Nat.le_of_eq rfl) (hb hby d65_133_2) rfl (nb rfl) (nb rfl) (nb rfl) (nb rfl)
 obtain ⟨rfl, Nq132, hE132⟩ := hQ132
 have N132 := Fr.app N0 Nq132
 refine Go.st st132 ?_
 show Go p.tables e below Kx _ (mkF m 5 _ [])
 refine s_iloadN (pc' := 6) X132.here hx (hb hby d65_133_5) rfl rfl ?_
 refine s_iloadN (pc' := 7) X132.here hx (hb hby d65_133_6) rfl rfl ?_
 refine s_isub (pc' := 8) (z := (Int32.ofNat B.length)) X132.here hx (hb hby d65_133_7) rfl (Int32.sub_zero _) ?_
 refine s_istoreN (pc' := 9) (Ls' := #[vr xt, vi 0, .val (.int (Int32.ofNat B.length)), .val (.int (Int32.ofNat B.length)), un]) X132.here hx (hb hby d65_133_8) rfl  rfl ?_
 refine s_iloadN (pc' := 10) X132.here hx (hb hby d65_133_9) rfl rfl ?_
 obtain ⟨T133, h133, k133, X133, e133, E133, A133, B133, st133⟩ := newPE X132 hx hZ (hv hw 25 rfl) hE132 (g := (mkF m 10 #[vr xt, vi 0, .val (.int (Int32.ofNat B.length)), .val (.int (Int32.ofNat B.length)), un] [(.int (Int32.ofNat B.length))])) rfl (hb hby d65_133_10) rfl (nn0 hb4) (cap := 16) (by rw [nl hb4]; exact hb16) (by decide) (by decide) (by decide) (ad := "[B") (by decide)
 obtain ⟨b133, g133⟩ : ∃ z, z = h0.size := ⟨_, rfl⟩
 rw [← g133] at A133 B133 st133
 have sz133 : h0.size ≤ b133 := Nat.le_trans K0.1 (Nat.le_of_eq g133.symm)
 have ge133 : n0 ≤ b133 := Nat.le_trans (X00.1 ▸ X00.2.1) (Nat.le_of_eq g133.symm)
 have K133 : Keep h0 h133 [] := K0.ext E133
 have O133 : Old Z n0 h133 := X00.ext E133
 have V133 : Arv Z h133 b133 k133 .byte (Int32.ofNat B.length) (pad B.length []) (.int 0) := newPad (n := B.length) A133 hb4
 refine Go.st st133 ?_
 show Go p.tables e below Kx _ (mkF m 12 _ [(.ref b133)])
 refine s_astore (pc' := 14) (Ls' := #[vr xt, vi 0, .val (.int (Int32.ofNat B.length)), .val (.int (Int32.ofNat B.length)), vr b133]) X133.here hx (hb hby d65_133_12) rfl rfl rfl ?_
 refine s_aloadN (pc' := 15) X133.here hx (hb hby d65_133_14) rfl rfl rfl ?_
 refine s_iloadN (pc' := 16) X133.here hx (hb hby d65_133_15) rfl rfl ?_
 refine s_aload (pc' := 18) X133.here hx (hb hby d65_133_16) rfl rfl rfl ?_
 refine s_iconst (pc' := 19) (v := 0) X133.here hx (hb hby d65_133_18) rfl rfl ?_
 refine s_aloadN (pc' := 20) X133.here hx (hb hby d65_133_19) rfl rfl rfl ?_
 have f134 : Arv Z h133 xt kt .byte (Int32.ofNat us.length) (us.map Value.int) (.int 0) := (Axt.ext E133)
 obtain ⟨cl135, Ar135, Aq135, As135, An135, Ah135, Ag135⟩ := id f134
 refine Go.st (X133.arraylength hx (by rw [e133]; exact Ar135.1) (State.isArrayOf_alike hZ.alike Ar135.2.1) (g := (mkF m 20 #[vr xt, vi 0, .val (.int (Int32.ofNat B.length)), .val (.int (Int32.ofNat B.length)), vr b133] [(.ref xt), (.int 0), (.ref b133), (.int 0), (.ref xt)])) rfl rfl (hb hby d65_133_20)) ?_
 rw [len_of As135 An135]
 show Go p.tables e below Kx _ (mkF m 21 _ [(.int (Int32.ofNat us.length)), (.int 0), (.ref b133), (.int 0), (.ref xt)])
 refine s_iloadN (pc' := 22) X133.here hx (hb hby d65_133_21) rfl rfl ?_
 refine s_isub (pc' := 23) (z := (Int32.ofNat us.length)) X133.here hx (hb hby d65_133_22) rfl (Int32.sub_zero _) ?_
 refine s_iloadN (pc' := 24) X133.here hx (hb hby d65_133_23) rfl rfl ?_
 obtain ⟨_, T136, L136, X136, hQ136, st136⟩ := kS X133 hx hZ (y := yN17) hown (hv hw 119 rfl) (hv hw 87 rfl) (hv hw 84 rfl) (hv hw 88 rfl) (by decide) (rmGmin l Z a0 hw [] (Int32.ofNat us.length) (Int32.ofNat B.length) h133 n0 O133 (lt_app hq hC (le4 hl))) e133 (W := 4) (g := (mkF m 24 #[vr xt, vi 0, .val (.int (Int32.ofNat B.length)), .val (.int (Int32.ofNat B.length)), vr b133] [(.int (Int32.ofNat B.length)), (.int (Int32.ofNat us.length)), (.int 0), (.ref b133), (.int 0), (.ref xt)])) rfl (by rw [hml]; rfl) (argsL := [(.int (Int32.ofNat us.length)), (.int (Int32.ofNat B.length))]) (rest := [(.int 0), (.ref b133), (.int 0), (.ref xt)]) (lenOf pd_8 rfl) rfl (by exact Nat.le_of_eq rfl) (hb hby d65_133_24) rfl (nb rfl) (nb rfl) (nb rfl) (nb rfl)
 obtain ⟨rfl, Nq136, hE136⟩ := hQ136
 have N136 := Fr.app N132 Nq136
 refine Go.st st136 ?_
 show Go p.tables e below Kx _ (mkF m 27 _ [(.int (Int32.ofNat B.length)), (.int 0), (.ref b133), (.int 0), (.ref xt)])
 obtain ⟨T137, h137, L137, X137, e137, N137, KK137, V137, st137⟩ := cpMid X136 hx hZ hown (hv hw 120 rfl) (hv hw 123 rfl) (hv hw 121 rfl) (hv hw 122 rfl) hE136 (A := ([] : List Int32)) (B := B) (C := Cc) hq (le4 hl) f134 V133 N136 ge133 (g := (mkF m 27 #[vr xt, vi 0, .val (.int (Int32.ofNat B.length)), .val (.int (Int32.ofNat B.length)), vr b133] [(.int (Int32.ofNat B.length)), (.int 0), (.ref b133), (.int 0), (.ref xt)])) rfl (by rw [hml]; rfl) rfl (hb hby d65_133_27) (by decide) (W := 0) (by exact Nat.le_of_eq rfl) (by decide)
 have K137 : Keep h0 h137 [] := K133.trans KK137 (allS (P := fun zz => zz ∈ [] ∨ h0.size ≤ zz) (Or.inr sz133) all0)
 have O137 : Old Z n0 h137 := O133.keep KK137 (allS ge133 all0)
 refine Go.st st137 ?_
 show Go p.tables e below Kx _ (mkF m 30 _ [])
 refine s_aload (pc' := 32) X137.here hx (hb hby d65_133_30) rfl rfl rfl ?_
 have f138 : Exa Z h137 b133 "[B" := (B133.keep KK137)
 obtain ⟨fs, hr, hrun, hended, hW, hsame⟩ := X137.leave (v := (some (.ref b133))) (fun h => by rw [Bd.returns] at h; cases h)
 refine Go.fin (retOut X137 hx Bd.returns rfl (Or.inr (Or.inr (Or.inr (Or.inr ⟨rfl, rfl, rfl⟩)))) (hb hby d65_133_32) hr) (hF _ _ hrun hended ⟨_, _, rfl, ?_, ⟨_, rfl⟩, hW, hsame.mono (by decide) (by decide)⟩)
 ·
  show QPq1 Z xt kt us B Cc h0 n0 ((some (.ref b133)) : Option Value) T137.heap _
  rw [e137]
  exact ⟨_, _, rfl, N137, K137, sz133, f138, V137⟩
theorem pd_14 : parseMethodDescriptor "([BII)[B" = some ⟨[(.array .byte), .int, .int], some (.array .byte)⟩ := by decide +kernel
theorem d65_132_13 : decode jdk_65_method_132_code 13 = .ok (.invokestatic 339, 3) := by decide +kernel
theorem d65_132_16 : decode jdk_65_method_132_code 16 = .ok (.areturn, 1) := by decide +kernel
def QPr1 (Z : State) (xt : Addr) (kt : ClassId) (us B Cc : List Int32) (h0 : Heap) (n0 : Nat) (v : Option Value) (h : Heap) (L : List Loc) : Prop := ∃ (t : Addr) (k : ClassId), v = some (.ref t) ∧ Fr n0 L ∧ Keep h0 h [] ∧ h0.size ≤ t ∧ Exa Z h t "[B" ∧ Arv Z h t k .byte (Int32.ofNat B.length) (B.map Value.int) (.int 0)
theorem rmPr1 (l : Launch) (Z : State) (a0 : Array Value) (hw : ∀ d ∈ tables_1, d.before a0 Z = true) (ws : List Jvm.Cond) (xt : Addr) (kt : ClassId) (us B Cc : List Int32) (h0 : Heap) (n0 : Nat) (X00 : Old Z n0 h0) (Axt : Arv Z h0 xt kt .byte (Int32.ofNat us.length) (us.map Value.int) (.int 0)) (hq : us = B ++ Cc) (hC : Cc ≠ []) (hB : B ≠ []) (hl : us.length < 16) :
  MetFree l yN50 (head1 (Jvm.Cond.code yN50 jdk_65_method_132_code 3 (some (.array .byte)) :: ws) ({ frames := 2, cells := 1, slots := 16, locals := 34 } : Room)) (fun aa U => aa = #[(.ref xt), (.int 0), (.int (Int32.ofNat B.length))] ∧ Z.Warmed39 U.vm ∧ U.heap = h0) (fun _ _ _ _ _ => True) (fun _ U o U' => ∃ v L, o = .returned v ∧ QPr1 Z xt kt us B Cc h0 n0 v U'.heap L ∧ FrameEnd U o U' L ({ frames := 2, cells := 1, slots := 16, locals := 34 } : Room).cells ({ frames := 2, cells := 1, slots := 16, locals := 34 } : Room).slots) := by
 refine MetFree.of_bodySF (plainFor_of_name pn_6) hisR ?_
 intro p e s m args below meth c s₁ Bd hml0 hP hK
 obtain ⟨rfl, hZ, hh⟩ := hP
 have hx := Bd.exec
 have hby := Bd.bytes
 have hml : c.maxLocals = 3 := hml0
 have hown : s.vm.findClass "java/util/Arrays" = some m.cls := findClass_of_methodNamed Bd.named
 have hnm := (name_of_methodNamed Bd.named Bd.method).1
 have X0 : Stand p l e ({ frames := 2, cells := 1, slots := 16, locals := 34 } : Room) s m #[(.ref xt), (.int 0), (.int (Int32.ofNat B.length))] below meth c s₁ [] 0 0 := Stand.of_body Bd
 have e0 : s₁.heap = h0 := by rw [← hh, Bd.state]; rfl
 have N0 := Fr.nil n0
 have K0 := Keep.refl h0 []
 have ef : entryFrame m #[(.ref xt), (.int 0), (.int (Int32.ofNat B.length))] 3 = mkF m 0 #[vr xt, vi 0, .val (.int (Int32.ofNat B.length))] [] := by first | (simp [entryFrame, mkF, argsToLocals, Value.category]; done) | rfl
 rw [ef]
 refine fin_of fun Kx hF => ?_
 show Go p.tables e below Kx _ (mkF m 0 _ [])
 have hb4 : B.length ≤ 4000 := by have e := congrArg List.length hq; rw [List.length_append] at e; omega
 have hb16 : B.length ≤ 16 := by have e := congrArg List.length hq; rw [List.length_append] at e; omega
 show Go p.tables e below Kx _ (mkF m 0 _ [])
 refine s_iloadN (pc' := 1) X0.here hx (hb hby d65_132_0) rfl rfl ?_
 refine s_ifN (pc' := 4) X0.here hx (hb hby d65_132_1) rfl ((if0 _ _).trans (teq (by decide)).2) ?_
 refine s_iloadN (pc' := 5) X0.here hx (hb hby d65_132_4) rfl rfl ?_
 refine s_aloadN (pc' := 6) X0.here hx (hb hby d65_132_5) rfl rfl rfl ?_
 obtain ⟨cl131, Ar131, Aq131, As131, An131, Ah131, Ag131⟩ := id Axt
 refine Go.st (X0.arraylength hx (by rw [e0]; exact Ar131.1) (State.isArrayOf_alike hZ.alike Ar131.2.1) (g := (mkF m 6 #[vr xt, vi 0, .val (.int (Int32.ofNat B.length))] [(.ref xt), (.int (Int32.ofNat B.length))])) rfl rfl (hb hby d65_132_6)) ?_
 rw [len_of As131 An131]
 show Go p.tables e below Kx _ (mkF m 7 _ [(.int (Int32.ofNat us.length)), (.int (Int32.ofNat B.length))])
 refine s_icmpN (pc' := 10) X0.here hx (hb hby d65_132_7) rfl (feq (ne_app hq hC (le4 hl))).1 ?_
 refine s_aloadN (pc' := 11) X0.here hx (hb hby d65_132_10) rfl rfl rfl ?_
 refine s_iloadN (pc' := 12) X0.here hx (hb hby d65_132_11) rfl rfl ?_
 refine s_iloadN (pc' := 13) X0.here hx (hb hby d65_132_12) rfl rfl ?_
 obtain ⟨_, T139, L139, X139, hQ139, st139⟩ := kS X0 hx hZ (y := yN51) hown (hv hw 113 rfl) (hv hw 114 rfl) (hv hw 111 rfl) (hv hw 115 rfl) (by decide) (rmPq1 l Z a0 hw [] xt kt us B Cc h0 n0 X00 Axt hq hC hB hl) e0 (W := 0) (g := (mkF m 13 #[vr xt, vi 0, .val (.int (Int32.ofNat B.length))] [(.int (Int32.ofNat B.length)), (.int 0), (.ref xt)])) rfl (by rw [hml]; rfl) (argsL := [(.ref xt), (.int 0), (.int (Int32.ofNat B.length))]) (rest := []) (lenOf pd_14 rfl) rfl (by exact Nat.le_of_eq rfl) (hb hby d65_132_13) rfl (nb rfl) (nb rfl) (nb rfl) (nb rfl)
 obtain ⟨t139, kt139, rfl, Nq139, Kq139, le139, q0_139, q1_139⟩ := hQ139
 have sz139 : h0.size ≤ t139 := Nat.le_trans K0.1 le139
 have ge139 : n0 ≤ t139 := Nat.le_trans (X00.1 ▸ X00.2.1) le139
 have N139 := Fr.app N0 Nq139
 have K139 : Keep h0 T139.heap [] := K0.trans Kq139 all0
 have O139 : Old Z n0 T139.heap := X00.keep Kq139 all0
 refine Go.st st139 ?_
 show Go p.tables e below Kx _ (mkF m 16 _ [(.ref t139)])
 obtain ⟨fs, hr, hrun, hended, hW, hsame⟩ := X139.leave (v := (some (.ref t139))) (fun h => by rw [Bd.returns] at h; cases h)
 refine Go.fin (retOut X139 hx Bd.returns rfl (Or.inr (Or.inr (Or.inr (Or.inr ⟨rfl, rfl, rfl⟩)))) (hb hby d65_132_16) hr) (hF _ _ hrun hended ⟨_, _, rfl, ?_, ⟨_, rfl⟩, hW, hsame.mono (by decide) (by decide)⟩)
 ·
  show QPr1 Z xt kt us B Cc h0 n0 ((some (.ref t139)) : Option Value) T139.heap _
  skip
  exact ⟨_, _, rfl, N139, K139, sz139, q0_139, q1_139⟩
theorem d43_47_16 : decode jdk_43_method_47_code 16 = .ok (.invokestatic 232, 3) := by decide +kernel
theorem d43_47_19 : decode jdk_43_method_47_code 19 = .ok (.iconst 0, 1) := by decide +kernel
theorem d42_151_0 : decode jdk_42_method_151_code 0 = .ok (.aload_n 0, 1) := by decide +kernel
theorem d42_151_1 : decode jdk_42_method_151_code 1 = .ok (.invokespecial 1, 3) := by decide +kernel
theorem d42_151_4 : decode jdk_42_method_151_code 4 = .ok (.aload_n 0, 1) := by decide +kernel
theorem d42_151_5 : decode jdk_42_method_151_code 5 = .ok (.aload_n 1, 1) := by decide +kernel
theorem d42_151_6 : decode jdk_42_method_151_code 6 = .ok (.putfield 9, 3) := by decide +kernel
theorem d42_151_9 : decode jdk_42_method_151_code 9 = .ok (.aload_n 0, 1) := by decide +kernel
theorem d42_151_10 : decode jdk_42_method_151_code 10 = .ok (.iload_n 2, 1) := by decide +kernel
theorem d42_151_11 : decode jdk_42_method_151_code 11 = .ok (.putfield 15, 3) := by decide +kernel
theorem d42_151_14 : decode jdk_42_method_151_code 14 = .ok (.return_, 1) := by decide +kernel
def QPbb (Z : State) (xs xt : Addr) (h0 : Heap) (n0 : Nat) (v : Option Value) (h : Heap) (L : List Loc) : Prop := v = none ∧ Fr n0 L ∧ Keep h0 h [xs] ∧ Exa Z h xs "java/lang/String" ∧ Fld Z h xs "java/lang/String" "coder" "B" (.int 0) ∧ Fld Z h xs "java/lang/String" "value" "[B" (.ref xt)
theorem rmPbb (l : Launch) (Z : State) (a0 : Array Value) (hw : ∀ d ∈ tables_1, d.before a0 Z = true) (ws : List Jvm.Cond) (xs xt : Addr) (h0 : Heap) (n0 : Nat) (X00 : Old Z n0 h0) (ge_xs : n0 ≤ xs) (Exs : Exa Z h0 xs "java/lang/String") (Vxs : Fld Z h0 xs "java/lang/String" "value" "[B" .null) (Cxs : Fld Z h0 xs "java/lang/String" "coder" "B" (.int 0)) :
  MetFree l yN20 (head1 (Jvm.Cond.code yN20 jdk_42_method_151_code 3 none :: ws) ({ frames := 1, cells := 0, slots := 0, locals := 12 } : Room)) (fun aa U => aa = #[(.ref xs), (.ref xt), (.int 0)] ∧ Z.Warmed39 U.vm ∧ U.heap = h0) (fun _ _ _ _ _ => True) (fun _ U o U' => ∃ v L, o = .returned v ∧ QPbb Z xs xt h0 n0 v U'.heap L ∧ FrameEnd U o U' L ({ frames := 1, cells := 0, slots := 0, locals := 12 } : Room).cells ({ frames := 1, cells := 0, slots := 0, locals := 12 } : Room).slots) := by
 refine MetFree.of_bodySF (plainFor_of_name pn_3) hisR ?_
 intro p e s m args below meth c s₁ Bd hml0 hP hK
 obtain ⟨rfl, hZ, hh⟩ := hP
 have hx := Bd.exec
 have hby := Bd.bytes
 have hml : c.maxLocals = 3 := hml0
 have hown : s.vm.findClass "java/lang/String" = some m.cls := findClass_of_methodNamed Bd.named
 have hnm := (name_of_methodNamed Bd.named Bd.method).1
 have X0 : Stand p l e ({ frames := 1, cells := 0, slots := 0, locals := 12 } : Room) s m #[(.ref xs), (.ref xt), (.int 0)] below meth c s₁ [] 0 0 := Stand.of_body Bd
 have e0 : s₁.heap = h0 := by rw [← hh, Bd.state]; rfl
 have N0 := Fr.nil n0
 have K0 := Keep.refl h0 [xs]
 have ef : entryFrame m #[(.ref xs), (.ref xt), (.int 0)] 3 = mkF m 0 #[vr xs, vr xt, vi 0] [] := by first | (simp [entryFrame, mkF, argsToLocals, Value.category]; done) | rfl
 rw [ef]
 refine fin_of fun Kx hF => ?_
 show Go p.tables e below Kx _ (mkF m 0 _ [])
 refine s_aloadN (pc' := 1) X0.here hx (hb hby d42_151_0) rfl rfl rfl ?_
 obtain ⟨T142, X142, e142, st142⟩ := initO X0 hx hZ hown (hv hw 17 rfl) (hv hw 18 rfl) (hv hw 19 rfl) e0 (g := (mkF m 1 #[vr xs, vr xt, vi 0] [(.ref xs)])) rfl (by rw [hml]; rfl) rfl (hb hby d42_151_1) (by decide) (W := 0) (by exact Nat.le_of_eq rfl) (by decide)
 refine Go.st st142 ?_
 show Go p.tables e below Kx _ (mkF m 4 _ [])
 refine s_aloadN (pc' := 5) X142.here hx (hb hby d42_151_4) rfl rfl rfl ?_
 refine s_aloadN (pc' := 6) X142.here hx (hb hby d42_151_5) rfl rfl rfl ?_
 obtain ⟨T143, h143, X143, e143, W143, st143⟩ := putF X142 hx hZ hown (host := "") (Or.inl (hv hw 34 rfl)) Via.refl e142 Vxs Exs (Or.inr ⟨(hv hw 35 rfl), rfl, hnm⟩) (hv hw 7 rfl) (ty := (.array .byte)) (by decide) rfl rfl (g := (mkF m 6 #[vr xs, vr xt, vi 0] [(.ref xt), (.ref xs)])) rfl rfl (hb hby d42_151_6)
 have Fw143 : Fld Z h143 xs "java/lang/String" "value" "[B" (.ref xt) := Vxs.same W143
 have K143 : Keep h0 h143 [xs] := K0.wr W143 (Or.inl (List.mem_of_getElem? (i := 0) rfl))
 have O143 : Old Z n0 h143 := X00.wr W143 ge_xs
 have N143 := Fr.snoc X143 N0 ge_xs
 refine Go.st st143 ?_
 show Go p.tables e below Kx _ (mkF m 9 _ [])
 refine s_aloadN (pc' := 10) X143.here hx (hb hby d42_151_9) rfl rfl rfl ?_
 refine s_iloadN (pc' := 11) X143.here hx (hb hby d42_151_10) rfl rfl ?_
 have f144 : Fld Z h143 xs "java/lang/String" "coder" "B" (.int 0) := (Cxs.other W143 (Or.inr (slot_ne (Or.inr (hv hw 33 rfl)) (Or.inr (hv hw 35 rfl)) (by decide) (t := .byte) (t' := (.array .byte)) (by decide) (by decide))))
 have f145 : Exa Z h143 xs "java/lang/String" := (Exs.wr W143)
 obtain ⟨T146, h146, X146, e146, W146, st146⟩ := putFN X143 hx hZ hown (hv hw 32 rfl) Via.refl e143 f144 f145 (Or.inr ⟨(hv hw 33 rfl), rfl, hnm⟩) (hv hw 7 rfl) (ty := .byte) (v' := (.int 0)) (by decide) (by decide) (by decide) (g := (mkF m 11 #[vr xs, vr xt, vi 0] [(.int 0), (.ref xs)])) rfl rfl (hb hby d42_151_11)
 have Fw146 : Fld Z h146 xs "java/lang/String" "coder" "B" (.int 0) := f144.same W146
 have K146 : Keep h0 h146 [xs] := K143.wr W146 (Or.inl (List.mem_of_getElem? (i := 0) rfl))
 have O146 : Old Z n0 h146 := O143.wr W146 ge_xs
 have N146 := Fr.snoc X146 N143 ge_xs
 refine Go.st st146 ?_
 show Go p.tables e below Kx _ (mkF m 14 _ [])
 have f147 : Exa Z h146 xs "java/lang/String" := (f145.wr W146)
 have f148 : Fld Z h146 xs "java/lang/String" "value" "[B" (.ref xt) := (Fw143.other W146 (Or.inr (slot_ne (Or.inr (hv hw 35 rfl)) (Or.inr (hv hw 33 rfl)) (by decide) (t := (.array .byte)) (t' := .byte) (by decide) (by decide))))
 obtain ⟨fs, hr, hrun, hended, hW, hsame⟩ := X146.leave (v := none) (fun _ => rfl)
 refine Go.fin (X146.returnOut hx Bd.returns (hb hby d42_151_14) hr) (hF _ _ hrun hended ⟨_, _, rfl, ?_, ⟨_, rfl⟩, hW, hsame.mono (by decide) (by decide)⟩)
 ·
  show QPbb Z xs xt h0 n0 (none : Option Value) T146.heap _
  rw [e146]
  exact ⟨rfl, N146, K146, f147, Fw146, f148⟩
theorem pd_15 : parseMethodDescriptor "([BB)V" = some ⟨[(.array .byte), .byte], none⟩ := by decide +kernel
theorem d43_47_20 : decode jdk_43_method_47_code 20 = .ok (.invokespecial 112, 3) := by decide +kernel
theorem d43_47_23 : decode jdk_43_method_47_code 23 = .ok (.areturn, 1) := by decide +kernel
def QPn1 (Z : State) (xt : Addr) (kt : ClassId) (us B Cc : List Int32) (h0 : Heap) (n0 : Nat) (v : Option Value) (h : Heap) (L : List Loc) : Prop := ∃ (y t : Addr) (k : ClassId), v = some (.ref y) ∧ Fr n0 L ∧ Keep h0 h [] ∧ h0.size ≤ y ∧ h0.size ≤ t ∧ Exa Z h t "[B" ∧ Exa Z h y "java/lang/String" ∧ Fld Z h y "java/lang/String" "coder" "B" (.int 0) ∧ Fld Z h y "java/lang/String" "value" "[B" (.ref t) ∧ Arv Z h t k .byte (Int32.ofNat B.length) (B.map Value.int) (.int 0)
theorem rmPn1 (l : Launch) (Z : State) (a0 : Array Value) (hw : ∀ d ∈ tables_1, d.before a0 Z = true) (ws : List Jvm.Cond) (xt : Addr) (kt : ClassId) (us B Cc : List Int32) (h0 : Heap) (n0 : Nat) (X00 : Old Z n0 h0) (Axt : Arv Z h0 xt kt .byte (Int32.ofNat us.length) (us.map Value.int) (.int 0)) (hq : us = B ++ Cc) (hC : Cc ≠ []) (hB : B ≠ []) (hl : us.length < 16) :
  MetFree l yN45 (head1 (Jvm.Cond.code yN45 jdk_43_method_47_code 3 (some (.object "java/lang/String")) :: ws) ({ frames := 3, cells := 2, slots := 20, locals := 50 } : Room)) (fun aa U => aa = #[(.ref xt), (.int 0), (.int (Int32.ofNat B.length))] ∧ Z.Warmed39 U.vm ∧ U.heap = h0) (fun _ _ _ _ _ => True) (fun _ U o U' => ∃ v L, o = .returned v ∧ QPn1 Z xt kt us B Cc h0 n0 v U'.heap L ∧ FrameEnd U o U' L ({ frames := 3, cells := 2, slots := 20, locals := 50 } : Room).cells ({ frames := 3, cells := 2, slots := 20, locals := 50 } : Room).slots) := by
 refine MetFree.of_bodySF (plainFor_of_name pn_4) hisR ?_
 intro p e s m args below meth c s₁ Bd hml0 hP hK
 obtain ⟨rfl, hZ, hh⟩ := hP
 have hx := Bd.exec
 have hby := Bd.bytes
 have hml : c.maxLocals = 3 := hml0
 have hown : s.vm.findClass "java/lang/StringLatin1" = some m.cls := findClass_of_methodNamed Bd.named
 have hnm := (name_of_methodNamed Bd.named Bd.method).1
 have X0 : Stand p l e ({ frames := 3, cells := 2, slots := 20, locals := 50 } : Room) s m #[(.ref xt), (.int 0), (.int (Int32.ofNat B.length))] below meth c s₁ [] 0 0 := Stand.of_body Bd
 have e0 : s₁.heap = h0 := by rw [← hh, Bd.state]; rfl
 have N0 := Fr.nil n0
 have K0 := Keep.refl h0 []
 have ef : entryFrame m #[(.ref xt), (.int 0), (.int (Int32.ofNat B.length))] 3 = mkF m 0 #[vr xt, vi 0, .val (.int (Int32.ofNat B.length))] [] := by first | (simp [entryFrame, mkF, argsToLocals, Value.category]; done) | rfl
 rw [ef]
 refine fin_of fun Kx hF => ?_
 show Go p.tables e below Kx _ (mkF m 0 _ [])
 have hb4 : B.length ≤ 4000 := by have e := congrArg List.length hq; rw [List.length_append] at e; omega
 have hb16 : B.length ≤ 16 := by have e := congrArg List.length hq; rw [List.length_append] at e; omega
 show Go p.tables e below Kx _ (mkF m 0 _ [])
 refine s_iloadN (pc' := 1) X0.here hx (hb hby d43_47_0) rfl rfl ?_
 refine s_ifY (pc' := 7) X0.here hx (hb hby d43_47_1) ((if0 _ _).trans (feq (nz_len hB hb4)).2) (by decide) (by decide) ?_
 obtain ⟨T130, h130, X130, e130, E130, A130, D130, -, st130⟩ := newO X0 hx hZ hown (hv hw 108 rfl) (hv hw 7 rfl) (hv hw 8 rfl) e0 (g := (mkF m 7 #[vr xt, vi 0, .val (.int (Int32.ofNat B.length))] [])) rfl (hb hby d43_47_7) (by decide) (by decide)
 obtain ⟨b130, g130⟩ : ∃ z, z = h0.size := ⟨_, rfl⟩
 rw [← g130] at A130 D130 st130
 have sz130 : h0.size ≤ b130 := Nat.le_trans K0.1 (Nat.le_of_eq g130.symm)
 have ge130 : n0 ≤ b130 := Nat.le_trans (X00.1 ▸ X00.2.1) (Nat.le_of_eq g130.symm)
 have K130 : Keep h0 h130 [] := K0.ext E130
 have O130 : Old Z n0 h130 := X00.ext E130
 have F130_coder : Fld Z h130 b130 "java/lang/String" "coder" "B" (.int 0) := D130 (Or.inr (hv hw 33 rfl)) (ty := .byte) (by decide)
 have F130_value : Fld Z h130 b130 "java/lang/String" "value" "[B" .null := D130 (Or.inr (hv hw 35 rfl)) (ty := (.array .byte)) (by decide)
 refine Go.st st130 ?_
 show Go p.tables e below Kx _ (mkF m 10 _ [(.ref b130)])
 refine s_dup (pc' := 11) X130.here hx (hb hby d43_47_10) rfl rfl ?_
 refine s_aloadN (pc' := 12) X130.here hx (hb hby d43_47_11) rfl rfl rfl ?_
 refine s_iloadN (pc' := 13) X130.here hx (hb hby d43_47_12) rfl rfl ?_
 refine s_iloadN (pc' := 14) X130.here hx (hb hby d43_47_13) rfl rfl ?_
 refine s_iloadN (pc' := 15) X130.here hx (hb hby d43_47_14) rfl rfl ?_
 refine s_iadd (pc' := 16) (z := (Int32.ofNat B.length)) X130.here hx (hb hby d43_47_15) rfl (Int32.zero_add _) ?_
 have f140 : Arv Z h130 xt kt .byte (Int32.ofNat us.length) (us.map Value.int) (.int 0) := (Axt.ext E130)
 obtain ⟨_, T141, L141, X141, hQ141, st141⟩ := kS X130 hx hZ (y := yN50) hown (hv hw 109 rfl) (hv hw 110 rfl) (hv hw 111 rfl) (hv hw 112 rfl) (by decide) (rmPr1 l Z a0 hw [] xt kt us B Cc h130 n0 O130 f140 hq hC hB hl) e130 (W := 2) (g := (mkF m 16 #[vr xt, vi 0, .val (.int (Int32.ofNat B.length))] [(.int (Int32.ofNat B.length)), (.int 0), (.ref xt), (.ref b130), (.ref b130)])) rfl (by rw [hml]; rfl) (argsL := [(.ref xt), (.int 0), (.int (Int32.ofNat B.length))]) (rest := [(.ref b130), (.ref b130)]) (lenOf pd_14 rfl) rfl (by exact Nat.le_of_eq rfl) (hb hby d43_47_16) rfl (nb rfl) (nb rfl) (nb rfl) (nb rfl)
 obtain ⟨t141, kt141, rfl, Nq141, Kq141, le141, q0_141, q1_141⟩ := hQ141
 have sz141 : h0.size ≤ t141 := Nat.le_trans K130.1 le141
 have ge141 : n0 ≤ t141 := Nat.le_trans (O130.1 ▸ O130.2.1) le141
 have N141 := Fr.app N0 Nq141
 have K141 : Keep h0 T141.heap [] := K130.trans Kq141 all0
 have O141 : Old Z n0 T141.heap := O130.keep Kq141 all0
 refine Go.st st141 ?_
 show Go p.tables e below Kx _ (mkF m 19 _ [(.ref t141), (.ref b130), (.ref b130)])
 refine s_iconst (pc' := 20) (v := 0) X141.here hx (hb hby d43_47_19) rfl rfl ?_
 have f149 : Exa Z T141.heap b130 "java/lang/String" := (A130.keep Kq141)
 have f150 : Fld Z T141.heap b130 "java/lang/String" "value" "[B" .null := (F130_value.keep Kq141 nin0)
 have f151 : Fld Z T141.heap b130 "java/lang/String" "coder" "B" (.int 0) := (F130_coder.keep Kq141 nin0)
 obtain ⟨_, T152, L152, X152, hQ152, st152⟩ := kI X141 hx hZ (y := yN20) rfl hown (hv hw 124 rfl) (hv hw 125 rfl) (hv hw 8 rfl) (hv hw 126 rfl) (by decide) (rmPbb l Z a0 hw [] b130 t141 T141.heap n0 O141 ge130 f149 f150 f151) rfl (a := b130) (W := 1) (g := (mkF m 20 #[vr xt, vi 0, .val (.int (Int32.ofNat B.length))] [(.int 0), (.ref t141), (.ref b130), (.ref b130)])) rfl (by rw [hml]; rfl) (argsL := [(.ref t141), (.int 0)]) (rest := [(.ref b130)]) (lenOf pd_15 rfl) rfl (by exact Nat.le_of_eq rfl) (hb hby d43_47_20) rfl (nb rfl) (nb rfl) (nb rfl) (nb rfl)
 obtain ⟨rfl, Nq152, Kq152, q1_152, q2_152, q3_152⟩ := hQ152
 have N152 := Fr.app N141 Nq152
 have K152 : Keep h0 T152.heap [] := K141.trans Kq152 (allS (P := fun zz => zz ∈ [] ∨ h0.size ≤ zz) (Or.inr sz130) all0)
 have O152 : Old Z n0 T152.heap := O141.keep Kq152 (allS ge130 all0)
 refine Go.tr st152 ?_
 show Go p.tables e below Kx _ (mkF m 23 _ [(.ref b130)])
 have f153 : Exa Z T152.heap t141 "[B" := (q0_141.keep Kq152)
 have f154 : Arv Z T152.heap t141 kt141 .byte (Int32.ofNat B.length) (B.map Value.int) (.int 0) := (q1_141.keep Kq152 (ninS (Ne.symm (Nat.ne_of_lt (Nat.lt_of_lt_of_le A130.lt le141))) nin0))
 obtain ⟨fs, hr, hrun, hended, hW, hsame⟩ := X152.leave (v := (some (.ref b130))) (fun h => by rw [Bd.returns] at h; cases h)
 refine Go.fin (retOut X152 hx Bd.returns rfl (Or.inr (Or.inr (Or.inr (Or.inr ⟨rfl, rfl, rfl⟩)))) (hb hby d43_47_23) hr) (hF _ _ hrun hended ⟨_, _, rfl, ?_, ⟨_, rfl⟩, hW, hsame.mono (by decide) (by decide)⟩)
 ·
  show QPn1 Z xt kt us B Cc h0 n0 ((some (.ref b130)) : Option Value) T152.heap _
  skip
  exact ⟨_, _, _, rfl, N152, K152, sz130, sz141, f153, q1_152, q2_152, q3_152, f154⟩
theorem pd_16 : parseMethodDescriptor "([BII)Ljava/lang/String;" = some ⟨[(.array .byte), .int, .int], some (.object "java/lang/String")⟩ := by decide +kernel
theorem d42_92_41 : decode jdk_42_method_92_code 41 = .ok (.invokestatic 685, 3) := by decide +kernel
theorem d42_92_44 : decode jdk_42_method_92_code 44 = .ok (.goto 13, 3) := by decide +kernel
theorem d42_92_57 : decode jdk_42_method_92_code 57 = .ok (.areturn, 1) := by decide +kernel
def QPs1 (Z : State) (xy yb : Addr) (ky : ClassId) (us B Cc : List Int32) (h0 : Heap) (n0 : Nat) (v : Option Value) (h : Heap) (L : List Loc) : Prop := ∃ (y t : Addr) (k : ClassId), v = some (.ref y) ∧ Fr n0 L ∧ Keep h0 h [] ∧ h0.size ≤ y ∧ h0.size ≤ t ∧ Exa Z h t "[B" ∧ Exa Z h y "java/lang/String" ∧ Fld Z h y "java/lang/String" "coder" "B" (.int 0) ∧ Fld Z h y "java/lang/String" "value" "[B" (.ref t) ∧ Arv Z h t k .byte (Int32.ofNat B.length) (B.map Value.int) (.int 0)
theorem rmPs1 (l : Launch) (Z : State) (a0 : Array Value) (hw : ∀ d ∈ tables_1, d.before a0 Z = true) (ws : List Jvm.Cond) (xy yb : Addr) (ky : ClassId) (us B Cc : List Int32) (h0 : Heap) (n0 : Nat) (X00 : Old Z n0 h0) (G1 : Int32) (S1 : Sta Z Z.heap "java/lang/String" "COMPACT_STRINGS" "Z" (.int G1)) (P1 : ¬ G1 = 0) (vf : Value) (hvf : vf.isRef = true) (SFm : Sta Z Z.heap "jdk/internal/util/Preconditions" "SIOOBE_FORMATTER" "Ljava/util/function/BiFunction;" vf) (Exy : Exa Z h0 xy "java/lang/String") (Cxy : Fld Z h0 xy "java/lang/String" "coder" "B" (.int 0)) (Vxy : Fld Z h0 xy "java/lang/String" "value" "[B" (.ref yb)) (Axy : Arv Z h0 yb ky .byte (Int32.ofNat us.length) (us.map Value.int) (.int 0)) (hq : us = B ++ Cc) (hC : Cc ≠ []) (hB : B ≠ []) (hl : us.length < 16) :
  MetFree l yN35 (head1 (Jvm.Cond.code yN35 jdk_42_method_92_code 5 (some (.object "java/lang/String")) :: ws) ({ frames := 4, cells := 2, slots := 20, locals := 64 } : Room)) (fun aa U => aa = #[(.ref xy), (.int 0), (.int (Int32.ofNat B.length))] ∧ Z.Warmed39 U.vm ∧ U.heap = h0) (fun _ _ _ _ _ => True) (fun _ U o U' => ∃ v L, o = .returned v ∧ QPs1 Z xy yb ky us B Cc h0 n0 v U'.heap L ∧ FrameEnd U o U' L ({ frames := 4, cells := 2, slots := 20, locals := 64 } : Room).cells ({ frames := 4, cells := 2, slots := 20, locals := 64 } : Room).slots) := by
 refine MetFree.of_bodySF (plainFor_of_name pn_3) hisR ?_
 intro p e s m args below meth c s₁ Bd hml0 hP hK
 obtain ⟨rfl, hZ, hh⟩ := hP
 have hx := Bd.exec
 have hby := Bd.bytes
 have hml : c.maxLocals = 5 := hml0
 have hown : s.vm.findClass "java/lang/String" = some m.cls := findClass_of_methodNamed Bd.named
 have hnm := (name_of_methodNamed Bd.named Bd.method).1
 have X0 : Stand p l e ({ frames := 4, cells := 2, slots := 20, locals := 64 } : Room) s m #[(.ref xy), (.int 0), (.int (Int32.ofNat B.length))] below meth c s₁ [] 0 0 := Stand.of_body Bd
 have e0 : s₁.heap = h0 := by rw [← hh, Bd.state]; rfl
 have N0 := Fr.nil n0
 have K0 := Keep.refl h0 []
 have ef : entryFrame m #[(.ref xy), (.int 0), (.int (Int32.ofNat B.length))] 5 = mkF m 0 #[vr xy, vi 0, .val (.int (Int32.ofNat B.length)), un, un] [] := by first | (simp [entryFrame, mkF, argsToLocals, Value.category]; done) | rfl
 rw [ef]
 refine fin_of fun Kx hF => ?_
 show Go p.tables e below Kx _ (mkF m 0 _ [])
 have hb4 : B.length ≤ 4000 := by have e := congrArg List.length hq; rw [List.length_append] at e; omega
 have hb16 : B.length ≤ 16 := by have e := congrArg List.length hq; rw [List.length_append] at e; omega
 show Go p.tables e below Kx _ (mkF m 0 _ [])
 refine s_aloadN (pc' := 1) X0.here hx (hb hby d42_92_0) rfl rfl rfl ?_
 obtain ⟨_, T124, L124, X124, hQ124, st124⟩ := kV X0 hx hZ (y := yN33) hown (hv hw 65 rfl) (hv hw 66 rfl) (notFace_of_selects (args := #[]) (mvT hZ (hv hw 68 rfl))) (hv hw 68 rfl) (hv hw 67 rfl) (hv hw 8 rfl) (hv hw 69 rfl) (by decide) (rmGl l Z a0 hw [] xy yb _ us h0 n0 X00 G1 S1 P1 Exy Cxy Vxy Axy) e0 Exy (W := 0) (g := (mkF m 1 #[vr xy, vi 0, .val (.int (Int32.ofNat B.length)), un, un] [(.ref xy)])) rfl (by rw [hml]; rfl) (argsL := []) (rest := []) (lenOf pd_6 rfl) rfl (by exact Nat.le_of_eq rfl) (hb hby d42_92_1) rfl (nb rfl) (nb rfl) (nb rfl) (nb rfl)
 obtain ⟨rfl, Nq124, hE124⟩ := hQ124
 have N124 := Fr.app N0 Nq124
 refine Go.tr st124 ?_
 show Go p.tables e below Kx _ (mkF m 4 _ [(.int (Int32.ofNat us.length))])
 refine s_istoreN (pc' := 5) (Ls' := #[vr xy, vi 0, .val (.int (Int32.ofNat B.length)), .val (.int (Int32.ofNat us.length)), un]) X124.here hx (hb hby d42_92_4) rfl  rfl ?_
 refine s_iloadN (pc' := 6) X124.here hx (hb hby d42_92_5) rfl rfl ?_
 refine s_iloadN (pc' := 7) X124.here hx (hb hby d42_92_6) rfl rfl ?_
 refine s_iloadN (pc' := 8) X124.here hx (hb hby d42_92_7) rfl rfl ?_
 obtain ⟨_, T127, L127, X127, hQ127, st127⟩ := kS X124 hx hZ (y := yN22) hown (hv hw 97 rfl) (hv hw 98 rfl) (hv hw 8 rfl) (hv hw 99 rfl) (by decide) (rmPcb l Z a0 hw [] 0 (Int32.ofNat B.length) (Int32.ofNat us.length) h0 n0 X00 vf hvf SFm (by decide) (nn0 hb4) (nlt_app hq (le4 hl))) hE124 (W := 0) (g := (mkF m 8 #[vr xy, vi 0, .val (.int (Int32.ofNat B.length)), .val (.int (Int32.ofNat us.length)), un] [(.int (Int32.ofNat us.length)), (.int (Int32.ofNat B.length)), (.int 0)])) rfl (by rw [hml]; rfl) (argsL := [(.int 0), (.int (Int32.ofNat B.length)), (.int (Int32.ofNat us.length))]) (rest := []) (lenOf pd_12 rfl) rfl (by exact Nat.le_of_eq rfl) (hb hby d42_92_8) rfl (nb rfl) (nb rfl) (nb rfl) (nb rfl)
 obtain ⟨rfl, Nq127, hE127⟩ := hQ127
 have N127 := Fr.app N124 Nq127
 refine Go.st st127 ?_
 show Go p.tables e below Kx _ (mkF m 11 _ [])
 refine s_iloadN (pc' := 12) X127.here hx (hb hby d42_92_11) rfl rfl ?_
 refine s_ifN (pc' := 15) X127.here hx (hb hby d42_92_12) rfl ((if0 _ _).trans (teq (by decide)).2) ?_
 refine s_iloadN (pc' := 16) X127.here hx (hb hby d42_92_15) rfl rfl ?_
 refine s_iloadN (pc' := 17) X127.here hx (hb hby d42_92_16) rfl rfl ?_
 refine s_icmpY (pc' := 22) X127.here hx (hb hby d42_92_17) (feq (ne_app hq hC (le4 hl))).2 (by decide) (by decide) ?_
 refine s_iloadN (pc' := 23) X127.here hx (hb hby d42_92_22) rfl rfl ?_
 refine s_iloadN (pc' := 24) X127.here hx (hb hby d42_92_23) rfl rfl ?_
 refine s_isub (pc' := 25) (z := (Int32.ofNat B.length)) X127.here hx (hb hby d42_92_24) rfl (Int32.sub_zero _) ?_
 refine s_istore (pc' := 27) (Ls' := #[vr xy, vi 0, .val (.int (Int32.ofNat B.length)), .val (.int (Int32.ofNat us.length)), .val (.int (Int32.ofNat B.length))]) X127.here hx (hb hby d42_92_25) rfl  rfl ?_
 refine s_aloadN (pc' := 28) X127.here hx (hb hby d42_92_27) rfl rfl rfl ?_
 obtain ⟨_, T128, L128, X128, hQ128, st128⟩ := kV X127 hx hZ (y := yN32) hown (hv hw 60 rfl) (hv hw 61 rfl) (notFace_of_selects (args := #[]) (mvT hZ (hv hw 63 rfl))) (hv hw 63 rfl) (hv hw 62 rfl) (hv hw 8 rfl) (hv hw 64 rfl) (by decide) (rmKil l Z a0 hw [] xy h0 n0 X00 G1 S1 P1 Cxy) hE127 Exy (W := 0) (g := (mkF m 28 #[vr xy, vi 0, .val (.int (Int32.ofNat B.length)), .val (.int (Int32.ofNat us.length)), .val (.int (Int32.ofNat B.length))] [(.ref xy)])) rfl (by rw [hml]; rfl) (argsL := []) (rest := []) (lenOf pd_4 rfl) rfl (by exact Nat.le_of_eq rfl) (hb hby d42_92_28) rfl (nb rfl) (nb rfl) (nb rfl) (nb rfl)
 obtain ⟨rfl, Nq128, hE128⟩ := hQ128
 have N128 := Fr.app N127 Nq128
 refine Go.tr st128 ?_
 show Go p.tables e below Kx _ (mkF m 31 _ [(.int 1)])
 refine s_ifN (pc' := 34) X128.here hx (hb hby d42_92_31) rfl ((if0 _ _).trans (feq (by decide)).1) ?_
 refine s_aloadN (pc' := 35) X128.here hx (hb hby d42_92_34) rfl rfl rfl ?_
 obtain ⟨T129, X129, e129, st129⟩ := getF X128 hx hZ hown (host := "") (Or.inl (hv hw 34 rfl)) Via.refl hE128 Vxy (g := (mkF m 35 #[vr xy, vi 0, .val (.int (Int32.ofNat B.length)), .val (.int (Int32.ofNat us.length)), .val (.int (Int32.ofNat B.length))] [(.ref xy)])) rfl rfl (hb hby d42_92_35)
 refine Go.st st129 ?_
 show Go p.tables e below Kx _ (mkF m 38 _ [(.ref yb)])
 refine s_iloadN (pc' := 39) X129.here hx (hb hby d42_92_38) rfl rfl ?_
 refine s_iload (pc' := 41) X129.here hx (hb hby d42_92_39) rfl rfl ?_
 obtain ⟨_, T155, L155, X155, hQ155, st155⟩ := kS X129 hx hZ (y := yN45) hown (hv hw 105 rfl) (hv hw 106 rfl) (hv hw 77 rfl) (hv hw 107 rfl) (by decide) (rmPn1 l Z a0 hw [] yb ky us B Cc h0 n0 X00 Axy hq hC hB hl) e129 (W := 0) (g := (mkF m 41 #[vr xy, vi 0, .val (.int (Int32.ofNat B.length)), .val (.int (Int32.ofNat us.length)), .val (.int (Int32.ofNat B.length))] [(.int (Int32.ofNat B.length)), (.int 0), (.ref yb)])) rfl (by rw [hml]; rfl) (argsL := [(.ref yb), (.int 0), (.int (Int32.ofNat B.length))]) (rest := []) (lenOf pd_16 rfl) rfl (by exact Nat.le_of_eq rfl) (hb hby d42_92_41) rfl (nb rfl) (nb rfl) (nb rfl) (nb rfl)
 obtain ⟨y155, t155, kt155, rfl, Nq155, Kq155, ly155, le155, q0_155, q1_155, q2_155, q3_155, q4_155⟩ := hQ155
 have sz155 : h0.size ≤ t155 := Nat.le_trans K0.1 le155
 have ge155 : n0 ≤ t155 := Nat.le_trans (X00.1 ▸ X00.2.1) le155
 have sz155y : h0.size ≤ y155 := Nat.le_trans K0.1 ly155
 have ge155y : n0 ≤ y155 := Nat.le_trans (X00.1 ▸ X00.2.1) ly155
 have N155 := Fr.app N128 Nq155
 have K155 : Keep h0 T155.heap [] := K0.trans Kq155 all0
 have O155 : Old Z n0 T155.heap := X00.keep Kq155 all0
 refine Go.st st155 ?_
 show Go p.tables e below Kx _ (mkF m 44 _ [(.ref y155)])
 refine s_goto (pc' := 57) X155.here hx (hb hby d42_92_44) (by decide) (by decide) ?_
 obtain ⟨fs, hr, hrun, hended, hW, hsame⟩ := X155.leave (v := (some (.ref y155))) (fun h => by rw [Bd.returns] at h; cases h)
 refine Go.fin (retOut X155 hx Bd.returns rfl (Or.inr (Or.inr (Or.inr (Or.inr ⟨rfl, rfl, rfl⟩)))) (hb hby d42_92_57) hr) (hF _ _ hrun hended ⟨_, _, rfl, ?_, ⟨_, rfl⟩, hW, hsame.mono (by decide) (by decide)⟩)
 ·
  show QPs1 Z xy yb ky us B Cc h0 n0 ((some (.ref y155)) : Option Value) T155.heap _
  skip
  exact ⟨_, _, _, rfl, N155, K155, sz155y, sz155, q0_155, q1_155, q2_155, q3_155, q4_155⟩
theorem pd_17 : parseMethodDescriptor "(II)Ljava/lang/String;" = some ⟨[.int, .int], some (.object "java/lang/String")⟩ := by decide +kernel
theorem p15_3_62 : decode prog_15_method_3_code 62 = .ok (.invokevirtual 67, 3) := by decide +kernel
theorem p15_3_65 : decode prog_15_method_3_code 65 = .ok (.aload_n 0, 1) := by decide +kernel
theorem p15_3_66 : decode prog_15_method_3_code 66 = .ok (.iload_n 1, 1) := by decide +kernel
theorem p15_3_67 : decode prog_15_method_3_code 67 = .ok (.iconst 1, 1) := by decide +kernel
theorem p15_3_68 : decode prog_15_method_3_code 68 = .ok (.iadd, 1) := by decide +kernel
theorem d42_91_0 : decode jdk_42_method_91_code 0 = .ok (.aload_n 0, 1) := by decide +kernel
theorem d42_91_1 : decode jdk_42_method_91_code 1 = .ok (.iload_n 1, 1) := by decide +kernel
theorem d42_91_2 : decode jdk_42_method_91_code 2 = .ok (.aload_n 0, 1) := by decide +kernel
theorem d42_91_3 : decode jdk_42_method_91_code 3 = .ok (.invokevirtual 505, 3) := by decide +kernel
def QPq2 (Z : State) (xt : Addr) (kt : ClassId) (us A B : List Int32) (h0 : Heap) (n0 : Nat) (v : Option Value) (h : Heap) (L : List Loc) : Prop := ∃ (t : Addr) (k : ClassId), v = some (.ref t) ∧ Fr n0 L ∧ Keep h0 h [] ∧ h0.size ≤ t ∧ Exa Z h t "[B" ∧ Arv Z h t k .byte (Int32.ofNat B.length) (B.map Value.int) (.int 0)
theorem rmPq2 (l : Launch) (Z : State) (a0 : Array Value) (hw : ∀ d ∈ tables_1, d.before a0 Z = true) (ws : List Jvm.Cond) (xt : Addr) (kt : ClassId) (us A B : List Int32) (h0 : Heap) (n0 : Nat) (X00 : Old Z n0 h0) (Axt : Arv Z h0 xt kt .byte (Int32.ofNat us.length) (us.map Value.int) (.int 0)) (hq : us = A ++ B) (hA : A ≠ []) (hB : B ≠ []) (hl : us.length < 16) :
  MetFree l yN51 (head1 (Jvm.Cond.code yN51 jdk_65_method_133_code 5 (some (.array .byte)) :: ws) ({ frames := 1, cells := 1, slots := 16, locals := 18 } : Room)) (fun aa U => aa = #[(.ref xt), (.int (Int32.ofNat A.length)), (.int (Int32.ofNat us.length))] ∧ Z.Warmed39 U.vm ∧ U.heap = h0) (fun _ _ _ _ _ => True) (fun _ U o U' => ∃ v L, o = .returned v ∧ QPq2 Z xt kt us A B h0 n0 v U'.heap L ∧ FrameEnd U o U' L ({ frames := 1, cells := 1, slots := 16, locals := 18 } : Room).cells ({ frames := 1, cells := 1, slots := 16, locals := 18 } : Room).slots) := by
 refine MetFree.of_bodySF (plainFor_of_name pn_6) hisR ?_
 intro p e s m args below meth c s₁ Bd hml0 hP hK
 obtain ⟨rfl, hZ, hh⟩ := hP
 have hx := Bd.exec
 have hby := Bd.bytes
 have hml : c.maxLocals = 5 := hml0
 have hown : s.vm.findClass "java/util/Arrays" = some m.cls := findClass_of_methodNamed Bd.named
 have hnm := (name_of_methodNamed Bd.named Bd.method).1
 have X0 : Stand p l e ({ frames := 1, cells := 1, slots := 16, locals := 18 } : Room) s m #[(.ref xt), (.int (Int32.ofNat A.length)), (.int (Int32.ofNat us.length))] below meth c s₁ [] 0 0 := Stand.of_body Bd
 have e0 : s₁.heap = h0 := by rw [← hh, Bd.state]; rfl
 have N0 := Fr.nil n0
 have K0 := Keep.refl h0 []
 have ef : entryFrame m #[(.ref xt), (.int (Int32.ofNat A.length)), (.int (Int32.ofNat us.length))] 5 = mkF m 0 #[vr xt, .val (.int (Int32.ofNat A.length)), .val (.int (Int32.ofNat us.length)), un, un] [] := by first | (simp [entryFrame, mkF, argsToLocals, Value.category]; done) | rfl
 rw [ef]
 refine fin_of fun Kx hF => ?_
 show Go p.tables e below Kx _ (mkF m 0 _ [])
 have hb4 : B.length ≤ 4000 := by have e := congrArg List.length hq; rw [List.length_append] at e; omega
 have hb16 : B.length ≤ 16 := by have e := congrArg List.length hq; rw [List.length_append] at e; omega
 have ha4 : A.length ≤ 4000 := by have e := congrArg List.length hq; rw [List.length_append] at e; omega
 show Go p.tables e below Kx _ (mkF m 0 _ [])
 refine s_iloadN (pc' := 1) X0.here hx (hb hby d65_133_0) rfl rfl ?_
 refine s_iloadN (pc' := 2) X0.here hx (hb hby d65_133_1) rfl rfl ?_
 obtain ⟨_, T165, L165, X165, hQ165, st165⟩ := kS X0 hx hZ (y := yN48) hown (hv hw 116 rfl) (hv hw 117 rfl) (hv hw 111 rfl) (hv hw 118 rfl) (by decide) (rmPck l Z a0 hw [] (Int32.ofNat A.length) (Int32.ofNat us.length) h0 n0 X00 (nlt_app hq (le4 hl))) e0 (W := 0) (g := (mkF m 2 #[vr xt, .val (.int (Int32.ofNat A.length)), .val (.int (Int32.ofNat us.length)), un, un] [(.int (Int32.ofNat us.length)), (.int (Int32.ofNat A.length))])) rfl (by rw [hml]; rfl) (argsL := [(.int (Int32.ofNat A.length)), (.int (Int32.ofNat us.length))]) (rest := []) (lenOf pd_13 rfl) rfl (by exact Nat.le_of_eq rfl) (hb hby d65_133_2) rfl (nb rfl) (nb rfl) (nb rfl) (nb rfl)
 obtain ⟨rfl, Nq165, hE165⟩ := hQ165
 have N165 := Fr.app N0 Nq165
 refine Go.st st165 ?_
 show Go p.tables e below Kx _ (mkF m 5 _ [])
 refine s_iloadN (pc' := 6) X165.here hx (hb hby d65_133_5) rfl rfl ?_
 refine s_iloadN (pc' := 7) X165.here hx (hb hby d65_133_6) rfl rfl ?_
 refine s_isub (pc' := 8) (z := (Int32.ofNat B.length)) X165.here hx (hb hby d65_133_7) rfl (lsub hq) ?_
 refine s_istoreN (pc' := 9) (Ls' := #[vr xt, .val (.int (Int32.ofNat A.length)), .val (.int (Int32.ofNat us.length)), .val (.int (Int32.ofNat B.length)), un]) X165.here hx (hb hby d65_133_8) rfl  rfl ?_
 refine s_iloadN (pc' := 10) X165.here hx (hb hby d65_133_9) rfl rfl ?_
 obtain ⟨T166, h166, k166, X166, e166, E166, A166, B166, st166⟩ := newPE X165 hx hZ (hv hw 25 rfl) hE165 (g := (mkF m 10 #[vr xt, .val (.int (Int32.ofNat A.length)), .val (.int (Int32.ofNat us.length)), .val (.int (Int32.ofNat B.length)), un] [(.int (Int32.ofNat B.length))])) rfl (hb hby d65_133_10) rfl (nn0 hb4) (cap := 16) (by rw [nl hb4]; exact hb16) (by decide) (by decide) (by decide) (ad := "[B") (by decide)
 obtain ⟨b166, g166⟩ : ∃ z, z = h0.size := ⟨_, rfl⟩
 rw [← g166] at A166 B166 st166
 have sz166 : h0.size ≤ b166 := Nat.le_trans K0.1 (Nat.le_of_eq g166.symm)
 have ge166 : n0 ≤ b166 := Nat.le_trans (X00.1 ▸ X00.2.1) (Nat.le_of_eq g166.symm)
 have K166 : Keep h0 h166 [] := K0.ext E166
 have O166 : Old Z n0 h166 := X00.ext E166
 have V166 : Arv Z h166 b166 k166 .byte (Int32.ofNat B.length) (pad B.length []) (.int 0) := newPad (n := B.length) A166 hb4
 refine Go.st st166 ?_
 show Go p.tables e below Kx _ (mkF m 12 _ [(.ref b166)])
 refine s_astore (pc' := 14) (Ls' := #[vr xt, .val (.int (Int32.ofNat A.length)), .val (.int (Int32.ofNat us.length)), .val (.int (Int32.ofNat B.length)), vr b166]) X166.here hx (hb hby d65_133_12) rfl rfl rfl ?_
 refine s_aloadN (pc' := 15) X166.here hx (hb hby d65_133_14) rfl rfl rfl ?_
 refine s_iloadN (pc' := 16) X166.here hx (hb hby d65_133_15) rfl rfl ?_
 refine s_aload (pc' := 18) X166.here hx (hb hby d65_133_16) rfl rfl rfl ?_
 refine s_iconst (pc' := 19) (v := 0) X166.here hx (hb hby d65_133_18) rfl rfl ?_
 refine s_aloadN (pc' := 20) X166.here hx (hb hby d65_133_19) rfl rfl rfl ?_
 have f167 : Arv Z h166 xt kt .byte (Int32.ofNat us.length) (us.map Value.int) (.int 0) := (Axt.ext E166)
 obtain ⟨cl168, Ar168, Aq168, As168, An168, Ah168, Ag168⟩ := id f167
 refine Go.st (X166.arraylength hx (by rw [e166]; exact Ar168.1) (State.isArrayOf_alike hZ.alike Ar168.2.1) (g := (mkF m 20 #[vr xt, .val (.int (Int32.ofNat A.length)), .val (.int (Int32.ofNat us.length)), .val (.int (Int32.ofNat B.length)), vr b166] [(.ref xt), (.int 0), (.ref b166), (.int (Int32.ofNat A.length)), (.ref xt)])) rfl rfl (hb hby d65_133_20)) ?_
 rw [len_of As168 An168]
 show Go p.tables e below Kx _ (mkF m 21 _ [(.int (Int32.ofNat us.length)), (.int 0), (.ref b166), (.int (Int32.ofNat A.length)), (.ref xt)])
 refine s_iloadN (pc' := 22) X166.here hx (hb hby d65_133_21) rfl rfl ?_
 refine s_isub (pc' := 23) (z := (Int32.ofNat B.length)) X166.here hx (hb hby d65_133_22) rfl (lsub hq) ?_
 refine s_iloadN (pc' := 24) X166.here hx (hb hby d65_133_23) rfl rfl ?_
 obtain ⟨_, T169, L169, X169, hQ169, st169⟩ := kS X166 hx hZ (y := yN17) hown (hv hw 119 rfl) (hv hw 87 rfl) (hv hw 84 rfl) (hv hw 88 rfl) (by decide) (rmGmie l Z a0 hw [] (Int32.ofNat B.length) h166 n0 O166 ) e166 (W := 4) (g := (mkF m 24 #[vr xt, .val (.int (Int32.ofNat A.length)), .val (.int (Int32.ofNat us.length)), .val (.int (Int32.ofNat B.length)), vr b166] [(.int (Int32.ofNat B.length)), (.int (Int32.ofNat B.length)), (.int 0), (.ref b166), (.int (Int32.ofNat A.length)), (.ref xt)])) rfl (by rw [hml]; rfl) (argsL := [(.int (Int32.ofNat B.length)), (.int (Int32.ofNat B.length))]) (rest := [(.int 0), (.ref b166), (.int (Int32.ofNat A.length)), (.ref xt)]) (lenOf pd_8 rfl) rfl (by exact Nat.le_of_eq rfl) (hb hby d65_133_24) rfl (nb rfl) (nb rfl) (nb rfl) (nb rfl)
 obtain ⟨rfl, Nq169, hE169⟩ := hQ169
 have N169 := Fr.app N165 Nq169
 refine Go.st st169 ?_
 show Go p.tables e below Kx _ (mkF m 27 _ [(.int (Int32.ofNat B.length)), (.int 0), (.ref b166), (.int (Int32.ofNat A.length)), (.ref xt)])
 obtain ⟨T170, h170, L170, X170, e170, N170, KK170, V170, st170⟩ := cpMid X169 hx hZ hown (hv hw 120 rfl) (hv hw 123 rfl) (hv hw 121 rfl) (hv hw 122 rfl) hE169 (A := A) (B := B) (C := ([] : List Int32)) (by rw [List.append_nil]; exact hq) (le4 hl) f167 V166 N169 ge166 (g := (mkF m 27 #[vr xt, .val (.int (Int32.ofNat A.length)), .val (.int (Int32.ofNat us.length)), .val (.int (Int32.ofNat B.length)), vr b166] [(.int (Int32.ofNat B.length)), (.int 0), (.ref b166), (.int (Int32.ofNat A.length)), (.ref xt)])) rfl (by rw [hml]; rfl) rfl (hb hby d65_133_27) (by decide) (W := 0) (by exact Nat.le_of_eq rfl) (by decide)
 have K170 : Keep h0 h170 [] := K166.trans KK170 (allS (P := fun zz => zz ∈ [] ∨ h0.size ≤ zz) (Or.inr sz166) all0)
 have O170 : Old Z n0 h170 := O166.keep KK170 (allS ge166 all0)
 refine Go.st st170 ?_
 show Go p.tables e below Kx _ (mkF m 30 _ [])
 refine s_aload (pc' := 32) X170.here hx (hb hby d65_133_30) rfl rfl rfl ?_
 have f171 : Exa Z h170 b166 "[B" := (B166.keep KK170)
 obtain ⟨fs, hr, hrun, hended, hW, hsame⟩ := X170.leave (v := (some (.ref b166))) (fun h => by rw [Bd.returns] at h; cases h)
 refine Go.fin (retOut X170 hx Bd.returns rfl (Or.inr (Or.inr (Or.inr (Or.inr ⟨rfl, rfl, rfl⟩)))) (hb hby d65_133_32) hr) (hF _ _ hrun hended ⟨_, _, rfl, ?_, ⟨_, rfl⟩, hW, hsame.mono (by decide) (by decide)⟩)
 ·
  show QPq2 Z xt kt us A B h0 n0 ((some (.ref b166)) : Option Value) T170.heap _
  rw [e170]
  exact ⟨_, _, rfl, N170, K170, sz166, f171, V170⟩
def QPr2 (Z : State) (xt : Addr) (kt : ClassId) (us A B : List Int32) (h0 : Heap) (n0 : Nat) (v : Option Value) (h : Heap) (L : List Loc) : Prop := ∃ (t : Addr) (k : ClassId), v = some (.ref t) ∧ Fr n0 L ∧ Keep h0 h [] ∧ h0.size ≤ t ∧ Exa Z h t "[B" ∧ Arv Z h t k .byte (Int32.ofNat B.length) (B.map Value.int) (.int 0)
theorem rmPr2 (l : Launch) (Z : State) (a0 : Array Value) (hw : ∀ d ∈ tables_1, d.before a0 Z = true) (ws : List Jvm.Cond) (xt : Addr) (kt : ClassId) (us A B : List Int32) (h0 : Heap) (n0 : Nat) (X00 : Old Z n0 h0) (Axt : Arv Z h0 xt kt .byte (Int32.ofNat us.length) (us.map Value.int) (.int 0)) (hq : us = A ++ B) (hA : A ≠ []) (hB : B ≠ []) (hl : us.length < 16) :
  MetFree l yN50 (head1 (Jvm.Cond.code yN50 jdk_65_method_132_code 3 (some (.array .byte)) :: ws) ({ frames := 2, cells := 1, slots := 16, locals := 34 } : Room)) (fun aa U => aa = #[(.ref xt), (.int (Int32.ofNat A.length)), (.int (Int32.ofNat us.length))] ∧ Z.Warmed39 U.vm ∧ U.heap = h0) (fun _ _ _ _ _ => True) (fun _ U o U' => ∃ v L, o = .returned v ∧ QPr2 Z xt kt us A B h0 n0 v U'.heap L ∧ FrameEnd U o U' L ({ frames := 2, cells := 1, slots := 16, locals := 34 } : Room).cells ({ frames := 2, cells := 1, slots := 16, locals := 34 } : Room).slots) := by
 refine MetFree.of_bodySF (plainFor_of_name pn_6) hisR ?_
 intro p e s m args below meth c s₁ Bd hml0 hP hK
 obtain ⟨rfl, hZ, hh⟩ := hP
 have hx := Bd.exec
 have hby := Bd.bytes
 have hml : c.maxLocals = 3 := hml0
 have hown : s.vm.findClass "java/util/Arrays" = some m.cls := findClass_of_methodNamed Bd.named
 have hnm := (name_of_methodNamed Bd.named Bd.method).1
 have X0 : Stand p l e ({ frames := 2, cells := 1, slots := 16, locals := 34 } : Room) s m #[(.ref xt), (.int (Int32.ofNat A.length)), (.int (Int32.ofNat us.length))] below meth c s₁ [] 0 0 := Stand.of_body Bd
 have e0 : s₁.heap = h0 := by rw [← hh, Bd.state]; rfl
 have N0 := Fr.nil n0
 have K0 := Keep.refl h0 []
 have ef : entryFrame m #[(.ref xt), (.int (Int32.ofNat A.length)), (.int (Int32.ofNat us.length))] 3 = mkF m 0 #[vr xt, .val (.int (Int32.ofNat A.length)), .val (.int (Int32.ofNat us.length))] [] := by first | (simp [entryFrame, mkF, argsToLocals, Value.category]; done) | rfl
 rw [ef]
 refine fin_of fun Kx hF => ?_
 show Go p.tables e below Kx _ (mkF m 0 _ [])
 have hb4 : B.length ≤ 4000 := by have e := congrArg List.length hq; rw [List.length_append] at e; omega
 have hb16 : B.length ≤ 16 := by have e := congrArg List.length hq; rw [List.length_append] at e; omega
 have ha4 : A.length ≤ 4000 := by have e := congrArg List.length hq; rw [List.length_append] at e; omega
 show Go p.tables e below Kx _ (mkF m 0 _ [])
 refine s_iloadN (pc' := 1) X0.here hx (hb hby d65_132_0) rfl rfl ?_
 refine s_ifY (pc' := 10) X0.here hx (hb hby d65_132_1) ((if0 _ _).trans (feq (nz_len hA ha4)).2) (by decide) (by decide) ?_
 refine s_aloadN (pc' := 11) X0.here hx (hb hby d65_132_10) rfl rfl rfl ?_
 refine s_iloadN (pc' := 12) X0.here hx (hb hby d65_132_11) rfl rfl ?_
 refine s_iloadN (pc' := 13) X0.here hx (hb hby d65_132_12) rfl rfl ?_
 obtain ⟨_, T172, L172, X172, hQ172, st172⟩ := kS X0 hx hZ (y := yN51) hown (hv hw 113 rfl) (hv hw 114 rfl) (hv hw 111 rfl) (hv hw 115 rfl) (by decide) (rmPq2 l Z a0 hw [] xt kt us A B h0 n0 X00 Axt hq hA hB hl) e0 (W := 0) (g := (mkF m 13 #[vr xt, .val (.int (Int32.ofNat A.length)), .val (.int (Int32.ofNat us.length))] [(.int (Int32.ofNat us.length)), (.int (Int32.ofNat A.length)), (.ref xt)])) rfl (by rw [hml]; rfl) (argsL := [(.ref xt), (.int (Int32.ofNat A.length)), (.int (Int32.ofNat us.length))]) (rest := []) (lenOf pd_14 rfl) rfl (by exact Nat.le_of_eq rfl) (hb hby d65_132_13) rfl (nb rfl) (nb rfl) (nb rfl) (nb rfl)
 obtain ⟨t172, kt172, rfl, Nq172, Kq172, le172, q0_172, q1_172⟩ := hQ172
 have sz172 : h0.size ≤ t172 := Nat.le_trans K0.1 le172
 have ge172 : n0 ≤ t172 := Nat.le_trans (X00.1 ▸ X00.2.1) le172
 have N172 := Fr.app N0 Nq172
 have K172 : Keep h0 T172.heap [] := K0.trans Kq172 all0
 have O172 : Old Z n0 T172.heap := X00.keep Kq172 all0
 refine Go.st st172 ?_
 show Go p.tables e below Kx _ (mkF m 16 _ [(.ref t172)])
 obtain ⟨fs, hr, hrun, hended, hW, hsame⟩ := X172.leave (v := (some (.ref t172))) (fun h => by rw [Bd.returns] at h; cases h)
 refine Go.fin (retOut X172 hx Bd.returns rfl (Or.inr (Or.inr (Or.inr (Or.inr ⟨rfl, rfl, rfl⟩)))) (hb hby d65_132_16) hr) (hF _ _ hrun hended ⟨_, _, rfl, ?_, ⟨_, rfl⟩, hW, hsame.mono (by decide) (by decide)⟩)
 ·
  show QPr2 Z xt kt us A B h0 n0 ((some (.ref t172)) : Option Value) T172.heap _
  skip
  exact ⟨_, _, rfl, N172, K172, sz172, q0_172, q1_172⟩
def QPn2 (Z : State) (xt : Addr) (kt : ClassId) (us A B : List Int32) (h0 : Heap) (n0 : Nat) (v : Option Value) (h : Heap) (L : List Loc) : Prop := ∃ (y t : Addr) (k : ClassId), v = some (.ref y) ∧ Fr n0 L ∧ Keep h0 h [] ∧ h0.size ≤ y ∧ h0.size ≤ t ∧ Exa Z h t "[B" ∧ Exa Z h y "java/lang/String" ∧ Fld Z h y "java/lang/String" "coder" "B" (.int 0) ∧ Fld Z h y "java/lang/String" "value" "[B" (.ref t) ∧ Arv Z h t k .byte (Int32.ofNat B.length) (B.map Value.int) (.int 0)
theorem rmPn2 (l : Launch) (Z : State) (a0 : Array Value) (hw : ∀ d ∈ tables_1, d.before a0 Z = true) (ws : List Jvm.Cond) (xt : Addr) (kt : ClassId) (us A B : List Int32) (h0 : Heap) (n0 : Nat) (X00 : Old Z n0 h0) (Axt : Arv Z h0 xt kt .byte (Int32.ofNat us.length) (us.map Value.int) (.int 0)) (hq : us = A ++ B) (hA : A ≠ []) (hB : B ≠ []) (hl : us.length < 16) :
  MetFree l yN45 (head1 (Jvm.Cond.code yN45 jdk_43_method_47_code 3 (some (.object "java/lang/String")) :: ws) ({ frames := 3, cells := 2, slots := 20, locals := 50 } : Room)) (fun aa U => aa = #[(.ref xt), (.int (Int32.ofNat A.length)), (.int (Int32.ofNat B.length))] ∧ Z.Warmed39 U.vm ∧ U.heap = h0) (fun _ _ _ _ _ => True) (fun _ U o U' => ∃ v L, o = .returned v ∧ QPn2 Z xt kt us A B h0 n0 v U'.heap L ∧ FrameEnd U o U' L ({ frames := 3, cells := 2, slots := 20, locals := 50 } : Room).cells ({ frames := 3, cells := 2, slots := 20, locals := 50 } : Room).slots) := by
 refine MetFree.of_bodySF (plainFor_of_name pn_4) hisR ?_
 intro p e s m args below meth c s₁ Bd hml0 hP hK
 obtain ⟨rfl, hZ, hh⟩ := hP
 have hx := Bd.exec
 have hby := Bd.bytes
 have hml : c.maxLocals = 3 := hml0
 have hown : s.vm.findClass "java/lang/StringLatin1" = some m.cls := findClass_of_methodNamed Bd.named
 have hnm := (name_of_methodNamed Bd.named Bd.method).1
 have X0 : Stand p l e ({ frames := 3, cells := 2, slots := 20, locals := 50 } : Room) s m #[(.ref xt), (.int (Int32.ofNat A.length)), (.int (Int32.ofNat B.length))] below meth c s₁ [] 0 0 := Stand.of_body Bd
 have e0 : s₁.heap = h0 := by rw [← hh, Bd.state]; rfl
 have N0 := Fr.nil n0
 have K0 := Keep.refl h0 []
 have ef : entryFrame m #[(.ref xt), (.int (Int32.ofNat A.length)), (.int (Int32.ofNat B.length))] 3 = mkF m 0 #[vr xt, .val (.int (Int32.ofNat A.length)), .val (.int (Int32.ofNat B.length))] [] := by first | (simp [entryFrame, mkF, argsToLocals, Value.category]; done) | rfl
 rw [ef]
 refine fin_of fun Kx hF => ?_
 show Go p.tables e below Kx _ (mkF m 0 _ [])
 have hb4 : B.length ≤ 4000 := by have e := congrArg List.length hq; rw [List.length_append] at e; omega
 have hb16 : B.length ≤ 16 := by have e := congrArg List.length hq; rw [List.length_append] at e; omega
 have ha4 : A.length ≤ 4000 := by have e := congrArg List.length hq; rw [List.length_append] at e; omega
 show Go p.tables e below Kx _ (mkF m 0 _ [])
 refine s_iloadN (pc' := 1) X0.here hx (hb hby d43_47_0) rfl rfl ?_
 refine s_ifY (pc' := 7) X0.here hx (hb hby d43_47_1) ((if0 _ _).trans (feq (nz_len hB hb4)).2) (by decide) (by decide) ?_
 obtain ⟨T164, h164, X164, e164, E164, A164, D164, -, st164⟩ := newO X0 hx hZ hown (hv hw 108 rfl) (hv hw 7 rfl) (hv hw 8 rfl) e0 (g := (mkF m 7 #[vr xt, .val (.int (Int32.ofNat A.length)), .val (.int (Int32.ofNat B.length))] [])) rfl (hb hby d43_47_7) (by decide) (by decide)
 obtain ⟨b164, g164⟩ : ∃ z, z = h0.size := ⟨_, rfl⟩
 rw [← g164] at A164 D164 st164
 have sz164 : h0.size ≤ b164 := Nat.le_trans K0.1 (Nat.le_of_eq g164.symm)
 have ge164 : n0 ≤ b164 := Nat.le_trans (X00.1 ▸ X00.2.1) (Nat.le_of_eq g164.symm)
 have K164 : Keep h0 h164 [] := K0.ext E164
 have O164 : Old Z n0 h164 := X00.ext E164
 have F164_coder : Fld Z h164 b164 "java/lang/String" "coder" "B" (.int 0) := D164 (Or.inr (hv hw 33 rfl)) (ty := .byte) (by decide)
 have F164_value : Fld Z h164 b164 "java/lang/String" "value" "[B" .null := D164 (Or.inr (hv hw 35 rfl)) (ty := (.array .byte)) (by decide)
 refine Go.st st164 ?_
 show Go p.tables e below Kx _ (mkF m 10 _ [(.ref b164)])
 refine s_dup (pc' := 11) X164.here hx (hb hby d43_47_10) rfl rfl ?_
 refine s_aloadN (pc' := 12) X164.here hx (hb hby d43_47_11) rfl rfl rfl ?_
 refine s_iloadN (pc' := 13) X164.here hx (hb hby d43_47_12) rfl rfl ?_
 refine s_iloadN (pc' := 14) X164.here hx (hb hby d43_47_13) rfl rfl ?_
 refine s_iloadN (pc' := 15) X164.here hx (hb hby d43_47_14) rfl rfl ?_
 refine s_iadd (pc' := 16) (z := (Int32.ofNat us.length)) X164.here hx (hb hby d43_47_15) rfl (by rw [lapp, hq]) ?_
 have f173 : Arv Z h164 xt kt .byte (Int32.ofNat us.length) (us.map Value.int) (.int 0) := (Axt.ext E164)
 obtain ⟨_, T174, L174, X174, hQ174, st174⟩ := kS X164 hx hZ (y := yN50) hown (hv hw 109 rfl) (hv hw 110 rfl) (hv hw 111 rfl) (hv hw 112 rfl) (by decide) (rmPr2 l Z a0 hw [] xt kt us A B h164 n0 O164 f173 hq hA hB hl) e164 (W := 2) (g := (mkF m 16 #[vr xt, .val (.int (Int32.ofNat A.length)), .val (.int (Int32.ofNat B.length))] [(.int (Int32.ofNat us.length)), (.int (Int32.ofNat A.length)), (.ref xt), (.ref b164), (.ref b164)])) rfl (by rw [hml]; rfl) (argsL := [(.ref xt), (.int (Int32.ofNat A.length)), (.int (Int32.ofNat us.length))]) (rest := [(.ref b164), (.ref b164)]) (lenOf pd_14 rfl) rfl (by exact Nat.le_of_eq rfl) (hb hby d43_47_16) rfl (nb rfl) (nb rfl) (nb rfl) (nb rfl)
 obtain ⟨t174, kt174, rfl, Nq174, Kq174, le174, q0_174, q1_174⟩ := hQ174
 have sz174 : h0.size ≤ t174 := Nat.le_trans K164.1 le174
 have ge174 : n0 ≤ t174 := Nat.le_trans (O164.1 ▸ O164.2.1) le174
 have N174 := Fr.app N0 Nq174
 have K174 : Keep h0 T174.heap [] := K164.trans Kq174 all0
 have O174 : Old Z n0 T174.heap := O164.keep Kq174 all0
 refine Go.st st174 ?_
 show Go p.tables e below Kx _ (mkF m 19 _ [(.ref t174), (.ref b164), (.ref b164)])
 refine s_iconst (pc' := 20) (v := 0) X174.here hx (hb hby d43_47_19) rfl rfl ?_
 have f175 : Exa Z T174.heap b164 "java/lang/String" := (A164.keep Kq174)
 have f176 : Fld Z T174.heap b164 "java/lang/String" "value" "[B" .null := (F164_value.keep Kq174 nin0)
 have f177 : Fld Z T174.heap b164 "java/lang/String" "coder" "B" (.int 0) := (F164_coder.keep Kq174 nin0)
 obtain ⟨_, T178, L178, X178, hQ178, st178⟩ := kI X174 hx hZ (y := yN20) rfl hown (hv hw 124 rfl) (hv hw 125 rfl) (hv hw 8 rfl) (hv hw 126 rfl) (by decide) (rmPbb l Z a0 hw [] b164 t174 T174.heap n0 O174 ge164 f175 f176 f177) rfl (a := b164) (W := 1) (g := (mkF m 20 #[vr xt, .val (.int (Int32.ofNat A.length)), .val (.int (Int32.ofNat B.length))] [(.int 0), (.ref t174), (.ref b164), (.ref b164)])) rfl (by rw [hml]; rfl) (argsL := [(.ref t174), (.int 0)]) (rest := [(.ref b164)]) (lenOf pd_15 rfl) rfl (by exact Nat.le_of_eq rfl) (hb hby d43_47_20) rfl (nb rfl) (nb rfl) (nb rfl) (nb rfl)
 obtain ⟨rfl, Nq178, Kq178, q1_178, q2_178, q3_178⟩ := hQ178
 have N178 := Fr.app N174 Nq178
 have K178 : Keep h0 T178.heap [] := K174.trans Kq178 (allS (P := fun zz => zz ∈ [] ∨ h0.size ≤ zz) (Or.inr sz164) all0)
 have O178 : Old Z n0 T178.heap := O174.keep Kq178 (allS ge164 all0)
 refine Go.tr st178 ?_
 show Go p.tables e below Kx _ (mkF m 23 _ [(.ref b164)])
 have f179 : Exa Z T178.heap t174 "[B" := (q0_174.keep Kq178)
 have f180 : Arv Z T178.heap t174 kt174 .byte (Int32.ofNat B.length) (B.map Value.int) (.int 0) := (q1_174.keep Kq178 (ninS (Ne.symm (Nat.ne_of_lt (Nat.lt_of_lt_of_le A164.lt le174))) nin0))
 obtain ⟨fs, hr, hrun, hended, hW, hsame⟩ := X178.leave (v := (some (.ref b164))) (fun h => by rw [Bd.returns] at h; cases h)
 refine Go.fin (retOut X178 hx Bd.returns rfl (Or.inr (Or.inr (Or.inr (Or.inr ⟨rfl, rfl, rfl⟩)))) (hb hby d43_47_23) hr) (hF _ _ hrun hended ⟨_, _, rfl, ?_, ⟨_, rfl⟩, hW, hsame.mono (by decide) (by decide)⟩)
 ·
  show QPn2 Z xt kt us A B h0 n0 ((some (.ref b164)) : Option Value) T178.heap _
  skip
  exact ⟨_, _, _, rfl, N178, K178, sz164, sz174, f179, q1_178, q2_178, q3_178, f180⟩
def QPs2 (Z : State) (xy yb : Addr) (ky : ClassId) (us A B : List Int32) (h0 : Heap) (n0 : Nat) (v : Option Value) (h : Heap) (L : List Loc) : Prop := ∃ (y t : Addr) (k : ClassId), v = some (.ref y) ∧ Fr n0 L ∧ Keep h0 h [] ∧ h0.size ≤ y ∧ h0.size ≤ t ∧ Exa Z h t "[B" ∧ Exa Z h y "java/lang/String" ∧ Fld Z h y "java/lang/String" "coder" "B" (.int 0) ∧ Fld Z h y "java/lang/String" "value" "[B" (.ref t) ∧ Arv Z h t k .byte (Int32.ofNat B.length) (B.map Value.int) (.int 0)
theorem rmPs2 (l : Launch) (Z : State) (a0 : Array Value) (hw : ∀ d ∈ tables_1, d.before a0 Z = true) (ws : List Jvm.Cond) (xy yb : Addr) (ky : ClassId) (us A B : List Int32) (h0 : Heap) (n0 : Nat) (X00 : Old Z n0 h0) (G1 : Int32) (S1 : Sta Z Z.heap "java/lang/String" "COMPACT_STRINGS" "Z" (.int G1)) (P1 : ¬ G1 = 0) (vf : Value) (hvf : vf.isRef = true) (SFm : Sta Z Z.heap "jdk/internal/util/Preconditions" "SIOOBE_FORMATTER" "Ljava/util/function/BiFunction;" vf) (Exy : Exa Z h0 xy "java/lang/String") (Cxy : Fld Z h0 xy "java/lang/String" "coder" "B" (.int 0)) (Vxy : Fld Z h0 xy "java/lang/String" "value" "[B" (.ref yb)) (Axy : Arv Z h0 yb ky .byte (Int32.ofNat us.length) (us.map Value.int) (.int 0)) (hq : us = A ++ B) (hA : A ≠ []) (hB : B ≠ []) (hl : us.length < 16) :
  MetFree l yN35 (head1 (Jvm.Cond.code yN35 jdk_42_method_92_code 5 (some (.object "java/lang/String")) :: ws) ({ frames := 4, cells := 2, slots := 20, locals := 64 } : Room)) (fun aa U => aa = #[(.ref xy), (.int (Int32.ofNat A.length)), (.int (Int32.ofNat us.length))] ∧ Z.Warmed39 U.vm ∧ U.heap = h0) (fun _ _ _ _ _ => True) (fun _ U o U' => ∃ v L, o = .returned v ∧ QPs2 Z xy yb ky us A B h0 n0 v U'.heap L ∧ FrameEnd U o U' L ({ frames := 4, cells := 2, slots := 20, locals := 64 } : Room).cells ({ frames := 4, cells := 2, slots := 20, locals := 64 } : Room).slots) := by
 refine MetFree.of_bodySF (plainFor_of_name pn_3) hisR ?_
 intro p e s m args below meth c s₁ Bd hml0 hP hK
 obtain ⟨rfl, hZ, hh⟩ := hP
 have hx := Bd.exec
 have hby := Bd.bytes
 have hml : c.maxLocals = 5 := hml0
 have hown : s.vm.findClass "java/lang/String" = some m.cls := findClass_of_methodNamed Bd.named
 have hnm := (name_of_methodNamed Bd.named Bd.method).1
 have X0 : Stand p l e ({ frames := 4, cells := 2, slots := 20, locals := 64 } : Room) s m #[(.ref xy), (.int (Int32.ofNat A.length)), (.int (Int32.ofNat us.length))] below meth c s₁ [] 0 0 := Stand.of_body Bd
 have e0 : s₁.heap = h0 := by rw [← hh, Bd.state]; rfl
 have N0 := Fr.nil n0
 have K0 := Keep.refl h0 []
 have ef : entryFrame m #[(.ref xy), (.int (Int32.ofNat A.length)), (.int (Int32.ofNat us.length))] 5 = mkF m 0 #[vr xy, .val (.int (Int32.ofNat A.length)), .val (.int (Int32.ofNat us.length)), un, un] [] := by first | (simp [entryFrame, mkF, argsToLocals, Value.category]; done) | rfl
 rw [ef]
 refine fin_of fun Kx hF => ?_
 show Go p.tables e below Kx _ (mkF m 0 _ [])
 have hb4 : B.length ≤ 4000 := by have e := congrArg List.length hq; rw [List.length_append] at e; omega
 have hb16 : B.length ≤ 16 := by have e := congrArg List.length hq; rw [List.length_append] at e; omega
 have ha4 : A.length ≤ 4000 := by have e := congrArg List.length hq; rw [List.length_append] at e; omega
 show Go p.tables e below Kx _ (mkF m 0 _ [])
 refine s_aloadN (pc' := 1) X0.here hx (hb hby d42_92_0) rfl rfl rfl ?_
 obtain ⟨_, T160, L160, X160, hQ160, st160⟩ := kV X0 hx hZ (y := yN33) hown (hv hw 65 rfl) (hv hw 66 rfl) (notFace_of_selects (args := #[]) (mvT hZ (hv hw 68 rfl))) (hv hw 68 rfl) (hv hw 67 rfl) (hv hw 8 rfl) (hv hw 69 rfl) (by decide) (rmGl l Z a0 hw [] xy yb _ us h0 n0 X00 G1 S1 P1 Exy Cxy Vxy Axy) e0 Exy (W := 0) (g := (mkF m 1 #[vr xy, .val (.int (Int32.ofNat A.length)), .val (.int (Int32.ofNat us.length)), un, un] [(.ref xy)])) rfl (by rw [hml]; rfl) (argsL := []) (rest := []) (lenOf pd_6 rfl) rfl (by exact Nat.le_of_eq rfl) (hb hby d42_92_1) rfl (nb rfl) (nb rfl) (nb rfl) (nb rfl)
 obtain ⟨rfl, Nq160, hE160⟩ := hQ160
 have N160 := Fr.app N0 Nq160
 refine Go.tr st160 ?_
 show Go p.tables e below Kx _ (mkF m 4 _ [(.int (Int32.ofNat us.length))])
 refine s_istoreN (pc' := 5) (Ls' := #[vr xy, .val (.int (Int32.ofNat A.length)), .val (.int (Int32.ofNat us.length)), .val (.int (Int32.ofNat us.length)), un]) X160.here hx (hb hby d42_92_4) rfl  rfl ?_
 refine s_iloadN (pc' := 6) X160.here hx (hb hby d42_92_5) rfl rfl ?_
 refine s_iloadN (pc' := 7) X160.here hx (hb hby d42_92_6) rfl rfl ?_
 refine s_iloadN (pc' := 8) X160.here hx (hb hby d42_92_7) rfl rfl ?_
 obtain ⟨_, T161, L161, X161, hQ161, st161⟩ := kS X160 hx hZ (y := yN22) hown (hv hw 97 rfl) (hv hw 98 rfl) (hv hw 8 rfl) (hv hw 99 rfl) (by decide) (rmPcb l Z a0 hw [] (Int32.ofNat A.length) (Int32.ofNat us.length) (Int32.ofNat us.length) h0 n0 X00 vf hvf SFm (nn0 ha4) (nlt_app hq (le4 hl)) (lirr _)) hE160 (W := 0) (g := (mkF m 8 #[vr xy, .val (.int (Int32.ofNat A.length)), .val (.int (Int32.ofNat us.length)), .val (.int (Int32.ofNat us.length)), un] [(.int (Int32.ofNat us.length)), (.int (Int32.ofNat us.length)), (.int (Int32.ofNat A.length))])) rfl (by rw [hml]; rfl) (argsL := [(.int (Int32.ofNat A.length)), (.int (Int32.ofNat us.length)), (.int (Int32.ofNat us.length))]) (rest := []) (lenOf pd_12 rfl) rfl (by exact Nat.le_of_eq rfl) (hb hby d42_92_8) rfl (nb rfl) (nb rfl) (nb rfl) (nb rfl)
 obtain ⟨rfl, Nq161, hE161⟩ := hQ161
 have N161 := Fr.app N160 Nq161
 refine Go.st st161 ?_
 show Go p.tables e below Kx _ (mkF m 11 _ [])
 refine s_iloadN (pc' := 12) X161.here hx (hb hby d42_92_11) rfl rfl ?_
 refine s_ifY (pc' := 22) X161.here hx (hb hby d42_92_12) ((if0 _ _).trans (feq (nz_len hA ha4)).2) (by decide) (by decide) ?_
 refine s_iloadN (pc' := 23) X161.here hx (hb hby d42_92_22) rfl rfl ?_
 refine s_iloadN (pc' := 24) X161.here hx (hb hby d42_92_23) rfl rfl ?_
 refine s_isub (pc' := 25) (z := (Int32.ofNat B.length)) X161.here hx (hb hby d42_92_24) rfl (lsub hq) ?_
 refine s_istore (pc' := 27) (Ls' := #[vr xy, .val (.int (Int32.ofNat A.length)), .val (.int (Int32.ofNat us.length)), .val (.int (Int32.ofNat us.length)), .val (.int (Int32.ofNat B.length))]) X161.here hx (hb hby d42_92_25) rfl  rfl ?_
 refine s_aloadN (pc' := 28) X161.here hx (hb hby d42_92_27) rfl rfl rfl ?_
 obtain ⟨_, T162, L162, X162, hQ162, st162⟩ := kV X161 hx hZ (y := yN32) hown (hv hw 60 rfl) (hv hw 61 rfl) (notFace_of_selects (args := #[]) (mvT hZ (hv hw 63 rfl))) (hv hw 63 rfl) (hv hw 62 rfl) (hv hw 8 rfl) (hv hw 64 rfl) (by decide) (rmKil l Z a0 hw [] xy h0 n0 X00 G1 S1 P1 Cxy) hE161 Exy (W := 0) (g := (mkF m 28 #[vr xy, .val (.int (Int32.ofNat A.length)), .val (.int (Int32.ofNat us.length)), .val (.int (Int32.ofNat us.length)), .val (.int (Int32.ofNat B.length))] [(.ref xy)])) rfl (by rw [hml]; rfl) (argsL := []) (rest := []) (lenOf pd_4 rfl) rfl (by exact Nat.le_of_eq rfl) (hb hby d42_92_28) rfl (nb rfl) (nb rfl) (nb rfl) (nb rfl)
 obtain ⟨rfl, Nq162, hE162⟩ := hQ162
 have N162 := Fr.app N161 Nq162
 refine Go.tr st162 ?_
 show Go p.tables e below Kx _ (mkF m 31 _ [(.int 1)])
 refine s_ifN (pc' := 34) X162.here hx (hb hby d42_92_31) rfl ((if0 _ _).trans (feq (by decide)).1) ?_
 refine s_aloadN (pc' := 35) X162.here hx (hb hby d42_92_34) rfl rfl rfl ?_
 obtain ⟨T163, X163, e163, st163⟩ := getF X162 hx hZ hown (host := "") (Or.inl (hv hw 34 rfl)) Via.refl hE162 Vxy (g := (mkF m 35 #[vr xy, .val (.int (Int32.ofNat A.length)), .val (.int (Int32.ofNat us.length)), .val (.int (Int32.ofNat us.length)), .val (.int (Int32.ofNat B.length))] [(.ref xy)])) rfl rfl (hb hby d42_92_35)
 refine Go.st st163 ?_
 show Go p.tables e below Kx _ (mkF m 38 _ [(.ref yb)])
 refine s_iloadN (pc' := 39) X163.here hx (hb hby d42_92_38) rfl rfl ?_
 refine s_iload (pc' := 41) X163.here hx (hb hby d42_92_39) rfl rfl ?_
 obtain ⟨_, T181, L181, X181, hQ181, st181⟩ := kS X163 hx hZ (y := yN45) hown (hv hw 105 rfl) (hv hw 106 rfl) (hv hw 77 rfl) (hv hw 107 rfl) (by decide) (rmPn2 l Z a0 hw [] yb ky us A B h0 n0 X00 Axy hq hA hB hl) e163 (W := 0) (g := (mkF m 41 #[vr xy, .val (.int (Int32.ofNat A.length)), .val (.int (Int32.ofNat us.length)), .val (.int (Int32.ofNat us.length)), .val (.int (Int32.ofNat B.length))] [(.int (Int32.ofNat B.length)), (.int (Int32.ofNat A.length)), (.ref yb)])) rfl (by rw [hml]; rfl) (argsL := [(.ref yb), (.int (Int32.ofNat A.length)), (.int (Int32.ofNat B.length))]) (rest := []) (lenOf pd_16 rfl) rfl (by exact Nat.le_of_eq rfl) (hb hby d42_92_41) rfl (nb rfl) (nb rfl) (nb rfl) (nb rfl)
 obtain ⟨y181, t181, kt181, rfl, Nq181, Kq181, ly181, le181, q0_181, q1_181, q2_181, q3_181, q4_181⟩ := hQ181
 have sz181 : h0.size ≤ t181 := Nat.le_trans K0.1 le181
 have ge181 : n0 ≤ t181 := Nat.le_trans (X00.1 ▸ X00.2.1) le181
 have sz181y : h0.size ≤ y181 := Nat.le_trans K0.1 ly181
 have ge181y : n0 ≤ y181 := Nat.le_trans (X00.1 ▸ X00.2.1) ly181
 have N181 := Fr.app N162 Nq181
 have K181 : Keep h0 T181.heap [] := K0.trans Kq181 all0
 have O181 : Old Z n0 T181.heap := X00.keep Kq181 all0
 refine Go.st st181 ?_
 show Go p.tables e below Kx _ (mkF m 44 _ [(.ref y181)])
 refine s_goto (pc' := 57) X181.here hx (hb hby d42_92_44) (by decide) (by decide) ?_
 obtain ⟨fs, hr, hrun, hended, hW, hsame⟩ := X181.leave (v := (some (.ref y181))) (fun h => by rw [Bd.returns] at h; cases h)
 refine Go.fin (retOut X181 hx Bd.returns rfl (Or.inr (Or.inr (Or.inr (Or.inr ⟨rfl, rfl, rfl⟩)))) (hb hby d42_92_57) hr) (hF _ _ hrun hended ⟨_, _, rfl, ?_, ⟨_, rfl⟩, hW, hsame.mono (by decide) (by decide)⟩)
 ·
  show QPs2 Z xy yb ky us A B h0 n0 ((some (.ref y181)) : Option Value) T181.heap _
  skip
  exact ⟨_, _, _, rfl, N181, K181, sz181y, sz181, q0_181, q1_181, q2_181, q3_181, q4_181⟩
theorem d42_91_6 : decode jdk_42_method_91_code 6 = .ok (.invokevirtual 681, 3) := by decide +kernel
theorem d42_91_9 : decode jdk_42_method_91_code 9 = .ok (.areturn, 1) := by decide +kernel
def QPt2 (Z : State) (xy yb : Addr) (ky : ClassId) (us A B : List Int32) (h0 : Heap) (n0 : Nat) (v : Option Value) (h : Heap) (L : List Loc) : Prop := ∃ (y t : Addr) (k : ClassId), v = some (.ref y) ∧ Fr n0 L ∧ Keep h0 h [] ∧ h0.size ≤ y ∧ h0.size ≤ t ∧ Exa Z h t "[B" ∧ Exa Z h y "java/lang/String" ∧ Fld Z h y "java/lang/String" "coder" "B" (.int 0) ∧ Fld Z h y "java/lang/String" "value" "[B" (.ref t) ∧ Arv Z h t k .byte (Int32.ofNat B.length) (B.map Value.int) (.int 0)
theorem rmPt2 (l : Launch) (Z : State) (a0 : Array Value) (hw : ∀ d ∈ tables_1, d.before a0 Z = true) (ws : List Jvm.Cond) (xy yb : Addr) (ky : ClassId) (us A B : List Int32) (h0 : Heap) (n0 : Nat) (X00 : Old Z n0 h0) (G1 : Int32) (S1 : Sta Z Z.heap "java/lang/String" "COMPACT_STRINGS" "Z" (.int G1)) (P1 : ¬ G1 = 0) (vf : Value) (hvf : vf.isRef = true) (SFm : Sta Z Z.heap "jdk/internal/util/Preconditions" "SIOOBE_FORMATTER" "Ljava/util/function/BiFunction;" vf) (Exy : Exa Z h0 xy "java/lang/String") (Cxy : Fld Z h0 xy "java/lang/String" "coder" "B" (.int 0)) (Vxy : Fld Z h0 xy "java/lang/String" "value" "[B" (.ref yb)) (Axy : Arv Z h0 yb ky .byte (Int32.ofNat us.length) (us.map Value.int) (.int 0)) (hq : us = A ++ B) (hA : A ≠ []) (hB : B ≠ []) (hl : us.length < 16) :
  MetFree l yN34 (head1 (Jvm.Cond.code yN34 jdk_42_method_91_code 2 (some (.object "java/lang/String")) :: ws) ({ frames := 5, cells := 2, slots := 20, locals := 80 } : Room)) (fun aa U => aa = #[(.ref xy), (.int (Int32.ofNat A.length))] ∧ Z.Warmed39 U.vm ∧ U.heap = h0) (fun _ _ _ _ _ => True) (fun _ U o U' => ∃ v L, o = .returned v ∧ QPt2 Z xy yb ky us A B h0 n0 v U'.heap L ∧ FrameEnd U o U' L ({ frames := 5, cells := 2, slots := 20, locals := 80 } : Room).cells ({ frames := 5, cells := 2, slots := 20, locals := 80 } : Room).slots) := by
 refine MetFree.of_bodySF (plainFor_of_name pn_3) hisR ?_
 intro p e s m args below meth c s₁ Bd hml0 hP hK
 obtain ⟨rfl, hZ, hh⟩ := hP
 have hx := Bd.exec
 have hby := Bd.bytes
 have hml : c.maxLocals = 2 := hml0
 have hown : s.vm.findClass "java/lang/String" = some m.cls := findClass_of_methodNamed Bd.named
 have hnm := (name_of_methodNamed Bd.named Bd.method).1
 have X0 : Stand p l e ({ frames := 5, cells := 2, slots := 20, locals := 80 } : Room) s m #[(.ref xy), (.int (Int32.ofNat A.length))] below meth c s₁ [] 0 0 := Stand.of_body Bd
 have e0 : s₁.heap = h0 := by rw [← hh, Bd.state]; rfl
 have N0 := Fr.nil n0
 have K0 := Keep.refl h0 []
 have ef : entryFrame m #[(.ref xy), (.int (Int32.ofNat A.length))] 2 = mkF m 0 #[vr xy, .val (.int (Int32.ofNat A.length))] [] := by first | (simp [entryFrame, mkF, argsToLocals, Value.category]; done) | rfl
 rw [ef]
 refine fin_of fun Kx hF => ?_
 show Go p.tables e below Kx _ (mkF m 0 _ [])
 refine s_aloadN (pc' := 1) X0.here hx (hb hby d42_91_0) rfl rfl rfl ?_
 refine s_iloadN (pc' := 2) X0.here hx (hb hby d42_91_1) rfl rfl ?_
 refine s_aloadN (pc' := 3) X0.here hx (hb hby d42_91_2) rfl rfl rfl ?_
 obtain ⟨_, T159, L159, X159, hQ159, st159⟩ := kV X0 hx hZ (y := yN33) hown (hv hw 65 rfl) (hv hw 66 rfl) (notFace_of_selects (args := #[]) (mvT hZ (hv hw 68 rfl))) (hv hw 68 rfl) (hv hw 67 rfl) (hv hw 8 rfl) (hv hw 69 rfl) (by decide) (rmGl l Z a0 hw [] xy yb _ us h0 n0 X00 G1 S1 P1 Exy Cxy Vxy Axy) e0 Exy (W := 2) (g := (mkF m 3 #[vr xy, .val (.int (Int32.ofNat A.length))] [(.ref xy), (.int (Int32.ofNat A.length)), (.ref xy)])) rfl (by rw [hml]; rfl) (argsL := []) (rest := [(.int (Int32.ofNat A.length)), (.ref xy)]) (lenOf pd_6 rfl) rfl (by exact Nat.le_of_eq rfl) (hb hby d42_91_3) rfl (nb rfl) (nb rfl) (nb rfl) (nb rfl)
 obtain ⟨rfl, Nq159, hE159⟩ := hQ159
 have N159 := Fr.app N0 Nq159
 refine Go.tr st159 ?_
 show Go p.tables e below Kx _ (mkF m 6 _ [(.int (Int32.ofNat us.length)), (.int (Int32.ofNat A.length)), (.ref xy)])
 obtain ⟨_, T182, L182, X182, hQ182, st182⟩ := kV X159 hx hZ (y := yN35) hown (hv hw 132 rfl) (hv hw 93 rfl) (notFace_of_selects (args := #[]) (mvT hZ (hv hw 95 rfl))) (hv hw 95 rfl) (hv hw 94 rfl) (hv hw 8 rfl) (hv hw 96 rfl) (by decide) (rmPs2 l Z a0 hw [] xy yb ky us A B h0 n0 X00 G1 S1 P1 vf hvf SFm Exy Cxy Vxy Axy hq hA hB hl) hE159 Exy (W := 0) (g := (mkF m 6 #[vr xy, .val (.int (Int32.ofNat A.length))] [(.int (Int32.ofNat us.length)), (.int (Int32.ofNat A.length)), (.ref xy)])) rfl (by rw [hml]; rfl) (argsL := [(.int (Int32.ofNat A.length)), (.int (Int32.ofNat us.length))]) (rest := []) (lenOf pd_17 rfl) rfl (by exact Nat.le_of_eq rfl) (hb hby d42_91_6) rfl (nb rfl) (nb rfl) (nb rfl) (nb rfl)
 obtain ⟨y182, t182, kt182, rfl, Nq182, Kq182, ly182, le182, q0_182, q1_182, q2_182, q3_182, q4_182⟩ := hQ182
 have sz182 : h0.size ≤ t182 := Nat.le_trans K0.1 le182
 have ge182 : n0 ≤ t182 := Nat.le_trans (X00.1 ▸ X00.2.1) le182
 have sz182y : h0.size ≤ y182 := Nat.le_trans K0.1 ly182
 have ge182y : n0 ≤ y182 := Nat.le_trans (X00.1 ▸ X00.2.1) ly182
 have N182 := Fr.app N159 Nq182
 have K182 : Keep h0 T182.heap [] := K0.trans Kq182 all0
 have O182 : Old Z n0 T182.heap := X00.keep Kq182 all0
 refine Go.tr st182 ?_
 show Go p.tables e below Kx _ (mkF m 9 _ [(.ref y182)])
 obtain ⟨fs, hr, hrun, hended, hW, hsame⟩ := X182.leave (v := (some (.ref y182))) (fun h => by rw [Bd.returns] at h; cases h)
 refine Go.fin (retOut X182 hx Bd.returns rfl (Or.inr (Or.inr (Or.inr (Or.inr ⟨rfl, rfl, rfl⟩)))) (hb hby d42_91_9) hr) (hF _ _ hrun hended ⟨_, _, rfl, ?_, ⟨_, rfl⟩, hW, hsame.mono (by decide) (by decide)⟩)
 ·
  show QPt2 Z xy yb ky us A B h0 n0 ((some (.ref y182)) : Option Value) T182.heap _
  skip
  exact ⟨_, _, _, rfl, N182, K182, sz182y, sz182, q0_182, q1_182, q2_182, q3_182, q4_182⟩
theorem pd_18 : parseMethodDescriptor "(I)Ljava/lang/String;" = some ⟨[.int], some (.object "java/lang/String")⟩ := by decide +kernel
theorem p15_3_69 : decode prog_15_method_3_code 69 = .ok (.invokevirtual 71, 3) := by decide +kernel
theorem p15_2_0 : decode prog_15_method_2_code 0 = .ok (.aload_n 0, 1) := by decide +kernel
theorem p15_2_1 : decode prog_15_method_2_code 1 = .ok (.ldc 16, 2) := by decide +kernel
theorem p15_2_3 : decode prog_15_method_2_code 3 = .ok (.invokestatic 17, 3) := by decide +kernel
theorem p15_2_6 : decode prog_15_method_2_code 6 = .ok (.pop, 1) := by decide +kernel
theorem p15_2_7 : decode prog_15_method_2_code 7 = .ok (.aload_n 1, 1) := by decide +kernel
theorem p15_2_8 : decode prog_15_method_2_code 8 = .ok (.ldc 23, 2) := by decide +kernel
theorem p15_2_10 : decode prog_15_method_2_code 10 = .ok (.invokestatic 17, 3) := by decide +kernel
theorem p15_2_13 : decode prog_15_method_2_code 13 = .ok (.pop, 1) := by decide +kernel
theorem p15_2_14 : decode prog_15_method_2_code 14 = .ok (.aload_n 0, 1) := by decide +kernel
theorem d42_55_0 : decode jdk_42_method_55_code 0 = .ok (.aload_n 0, 1) := by decide +kernel
theorem d42_55_1 : decode jdk_42_method_55_code 1 = .ok (.getfield 9, 3) := by decide +kernel
theorem d42_55_4 : decode jdk_42_method_55_code 4 = .ok (.arraylength, 1) := by decide +kernel
theorem d42_55_5 : decode jdk_42_method_55_code 5 = .ok (.ifCond .ne 7, 3) := by decide +kernel
theorem d42_55_12 : decode jdk_42_method_55_code 12 = .ok (.iconst 0, 1) := by decide +kernel
theorem d42_55_13 : decode jdk_42_method_55_code 13 = .ok (.ireturn, 1) := by decide +kernel
def QGie (Z : State) (xy yb : Addr) (ky : ClassId) (us : List Int32) (h0 : Heap) (n0 : Nat) (v : Option Value) (h : Heap) (L : List Loc) : Prop := v = some (.int 0) ∧ Fr n0 L ∧ h = h0
theorem rmGie (l : Launch) (Z : State) (a0 : Array Value) (hw : ∀ d ∈ tables_1, d.before a0 Z = true) (ws : List Jvm.Cond) (xy yb : Addr) (ky : ClassId) (us : List Int32) (h0 : Heap) (n0 : Nat) (X00 : Old Z n0 h0) (Vxy : Fld Z h0 xy "java/lang/String" "value" "[B" (.ref yb)) (Axy : Arv Z h0 yb ky .byte (Int32.ofNat us.length) (us.map Value.int) (.int 0)) (hus : us.length ≤ 4000) (hnz : us ≠ []) :
  MetFree l yN31 (head1 (Jvm.Cond.code yN31 jdk_42_method_55_code 1 (some .boolean) :: ws) ({ frames := 0, cells := 0, slots := 0, locals := 0 } : Room)) (fun aa U => aa = #[(.ref xy)] ∧ Z.Warmed39 U.vm ∧ U.heap = h0) (fun _ _ _ _ _ => True) (fun _ U o U' => ∃ v L, o = .returned v ∧ QGie Z xy yb ky us h0 n0 v U'.heap L ∧ FrameEnd U o U' L ({ frames := 0, cells := 0, slots := 0, locals := 0 } : Room).cells ({ frames := 0, cells := 0, slots := 0, locals := 0 } : Room).slots) := by
 refine MetFree.of_bodySF (plainFor_of_name pn_3) hisR ?_
 intro p e s m args below meth c s₁ Bd hml0 hP hK
 obtain ⟨rfl, hZ, hh⟩ := hP
 have hx := Bd.exec
 have hby := Bd.bytes
 have hml : c.maxLocals = 1 := hml0
 have hown : s.vm.findClass "java/lang/String" = some m.cls := findClass_of_methodNamed Bd.named
 have hnm := (name_of_methodNamed Bd.named Bd.method).1
 have X0 : Stand p l e ({ frames := 0, cells := 0, slots := 0, locals := 0 } : Room) s m #[(.ref xy)] below meth c s₁ [] 0 0 := Stand.of_body Bd
 have e0 : s₁.heap = h0 := by rw [← hh, Bd.state]; rfl
 have N0 := Fr.nil n0
 have K0 := Keep.refl h0 []
 have ef : entryFrame m #[(.ref xy)] 1 = mkF m 0 #[vr xy] [] := by first | (simp [entryFrame, mkF, argsToLocals, Value.category]; done) | rfl
 rw [ef]
 refine fin_of fun Kx hF => ?_
 show Go p.tables e below Kx _ (mkF m 0 _ [])
 refine s_aloadN (pc' := 1) X0.here hx (hb hby d42_55_0) rfl rfl rfl ?_
 obtain ⟨T198, X198, e198, st198⟩ := getF X0 hx hZ hown (host := "") (Or.inl (hv hw 34 rfl)) Via.refl e0 Vxy (g := (mkF m 1 #[vr xy] [(.ref xy)])) rfl rfl (hb hby d42_55_1)
 refine Go.st st198 ?_
 show Go p.tables e below Kx _ (mkF m 4 _ [(.ref yb)])
 obtain ⟨cl199, Ar199, Aq199, As199, An199, Ah199, Ag199⟩ := id Axy
 refine Go.st (X198.arraylength hx (by rw [e198]; exact Ar199.1) (State.isArrayOf_alike hZ.alike Ar199.2.1) (g := (mkF m 4 #[vr xy] [(.ref yb)])) rfl rfl (hb hby d42_55_4)) ?_
 rw [len_of As199 An199]
 show Go p.tables e below Kx _ (mkF m 5 _ [(.int (Int32.ofNat us.length))])
 refine s_ifY (pc' := 12) X198.here hx (hb hby d42_55_5) ((if0 _ _).trans (feq (nz_len hnz hus)).2) (by decide) (by decide) ?_
 refine s_iconst (pc' := 13) (v := 0) X198.here hx (hb hby d42_55_12) rfl rfl ?_
 obtain ⟨fs, hr, hrun, hended, hW, hsame⟩ := X198.leave (v := (some (.int 0))) (fun h => by rw [Bd.returns] at h; cases h)
 refine Go.fin (retN X198 hx (t := .boolean) Bd.returns (by simp) (hb hby d42_55_13) hr) (hF _ _ hrun hended ⟨_, _, rfl, ?_, ⟨_, rfl⟩, hW, hsame.mono (by decide) (by decide)⟩)
 ·
  show QGie Z xy yb ky us h0 n0 ((some (.int 0)) : Option Value) T198.heap _
  rw [e198]
  exact ⟨rfl, N0, rfl⟩
theorem p15_2_15 : decode prog_15_method_2_code 15 = .ok (.invokevirtual 24, 3) := by decide +kernel
theorem p15_2_18 : decode prog_15_method_2_code 18 = .ok (.ifCond .eq 13, 3) := by decide +kernel
theorem p15_2_31 : decode prog_15_method_2_code 31 = .ok (.aload_n 0, 1) := by decide +kernel
theorem p15_2_32 : decode prog_15_method_2_code 32 = .ok (.bipush 58, 2) := by decide +kernel
theorem p15_2_34 : decode prog_15_method_2_code 34 = .ok (.invokevirtual 37, 3) := by decide +kernel
theorem p15_2_37 : decode prog_15_method_2_code 37 = .ok (.iconst (-1), 1) := by decide +kernel
theorem p15_2_38 : decode prog_15_method_2_code 38 = .ok (.if_icmp .eq 13, 3) := by decide +kernel
theorem p15_2_51 : decode prog_15_method_2_code 51 = .ok (.aload_n 1, 1) := by decide +kernel
theorem p15_2_52 : decode prog_15_method_2_code 52 = .ok (.invokevirtual 24, 3) := by decide +kernel
theorem p15_2_55 : decode prog_15_method_2_code 55 = .ok (.ifCond .eq 35, 3) := by decide +kernel
theorem p15_2_90 : decode prog_15_method_2_code 90 = .ok (.new 8, 3) := by decide +kernel
theorem p15_2_93 : decode prog_15_method_2_code 93 = .ok (.dup, 1) := by decide +kernel
theorem p15_2_94 : decode prog_15_method_2_code 94 = .ok (.aload_n 0, 1) := by decide +kernel
theorem p15_2_95 : decode prog_15_method_2_code 95 = .ok (.aload_n 1, 1) := by decide +kernel
theorem p15_1_0 : decode prog_15_method_1_code 0 = .ok (.aload_n 0, 1) := by decide +kernel
theorem p15_1_1 : decode prog_15_method_1_code 1 = .ok (.invokespecial 1, 3) := by decide +kernel
theorem p15_1_4 : decode prog_15_method_1_code 4 = .ok (.aload_n 0, 1) := by decide +kernel
theorem p15_1_5 : decode prog_15_method_1_code 5 = .ok (.aload_n 1, 1) := by decide +kernel
theorem p15_1_6 : decode prog_15_method_1_code 6 = .ok (.putfield 7, 3) := by decide +kernel
theorem p15_1_9 : decode prog_15_method_1_code 9 = .ok (.aload_n 0, 1) := by decide +kernel
theorem p15_1_10 : decode prog_15_method_1_code 10 = .ok (.aload_n 2, 1) := by decide +kernel
theorem p15_1_11 : decode prog_15_method_1_code 11 = .ok (.putfield 13, 3) := by decide +kernel
theorem p15_1_14 : decode prog_15_method_1_code 14 = .ok (.return_, 1) := by decide +kernel
def QDi (Z : State) (xd yu yp : Addr) (h0 : Heap) (n0 : Nat) (v : Option Value) (h : Heap) (L : List Loc) : Prop := v = none ∧ Fr n0 L ∧ Keep h0 h [xd] ∧ Exa Z h xd "com/example/turnlock/turnlock/session/DigestCredentials" ∧ Fld Z h xd "com/example/turnlock/turnlock/session/DigestCredentials" "user" "Ljava/lang/String;" (.ref yu) ∧ Fld Z h xd "com/example/turnlock/turnlock/session/DigestCredentials" "password" "Ljava/lang/String;" (.ref yp)
theorem rmDi (l : Launch) (Z : State) (a0 : Array Value) (hw : ∀ d ∈ tables_1, d.before a0 Z = true) (ws : List Jvm.Cond) (xd yu yp : Addr) (h0 : Heap) (n0 : Nat) (X00 : Old Z n0 h0) (ge_xd : n0 ≤ xd) (E : Exa Z h0 xd "com/example/turnlock/turnlock/session/DigestCredentials") (F1 : Fld Z h0 xd "com/example/turnlock/turnlock/session/DigestCredentials" "user" "Ljava/lang/String;" .null) (F2 : Fld Z h0 xd "com/example/turnlock/turnlock/session/DigestCredentials" "password" "Ljava/lang/String;" .null) :
  MetFree l yN0 (head1 (Jvm.Cond.code yN0 prog_15_method_1_code 3 none :: ws) ({ frames := 1, cells := 0, slots := 0, locals := 12 } : Room)) (fun aa U => aa = #[(.ref xd), (.ref yu), (.ref yp)] ∧ Z.Warmed39 U.vm ∧ U.heap = h0) (fun _ _ _ _ _ => True) (fun _ U o U' => ∃ v L, o = .returned v ∧ QDi Z xd yu yp h0 n0 v U'.heap L ∧ FrameEnd U o U' L ({ frames := 1, cells := 0, slots := 0, locals := 12 } : Room).cells ({ frames := 1, cells := 0, slots := 0, locals := 12 } : Room).slots) := by
 refine MetFree.of_bodySF (plainFor_of_name pn_1) hisR ?_
 intro p e s m args below meth c s₁ Bd hml0 hP hK
 obtain ⟨rfl, hZ, hh⟩ := hP
 have hx := Bd.exec
 have hby := Bd.bytes
 have hml : c.maxLocals = 3 := hml0
 have hown : s.vm.findClass "com/example/turnlock/turnlock/session/DigestCredentials" = some m.cls := findClass_of_methodNamed Bd.named
 have hnm := (name_of_methodNamed Bd.named Bd.method).1
 have X0 : Stand p l e ({ frames := 1, cells := 0, slots := 0, locals := 12 } : Room) s m #[(.ref xd), (.ref yu), (.ref yp)] below meth c s₁ [] 0 0 := Stand.of_body Bd
 have e0 : s₁.heap = h0 := by rw [← hh, Bd.state]; rfl
 have N0 := Fr.nil n0
 have K0 := Keep.refl h0 [xd]
 have ef : entryFrame m #[(.ref xd), (.ref yu), (.ref yp)] 3 = mkF m 0 #[vr xd, vr yu, vr yp] [] := by first | (simp [entryFrame, mkF, argsToLocals, Value.category]; done) | rfl
 rw [ef]
 refine fin_of fun Kx hF => ?_
 show Go p.tables e below Kx _ (mkF m 0 _ [])
 refine s_aloadN (pc' := 1) X0.here hx (hb hby p15_1_0) rfl rfl rfl ?_
 obtain ⟨T212, X212, e212, st212⟩ := initO X0 hx hZ hown (hv hw 148 rfl) (hv hw 18 rfl) (hv hw 19 rfl) e0 (g := (mkF m 1 #[vr xd, vr yu, vr yp] [(.ref xd)])) rfl (by rw [hml]; rfl) rfl (hb hby p15_1_1) (by decide) (W := 0) (by exact Nat.le_of_eq rfl) (by decide)
 refine Go.st st212 ?_
 show Go p.tables e below Kx _ (mkF m 4 _ [])
 refine s_aloadN (pc' := 5) X212.here hx (hb hby p15_1_4) rfl rfl rfl ?_
 refine s_aloadN (pc' := 6) X212.here hx (hb hby p15_1_5) rfl rfl rfl ?_
 obtain ⟨T213, h213, X213, e213, W213, st213⟩ := putF X212 hx hZ hown (host := "") (Or.inl (hv hw 149 rfl)) Via.refl e212 F1 E (Or.inr ⟨(hv hw 150 rfl), rfl, hnm⟩) (hv hw 144 rfl) (ty := (.object "java/lang/String")) (by decide) rfl rfl (g := (mkF m 6 #[vr xd, vr yu, vr yp] [(.ref yu), (.ref xd)])) rfl rfl (hb hby p15_1_6)
 have Fw213 : Fld Z h213 xd "com/example/turnlock/turnlock/session/DigestCredentials" "user" "Ljava/lang/String;" (.ref yu) := F1.same W213
 have K213 : Keep h0 h213 [xd] := K0.wr W213 (Or.inl (List.mem_of_getElem? (i := 0) rfl))
 have O213 : Old Z n0 h213 := X00.wr W213 ge_xd
 have N213 := Fr.snoc X213 N0 ge_xd
 refine Go.st st213 ?_
 show Go p.tables e below Kx _ (mkF m 9 _ [])
 refine s_aloadN (pc' := 10) X213.here hx (hb hby p15_1_9) rfl rfl rfl ?_
 refine s_aloadN (pc' := 11) X213.here hx (hb hby p15_1_10) rfl rfl rfl ?_
 have f214 : Fld Z h213 xd "com/example/turnlock/turnlock/session/DigestCredentials" "password" "Ljava/lang/String;" .null := (F2.other W213 (Or.inr (slot_ne (Or.inr (hv hw 152 rfl)) (Or.inr (hv hw 150 rfl)) (by decide) (t := (.object "java/lang/String")) (t' := (.object "java/lang/String")) (by decide) (by decide))))
 have f215 : Exa Z h213 xd "com/example/turnlock/turnlock/session/DigestCredentials" := (E.wr W213)
 obtain ⟨T216, h216, X216, e216, W216, st216⟩ := putF X213 hx hZ hown (host := "") (Or.inl (hv hw 151 rfl)) Via.refl e213 f214 f215 (Or.inr ⟨(hv hw 152 rfl), rfl, hnm⟩) (hv hw 144 rfl) (ty := (.object "java/lang/String")) (by decide) rfl rfl (g := (mkF m 11 #[vr xd, vr yu, vr yp] [(.ref yp), (.ref xd)])) rfl rfl (hb hby p15_1_11)
 have Fw216 : Fld Z h216 xd "com/example/turnlock/turnlock/session/DigestCredentials" "password" "Ljava/lang/String;" (.ref yp) := f214.same W216
 have K216 : Keep h0 h216 [xd] := K213.wr W216 (Or.inl (List.mem_of_getElem? (i := 0) rfl))
 have O216 : Old Z n0 h216 := O213.wr W216 ge_xd
 have N216 := Fr.snoc X216 N213 ge_xd
 refine Go.st st216 ?_
 show Go p.tables e below Kx _ (mkF m 14 _ [])
 have f217 : Exa Z h216 xd "com/example/turnlock/turnlock/session/DigestCredentials" := (f215.wr W216)
 have f218 : Fld Z h216 xd "com/example/turnlock/turnlock/session/DigestCredentials" "user" "Ljava/lang/String;" (.ref yu) := (Fw213.other W216 (Or.inr (slot_ne (Or.inr (hv hw 150 rfl)) (Or.inr (hv hw 152 rfl)) (by decide) (t := (.object "java/lang/String")) (t' := (.object "java/lang/String")) (by decide) (by decide))))
 obtain ⟨fs, hr, hrun, hended, hW, hsame⟩ := X216.leave (v := none) (fun _ => rfl)
 refine Go.fin (X216.returnOut hx Bd.returns (hb hby p15_1_14) hr) (hF _ _ hrun hended ⟨_, _, rfl, ?_, ⟨_, rfl⟩, hW, hsame.mono (by decide) (by decide)⟩)
 ·
  show QDi Z xd yu yp h0 n0 (none : Option Value) T216.heap _
  rw [e216]
  exact ⟨rfl, N216, K216, f217, f218, Fw216⟩
theorem pd_19 : parseMethodDescriptor "(Ljava/lang/String;Ljava/lang/String;)V" = some ⟨[(.object "java/lang/String"), (.object "java/lang/String")], none⟩ := by decide +kernel
theorem p15_2_96 : decode prog_15_method_2_code 96 = .ok (.invokespecial 58, 3) := by decide +kernel
theorem p15_2_99 : decode prog_15_method_2_code 99 = .ok (.areturn, 1) := by decide +kernel
def QDo (Z : State) (yu yp : Addr) (bu bp : Nat) (cu cp : List Int32) (h0 : Heap) (n0 : Nat) (v : Option Value) (h : Heap) (L : List Loc) : Prop := ∃ d : Addr, v = some (.ref d) ∧ Fr n0 L ∧ Keep h0 h [] ∧ Exa Z h d "com/example/turnlock/turnlock/session/DigestCredentials" ∧ Fld Z h d "com/example/turnlock/turnlock/session/DigestCredentials" "user" "Ljava/lang/String;" (.ref yu) ∧ Fld Z h d "com/example/turnlock/turnlock/session/DigestCredentials" "password" "Ljava/lang/String;" (.ref yp)
theorem rmDo (l : Launch) (Z : State) (a0 : Array Value) (hw : ∀ d ∈ tables_1, d.before a0 Z = true) (ws : List Jvm.Cond) (yu yp : Addr) (bu bp : Nat) (cu cp : List Int32) (h0 : Heap) (n0 : Nat) (X00 : Old Z n0 h0) (hEL : EW Z a0 consts_1) (wS : ∀ a ∈ Bundle.stringAtoms, a.before a0 Z = true) (G1 : Int32) (S1 : Sta Z Z.heap "java/lang/String" "COMPACT_STRINGS" "Z" (.int G1)) (P1 : ¬ G1 = 0) (TU : Str Z h0 bu yu cu) (TP : Str Z h0 bp yp cp) (hno : ∀ c ∈ cu, ¬ c = 58) (hnu : cu ≠ []) (hnp : cp ≠ []) :
  MetFree l yN2 (head1 (Jvm.Cond.code yN2 prog_15_method_2_code 2 (some (.object "com/example/turnlock/turnlock/session/DigestCredentials")) :: ws) ({ frames := 4, cells := 5, slots := 58, locals := 59 } : Room)) (fun aa U => aa = #[(.ref yu), (.ref yp)] ∧ Z.Warmed39 U.vm ∧ U.heap = h0 ∧ CHv Z consts_1 U.vm h0) (fun _ _ _ _ _ => True) (fun _ U o U' => ∃ v L, o = .returned v ∧ QDo Z yu yp bu bp cu cp h0 n0 v U'.heap L ∧ CHr Z consts_1 U.vm U.heap U'.vm U'.heap ∧ ReturnedEndW U o U' L ({ frames := 4, cells := 5, slots := 58, locals := 59 } : Room).cells ({ frames := 4, cells := 5, slots := 58, locals := 59 } : Room).slots) := by
 refine MetFree.of_bodySF (plainFor_of_name pn_1) hisR ?_
 intro p e s m args below meth c s₁ Bd hml0 hP hK
 obtain ⟨rfl, hZ, hh, H0⟩ := hP
 have hx := Bd.exec
 have hby := Bd.bytes
 have hml : c.maxLocals = 2 := hml0
 have hown : s.vm.findClass "com/example/turnlock/turnlock/session/DigestCredentials" = some m.cls := findClass_of_methodNamed Bd.named
 have hnm := (name_of_methodNamed Bd.named Bd.method).1
 have X0 : Stand p l e ({ frames := 4, cells := 5, slots := 58, locals := 59 } : Room) (s.setVm s.vm) m #[(.ref yu), (.ref yp)] below meth c s₁ [] 0 0 := Stand.of_body Bd
 have e0 : s₁.heap = h0 := by rw [← hh, Bd.state]; rfl
 have N0 := Fr.nil n0
 have K0 := Keep.refl h0 []
 have hS0 : s.Since s.vm h0.size := (State.WarmedH.refl s).since _
 have hk0 := Nat.le_refl h0.size
 have C0 : CHr Z consts_1 s.vm h0 s.vm h0 := CHr.refl H0
 have ef : entryFrame m #[(.ref yu), (.ref yp)] 2 = mkF m 0 #[vr yu, vr yp] [] := by first | (simp [entryFrame, mkF, argsToLocals, Value.category]; done) | rfl
 rw [ef]
 refine fin_of fun Kx hF => ?_
 show Go p.tables e below Kx _ (mkF m 0 _ [])
 obtain ⟨-, sEyu, sCyu, ⟨sbyu, skyu, -, sFyu, sAyu⟩, spyu, slyu⟩ := id TU
 have sVyu : Arv Z h0 sbyu skyu .byte (Int32.ofNat (i8s cu).length) ((i8s cu).map Value.int) (.int 0) := i8arv sAyu
 obtain ⟨-, sEyp, sCyp, ⟨sbyp, skyp, -, sFyp, sAyp⟩, spyp, slyp⟩ := id TP
 have sVyp : Arv Z h0 sbyp skyp .byte (Int32.ofNat (i8s cp).length) ((i8s cp).map Value.int) (.int 0) := i8arv sAyp
 refine s_aloadN (pc' := 1) X0.here hx (hb hby p15_2_0) rfl rfl rfl ?_
 obtain ⟨a192, T192, h192, k1192, b192, k192, X192, e192, E192, hS192, hk192, hZ192, hown192, A192, FC192, FV192, V192, la192, lb192, Cr192, Lt192, sx192, st192⟩ := ldcCH X0 hx hZ hown (hv hw 136 rfl) wS e0 hS0 hk0 hEL (List.mem_of_getElem? (i := 0) rfl) H0 (vs := [(.int 117), (.int 115), (.int 101), (.int 114)]) (z := 4) (by decide) (by decide) (by decide) (g := (mkF m 1 #[vr yu, vr yp] [(.ref yu)])) rfl (hb hby p15_2_1) (n := 16) (by decide) (by decide) (by decide) (by decide)
 have C192 := C0.trans Cr192
 have K192 : Keep h0 h192 [] := K0.ext E192
 have O192 : Old Z n0 h192 := X00.ext E192
 refine Go.st st192 ?_
 show Go p.tables e below Kx _ (mkF m 3 _ [(.ref a192), (.ref yu)])
 have V193 : Arv Z h192 b192 k192 .byte (Int32.ofNat [(117 : Int32), (115 : Int32), (101 : Int32), (114 : Int32)].length) ([(117 : Int32), (115 : Int32), (101 : Int32), (114 : Int32)].map Value.int) (.int 0) := V192
 obtain ⟨_, T194, L194, X194, hQ194, st194⟩ := kS X192 hx hZ192 (y := yN52) hown192 (hv hw 46 rfl) (hv hw 47 rfl) (hv hw 48 rfl) (hv hw 49 rfl) (by decide) (rmKrn l Z a0 hw [] yu a192 h192 n0 O192 ) e192 (W := 0) (g := (mkF m 3 #[vr yu, vr yp] [(.ref a192), (.ref yu)])) rfl (by rw [hml]; rfl) (argsL := [(.ref yu), (.ref a192)]) (rest := []) (lenOf pd_3 rfl) rfl (by exact Nat.le_of_eq rfl) (hb hby p15_2_3) rfl (nb rfl) (nb rfl) (nb rfl) (nb rfl)
 obtain ⟨rfl, Nq194, hE194⟩ := hQ194
 have N194 := Fr.app N0 Nq194
 refine Go.st st194 ?_
 show Go p.tables e below Kx _ (mkF m 6 _ [(.ref yu)])
 refine s_pop (pc' := 7) X194.here hx (hb hby p15_2_6) rfl rfl ?_
 refine s_aloadN (pc' := 8) X194.here hx (hb hby p15_2_7) rfl rfl rfl ?_
 obtain ⟨a195, T195, h195, k1195, b195, k195, X195, e195, E195, hS195, hk195, hZ195, hown195, A195, FC195, FV195, V195, la195, lb195, Cr195, Lt195, sx195, st195⟩ := ldcCH X194 hx hZ192 hown192 (hv hw 137 rfl) wS hE194 hS192 hk192 hEL (List.mem_of_getElem? (i := 1) rfl) Cr192.1 (vs := [(.int 112), (.int 97), (.int 115), (.int 115), (.int 119), (.int 111), (.int 114), (.int 100)]) (z := 8) (by decide) (by decide) (by decide) (g := (mkF m 8 #[vr yu, vr yp] [(.ref yp)])) rfl (hb hby p15_2_8) (n := 32) (by decide) (by decide) (by decide) (by decide)
 have C195 := C192.trans Cr195
 have K195 : Keep h0 h195 [] := K192.ext E195
 have O195 : Old Z n0 h195 := O192.ext E195
 refine Go.st st195 ?_
 show Go p.tables e below Kx _ (mkF m 10 _ [(.ref a195), (.ref yp)])
 have V196 : Arv Z h195 b195 k195 .byte (Int32.ofNat [(112 : Int32), (97 : Int32), (115 : Int32), (115 : Int32), (119 : Int32), (111 : Int32), (114 : Int32), (100 : Int32)].length) ([(112 : Int32), (97 : Int32), (115 : Int32), (115 : Int32), (119 : Int32), (111 : Int32), (114 : Int32), (100 : Int32)].map Value.int) (.int 0) := V195
 obtain ⟨_, T197, L197, X197, hQ197, st197⟩ := kS X195 hx hZ195 (y := yN52) hown195 (hv hw 46 rfl) (hv hw 47 rfl) (hv hw 48 rfl) (hv hw 49 rfl) (by decide) (rmKrn l Z a0 hw [] yp a195 h195 n0 O195 ) e195 (W := 0) (g := (mkF m 10 #[vr yu, vr yp] [(.ref a195), (.ref yp)])) rfl (by rw [hml]; rfl) (argsL := [(.ref yp), (.ref a195)]) (rest := []) (lenOf pd_3 rfl) rfl (by exact Nat.le_of_eq rfl) (hb hby p15_2_10) rfl (nb rfl) (nb rfl) (nb rfl) (nb rfl)
 obtain ⟨rfl, Nq197, hE197⟩ := hQ197
 have N197 := Fr.app N194 Nq197
 refine Go.st st197 ?_
 show Go p.tables e below Kx _ (mkF m 13 _ [(.ref yp)])
 refine s_pop (pc' := 14) X197.here hx (hb hby p15_2_13) rfl rfl ?_
 refine s_aloadN (pc' := 15) X197.here hx (hb hby p15_2_14) rfl rfl rfl ?_
 have f200 : Fld Z h195 yu "java/lang/String" "value" "[B" (.ref sbyu) := ((sFyu.ext E192).ext E195)
 have f201 : Arv Z h195 sbyu skyu .byte (Int32.ofNat (i8s cu).length) ((i8s cu).map Value.int) (.int 0) := ((sVyu.ext E192).ext E195)
 have f203 : Exa Z h195 yu "java/lang/String" := ((sEyu.ext E192).ext E195)
 obtain ⟨_, T202, L202, X202, hQ202, st202⟩ := kV X197 hx hZ195 (y := yN31) hown195 (hv hw 138 rfl) (hv hw 139 rfl) (notFace_of_selects (args := #[]) (mvT hZ195 (hv hw 141 rfl))) (hv hw 141 rfl) (hv hw 140 rfl) (hv hw 8 rfl) (hv hw 142 rfl) (by decide) (rmGie l Z a0 hw [] yu sbyu _ (i8s cu) h195 n0 O195 f200 f201 (i8s_4 slyu) (i8s_nz hnu)) hE197 f203 (W := 0) (g := (mkF m 15 #[vr yu, vr yp] [(.ref yu)])) rfl (by rw [hml]; rfl) (argsL := []) (rest := []) (lenOf pd_4 rfl) rfl (by exact Nat.le_of_eq rfl) (hb hby p15_2_15) rfl (nb rfl) (nb rfl) (nb rfl) (nb rfl)
 obtain ⟨rfl, Nq202, hE202⟩ := hQ202
 have N202 := Fr.app N197 Nq202
 refine Go.tr st202 ?_
 show Go p.tables e below Kx _ (mkF m 18 _ [(.int 0)])
 refine s_ifY (pc' := 31) X202.here hx (hb hby p15_2_18) ((if0 _ _).trans (teq (by decide)).1) (by decide) (by decide) ?_
 refine s_aloadN (pc' := 32) X202.here hx (hb hby p15_2_31) rfl rfl rfl ?_
 refine s_bipush (pc' := 34) (v := 58) X202.here hx (hb hby p15_2_32) rfl rfl ?_
 have f204 : Fld Z h195 yu "java/lang/String" "coder" "B" (.int 0) := ((sCyu.ext E192).ext E195)
 obtain ⟨_, T205, L205, X205, hQ205, st205⟩ := kV X202 hx hZ195 (y := yN29) hown195 (hv hw 50 rfl) (hv hw 51 rfl) (notFace_of_selects (args := #[]) (mvT hZ195 (hv hw 53 rfl))) (hv hw 53 rfl) (hv hw 52 rfl) (hv hw 8 rfl) (hv hw 54 rfl) (by decide) (rmGio3 l Z a0 hw [] 58 yu sbyu _ (i8s cu) h195 n0 O195 G1 S1 P1 f203 f204 f200 f201 (by decide) (by decide) (by decide) (i8s_4 slyu) (i8s_nz hnu) (i8s_no (by decide) spyu hno)) hE202 f203 (W := 0) (g := (mkF m 34 #[vr yu, vr yp] [(.int 58), (.ref yu)])) rfl (by rw [hml]; rfl) (argsL := [(.int 58)]) (rest := []) (lenOf pd_10 rfl) rfl (by exact Nat.le_of_eq rfl) (hb hby p15_2_34) rfl (nb rfl) (nb rfl) (nb rfl) (nb rfl)
 obtain ⟨rfl, Nq205, hE205⟩ := hQ205
 have N205 := Fr.app N202 Nq205
 refine Go.tr st205 ?_
 show Go p.tables e below Kx _ (mkF m 37 _ [(.int (-1 : Int32))])
 refine s_iconst (pc' := 38) (v := (-1 : Int32)) X205.here hx (hb hby p15_2_37) rfl rfl ?_
 refine s_icmpY (pc' := 51) X205.here hx (hb hby p15_2_38) (teq (by decide)).1 (by decide) (by decide) ?_
 refine s_aloadN (pc' := 52) X205.here hx (hb hby p15_2_51) rfl rfl rfl ?_
 have f206 : Fld Z h195 yp "java/lang/String" "value" "[B" (.ref sbyp) := ((sFyp.ext E192).ext E195)
 have f207 : Arv Z h195 sbyp skyp .byte (Int32.ofNat (i8s cp).length) ((i8s cp).map Value.int) (.int 0) := ((sVyp.ext E192).ext E195)
 have f209 : Exa Z h195 yp "java/lang/String" := ((sEyp.ext E192).ext E195)
 obtain ⟨_, T208, L208, X208, hQ208, st208⟩ := kV X205 hx hZ195 (y := yN31) hown195 (hv hw 138 rfl) (hv hw 139 rfl) (notFace_of_selects (args := #[]) (mvT hZ195 (hv hw 141 rfl))) (hv hw 141 rfl) (hv hw 140 rfl) (hv hw 8 rfl) (hv hw 142 rfl) (by decide) (rmGie l Z a0 hw [] yp sbyp _ (i8s cp) h195 n0 O195 f206 f207 (i8s_4 slyp) (i8s_nz hnp)) hE205 f209 (W := 0) (g := (mkF m 52 #[vr yu, vr yp] [(.ref yp)])) rfl (by rw [hml]; rfl) (argsL := []) (rest := []) (lenOf pd_4 rfl) rfl (by exact Nat.le_of_eq rfl) (hb hby p15_2_52) rfl (nb rfl) (nb rfl) (nb rfl) (nb rfl)
 obtain ⟨rfl, Nq208, hE208⟩ := hQ208
 have N208 := Fr.app N205 Nq208
 refine Go.tr st208 ?_
 show Go p.tables e below Kx _ (mkF m 55 _ [(.int 0)])
 refine s_ifY (pc' := 90) X208.here hx (hb hby p15_2_55) ((if0 _ _).trans (teq (by decide)).1) (by decide) (by decide) ?_
 obtain ⟨T210, h210, X210, e210, E210, A210, D210, -, st210⟩ := newO X208 hx hZ195 hown195 (hv hw 143 rfl) (hv hw 144 rfl) (hv hw 41 rfl) hE208 (g := (mkF m 90 #[vr yu, vr yp] [])) rfl (hb hby p15_2_90) (by decide) (by decide)
 obtain ⟨b210, g210⟩ : ∃ z, z = h195.size := ⟨_, rfl⟩
 rw [← g210] at A210 D210 st210
 have sz210 : h0.size ≤ b210 := Nat.le_trans K195.1 (Nat.le_of_eq g210.symm)
 have ge210 : n0 ≤ b210 := Nat.le_trans (O195.1 ▸ O195.2.1) (Nat.le_of_eq g210.symm)
 have sn210 : Safe Z consts_1 T195.vm h195 b210 := Safe.new (Nat.le_of_eq g210.symm)
 have K210 : Keep h0 h210 [] := K195.ext E210
 have O210 : Old Z n0 h210 := O195.ext E210
 have sf211 : Safe Z consts_1 T195.vm h210 b210 := (Safe.ext E210 Cr195.1 sn210)
 have H210 : CHv Z consts_1 T195.vm h210 := Cr195.1.ext E210
 have C210 : CHr Z consts_1 s.vm h0 T195.vm h210 := C195.trans (CHr.ext E210 Cr195.1)
 have hk210 := Nat.le_trans hk195 E210.1
 have F210_user : Fld Z h210 b210 "com/example/turnlock/turnlock/session/DigestCredentials" "user" "Ljava/lang/String;" .null := D210 (Or.inr (hv hw 150 rfl)) (ty := (.object "java/lang/String")) (by decide)
 have F210_password : Fld Z h210 b210 "com/example/turnlock/turnlock/session/DigestCredentials" "password" "Ljava/lang/String;" .null := D210 (Or.inr (hv hw 152 rfl)) (ty := (.object "java/lang/String")) (by decide)
 refine Go.st st210 ?_
 show Go p.tables e below Kx _ (mkF m 93 _ [(.ref b210)])
 refine s_dup (pc' := 94) X210.here hx (hb hby p15_2_93) rfl rfl ?_
 refine s_aloadN (pc' := 95) X210.here hx (hb hby p15_2_94) rfl rfl rfl ?_
 refine s_aloadN (pc' := 96) X210.here hx (hb hby p15_2_95) rfl rfl rfl ?_
 obtain ⟨_, T219, L219, X219, hQ219, st219⟩ := kI X210 hx hZ195 (y := yN0) rfl hown195 (hv hw 145 rfl) (hv hw 146 rfl) (hv hw 41 rfl) (hv hw 147 rfl) (by decide) (rmDi l Z a0 hw [] b210 yu yp h210 n0 O210 ge210 A210 F210_user F210_password) e210 (a := b210) (W := 1) (g := (mkF m 96 #[vr yu, vr yp] [(.ref yp), (.ref yu), (.ref b210), (.ref b210)])) rfl (by rw [hml]; rfl) (argsL := [(.ref yu), (.ref yp)]) (rest := [(.ref b210)]) (lenOf pd_19 rfl) rfl (by exact Nat.le_of_eq rfl) (hb hby p15_2_96) rfl (nb rfl) (nb rfl) (nb rfl) (nb rfl)
 obtain ⟨rfl, Nq219, Kq219, q1_219, q2_219, q3_219⟩ := hQ219
 have N219 := Fr.app N208 Nq219
 have K219 : Keep h0 T219.heap [] := K210.trans Kq219 (allS (P := fun zz => zz ∈ [] ∨ h0.size ≤ zz) (Or.inr sz210) all0)
 have O219 : Old Z n0 T219.heap := O210.keep Kq219 (allS ge210 all0)
 have sf220 : Safe Z consts_1 T195.vm T219.heap b210 := (Safe.keep Kq219 (sfS sf211 sf0) H210 sf211)
 have H219 : CHv Z consts_1 T195.vm T219.heap := H210.keep Kq219 (sfS sf211 sf0)
 have C219 : CHr Z consts_1 s.vm h0 T195.vm T219.heap := C210.trans (CHr.keep Kq219 (sfS sf211 sf0) H210)
 have hk219 := Nat.le_trans hk210 Kq219.1
 refine Go.tr st219 ?_
 show Go p.tables e below Kx _ (mkF m 99 _ [(.ref b210)])
 obtain ⟨fs, hr, hrun, hended, hRW⟩ := X219.leaveW hS195 hk219 (v := (some (.ref b210))) (fun h => by rw [Bd.returns] at h; cases h)
 have hCx := C219.trans (CHv.at X219 hZ195 hEL H219)
 refine Go.fin (retOut X219 hx Bd.returns rfl (Or.inr (Or.inr (Or.inr (Or.inr ⟨rfl, rfl, rfl⟩)))) (hb hby p15_2_99) hr) (hF _ _ hrun hended ⟨_, _, rfl, ?_, ?_, hRW.1, hRW.2.1, hRW.2.2.1, hRW.2.2.2.mono (by decide) (by decide)⟩)
 ·
  show QDo Z yu yp bu bp cu cp h0 n0 ((some (.ref b210)) : Option Value) T219.heap _
  skip
  exact ⟨_, rfl, N219, K219, q1_219, q2_219, q3_219⟩
 ·
  show CHr Z consts_1 s.vm s.heap T219.vm T219.heap
  rw [hh]; exact hCx
theorem pd_20 : parseMethodDescriptor "(Ljava/lang/String;Ljava/lang/String;)Lcom/example/turnlock/turnlock/session/DigestCredentials;" = some ⟨[(.object "java/lang/String"), (.object "java/lang/String")], some (.object "com/example/turnlock/turnlock/session/DigestCredentials")⟩ := by decide +kernel
theorem p15_3_72 : decode prog_15_method_3_code 72 = .ok (.invokestatic 74, 3) := by decide +kernel
theorem p15_3_75 : decode prog_15_method_3_code 75 = .ok (.areturn, 1) := by decide +kernel
def QPp (Z : State) (ys : Addr) (bs : Nat) (cu cp : List Int32) (h0 : Heap) (n0 : Nat) (v : Option Value) (h : Heap) (L : List Loc) : Prop := ∃ (d yu yp : Addr) (bu bp : Nat), v = some (.ref d) ∧ Fr n0 L ∧ Keep h0 h [] ∧ Exa Z h d "com/example/turnlock/turnlock/session/DigestCredentials" ∧ Fld Z h d "com/example/turnlock/turnlock/session/DigestCredentials" "user" "Ljava/lang/String;" (.ref yu) ∧ Fld Z h d "com/example/turnlock/turnlock/session/DigestCredentials" "password" "Ljava/lang/String;" (.ref yp) ∧ Str Z h bu yu cu ∧ Str Z h bp yp cp
theorem rmPp (l : Launch) (Z : State) (a0 : Array Value) (hw : ∀ d ∈ tables_1, d.before a0 Z = true) (ws : List Jvm.Cond) (ys : Addr) (bs : Nat) (cu cp : List Int32) (h0 : Heap) (n0 : Nat) (X00 : Old Z n0 h0) (hEL : EW Z a0 consts_1) (wS : ∀ a ∈ Bundle.stringAtoms, a.before a0 Z = true) (G1 : Int32) (S1 : Sta Z Z.heap "java/lang/String" "COMPACT_STRINGS" "Z" (.int G1)) (P1 : ¬ G1 = 0) (vf : Value) (hvf : vf.isRef = true) (SFm : Sta Z Z.heap "jdk/internal/util/Preconditions" "SIOOBE_FORMATTER" "Ljava/util/function/BiFunction;" vf) (TS : Str Z h0 bs ys (cu ++ 58 :: cp)) (hno : ∀ c ∈ cu, ¬ c = 58) (hnu : cu ≠ []) (hnp : cp ≠ []) (h10 : ∀ c ∈ (cu ++ 58 :: cp), ¬ c = 10) (h13 : ∀ c ∈ (cu ++ 58 :: cp), ¬ c = 13) (hcl : (cu ++ 58 :: cp).length < 16) :
  MetFree l yN3 (head1 (Jvm.Cond.code yN3 prog_15_method_3_code 2 (some (.object "com/example/turnlock/turnlock/session/DigestCredentials")) :: ws) ({ frames := 6, cells := 11, slots := 162, locals := 94 } : Room)) (fun aa U => aa = #[(.ref ys)] ∧ Z.Warmed39 U.vm ∧ U.heap = h0 ∧ CHv Z consts_1 U.vm h0) (fun _ _ _ _ _ => True) (fun _ U o U' => ∃ v L, o = .returned v ∧ QPp Z ys bs cu cp h0 n0 v U'.heap L ∧ CHr Z consts_1 U.vm U.heap U'.vm U'.heap ∧ ReturnedEndW U o U' L ({ frames := 6, cells := 11, slots := 162, locals := 94 } : Room).cells ({ frames := 6, cells := 11, slots := 162, locals := 94 } : Room).slots) := by
 refine MetFree.of_bodySF (plainFor_of_name pn_1) hisR ?_
 intro p e s m args below meth c s₁ Bd hml0 hP hK
 obtain ⟨rfl, hZ, hh, H0⟩ := hP
 have hx := Bd.exec
 have hby := Bd.bytes
 have hml : c.maxLocals = 2 := hml0
 have hown : s.vm.findClass "com/example/turnlock/turnlock/session/DigestCredentials" = some m.cls := findClass_of_methodNamed Bd.named
 have hnm := (name_of_methodNamed Bd.named Bd.method).1
 have X0 : Stand p l e ({ frames := 6, cells := 11, slots := 162, locals := 94 } : Room) (s.setVm s.vm) m #[(.ref ys)] below meth c s₁ [] 0 0 := Stand.of_body Bd
 have e0 : s₁.heap = h0 := by rw [← hh, Bd.state]; rfl
 have N0 := Fr.nil n0
 have K0 := Keep.refl h0 []
 have hS0 : s.Since s.vm h0.size := (State.WarmedH.refl s).since _
 have hk0 := Nat.le_refl h0.size
 have C0 : CHr Z consts_1 s.vm h0 s.vm h0 := CHr.refl H0
 have ef : entryFrame m #[(.ref ys)] 2 = mkF m 0 #[vr ys, un] [] := by first | (simp [entryFrame, mkF, argsToLocals, Value.category]; done) | rfl
 rw [ef]
 refine fin_of fun Kx hF => ?_
 show Go p.tables e below Kx _ (mkF m 0 _ [])
 obtain ⟨-, sEys, sCys, ⟨sbys, skys, -, sFys, sAys⟩, spys, slys⟩ := id TS
 have sVys : Arv Z h0 sbys skys .byte (Int32.ofNat (i8s (cu ++ 58 :: cp)).length) ((i8s (cu ++ 58 :: cp)).map Value.int) (.int 0) := i8arv sAys
 have hus16 : (i8s (cu ++ 58 :: cp)).length < 16 := by rw [i8s_len]; exact hcl
 have hcl' := hcl
 rw [List.length_append, List.length_cons] at hcl'
 have lu4 : cu.length ≤ 4000 := by omega
 have lp4 : cp.length ≤ 4000 := by omega
 have spu : ∀ c ∈ cu, ¬ c < 0 ∧ ¬ 255 < c := fun c hc => spys c (List.mem_append_left _ hc)
 have spp : ∀ c ∈ cp, ¬ c < 0 ∧ ¬ 255 < c := fun c hc => spys c (List.mem_append_right _ (List.mem_cons_of_mem _ hc))
 show Go p.tables e below Kx _ (mkF m 0 _ [])
 refine s_aloadN (pc' := 1) X0.here hx (hb hby p15_3_0) rfl rfl rfl ?_
 obtain ⟨a82, T82, h82, k182, b82, k82, X82, e82, E82, hS82, hk82, hZ82, hown82, A82, FC82, FV82, V82, la82, lb82, Cr82, Lt82, sx82, st82⟩ := ldcCH X0 hx hZ hown (hv hw 43 rfl) wS e0 hS0 hk0 hEL (List.mem_of_getElem? (i := 2) rfl) H0 (vs := [(.int 117), (.int 115), (.int 101), (.int 114), (.int 65), (.int 110), (.int 100), (.int 80), (.int 97), (.int 115), (.int 115), (.int 119), (.int 111), (.int 114), (.int 100)]) (z := 15) (by decide) (by decide) (by decide) (g := (mkF m 1 #[vr ys, un] [(.ref ys)])) rfl (hb hby p15_3_1) (n := 60) (by decide) (by decide) (by decide) (by decide)
 have C82 := C0.trans Cr82
 have K82 : Keep h0 h82 [] := K0.ext E82
 have O82 : Old Z n0 h82 := X00.ext E82
 refine Go.st st82 ?_
 show Go p.tables e below Kx _ (mkF m 3 _ [(.ref a82), (.ref ys)])
 obtain ⟨_, T83, L83, X83, hQ83, st83⟩ := kS X82 hx hZ82 (y := yN52) hown82 (hv hw 46 rfl) (hv hw 47 rfl) (hv hw 48 rfl) (hv hw 49 rfl) (by decide) (rmKrn l Z a0 hw [] ys a82 h82 n0 O82 ) e82 (W := 0) (g := (mkF m 3 #[vr ys, un] [(.ref a82), (.ref ys)])) rfl (by rw [hml]; rfl) (argsL := [(.ref ys), (.ref a82)]) (rest := []) (lenOf pd_3 rfl) rfl (by exact Nat.le_of_eq rfl) (hb hby p15_3_3) rfl (nb rfl) (nb rfl) (nb rfl) (nb rfl)
 obtain ⟨rfl, Nq83, hE83⟩ := hQ83
 have N83 := Fr.app N0 Nq83
 refine Go.st st83 ?_
 show Go p.tables e below Kx _ (mkF m 6 _ [(.ref ys)])
 refine s_pop (pc' := 7) X83.here hx (hb hby p15_3_6) rfl rfl ?_
 refine s_aloadN (pc' := 8) X83.here hx (hb hby p15_3_7) rfl rfl rfl ?_
 refine s_bipush (pc' := 10) (v := 10) X83.here hx (hb hby p15_3_8) rfl rfl ?_
 have f103 : Exa Z h82 ys "java/lang/String" := (sEys.ext E82)
 have f104 : Fld Z h82 ys "java/lang/String" "coder" "B" (.int 0) := (sCys.ext E82)
 have f105 : Fld Z h82 ys "java/lang/String" "value" "[B" (.ref sbys) := (sFys.ext E82)
 have f106 : Arv Z h82 sbys skys .byte (Int32.ofNat (i8s (cu ++ 58 :: cp)).length) ((i8s (cu ++ 58 :: cp)).map Value.int) (.int 0) := (sVys.ext E82)
 obtain ⟨_, T107, L107, X107, hQ107, st107⟩ := kV X83 hx hZ82 (y := yN29) hown82 (hv hw 50 rfl) (hv hw 51 rfl) (notFace_of_selects (args := #[]) (mvT hZ82 (hv hw 53 rfl))) (hv hw 53 rfl) (hv hw 52 rfl) (hv hw 8 rfl) (hv hw 54 rfl) (by decide) (rmGio3 l Z a0 hw [] 10 ys sbys _ (i8s (cu ++ 58 :: cp)) h82 n0 O82 G1 S1 P1 f103 f104 f105 f106 (by decide) (by decide) (by decide) (i8s_4 slys) (i8s_nz (by simp)) (i8s_no (by decide) spys h10)) hE83 f103 (W := 0) (g := (mkF m 10 #[vr ys, un] [(.int 10), (.ref ys)])) rfl (by rw [hml]; rfl) (argsL := [(.int 10)]) (rest := []) (lenOf pd_10 rfl) rfl (by exact Nat.le_of_eq rfl) (hb hby p15_3_10) rfl (nb rfl) (nb rfl) (nb rfl) (nb rfl)
 obtain ⟨rfl, Nq107, hE107⟩ := hQ107
 have N107 := Fr.app N83 Nq107
 refine Go.tr st107 ?_
 show Go p.tables e below Kx _ (mkF m 13 _ [(.int (-1 : Int32))])
 refine s_iconst (pc' := 14) (v := (-1 : Int32)) X107.here hx (hb hby p15_3_13) rfl rfl ?_
 refine s_icmpN (pc' := 17) X107.here hx (hb hby p15_3_14) rfl (teq (by decide)).2 ?_
 refine s_aloadN (pc' := 18) X107.here hx (hb hby p15_3_17) rfl rfl rfl ?_
 refine s_bipush (pc' := 20) (v := 13) X107.here hx (hb hby p15_3_18) rfl rfl ?_
 obtain ⟨_, T108, L108, X108, hQ108, st108⟩ := kV X107 hx hZ82 (y := yN29) hown82 (hv hw 50 rfl) (hv hw 51 rfl) (notFace_of_selects (args := #[]) (mvT hZ82 (hv hw 53 rfl))) (hv hw 53 rfl) (hv hw 52 rfl) (hv hw 8 rfl) (hv hw 54 rfl) (by decide) (rmGio3 l Z a0 hw [] 13 ys sbys _ (i8s (cu ++ 58 :: cp)) h82 n0 O82 G1 S1 P1 f103 f104 f105 f106 (by decide) (by decide) (by decide) (i8s_4 slys) (i8s_nz (by simp)) (i8s_no (by decide) spys h13)) hE107 f103 (W := 0) (g := (mkF m 20 #[vr ys, un] [(.int 13), (.ref ys)])) rfl (by rw [hml]; rfl) (argsL := [(.int 13)]) (rest := []) (lenOf pd_10 rfl) rfl (by exact Nat.le_of_eq rfl) (hb hby p15_3_20) rfl (nb rfl) (nb rfl) (nb rfl) (nb rfl)
 obtain ⟨rfl, Nq108, hE108⟩ := hQ108
 have N108 := Fr.app N107 Nq108
 refine Go.tr st108 ?_
 show Go p.tables e below Kx _ (mkF m 23 _ [(.int (-1 : Int32))])
 refine s_iconst (pc' := 24) (v := (-1 : Int32)) X108.here hx (hb hby p15_3_23) rfl rfl ?_
 refine s_icmpY (pc' := 37) X108.here hx (hb hby p15_3_24) (teq (by decide)).1 (by decide) (by decide) ?_
 refine s_aloadN (pc' := 38) X108.here hx (hb hby p15_3_37) rfl rfl rfl ?_
 refine s_bipush (pc' := 40) (v := 58) X108.here hx (hb hby p15_3_38) rfl rfl ?_
 obtain ⟨_, T123, L123, X123, hQ123, st123⟩ := kV X108 hx hZ82 (y := yN29) hown82 (hv hw 50 rfl) (hv hw 51 rfl) (notFace_of_selects (args := #[]) (mvT hZ82 (hv hw 53 rfl))) (hv hw 53 rfl) (hv hw 52 rfl) (hv hw 8 rfl) (hv hw 54 rfl) (by decide) (rmPio3_58 l Z a0 hw [] ys sbys _ (i8s (cu ++ 58 :: cp)) (i8s cu) (((i8s cp))) h82 n0 O82 G1 S1 P1 f103 f104 f105 f106 i8_split (i8s_4 slys) (i8s_no (by decide) spu hno)) hE108 f103 (W := 0) (g := (mkF m 40 #[vr ys, un] [(.int 58), (.ref ys)])) rfl (by rw [hml]; rfl) (argsL := [(.int 58)]) (rest := []) (lenOf pd_10 rfl) rfl (by exact Nat.le_of_eq rfl) (hb hby p15_3_40) rfl (nb rfl) (nb rfl) (nb rfl) (nb rfl)
 obtain ⟨rfl, Nq123, hE123⟩ := hQ123
 have N123 := Fr.app N108 Nq123
 refine Go.tr st123 ?_
 show Go p.tables e below Kx _ (mkF m 43 _ [(.int (Int32.ofNat (i8s cu).length))])
 refine s_istoreN (pc' := 44) (Ls' := #[vr ys, .val (.int (Int32.ofNat (i8s cu).length))]) X123.here hx (hb hby p15_3_43) rfl  rfl ?_
 refine s_iloadN (pc' := 45) X123.here hx (hb hby p15_3_44) rfl rfl ?_
 refine s_iconst (pc' := 46) (v := (-1 : Int32)) X123.here hx (hb hby p15_3_45) rfl rfl ?_
 refine s_icmpY (pc' := 59) X123.here hx (hb hby p15_3_46) (feq (nem1 (i8s_4 lu4))).2 (by decide) (by decide) ?_
 refine s_aloadN (pc' := 60) X123.here hx (hb hby p15_3_59) rfl rfl rfl ?_
 refine s_iconst (pc' := 61) (v := 0) X123.here hx (hb hby p15_3_60) rfl rfl ?_
 refine s_iloadN (pc' := 62) X123.here hx (hb hby p15_3_61) rfl rfl ?_
 obtain ⟨_, T156, L156, X156, hQ156, st156⟩ := kV X123 hx hZ82 (y := yN35) hown82 (hv hw 92 rfl) (hv hw 93 rfl) (notFace_of_selects (args := #[]) (mvT hZ82 (hv hw 95 rfl))) (hv hw 95 rfl) (hv hw 94 rfl) (hv hw 8 rfl) (hv hw 96 rfl) (by decide) (rmPs1 l Z a0 hw [] ys sbys skys (i8s (cu ++ 58 :: cp)) (i8s cu) ((58 : Int32) :: (i8s cp)) h82 n0 O82 G1 S1 P1 vf hvf SFm f103 f104 f105 f106 i8_split (by simp) (i8s_nz hnu) hus16) hE123 f103 (W := 0) (g := (mkF m 62 #[vr ys, .val (.int (Int32.ofNat (i8s cu).length))] [(.int (Int32.ofNat (i8s cu).length)), (.int 0), (.ref ys)])) rfl (by rw [hml]; rfl) (argsL := [(.int 0), (.int (Int32.ofNat (i8s cu).length))]) (rest := []) (lenOf pd_17 rfl) rfl (by exact Nat.le_of_eq rfl) (hb hby p15_3_62) rfl (nb rfl) (nb rfl) (nb rfl) (nb rfl)
 obtain ⟨y156, t156, kt156, rfl, Nq156, Kq156, ly156, le156, q0_156, q1_156, q2_156, q3_156, q4_156⟩ := hQ156
 have sz156 : h0.size ≤ t156 := Nat.le_trans K82.1 le156
 have ge156 : n0 ≤ t156 := Nat.le_trans (O82.1 ▸ O82.2.1) le156
 have sn156 : Safe Z consts_1 T82.vm h82 t156 := Safe.new le156
 have sz156y : h0.size ≤ y156 := Nat.le_trans K82.1 ly156
 have ge156y : n0 ≤ y156 := Nat.le_trans (O82.1 ▸ O82.2.1) ly156
 have sn156y : Safe Z consts_1 T82.vm h82 y156 := Safe.new ly156
 have N156 := Fr.app N123 Nq156
 have K156 : Keep h0 T156.heap [] := K82.trans Kq156 all0
 have O156 : Old Z n0 T156.heap := O82.keep Kq156 all0
 have sf157 : Safe Z consts_1 T82.vm T156.heap t156 := (Safe.keep Kq156 sf0 Cr82.1 sn156)
 have sf158 : Safe Z consts_1 T82.vm T156.heap y156 := (Safe.keep Kq156 sf0 Cr82.1 sn156y)
 have H156 : CHv Z consts_1 T82.vm T156.heap := Cr82.1.keep Kq156 sf0
 have C156 : CHr Z consts_1 s.vm h0 T82.vm T156.heap := C82.trans (CHr.keep Kq156 sf0 Cr82.1)
 have hk156 := Nat.le_trans hk82 Kq156.1
 refine Go.tr st156 ?_
 show Go p.tables e below Kx _ (mkF m 65 _ [(.ref y156)])
 have St156 : Str Z T156.heap T156.heap.size y156 cu := strOf q1_156 q2_156 q3_156 q4_156 spu lu4
 refine s_aloadN (pc' := 66) X156.here hx (hb hby p15_3_65) rfl rfl rfl ?_
 refine s_iloadN (pc' := 67) X156.here hx (hb hby p15_3_66) rfl rfl ?_
 refine s_iconst (pc' := 68) (v := 1) X156.here hx (hb hby p15_3_67) rfl rfl ?_
 refine s_iadd (pc' := 69) (z := (Int32.ofNat ((i8s cu) ++ [(58 : Int32)]).length)) X156.here hx (hb hby p15_3_68) rfl (lsucc _ _) ?_
 have f183 : Exa Z T156.heap ys "java/lang/String" := (f103.keep Kq156)
 have f184 : Fld Z T156.heap ys "java/lang/String" "coder" "B" (.int 0) := (f104.keep Kq156 nin0)
 have f185 : Fld Z T156.heap ys "java/lang/String" "value" "[B" (.ref sbys) := (f105.keep Kq156 nin0)
 have f186 : Arv Z T156.heap sbys skys .byte (Int32.ofNat (i8s (cu ++ 58 :: cp)).length) ((i8s (cu ++ 58 :: cp)).map Value.int) (.int 0) := (f106.keep Kq156 nin0)
 obtain ⟨_, T187, L187, X187, hQ187, st187⟩ := kV X156 hx hZ82 (y := yN34) hown82 (hv hw 127 rfl) (hv hw 128 rfl) (notFace_of_selects (args := #[]) (mvT hZ82 (hv hw 130 rfl))) (hv hw 130 rfl) (hv hw 129 rfl) (hv hw 8 rfl) (hv hw 131 rfl) (by decide) (rmPt2 l Z a0 hw [] ys sbys skys (i8s (cu ++ 58 :: cp)) ((i8s cu) ++ [(58 : Int32)]) (i8s cp) T156.heap n0 O156 G1 S1 P1 vf hvf SFm f183 f184 f185 f186 i8_split2 (nz_app _) (i8s_nz hnp) hus16) rfl f183 (W := 1) (g := (mkF m 69 #[vr ys, .val (.int (Int32.ofNat (i8s cu).length))] [(.int (Int32.ofNat ((i8s cu) ++ [(58 : Int32)]).length)), (.ref ys), (.ref y156)])) rfl (by rw [hml]; rfl) (argsL := [(.int (Int32.ofNat ((i8s cu) ++ [(58 : Int32)]).length))]) (rest := [(.ref y156)]) (lenOf pd_18 rfl) rfl (by exact Nat.le_of_eq rfl) (hb hby p15_3_69) rfl (nb rfl) (nb rfl) (nb rfl) (nb rfl)
 obtain ⟨y187, t187, kt187, rfl, Nq187, Kq187, ly187, le187, q0_187, q1_187, q2_187, q3_187, q4_187⟩ := hQ187
 have sz187 : h0.size ≤ t187 := Nat.le_trans K156.1 le187
 have ge187 : n0 ≤ t187 := Nat.le_trans (O156.1 ▸ O156.2.1) le187
 have sn187 : Safe Z consts_1 T82.vm T156.heap t187 := Safe.new le187
 have sz187y : h0.size ≤ y187 := Nat.le_trans K156.1 ly187
 have ge187y : n0 ≤ y187 := Nat.le_trans (O156.1 ▸ O156.2.1) ly187
 have sn187y : Safe Z consts_1 T82.vm T156.heap y187 := Safe.new ly187
 have N187 := Fr.app N156 Nq187
 have K187 : Keep h0 T187.heap [] := K156.trans Kq187 all0
 have O187 : Old Z n0 T187.heap := O156.keep Kq187 all0
 have sf188 : Safe Z consts_1 T82.vm T187.heap t156 := (Safe.keep Kq187 sf0 H156 sf157)
 have sf189 : Safe Z consts_1 T82.vm T187.heap y156 := (Safe.keep Kq187 sf0 H156 sf158)
 have sf190 : Safe Z consts_1 T82.vm T187.heap t187 := (Safe.keep Kq187 sf0 H156 sn187)
 have sf191 : Safe Z consts_1 T82.vm T187.heap y187 := (Safe.keep Kq187 sf0 H156 sn187y)
 have H187 : CHv Z consts_1 T82.vm T187.heap := H156.keep Kq187 sf0
 have C187 : CHr Z consts_1 s.vm h0 T82.vm T187.heap := C156.trans (CHr.keep Kq187 sf0 H156)
 have hk187 := Nat.le_trans hk156 Kq187.1
 refine Go.tr st187 ?_
 show Go p.tables e below Kx _ (mkF m 72 _ [(.ref y187), (.ref y156)])
 have St187 : Str Z T187.heap T187.heap.size y187 cp := strOf q1_187 q2_187 q3_187 q4_187 spp lp4
 have f221 : Str Z T187.heap T156.heap.size y156 cu := (St156.keep Kq187 all0)
 obtain ⟨_, _, ⟨T222, L222, k222, n222⟩, -, X222, hS'222, hg'222, ⟨Lc222, hQ222, l222, y222, z222, Cr222⟩, st222⟩ := callSS X187 hx (y := yN2) hown82 (mvT hZ82 (hv hw 133 rfl)) (mvT hZ82 (hv hw 134 rfl)) (mvT hZ82 (hv hw 41 rfl)) (mvT hZ82 (hv hw 135 rfl)) (by decide) (backOfSH (W := 0) (rmDo l Z a0 hw [] y156 y187 _ _ cu cp T187.heap n0 O187 hEL wS G1 S1 P1 f221 St187 hno hnu hnp) hZ82 (hv hw 135 rfl) (hv hw 41 rfl) (by decide) (by decide) hEL H187) (g := (mkF m 72 #[vr ys, .val (.int (Int32.ofNat (i8s cu).length))] [(.ref y187), (.ref y156)])) rfl (by rw [hml]; rfl) (argsL := [(.ref y156), (.ref y187)]) (rest := []) (lenOf pd_20 rfl) rfl (by exact Nat.le_of_eq rfl) (hb hby p15_3_72) (fun _ _ => ⟨rfl, rfl, (by decide : 6 + 5 ≤ _), (by decide : 104 + 58 ≤ _)⟩)
 dsimp only [Pt.U, Pt.locs, Pt.cells, Pt.slots] at X222 l222 y222 z222 st222 hQ222 hS'222 hg'222 Cr222
 rw [l222, y222, z222] at X222
 obtain ⟨d222, rfl, Nq222, Kq222, q1_222, q2_222, q3_222⟩ := hQ222
 have N222 := Fr.app N187 Nq222
 have X222 : Stand p l e _ (s.setVm T222.vm) m _ below meth c T222 _ _ _ := X222
 obtain ⟨hZ222, hown222⟩ := wideOn hZ82 hS'222 hown82
 have hS222 : s.Since T222.vm T222.heap.size := hS82.trans hS'222 (Nat.le_trans hk187 hg'222)
 have hk222 := Nat.le_refl T222.heap.size
 have sf223 : Safe Z consts_1 T222.vm T222.heap t156 := Cr222.safe (Nat.lt_of_lt_of_le q4_156.lt Kq187.1) sf188
 have sf224 : Safe Z consts_1 T222.vm T222.heap y156 := Cr222.safe (Nat.lt_of_lt_of_le q1_156.lt Kq187.1) sf189
 have sf225 : Safe Z consts_1 T222.vm T222.heap t187 := Cr222.safe q4_187.lt sf190
 have sf226 : Safe Z consts_1 T222.vm T222.heap y187 := Cr222.safe q1_187.lt sf191
 have C222 := C187.trans Cr222
 have K222 : Keep h0 T222.heap [] := K187.trans Kq222 all0
 have O222 : Old Z n0 T222.heap := O187.keep Kq222 all0
 refine Go.tr st222 ?_
 show Go p.tables e below Kx _ (mkF m 75 _ [(.ref d222)])
 have f227 : Str Z T222.heap T156.heap.size y156 cu := (f221.keep Kq222 all0)
 have f228 : Str Z T222.heap T187.heap.size y187 cp := (St187.keep Kq222 all0)
 obtain ⟨fs, hr, hrun, hended, hRW⟩ := X222.leaveW hS222 hk222 (v := (some (.ref d222))) (fun h => by rw [Bd.returns] at h; cases h)
 have hCx := C222.trans (CHv.at X222 hZ222 hEL Cr222.1)
 refine Go.fin (retOut X222 hx Bd.returns rfl (Or.inr (Or.inr (Or.inr (Or.inr ⟨rfl, rfl, rfl⟩)))) (hb hby p15_3_75) hr) (hF _ _ hrun hended ⟨_, _, rfl, ?_, ?_, hRW.1, hRW.2.1, hRW.2.2.1, hRW.2.2.2.mono (by decide) (by decide)⟩)
 ·
  show QPp Z ys bs cu cp h0 n0 ((some (.ref d222)) : Option Value) T222.heap _
  skip
  exact ⟨_, _, _, _, _, rfl, N222, K222, q1_222, q2_222, q3_222, f227, f228⟩
 ·
  show CHr Z consts_1 s.vm s.heap T222.vm T222.heap
  rw [hh]; exact hCx
theorem pd_21 : parseMethodDescriptor "(Ljava/lang/String;)Lcom/example/turnlock/turnlock/session/DigestCredentials;" = some ⟨[(.object "java/lang/String")], some (.object "com/example/turnlock/turnlock/session/DigestCredentials")⟩ := by decide +kernel
theorem p15_4_0 : decode prog_15_method_4_code 0 = .ok (.aload_n 0, 1) := by decide +kernel
theorem p15_4_1 : decode prog_15_method_4_code 1 = .ok (.getfield 7, 3) := by decide +kernel
theorem p15_4_4 : decode prog_15_method_4_code 4 = .ok (.areturn, 1) := by decide +kernel
def QDu (Z : State) (xd yu : Addr) (h0 : Heap) (n0 : Nat) (v : Option Value) (h : Heap) (L : List Loc) : Prop := v = some (.ref yu) ∧ Fr n0 L ∧ h = h0
theorem rmDu (l : Launch) (Z : State) (a0 : Array Value) (hw : ∀ d ∈ tables_1, d.before a0 Z = true) (ws : List Jvm.Cond) (xd yu : Addr) (h0 : Heap) (n0 : Nat) (X00 : Old Z n0 h0) (F1 : Fld Z h0 xd "com/example/turnlock/turnlock/session/DigestCredentials" "user" "Ljava/lang/String;" (.ref yu)) :
  MetFree l yN4 (head1 (Jvm.Cond.code yN4 prog_15_method_4_code 1 (some (.object "java/lang/String")) :: ws) ({ frames := 0, cells := 0, slots := 0, locals := 0 } : Room)) (fun aa U => aa = #[(.ref xd)] ∧ Z.Warmed39 U.vm ∧ U.heap = h0) (fun _ _ _ _ _ => True) (fun _ U o U' => ∃ v L, o = .returned v ∧ QDu Z xd yu h0 n0 v U'.heap L ∧ FrameEnd U o U' L ({ frames := 0, cells := 0, slots := 0, locals := 0 } : Room).cells ({ frames := 0, cells := 0, slots := 0, locals := 0 } : Room).slots) := by
 refine MetFree.of_bodySF (plainFor_of_name pn_1) hisR ?_
 intro p e s m args below meth c s₁ Bd hml0 hP hK
 obtain ⟨rfl, hZ, hh⟩ := hP
 have hx := Bd.exec
 have hby := Bd.bytes
 have hml : c.maxLocals = 1 := hml0
 have hown : s.vm.findClass "com/example/turnlock/turnlock/session/DigestCredentials" = some m.cls := findClass_of_methodNamed Bd.named
 have hnm := (name_of_methodNamed Bd.named Bd.method).1
 have X0 : Stand p l e ({ frames := 0, cells := 0, slots := 0, locals := 0 } : Room) s m #[(.ref xd)] below meth c s₁ [] 0 0 := Stand.of_body Bd
 have e0 : s₁.heap = h0 := by rw [← hh, Bd.state]; rfl
 have N0 := Fr.nil n0
 have K0 := Keep.refl h0 []
 have ef : entryFrame m #[(.ref xd)] 1 = mkF m 0 #[vr xd] [] := by first | (simp [entryFrame, mkF, argsToLocals, Value.category]; done) | rfl
 rw [ef]
 refine fin_of fun Kx hF => ?_
 show Go p.tables e below Kx _ (mkF m 0 _ [])
 refine s_aloadN (pc' := 1) X0.here hx (hb hby p15_4_0) rfl rfl rfl ?_
 obtain ⟨T231, X231, e231, st231⟩ := getF X0 hx hZ hown (host := "") (Or.inl (hv hw 149 rfl)) Via.refl e0 F1 (g := (mkF m 1 #[vr xd] [(.ref xd)])) rfl rfl (hb hby p15_4_1)
 refine Go.st st231 ?_
 show Go p.tables e below Kx _ (mkF m 4 _ [(.ref yu)])
 obtain ⟨fs, hr, hrun, hended, hW, hsame⟩ := X231.leave (v := (some (.ref yu))) (fun h => by rw [Bd.returns] at h; cases h)
 refine Go.fin (retOut X231 hx Bd.returns rfl (Or.inr (Or.inr (Or.inr (Or.inr ⟨rfl, rfl, rfl⟩)))) (hb hby p15_4_4) hr) (hF _ _ hrun hended ⟨_, _, rfl, ?_, ⟨_, rfl⟩, hW, hsame.mono (by decide) (by decide)⟩)
 ·
  show QDu Z xd yu h0 n0 ((some (.ref yu)) : Option Value) T231.heap _
  rw [e231]
  exact ⟨rfl, N0, rfl⟩
theorem pd_22 : parseMethodDescriptor "()Ljava/lang/String;" = some ⟨[], some (.object "java/lang/String")⟩ := by decide +kernel
theorem pd_23 : parseMethodDescriptor "(Ljava/lang/Object;)Z" = some ⟨[(.object "java/lang/Object")], some .boolean⟩ := by decide +kernel
theorem p15_5_0 : decode prog_15_method_5_code 0 = .ok (.new 43, 3) := by decide +kernel
theorem p15_5_3 : decode prog_15_method_5_code 3 = .ok (.dup, 1) := by decide +kernel
theorem pn_7 : plainName "java/lang/StringBuilder" = true := by first | (simp [plainName, overriddenIn]; done) | decide +kernel
theorem d67_1_0 : decode jdk_67_method_1_code 0 = .ok (.aload_n 0, 1) := by decide +kernel
theorem d67_1_1 : decode jdk_67_method_1_code 1 = .ok (.bipush 16, 2) := by decide +kernel
theorem pn_8 : plainName "java/lang/AbstractStringBuilder" = true := by first | (simp [plainName, overriddenIn]; done) | decide +kernel
theorem d68_2_0 : decode jdk_68_method_2_code 0 = .ok (.aload_n 0, 1) := by decide +kernel
theorem d68_2_1 : decode jdk_68_method_2_code 1 = .ok (.invokespecial 3, 3) := by decide +kernel
theorem d68_2_4 : decode jdk_68_method_2_code 4 = .ok (.getstatic 18, 3) := by decide +kernel
theorem d68_2_7 : decode jdk_68_method_2_code 7 = .ok (.ifCond .eq 18, 3) := by decide +kernel
theorem d68_2_10 : decode jdk_68_method_2_code 10 = .ok (.aload_n 0, 1) := by decide +kernel
theorem d68_2_11 : decode jdk_68_method_2_code 11 = .ok (.iload_n 1, 1) := by decide +kernel
theorem d68_2_12 : decode jdk_68_method_2_code 12 = .ok (.newarray .byte, 2) := by decide +kernel
theorem d68_2_14 : decode jdk_68_method_2_code 14 = .ok (.putfield 15, 3) := by decide +kernel
theorem d68_2_17 : decode jdk_68_method_2_code 17 = .ok (.aload_n 0, 1) := by decide +kernel
theorem d68_2_18 : decode jdk_68_method_2_code 18 = .ok (.iconst 0, 1) := by decide +kernel
theorem d68_2_19 : decode jdk_68_method_2_code 19 = .ok (.putfield 22, 3) := by decide +kernel
theorem d68_2_22 : decode jdk_68_method_2_code 22 = .ok (.goto 16, 3) := by decide +kernel
theorem d68_2_38 : decode jdk_68_method_2_code 38 = .ok (.return_, 1) := by decide +kernel
def QKn0 (Z : State) (xb : Addr) (h0 : Heap) (n0 : Nat) (v : Option Value) (h : Heap) (L : List Loc) : Prop := v = none ∧ Fr n0 L ∧ Keep h0 h [xb] ∧ Exa Z h xb "java/lang/StringBuilder" ∧ ∃ (xt : Addr) (kt : ClassId), h0.size ≤ xt ∧ Fld Z h xb "java/lang/AbstractStringBuilder" "value" "[B" (.ref xt) ∧ Fld Z h xb "java/lang/AbstractStringBuilder" "coder" "B" (.int 0) ∧ Fld Z h xb "java/lang/AbstractStringBuilder" "count" "I" (.int 0) ∧ Arv Z h xt kt .byte 16 [(.int 0), (.int 0), (.int 0), (.int 0), (.int 0), (.int 0), (.int 0), (.int 0), (.int 0), (.int 0), (.int 0), (.int 0), (.int 0), (.int 0), (.int 0), (.int 0)] (.int 0)
theorem rmKn0 (l : Launch) (Z : State) (a0 : Array Value) (hw : ∀ d ∈ tables_1, d.before a0 Z = true) (ws : List Jvm.Cond) (xb : Addr) (h0 : Heap) (n0 : Nat) (X00 : Old Z n0 h0) (G1 : Int32) (S1 : Sta Z Z.heap "java/lang/String" "COMPACT_STRINGS" "Z" (.int G1)) (P1 : ¬ G1 = 0) (ge_xb : n0 ≤ xb) (Exb : Exa Z h0 xb "java/lang/StringBuilder") (Vxb : Fld Z h0 xb "java/lang/AbstractStringBuilder" "value" "[B" .null) (Cxb : Fld Z h0 xb "java/lang/AbstractStringBuilder" "coder" "B" (.int 0)) (Nxb : Fld Z h0 xb "java/lang/AbstractStringBuilder" "count" "I" (.int 0)) :
  MetFree l yN8 (head1 (Jvm.Cond.code yN8 jdk_68_method_2_code 2 none :: ws) ({ frames := 1, cells := 1, slots := 16, locals := 12 } : Room)) (fun aa U => aa = #[(.ref xb), (.int 16)] ∧ Z.Warmed39 U.vm ∧ U.heap = h0) (fun _ _ _ _ _ => True) (fun _ U o U' => ∃ v L, o = .returned v ∧ QKn0 Z xb h0 n0 v U'.heap L ∧ FrameEnd U o U' L ({ frames := 1, cells := 1, slots := 16, locals := 12 } : Room).cells ({ frames := 1, cells := 1, slots := 16, locals := 12 } : Room).slots) := by
 refine MetFree.of_bodySF (plainFor_of_name pn_8) hisR ?_
 intro p e s m args below meth c s₁ Bd hml0 hP hK
 obtain ⟨rfl, hZ, hh⟩ := hP
 have hx := Bd.exec
 have hby := Bd.bytes
 have hml : c.maxLocals = 2 := hml0
 have hown : s.vm.findClass "java/lang/AbstractStringBuilder" = some m.cls := findClass_of_methodNamed Bd.named
 have hnm := (name_of_methodNamed Bd.named Bd.method).1
 have X0 : Stand p l e ({ frames := 1, cells := 1, slots := 16, locals := 12 } : Room) s m #[(.ref xb), (.int 16)] below meth c s₁ [] 0 0 := Stand.of_body Bd
 have e0 : s₁.heap = h0 := by rw [← hh, Bd.state]; rfl
 have N0 := Fr.nil n0
 have K0 := Keep.refl h0 [xb]
 have ef : entryFrame m #[(.ref xb), (.int 16)] 2 = mkF m 0 #[vr xb, vi 16] [] := by first | (simp [entryFrame, mkF, argsToLocals, Value.category]; done) | rfl
 rw [ef]
 refine fin_of fun Kx hF => ?_
 show Go p.tables e below Kx _ (mkF m 0 _ [])
 refine s_aloadN (pc' := 1) X0.here hx (hb hby d68_2_0) rfl rfl rfl ?_
 obtain ⟨T239, X239, e239, st239⟩ := initO X0 hx hZ hown (hv hw 184 rfl) (hv hw 18 rfl) (hv hw 19 rfl) e0 (g := (mkF m 1 #[vr xb, vi 16] [(.ref xb)])) rfl (by rw [hml]; rfl) rfl (hb hby d68_2_1) (by decide) (W := 0) (by exact Nat.le_of_eq rfl) (by decide)
 refine Go.st st239 ?_
 show Go p.tables e below Kx _ (mkF m 4 _ [])
 obtain ⟨T240, X240, e240, st240⟩ := getS2 X239 hx hZ hown (host := "") (Or.inl (hv hw 185 rfl)) Via.refl e239 (S1.ext X00.2) (g := (mkF m 4 #[vr xb, vi 16] [])) rfl (hb hby d68_2_4)
 refine Go.st st240 ?_
 show Go p.tables e below Kx _ (mkF m 7 _ [(.int G1)])
 refine s_ifN (pc' := 10) X240.here hx (hb hby d68_2_7) rfl ((if0 _ _).trans (feq P1).1) ?_
 refine s_aloadN (pc' := 11) X240.here hx (hb hby d68_2_10) rfl rfl rfl ?_
 refine s_iloadN (pc' := 12) X240.here hx (hb hby d68_2_11) rfl rfl ?_
 obtain ⟨T241, h241, k241, X241, e241, E241, A241, B241, st241⟩ := newPE X240 hx hZ (hv hw 25 rfl) e240 (g := (mkF m 12 #[vr xb, vi 16] [(.int 16), (.ref xb)])) rfl (hb hby d68_2_12) rfl (by decide) (cap := 16) (by decide) (by decide) (by decide) (by decide) (ad := "[B") (by decide)
 obtain ⟨b241, g241⟩ : ∃ z, z = h0.size := ⟨_, rfl⟩
 rw [← g241] at A241 B241 st241
 have sz241 : h0.size ≤ b241 := Nat.le_trans K0.1 (Nat.le_of_eq g241.symm)
 have ge241 : n0 ≤ b241 := Nat.le_trans (X00.1 ▸ X00.2.1) (Nat.le_of_eq g241.symm)
 have K241 : Keep h0 h241 [xb] := K0.ext E241
 have O241 : Old Z n0 h241 := X00.ext E241
 have V241 : Arv Z h241 b241 k241 .byte 16 [(.int 0), (.int 0), (.int 0), (.int 0), (.int 0), (.int 0), (.int 0), (.int 0), (.int 0), (.int 0), (.int 0), (.int 0), (.int 0), (.int 0), (.int 0), (.int 0)] (.int 0) := (Arv.new A241 (by decide)).pad (pad_rep [] (.int 0) 16)
 refine Go.st st241 ?_
 show Go p.tables e below Kx _ (mkF m 14 _ [(.ref b241), (.ref xb)])
 have f242 : Fld Z h241 xb "java/lang/AbstractStringBuilder" "value" "[B" .null := (Vxb.ext E241)
 have f243 : Exa Z h241 xb "java/lang/StringBuilder" := (Exb.ext E241)
 obtain ⟨T244, h244, X244, e244, W244, st244⟩ := putF X241 hx hZ hown (host := "") (Or.inl (hv hw 186 rfl)) Via.refl e241 f242 f243 (Or.inl (hv hw 187 rfl)) (hv hw 173 rfl) (ty := (.array .byte)) (by decide) rfl rfl (g := (mkF m 14 #[vr xb, vi 16] [(.ref b241), (.ref xb)])) rfl rfl (hb hby d68_2_14)
 have Fw244 : Fld Z h244 xb "java/lang/AbstractStringBuilder" "value" "[B" (.ref b241) := f242.same W244
 have K244 : Keep h0 h244 [xb] := K241.wr W244 (Or.inl (List.mem_of_getElem? (i := 0) rfl))
 have O244 : Old Z n0 h244 := O241.wr W244 ge_xb
 have N244 := Fr.snoc X244 N0 ge_xb
 refine Go.st st244 ?_
 show Go p.tables e below Kx _ (mkF m 17 _ [])
 refine s_aloadN (pc' := 18) X244.here hx (hb hby d68_2_17) rfl rfl rfl ?_
 refine s_iconst (pc' := 19) (v := 0) X244.here hx (hb hby d68_2_18) rfl rfl ?_
 have f245 : Fld Z h244 xb "java/lang/AbstractStringBuilder" "coder" "B" (.int 0) := ((Cxb.ext E241).other W244 (Or.inr (slot_ne (Or.inl (hv hw 189 rfl)) (Or.inl (hv hw 187 rfl)) (by decide) (t := .byte) (t' := (.array .byte)) (by decide) (by decide))))
 have f246 : Exa Z h244 xb "java/lang/StringBuilder" := (f243.wr W244)
 obtain ⟨T247, h247, X247, e247, W247, st247⟩ := putFN X244 hx hZ hown (hv hw 188 rfl) Via.refl e244 f245 f246 (Or.inl (hv hw 189 rfl)) (hv hw 173 rfl) (ty := .byte) (v' := (.int 0)) (by decide) (by decide) (by decide) (g := (mkF m 19 #[vr xb, vi 16] [(.int 0), (.ref xb)])) rfl rfl (hb hby d68_2_19)
 have Fw247 : Fld Z h247 xb "java/lang/AbstractStringBuilder" "coder" "B" (.int 0) := f245.same W247
 have K247 : Keep h0 h247 [xb] := K244.wr W247 (Or.inl (List.mem_of_getElem? (i := 0) rfl))
 have O247 : Old Z n0 h247 := O244.wr W247 ge_xb
 have N247 := Fr.snoc X247 N244 ge_xb
 refine Go.st st247 ?_
 show Go p.tables e below Kx _ (mkF m 22 _ [])
 refine s_goto (pc' := 38) X247.here hx (hb hby d68_2_22) (by decide) (by decide) ?_
 have f248 : Exa Z h247 xb "java/lang/StringBuilder" := (f246.wr W247)
 have f249 : Fld Z h247 xb "java/lang/AbstractStringBuilder" "value" "[B" (.ref b241) := (Fw244.other W247 (Or.inr (slot_ne (Or.inl (hv hw 187 rfl)) (Or.inl (hv hw 189 rfl)) (by decide) (t := (.array .byte)) (t' := .byte) (by decide) (by decide))))
 have f250 : Fld Z h247 xb "java/lang/AbstractStringBuilder" "count" "I" (.int 0) := (((Nxb.ext E241).other W244 (Or.inr (slot_ne (Or.inl (hv hw 202 rfl)) (Or.inl (hv hw 187 rfl)) (by decide) (t := .int) (t' := (.array .byte)) (by decide) (by decide)))).other W247 (Or.inr (slot_ne (Or.inl (hv hw 202 rfl)) (Or.inl (hv hw 189 rfl)) (by decide) (t := .int) (t' := .byte) (by decide) (by decide))))
 have f251 : Arv Z h247 b241 k241 .byte 16 [(.int 0), (.int 0), (.int 0), (.int 0), (.int 0), (.int 0), (.int 0), (.int 0), (.int 0), (.int 0), (.int 0), (.int 0), (.int 0), (.int 0), (.int 0), (.int 0)] (.int 0) := ((V241.other W244 (Ne.symm (Nat.ne_of_lt (Nat.lt_of_lt_of_le Exb.lt (Nat.le_of_eq g241.symm))))).other W247 (Ne.symm (Nat.ne_of_lt (Nat.lt_of_lt_of_le Exb.lt (Nat.le_of_eq g241.symm)))))
 obtain ⟨fs, hr, hrun, hended, hW, hsame⟩ := X247.leave (v := none) (fun _ => rfl)
 refine Go.fin (X247.returnOut hx Bd.returns (hb hby d68_2_38) hr) (hF _ _ hrun hended ⟨_, _, rfl, ?_, ⟨_, rfl⟩, hW, hsame.mono (by decide) (by decide)⟩)
 ·
  show QKn0 Z xb h0 n0 (none : Option Value) T247.heap _
  rw [e247]
  exact ⟨rfl, N247, K247, f248, b241, _, sz241, f249, Fw247, f250, f251⟩
theorem pd_24 : parseMethodDescriptor "(I)V" = some ⟨[.int], none⟩ := by decide +kernel
theorem d67_1_3 : decode jdk_67_method_1_code 3 = .ok (.invokespecial 1, 3) := by decide +kernel
theorem d67_1_6 : decode jdk_67_method_1_code 6 = .ok (.return_, 1) := by decide +kernel
def QKn1 (Z : State) (xb : Addr) (h0 : Heap) (n0 : Nat) (v : Option Value) (h : Heap) (L : List Loc) : Prop := v = none ∧ Fr n0 L ∧ Keep h0 h [xb] ∧ Exa Z h xb "java/lang/StringBuilder" ∧ ∃ (xt : Addr) (kt : ClassId), h0.size ≤ xt ∧ Fld Z h xb "java/lang/AbstractStringBuilder" "value" "[B" (.ref xt) ∧ Fld Z h xb "java/lang/AbstractStringBuilder" "coder" "B" (.int 0) ∧ Fld Z h xb "java/lang/AbstractStringBuilder" "count" "I" (.int 0) ∧ Arv Z h xt kt .byte 16 [(.int 0), (.int 0), (.int 0), (.int 0), (.int 0), (.int 0), (.int 0), (.int 0), (.int 0), (.int 0), (.int 0), (.int 0), (.int 0), (.int 0), (.int 0), (.int 0)] (.int 0)
theorem rmKn1 (l : Launch) (Z : State) (a0 : Array Value) (hw : ∀ d ∈ tables_1, d.before a0 Z = true) (ws : List Jvm.Cond) (xb : Addr) (h0 : Heap) (n0 : Nat) (X00 : Old Z n0 h0) (G1 : Int32) (S1 : Sta Z Z.heap "java/lang/String" "COMPACT_STRINGS" "Z" (.int G1)) (P1 : ¬ G1 = 0) (ge_xb : n0 ≤ xb) (Exb : Exa Z h0 xb "java/lang/StringBuilder") (Vxb : Fld Z h0 xb "java/lang/AbstractStringBuilder" "value" "[B" .null) (Cxb : Fld Z h0 xb "java/lang/AbstractStringBuilder" "coder" "B" (.int 0)) (Nxb : Fld Z h0 xb "java/lang/AbstractStringBuilder" "count" "I" (.int 0)) :
  MetFree l yN36 (head1 (Jvm.Cond.code yN36 jdk_67_method_1_code 1 none :: ws) ({ frames := 2, cells := 1, slots := 16, locals := 25 } : Room)) (fun aa U => aa = #[(.ref xb)] ∧ Z.Warmed39 U.vm ∧ U.heap = h0) (fun _ _ _ _ _ => True) (fun _ U o U' => ∃ v L, o = .returned v ∧ QKn1 Z xb h0 n0 v U'.heap L ∧ FrameEnd U o U' L ({ frames := 2, cells := 1, slots := 16, locals := 25 } : Room).cells ({ frames := 2, cells := 1, slots := 16, locals := 25 } : Room).slots) := by
 refine MetFree.of_bodySF (plainFor_of_name pn_7) hisR ?_
 intro p e s m args below meth c s₁ Bd hml0 hP hK
 obtain ⟨rfl, hZ, hh⟩ := hP
 have hx := Bd.exec
 have hby := Bd.bytes
 have hml : c.maxLocals = 1 := hml0
 have hown : s.vm.findClass "java/lang/StringBuilder" = some m.cls := findClass_of_methodNamed Bd.named
 have hnm := (name_of_methodNamed Bd.named Bd.method).1
 have X0 : Stand p l e ({ frames := 2, cells := 1, slots := 16, locals := 25 } : Room) s m #[(.ref xb)] below meth c s₁ [] 0 0 := Stand.of_body Bd
 have e0 : s₁.heap = h0 := by rw [← hh, Bd.state]; rfl
 have N0 := Fr.nil n0
 have K0 := Keep.refl h0 [xb]
 have ef : entryFrame m #[(.ref xb)] 1 = mkF m 0 #[vr xb] [] := by first | (simp [entryFrame, mkF, argsToLocals, Value.category]; done) | rfl
 rw [ef]
 refine fin_of fun Kx hF => ?_
 show Go p.tables e below Kx _ (mkF m 0 _ [])
 refine s_aloadN (pc' := 1) X0.here hx (hb hby d67_1_0) rfl rfl rfl ?_
 refine s_bipush (pc' := 3) (v := 16) X0.here hx (hb hby d67_1_1) rfl rfl ?_
 obtain ⟨_, T252, L252, X252, hQ252, st252⟩ := kI X0 hx hZ (y := yN8) rfl hown (hv hw 178 rfl) (hv hw 179 rfl) (hv hw 182 rfl) (hv hw 183 rfl) (by decide) (rmKn0 l Z a0 hw [] xb h0 n0 X00 G1 S1 P1 ge_xb Exb Vxb Cxb Nxb) e0 (a := xb) (W := 0) (g := (mkF m 3 #[vr xb] [(.int 16), (.ref xb)])) rfl (by rw [hml]; rfl) (argsL := [(.int 16)]) (rest := []) (lenOf pd_24 rfl) rfl (by exact Nat.le_of_eq rfl) (hb hby d67_1_3) rfl (nb rfl) (nb rfl) (nb rfl) (nb rfl)
 obtain ⟨rfl, Nq252, Kq252, q1_252, t252, kt252, le252, q2_252, q3_252, q4_252, q5_252⟩ := hQ252
 have sz252 : h0.size ≤ t252 := Nat.le_trans K0.1 le252
 have ge252 : n0 ≤ t252 := Nat.le_trans (X00.1 ▸ X00.2.1) le252
 have N252 := Fr.app N0 Nq252
 have K252 : Keep h0 T252.heap [xb] := K0.trans Kq252 (allS (P := fun zz => zz ∈ [xb] ∨ h0.size ≤ zz) (Or.inl (List.mem_of_getElem? (i := 0) rfl)) all0)
 have O252 : Old Z n0 T252.heap := X00.keep Kq252 (allS ge_xb all0)
 refine Go.tr st252 ?_
 show Go p.tables e below Kx _ (mkF m 6 _ [])
 obtain ⟨fs, hr, hrun, hended, hW, hsame⟩ := X252.leave (v := none) (fun _ => rfl)
 refine Go.fin (X252.returnOut hx Bd.returns (hb hby d67_1_6) hr) (hF _ _ hrun hended ⟨_, _, rfl, ?_, ⟨_, rfl⟩, hW, hsame.mono (by decide) (by decide)⟩)
 ·
  show QKn1 Z xb h0 n0 (none : Option Value) T252.heap _
  skip
  exact ⟨rfl, N252, K252, q1_252, t252, _, sz252, q2_252, q3_252, q4_252, q5_252⟩
theorem pd_25 : parseMethodDescriptor "()V" = some ⟨[], none⟩ := by decide +kernel
theorem p15_5_4 : decode prog_15_method_5_code 4 = .ok (.invokespecial 45, 3) := by decide +kernel
theorem p15_5_7 : decode prog_15_method_5_code 7 = .ok (.aload_n 0, 1) := by decide +kernel
theorem p15_5_8 : decode prog_15_method_5_code 8 = .ok (.getfield 7, 3) := by decide +kernel
theorem d67_7_0 : decode jdk_67_method_7_code 0 = .ok (.aload_n 0, 1) := by decide +kernel
theorem d67_7_1 : decode jdk_67_method_7_code 1 = .ok (.aload_n 1, 1) := by decide +kernel
theorem d68_22_0 : decode jdk_68_method_22_code 0 = .ok (.aload_n 1, 1) := by decide +kernel
theorem d68_22_1 : decode jdk_68_method_22_code 1 = .ok (.ifnonnull 8, 3) := by decide +kernel
theorem d68_22_9 : decode jdk_68_method_22_code 9 = .ok (.aload_n 1, 1) := by decide +kernel
theorem d68_22_10 : decode jdk_68_method_22_code 10 = .ok (.invokevirtual 32, 3) := by decide +kernel
theorem d68_22_13 : decode jdk_68_method_22_code 13 = .ok (.istore_n 2, 1) := by decide +kernel
theorem d68_22_14 : decode jdk_68_method_22_code 14 = .ok (.aload_n 0, 1) := by decide +kernel
theorem d68_22_15 : decode jdk_68_method_22_code 15 = .ok (.aload_n 0, 1) := by decide +kernel
theorem d68_22_16 : decode jdk_68_method_22_code 16 = .ok (.getfield 79, 3) := by decide +kernel
theorem d68_22_19 : decode jdk_68_method_22_code 19 = .ok (.iload_n 2, 1) := by decide +kernel
theorem d68_22_20 : decode jdk_68_method_22_code 20 = .ok (.iadd, 1) := by decide +kernel
theorem d68_9_0 : decode jdk_68_method_9_code 0 = .ok (.aload_n 0, 1) := by decide +kernel
theorem d68_9_1 : decode jdk_68_method_9_code 1 = .ok (.getfield 15, 3) := by decide +kernel
theorem d68_9_4 : decode jdk_68_method_9_code 4 = .ok (.arraylength, 1) := by decide +kernel
theorem d68_9_5 : decode jdk_68_method_9_code 5 = .ok (.aload_n 0, 1) := by decide +kernel
theorem d68_9_6 : decode jdk_68_method_9_code 6 = .ok (.getfield 22, 3) := by decide +kernel
theorem d68_9_9 : decode jdk_68_method_9_code 9 = .ok (.ishr, 1) := by decide +kernel
theorem d68_9_10 : decode jdk_68_method_9_code 10 = .ok (.istore_n 2, 1) := by decide +kernel
theorem d68_9_11 : decode jdk_68_method_9_code 11 = .ok (.iload_n 1, 1) := by decide +kernel
theorem d68_9_12 : decode jdk_68_method_9_code 12 = .ok (.iload_n 2, 1) := by decide +kernel
theorem d68_9_13 : decode jdk_68_method_9_code 13 = .ok (.isub, 1) := by decide +kernel
theorem d68_9_14 : decode jdk_68_method_9_code 14 = .ok (.ifCond .le 24, 3) := by decide +kernel
theorem d68_9_38 : decode jdk_68_method_9_code 38 = .ok (.return_, 1) := by decide +kernel
def QGe (Z : State) (xb xt : Addr) (kt : ClassId) (X : List Int32) (mc : Int32) (h0 : Heap) (n0 : Nat) (v : Option Value) (h : Heap) (L : List Loc) : Prop := v = none ∧ Fr n0 L ∧ h = h0
theorem rmGe (l : Launch) (Z : State) (a0 : Array Value) (hw : ∀ d ∈ tables_1, d.before a0 Z = true) (ws : List Jvm.Cond) (xb xt : Addr) (kt : ClassId) (X : List Int32) (mc : Int32) (h0 : Heap) (n0 : Nat) (X00 : Old Z n0 h0) (Vxb : Fld Z h0 xb "java/lang/AbstractStringBuilder" "value" "[B" (.ref xt)) (Cxb : Fld Z h0 xb "java/lang/AbstractStringBuilder" "coder" "B" (.int 0)) (Axt : Arv Z h0 xt kt .byte 16 (pad 16 X) (.int 0)) (hcp : ¬ 0 < (mc - 16)) :
  MetFree l yN10 (head1 (Jvm.Cond.code yN10 jdk_68_method_9_code 3 none :: ws) ({ frames := 0, cells := 0, slots := 0, locals := 0 } : Room)) (fun aa U => aa = #[(.ref xb), (.int mc)] ∧ Z.Warmed39 U.vm ∧ U.heap = h0) (fun _ _ _ _ _ => True) (fun _ U o U' => ∃ v L, o = .returned v ∧ QGe Z xb xt kt X mc h0 n0 v U'.heap L ∧ FrameEnd U o U' L ({ frames := 0, cells := 0, slots := 0, locals := 0 } : Room).cells ({ frames := 0, cells := 0, slots := 0, locals := 0 } : Room).slots) := by
 refine MetFree.of_bodySF (plainFor_of_name pn_8) hisR ?_
 intro p e s m args below meth c s₁ Bd hml0 hP hK
 obtain ⟨rfl, hZ, hh⟩ := hP
 have hx := Bd.exec
 have hby := Bd.bytes
 have hml : c.maxLocals = 3 := hml0
 have hown : s.vm.findClass "java/lang/AbstractStringBuilder" = some m.cls := findClass_of_methodNamed Bd.named
 have hnm := (name_of_methodNamed Bd.named Bd.method).1
 have X0 : Stand p l e ({ frames := 0, cells := 0, slots := 0, locals := 0 } : Room) s m #[(.ref xb), (.int mc)] below meth c s₁ [] 0 0 := Stand.of_body Bd
 have e0 : s₁.heap = h0 := by rw [← hh, Bd.state]; rfl
 have N0 := Fr.nil n0
 have K0 := Keep.refl h0 []
 have ef : entryFrame m #[(.ref xb), (.int mc)] 3 = mkF m 0 #[vr xb, vi mc, un] [] := by first | (simp [entryFrame, mkF, argsToLocals, Value.category]; done) | rfl
 rw [ef]
 refine fin_of fun Kx hF => ?_
 show Go p.tables e below Kx _ (mkF m 0 _ [])
 refine s_aloadN (pc' := 1) X0.here hx (hb hby d68_9_0) rfl rfl rfl ?_
 obtain ⟨T261, X261, e261, st261⟩ := getF X0 hx hZ hown (host := "") (Or.inl (hv hw 186 rfl)) Via.refl e0 Vxb (g := (mkF m 1 #[vr xb, vi mc, un] [(.ref xb)])) rfl rfl (hb hby d68_9_1)
 refine Go.st st261 ?_
 show Go p.tables e below Kx _ (mkF m 4 _ [(.ref xt)])
 obtain ⟨cl262, Ar262, Aq262, As262, An262, Ah262, Ag262⟩ := id Axt
 refine Go.st (X261.arraylength hx (by rw [e261]; exact Ar262.1) (State.isArrayOf_alike hZ.alike Ar262.2.1) (g := (mkF m 4 #[vr xb, vi mc, un] [(.ref xt)])) rfl rfl (hb hby d68_9_4)) ?_
 rw [len_of As262 An262]
 show Go p.tables e below Kx _ (mkF m 5 _ [(.int 16)])
 refine s_aloadN (pc' := 6) X261.here hx (hb hby d68_9_5) rfl rfl rfl ?_
 obtain ⟨T263, X263, e263, st263⟩ := getF X261 hx hZ hown (host := "") (Or.inl (hv hw 188 rfl)) Via.refl e261 Cxb (g := (mkF m 6 #[vr xb, vi mc, un] [(.ref xb), (.int 16)])) rfl rfl (hb hby d68_9_6)
 refine Go.st st263 ?_
 show Go p.tables e below Kx _ (mkF m 9 _ [(.int 0), (.int 16)])
 refine s_ishr (pc' := 10) (z := 16) X263.here hx (hb hby d68_9_9) rfl (by decide) ?_
 refine s_istoreN (pc' := 11) (Ls' := #[vr xb, vi mc, vi 16]) X263.here hx (hb hby d68_9_10) rfl  rfl ?_
 refine s_iloadN (pc' := 12) X263.here hx (hb hby d68_9_11) rfl rfl ?_
 refine s_iloadN (pc' := 13) X263.here hx (hb hby d68_9_12) rfl rfl ?_
 refine s_isub (pc' := 14) X263.here hx (hb hby d68_9_13) rfl rfl ?_
 refine s_ifY (pc' := 38) X263.here hx (hb hby d68_9_14) ((if0 _ _).trans (flt hcp).2.2.2) (by decide) (by decide) ?_
 obtain ⟨fs, hr, hrun, hended, hW, hsame⟩ := X263.leave (v := none) (fun _ => rfl)
 refine Go.fin (X263.returnOut hx Bd.returns (hb hby d68_9_38) hr) (hF _ _ hrun hended ⟨_, _, rfl, ?_, ⟨_, rfl⟩, hW, hsame.mono (by decide) (by decide)⟩)
 ·
  show QGe Z xb xt kt X mc h0 n0 (none : Option Value) T263.heap _
  rw [e263]
  exact ⟨rfl, N0, rfl⟩
theorem d68_22_21 : decode jdk_68_method_22_code 21 = .ok (.invokevirtual 100, 3) := by decide +kernel
theorem d68_22_24 : decode jdk_68_method_22_code 24 = .ok (.aload_n 0, 1) := by decide +kernel
theorem d68_22_25 : decode jdk_68_method_22_code 25 = .ok (.aload_n 0, 1) := by decide +kernel
theorem d68_22_26 : decode jdk_68_method_22_code 26 = .ok (.getfield 79, 3) := by decide +kernel
theorem d68_22_29 : decode jdk_68_method_22_code 29 = .ok (.aload_n 1, 1) := by decide +kernel
theorem d68_73_0 : decode jdk_68_method_73_code 0 = .ok (.aload_n 0, 1) := by decide +kernel
theorem d68_73_1 : decode jdk_68_method_73_code 1 = .ok (.aload_n 2, 1) := by decide +kernel
theorem d68_71_0 : decode jdk_68_method_71_code 0 = .ok (.getstatic 18, 3) := by decide +kernel
theorem d68_71_3 : decode jdk_68_method_71_code 3 = .ok (.ifCond .eq 18, 3) := by decide +kernel
theorem d68_71_6 : decode jdk_68_method_71_code 6 = .ok (.aload_n 0, 1) := by decide +kernel
theorem d68_71_7 : decode jdk_68_method_71_code 7 = .ok (.getfield 22, 3) := by decide +kernel
theorem d68_71_10 : decode jdk_68_method_71_code 10 = .ok (.aload_n 1, 1) := by decide +kernel
theorem d68_71_11 : decode jdk_68_method_71_code 11 = .ok (.invokevirtual 40, 3) := by decide +kernel
theorem d68_71_14 : decode jdk_68_method_71_code 14 = .ok (.if_icmp .eq 7, 3) := by decide +kernel
theorem d68_71_21 : decode jdk_68_method_71_code 21 = .ok (.return_, 1) := by decide +kernel
def QKi (Z : State) (xb xy : Addr) (h0 : Heap) (n0 : Nat) (v : Option Value) (h : Heap) (L : List Loc) : Prop := v = none ∧ Fr n0 L ∧ h = h0
theorem rmKi (l : Launch) (Z : State) (a0 : Array Value) (hw : ∀ d ∈ tables_1, d.before a0 Z = true) (ws : List Jvm.Cond) (xb xy : Addr) (h0 : Heap) (n0 : Nat) (X00 : Old Z n0 h0) (G1 : Int32) (S1 : Sta Z Z.heap "java/lang/String" "COMPACT_STRINGS" "Z" (.int G1)) (P1 : ¬ G1 = 0) (Cxb : Fld Z h0 xb "java/lang/AbstractStringBuilder" "coder" "B" (.int 0)) (Exy : Exa Z h0 xy "java/lang/String") (Cxy : Fld Z h0 xy "java/lang/String" "coder" "B" (.int 0)) :
  MetFree l yN12 (head1 (Jvm.Cond.code yN12 jdk_68_method_71_code 2 none :: ws) ({ frames := 1, cells := 0, slots := 0, locals := 13 } : Room)) (fun aa U => aa = #[(.ref xb), (.ref xy)] ∧ Z.Warmed39 U.vm ∧ U.heap = h0) (fun _ _ _ _ _ => True) (fun _ U o U' => ∃ v L, o = .returned v ∧ QKi Z xb xy h0 n0 v U'.heap L ∧ FrameEnd U o U' L ({ frames := 1, cells := 0, slots := 0, locals := 13 } : Room).cells ({ frames := 1, cells := 0, slots := 0, locals := 13 } : Room).slots) := by
 refine MetFree.of_bodySF (plainFor_of_name pn_8) hisR ?_
 intro p e s m args below meth c s₁ Bd hml0 hP hK
 obtain ⟨rfl, hZ, hh⟩ := hP
 have hx := Bd.exec
 have hby := Bd.bytes
 have hml : c.maxLocals = 2 := hml0
 have hown : s.vm.findClass "java/lang/AbstractStringBuilder" = some m.cls := findClass_of_methodNamed Bd.named
 have hnm := (name_of_methodNamed Bd.named Bd.method).1
 have X0 : Stand p l e ({ frames := 1, cells := 0, slots := 0, locals := 13 } : Room) s m #[(.ref xb), (.ref xy)] below meth c s₁ [] 0 0 := Stand.of_body Bd
 have e0 : s₁.heap = h0 := by rw [← hh, Bd.state]; rfl
 have N0 := Fr.nil n0
 have K0 := Keep.refl h0 []
 have ef : entryFrame m #[(.ref xb), (.ref xy)] 2 = mkF m 0 #[vr xb, vr xy] [] := by first | (simp [entryFrame, mkF, argsToLocals, Value.category]; done) | rfl
 rw [ef]
 refine fin_of fun Kx hF => ?_
 show Go p.tables e below Kx _ (mkF m 0 _ [])
 obtain ⟨T266, X266, e266, st266⟩ := getS2 X0 hx hZ hown (host := "") (Or.inl (hv hw 185 rfl)) Via.refl e0 (S1.ext X00.2) (g := (mkF m 0 #[vr xb, vr xy] [])) rfl (hb hby d68_71_0)
 refine Go.st st266 ?_
 show Go p.tables e below Kx _ (mkF m 3 _ [(.int G1)])
 refine s_ifN (pc' := 6) X266.here hx (hb hby d68_71_3) rfl ((if0 _ _).trans (feq P1).1) ?_
 refine s_aloadN (pc' := 7) X266.here hx (hb hby d68_71_6) rfl rfl rfl ?_
 obtain ⟨T267, X267, e267, st267⟩ := getF X266 hx hZ hown (host := "") (Or.inl (hv hw 188 rfl)) Via.refl e266 Cxb (g := (mkF m 7 #[vr xb, vr xy] [(.ref xb)])) rfl rfl (hb hby d68_71_7)
 refine Go.st st267 ?_
 show Go p.tables e below Kx _ (mkF m 10 _ [(.int 0)])
 refine s_aloadN (pc' := 11) X267.here hx (hb hby d68_71_10) rfl rfl rfl ?_
 obtain ⟨_, T268, L268, X268, hQ268, st268⟩ := kV X267 hx hZ (y := yN23) hown (hv hw 218 rfl) (hv hw 71 rfl) (notFace_of_selects (args := #[]) (mvT hZ (hv hw 73 rfl))) (hv hw 73 rfl) (hv hw 72 rfl) (hv hw 8 rfl) (hv hw 74 rfl) (by decide) (rmKc l Z a0 hw [] xy h0 n0 X00 G1 S1 P1 Cxy) e267 Exy (W := 1) (g := (mkF m 11 #[vr xb, vr xy] [(.ref xy), (.int 0)])) rfl (by rw [hml]; rfl) (argsL := []) (rest := [(.int 0)]) (lenOf pd_5 rfl) rfl (by exact Nat.le_of_eq rfl) (hb hby d68_71_11) rfl (nb rfl) (nb rfl) (nb rfl) (nb rfl)
 obtain ⟨rfl, Nq268, hE268⟩ := hQ268
 have N268 := Fr.app N0 Nq268
 refine Go.tr st268 ?_
 show Go p.tables e below Kx _ (mkF m 14 _ [(.int 0), (.int 0)])
 refine s_icmpY (pc' := 21) X268.here hx (hb hby d68_71_14) (teq (by decide)).1 (by decide) (by decide) ?_
 obtain ⟨fs, hr, hrun, hended, hW, hsame⟩ := X268.leave (v := none) (fun _ => rfl)
 refine Go.fin (X268.returnOut hx Bd.returns (hb hby d68_71_21) hr) (hF _ _ hrun hended ⟨_, _, rfl, ?_, ⟨_, rfl⟩, hW, hsame.mono (by decide) (by decide)⟩)
 ·
  show QKi Z xb xy h0 n0 (none : Option Value) T268.heap _
  rw [hE268]
  exact ⟨rfl, N268, rfl⟩
theorem pd_26 : parseMethodDescriptor "(Ljava/lang/String;)V" = some ⟨[(.object "java/lang/String")], none⟩ := by decide +kernel
theorem d68_73_2 : decode jdk_68_method_73_code 2 = .ok (.invokevirtual 397, 3) := by decide +kernel
theorem d68_73_5 : decode jdk_68_method_73_code 5 = .ok (.aload_n 2, 1) := by decide +kernel
theorem d68_73_6 : decode jdk_68_method_73_code 6 = .ok (.aload_n 0, 1) := by decide +kernel
theorem d68_73_7 : decode jdk_68_method_73_code 7 = .ok (.getfield 15, 3) := by decide +kernel
theorem d68_73_10 : decode jdk_68_method_73_code 10 = .ok (.iload_n 1, 1) := by decide +kernel
theorem d68_73_11 : decode jdk_68_method_73_code 11 = .ok (.aload_n 0, 1) := by decide +kernel
theorem d68_73_12 : decode jdk_68_method_73_code 12 = .ok (.getfield 22, 3) := by decide +kernel
theorem d42_147_0 : decode jdk_42_method_147_code 0 = .ok (.aload_n 0, 1) := by decide +kernel
theorem d42_147_1 : decode jdk_42_method_147_code 1 = .ok (.invokevirtual 335, 3) := by decide +kernel
theorem d42_147_4 : decode jdk_42_method_147_code 4 = .ok (.iload_n 3, 1) := by decide +kernel
theorem d42_147_5 : decode jdk_42_method_147_code 5 = .ok (.if_icmp .ne 23, 3) := by decide +kernel
theorem d42_147_8 : decode jdk_42_method_147_code 8 = .ok (.aload_n 0, 1) := by decide +kernel
theorem d42_147_9 : decode jdk_42_method_147_code 9 = .ok (.getfield 9, 3) := by decide +kernel
theorem d42_147_12 : decode jdk_42_method_147_code 12 = .ok (.iconst 0, 1) := by decide +kernel
theorem d42_147_13 : decode jdk_42_method_147_code 13 = .ok (.aload_n 1, 1) := by decide +kernel
theorem d42_147_14 : decode jdk_42_method_147_code 14 = .ok (.iload_n 2, 1) := by decide +kernel
theorem d42_147_15 : decode jdk_42_method_147_code 15 = .ok (.iload_n 3, 1) := by decide +kernel
theorem d42_147_16 : decode jdk_42_method_147_code 16 = .ok (.ishl, 1) := by decide +kernel
theorem d42_147_17 : decode jdk_42_method_147_code 17 = .ok (.aload_n 0, 1) := by decide +kernel
theorem d42_147_18 : decode jdk_42_method_147_code 18 = .ok (.getfield 9, 3) := by decide +kernel
theorem d42_147_21 : decode jdk_42_method_147_code 21 = .ok (.arraylength, 1) := by decide +kernel
theorem d42_147_22 : decode jdk_42_method_147_code 22 = .ok (.invokestatic 212, 3) := by decide +kernel
theorem d42_147_25 : decode jdk_42_method_147_code 25 = .ok (.goto 18, 3) := by decide +kernel
theorem d42_147_43 : decode jdk_42_method_147_code 43 = .ok (.return_, 1) := by decide +kernel
def QGg (Z : State) (xy yb xt : Addr) (ky kt : ClassId) (X us : List Int32) (h0 : Heap) (n0 : Nat) (v : Option Value) (h : Heap) (L : List Loc) : Prop := v = none ∧ Fr n0 L ∧ Keep h0 h [xt] ∧ Arv Z h xt kt .byte 16 (pad 16 (X ++ us)) (.int 0)
theorem rmGg (l : Launch) (Z : State) (a0 : Array Value) (hw : ∀ d ∈ tables_1, d.before a0 Z = true) (ws : List Jvm.Cond) (xy yb xt : Addr) (ky kt : ClassId) (X us : List Int32) (h0 : Heap) (n0 : Nat) (X00 : Old Z n0 h0) (G1 : Int32) (S1 : Sta Z Z.heap "java/lang/String" "COMPACT_STRINGS" "Z" (.int G1)) (P1 : ¬ G1 = 0) (Exy : Exa Z h0 xy "java/lang/String") (Cxy : Fld Z h0 xy "java/lang/String" "coder" "B" (.int 0)) (Vxy : Fld Z h0 xy "java/lang/String" "value" "[B" (.ref yb)) (Axy : Arv Z h0 yb ky .byte (Int32.ofNat us.length) (us.map Value.int) (.int 0)) (ge_xt : n0 ≤ xt) (Axt : Arv Z h0 xt kt .byte 16 (pad 16 X) (.int 0)) (hc : X.length + us.length ≤ 16) :
  MetFree l yN28 (head1 (Jvm.Cond.code yN28 jdk_42_method_147_code 4 none :: ws) ({ frames := 1, cells := 0, slots := 0, locals := 18 } : Room)) (fun aa U => aa = #[(.ref xy), (.ref xt), (.int (Int32.ofNat X.length)), (.int 0)] ∧ Z.Warmed39 U.vm ∧ U.heap = h0) (fun _ _ _ _ _ => True) (fun _ U o U' => ∃ v L, o = .returned v ∧ QGg Z xy yb xt ky kt X us h0 n0 v U'.heap L ∧ FrameEnd U o U' L ({ frames := 1, cells := 0, slots := 0, locals := 18 } : Room).cells ({ frames := 1, cells := 0, slots := 0, locals := 18 } : Room).slots) := by
 refine MetFree.of_bodySF (plainFor_of_name pn_3) hisR ?_
 intro p e s m args below meth c s₁ Bd hml0 hP hK
 obtain ⟨rfl, hZ, hh⟩ := hP
 have hx := Bd.exec
 have hby := Bd.bytes
 have hml : c.maxLocals = 4 := hml0
 have hown : s.vm.findClass "java/lang/String" = some m.cls := findClass_of_methodNamed Bd.named
 have hnm := (name_of_methodNamed Bd.named Bd.method).1
 have X0 : Stand p l e ({ frames := 1, cells := 0, slots := 0, locals := 18 } : Room) s m #[(.ref xy), (.ref xt), (.int (Int32.ofNat X.length)), (.int 0)] below meth c s₁ [] 0 0 := Stand.of_body Bd
 have e0 : s₁.heap = h0 := by rw [← hh, Bd.state]; rfl
 have N0 := Fr.nil n0
 have K0 := Keep.refl h0 [xt]
 have ef : entryFrame m #[(.ref xy), (.ref xt), (.int (Int32.ofNat X.length)), (.int 0)] 4 = mkF m 0 #[vr xy, vr xt, .val (.int (Int32.ofNat X.length)), vi 0] [] := by first | (simp [entryFrame, mkF, argsToLocals, Value.category]; done) | rfl
 rw [ef]
 refine fin_of fun Kx hF => ?_
 show Go p.tables e below Kx _ (mkF m 0 _ [])
 refine s_aloadN (pc' := 1) X0.here hx (hb hby d42_147_0) rfl rfl rfl ?_
 obtain ⟨_, T272, L272, X272, hQ272, st272⟩ := kV X0 hx hZ (y := yN23) hown (hv hw 70 rfl) (hv hw 71 rfl) (notFace_of_selects (args := #[]) (mvT hZ (hv hw 73 rfl))) (hv hw 73 rfl) (hv hw 72 rfl) (hv hw 8 rfl) (hv hw 74 rfl) (by decide) (rmKc l Z a0 hw [] xy h0 n0 X00 G1 S1 P1 Cxy) e0 Exy (W := 0) (g := (mkF m 1 #[vr xy, vr xt, .val (.int (Int32.ofNat X.length)), vi 0] [(.ref xy)])) rfl (by rw [hml]; rfl) (argsL := []) (rest := []) (lenOf pd_5 rfl) rfl (by exact Nat.le_of_eq rfl) (hb hby d42_147_1) rfl (nb rfl) (nb rfl) (nb rfl) (nb rfl)
 obtain ⟨rfl, Nq272, hE272⟩ := hQ272
 have N272 := Fr.app N0 Nq272
 refine Go.tr st272 ?_
 show Go p.tables e below Kx _ (mkF m 4 _ [(.int 0)])
 refine s_iloadN (pc' := 5) X272.here hx (hb hby d42_147_4) rfl rfl ?_
 refine s_icmpN (pc' := 8) X272.here hx (hb hby d42_147_5) rfl (teq (by decide)).2 ?_
 refine s_aloadN (pc' := 9) X272.here hx (hb hby d42_147_8) rfl rfl rfl ?_
 obtain ⟨T273, X273, e273, st273⟩ := getF X272 hx hZ hown (host := "") (Or.inl (hv hw 34 rfl)) Via.refl hE272 Vxy (g := (mkF m 9 #[vr xy, vr xt, .val (.int (Int32.ofNat X.length)), vi 0] [(.ref xy)])) rfl rfl (hb hby d42_147_9)
 refine Go.st st273 ?_
 show Go p.tables e below Kx _ (mkF m 12 _ [(.ref yb)])
 refine s_iconst (pc' := 13) (v := 0) X273.here hx (hb hby d42_147_12) rfl rfl ?_
 refine s_aloadN (pc' := 14) X273.here hx (hb hby d42_147_13) rfl rfl rfl ?_
 refine s_iloadN (pc' := 15) X273.here hx (hb hby d42_147_14) rfl rfl ?_
 refine s_iloadN (pc' := 16) X273.here hx (hb hby d42_147_15) rfl rfl ?_
 refine s_ishl (pc' := 17) (z := (Int32.ofNat X.length)) X273.here hx (hb hby d42_147_16) rfl (shl0 _) ?_
 refine s_aloadN (pc' := 18) X273.here hx (hb hby d42_147_17) rfl rfl rfl ?_
 obtain ⟨T274, X274, e274, st274⟩ := getF X273 hx hZ hown (host := "") (Or.inl (hv hw 34 rfl)) Via.refl e273 Vxy (g := (mkF m 18 #[vr xy, vr xt, .val (.int (Int32.ofNat X.length)), vi 0] [(.ref xy), (.int (Int32.ofNat X.length)), (.ref xt), (.int 0), (.ref yb)])) rfl rfl (hb hby d42_147_18)
 refine Go.st st274 ?_
 show Go p.tables e below Kx _ (mkF m 21 _ [(.ref yb), (.int (Int32.ofNat X.length)), (.ref xt), (.int 0), (.ref yb)])
 obtain ⟨cl275, Ar275, Aq275, As275, An275, Ah275, Ag275⟩ := id Axy
 refine Go.st (X274.arraylength hx (by rw [e274]; exact Ar275.1) (State.isArrayOf_alike hZ.alike Ar275.2.1) (g := (mkF m 21 #[vr xy, vr xt, .val (.int (Int32.ofNat X.length)), vi 0] [(.ref yb), (.int (Int32.ofNat X.length)), (.ref xt), (.int 0), (.ref yb)])) rfl rfl (hb hby d42_147_21)) ?_
 rw [len_of As275 An275]
 show Go p.tables e below Kx _ (mkF m 22 _ [(.int (Int32.ofNat us.length)), (.int (Int32.ofNat X.length)), (.ref xt), (.int 0), (.ref yb)])
 obtain ⟨T276, h276, L276, X276, e276, N276, KK276, V276, st276⟩ := cpApp X274 hx hZ hown (hv hw 224 rfl) (hv hw 123 rfl) (hv hw 121 rfl) (hv hw 122 rfl) e274 (le4b hc) (le4a hc) (by decide) hc Axy Axt N272 ge_xt (g := (mkF m 22 #[vr xy, vr xt, .val (.int (Int32.ofNat X.length)), vi 0] [(.int (Int32.ofNat us.length)), (.int (Int32.ofNat X.length)), (.ref xt), (.int 0), (.ref yb)])) rfl (by rw [hml]; rfl) rfl (hb hby d42_147_22) (by decide) (W := 0) (by exact Nat.le_of_eq rfl) (by decide)
 have K276 : Keep h0 h276 [xt] := K0.trans KK276 (allS (P := fun zz => zz ∈ [xt] ∨ h0.size ≤ zz) (Or.inl (List.mem_of_getElem? (i := 0) rfl)) all0)
 have O276 : Old Z n0 h276 := X00.keep KK276 (allS ge_xt all0)
 refine Go.st st276 ?_
 show Go p.tables e below Kx _ (mkF m 25 _ [])
 refine s_goto (pc' := 43) X276.here hx (hb hby d42_147_25) (by decide) (by decide) ?_
 obtain ⟨fs, hr, hrun, hended, hW, hsame⟩ := X276.leave (v := none) (fun _ => rfl)
 refine Go.fin (X276.returnOut hx Bd.returns (hb hby d42_147_43) hr) (hF _ _ hrun hended ⟨_, _, rfl, ?_, ⟨_, rfl⟩, hW, hsame.mono (by decide) (by decide)⟩)
 ·
  show QGg Z xy yb xt ky kt X us h0 n0 (none : Option Value) T276.heap _
  rw [e276]
  exact ⟨rfl, N276, K276, V276⟩
theorem pd_27 : parseMethodDescriptor "([BIB)V" = some ⟨[(.array .byte), .int, .byte], none⟩ := by decide +kernel
theorem d68_73_15 : decode jdk_68_method_73_code 15 = .ok (.invokevirtual 399, 3) := by decide +kernel
theorem d68_73_18 : decode jdk_68_method_73_code 18 = .ok (.return_, 1) := by decide +kernel
def QGp (Z : State) (xb xt xy yb : Addr) (ky kt : ClassId) (X us : List Int32) (h0 : Heap) (n0 : Nat) (v : Option Value) (h : Heap) (L : List Loc) : Prop := v = none ∧ Fr n0 L ∧ Keep h0 h [xt] ∧ Arv Z h xt kt .byte 16 (pad 16 (X ++ us)) (.int 0)
theorem rmGp (l : Launch) (Z : State) (a0 : Array Value) (hw : ∀ d ∈ tables_1, d.before a0 Z = true) (ws : List Jvm.Cond) (xb xt xy yb : Addr) (ky kt : ClassId) (X us : List Int32) (h0 : Heap) (n0 : Nat) (X00 : Old Z n0 h0) (G1 : Int32) (S1 : Sta Z Z.heap "java/lang/String" "COMPACT_STRINGS" "Z" (.int G1)) (P1 : ¬ G1 = 0) (Exb : Exa Z h0 xb "java/lang/StringBuilder") (Vxb : Fld Z h0 xb "java/lang/AbstractStringBuilder" "value" "[B" (.ref xt)) (Cxb : Fld Z h0 xb "java/lang/AbstractStringBuilder" "coder" "B" (.int 0)) (Axt : Arv Z h0 xt kt .byte 16 (pad 16 X) (.int 0)) (Exy : Exa Z h0 xy "java/lang/String") (Cxy : Fld Z h0 xy "java/lang/String" "coder" "B" (.int 0)) (Vxy : Fld Z h0 xy "java/lang/String" "value" "[B" (.ref yb)) (Axy : Arv Z h0 yb ky .byte (Int32.ofNat us.length) (us.map Value.int) (.int 0)) (ge_xt : n0 ≤ xt) (hc : X.length + us.length ≤ 16) :
  MetFree l yN15 (head1 (Jvm.Cond.code yN15 jdk_68_method_73_code 3 none :: ws) ({ frames := 2, cells := 0, slots := 0, locals := 33 } : Room)) (fun aa U => aa = #[(.ref xb), (.int (Int32.ofNat X.length)), (.ref xy)] ∧ Z.Warmed39 U.vm ∧ U.heap = h0) (fun _ _ _ _ _ => True) (fun _ U o U' => ∃ v L, o = .returned v ∧ QGp Z xb xt xy yb ky kt X us h0 n0 v U'.heap L ∧ FrameEnd U o U' L ({ frames := 2, cells := 0, slots := 0, locals := 33 } : Room).cells ({ frames := 2, cells := 0, slots := 0, locals := 33 } : Room).slots) := by
 refine MetFree.of_bodySF (plainFor_of_name pn_8) hisR ?_
 intro p e s m args below meth c s₁ Bd hml0 hP hK
 obtain ⟨rfl, hZ, hh⟩ := hP
 have hx := Bd.exec
 have hby := Bd.bytes
 have hml : c.maxLocals = 3 := hml0
 have hown : s.vm.findClass "java/lang/AbstractStringBuilder" = some m.cls := findClass_of_methodNamed Bd.named
 have hnm := (name_of_methodNamed Bd.named Bd.method).1
 have X0 : Stand p l e ({ frames := 2, cells := 0, slots := 0, locals := 33 } : Room) s m #[(.ref xb), (.int (Int32.ofNat X.length)), (.ref xy)] below meth c s₁ [] 0 0 := Stand.of_body Bd
 have e0 : s₁.heap = h0 := by rw [← hh, Bd.state]; rfl
 have N0 := Fr.nil n0
 have K0 := Keep.refl h0 [xt]
 have ef : entryFrame m #[(.ref xb), (.int (Int32.ofNat X.length)), (.ref xy)] 3 = mkF m 0 #[vr xb, .val (.int (Int32.ofNat X.length)), vr xy] [] := by first | (simp [entryFrame, mkF, argsToLocals, Value.category]; done) | rfl
 rw [ef]
 refine fin_of fun Kx hF => ?_
 show Go p.tables e below Kx _ (mkF m 0 _ [])
 refine s_aloadN (pc' := 1) X0.here hx (hb hby d68_73_0) rfl rfl rfl ?_
 refine s_aloadN (pc' := 2) X0.here hx (hb hby d68_73_1) rfl rfl rfl ?_
 obtain ⟨_, T269, L269, X269, hQ269, st269⟩ := kV X0 hx hZ (y := yN12) hown (hv hw 213 rfl) (decl_of (hv hw 214 rfl) (hv hw 217 rfl)) (notFace_of_selects (args := #[]) (mvT hZ (hv hw 216 rfl))) (hv hw 216 rfl) (hv hw 214 rfl) (hv hw 182 rfl) (hv hw 217 rfl) (by decide) (rmKi l Z a0 hw [] xb xy h0 n0 X00 G1 S1 P1 Cxb Exy Cxy) e0 Exb (W := 0) (g := (mkF m 2 #[vr xb, .val (.int (Int32.ofNat X.length)), vr xy] [(.ref xy), (.ref xb)])) rfl (by rw [hml]; rfl) (argsL := [(.ref xy)]) (rest := []) (lenOf pd_26 rfl) rfl (by exact Nat.le_of_eq rfl) (hb hby d68_73_2) rfl (nb rfl) (nb rfl) (nb rfl) (nb rfl)
 obtain ⟨rfl, Nq269, hE269⟩ := hQ269
 have N269 := Fr.app N0 Nq269
 refine Go.tr st269 ?_
 show Go p.tables e below Kx _ (mkF m 5 _ [])
 refine s_aloadN (pc' := 6) X269.here hx (hb hby d68_73_5) rfl rfl rfl ?_
 refine s_aloadN (pc' := 7) X269.here hx (hb hby d68_73_6) rfl rfl rfl ?_
 obtain ⟨T270, X270, e270, st270⟩ := getF X269 hx hZ hown (host := "") (Or.inl (hv hw 186 rfl)) Via.refl hE269 Vxb (g := (mkF m 7 #[vr xb, .val (.int (Int32.ofNat X.length)), vr xy] [(.ref xb), (.ref xy)])) rfl rfl (hb hby d68_73_7)
 refine Go.st st270 ?_
 show Go p.tables e below Kx _ (mkF m 10 _ [(.ref xt), (.ref xy)])
 refine s_iloadN (pc' := 11) X270.here hx (hb hby d68_73_10) rfl rfl ?_
 refine s_aloadN (pc' := 12) X270.here hx (hb hby d68_73_11) rfl rfl rfl ?_
 obtain ⟨T271, X271, e271, st271⟩ := getF X270 hx hZ hown (host := "") (Or.inl (hv hw 188 rfl)) Via.refl e270 Cxb (g := (mkF m 12 #[vr xb, .val (.int (Int32.ofNat X.length)), vr xy] [(.ref xb), (.int (Int32.ofNat X.length)), (.ref xt), (.ref xy)])) rfl rfl (hb hby d68_73_12)
 refine Go.st st271 ?_
 show Go p.tables e below Kx _ (mkF m 15 _ [(.int 0), (.int (Int32.ofNat X.length)), (.ref xt), (.ref xy)])
 obtain ⟨_, T277, L277, X277, hQ277, st277⟩ := kV X271 hx hZ (y := yN28) hown (hv hw 219 rfl) (hv hw 220 rfl) (notFace_of_selects (args := #[]) (mvT hZ (hv hw 222 rfl))) (hv hw 222 rfl) (hv hw 221 rfl) (hv hw 8 rfl) (hv hw 223 rfl) (by decide) (rmGg l Z a0 hw [] xy yb xt _ _ X us h0 n0 X00 G1 S1 P1 Exy Cxy Vxy Axy ge_xt Axt hc) e271 Exy (W := 0) (g := (mkF m 15 #[vr xb, .val (.int (Int32.ofNat X.length)), vr xy] [(.int 0), (.int (Int32.ofNat X.length)), (.ref xt), (.ref xy)])) rfl (by rw [hml]; rfl) (argsL := [(.ref xt), (.int (Int32.ofNat X.length)), (.int 0)]) (rest := []) (lenOf pd_27 rfl) rfl (by exact Nat.le_of_eq rfl) (hb hby d68_73_15) rfl (nb rfl) (nb rfl) (nb rfl) (nb rfl)
 obtain ⟨rfl, Nq277, Kq277, q1_277⟩ := hQ277
 have N277 := Fr.app N269 Nq277
 have K277 : Keep h0 T277.heap [xt] := K0.trans Kq277 (allS (P := fun zz => zz ∈ [xt] ∨ h0.size ≤ zz) (Or.inl (List.mem_of_getElem? (i := 0) rfl)) all0)
 have O277 : Old Z n0 T277.heap := X00.keep Kq277 (allS ge_xt all0)
 refine Go.tr st277 ?_
 show Go p.tables e below Kx _ (mkF m 18 _ [])
 obtain ⟨fs, hr, hrun, hended, hW, hsame⟩ := X277.leave (v := none) (fun _ => rfl)
 refine Go.fin (X277.returnOut hx Bd.returns (hb hby d68_73_18) hr) (hF _ _ hrun hended ⟨_, _, rfl, ?_, ⟨_, rfl⟩, hW, hsame.mono (by decide) (by decide)⟩)
 ·
  show QGp Z xb xt xy yb ky kt X us h0 n0 (none : Option Value) T277.heap _
  skip
  exact ⟨rfl, N277, K277, q1_277⟩
theorem pd_28 : parseMethodDescriptor "(ILjava/lang/String;)V" = some ⟨[.int, (.object "java/lang/String")], none⟩ := by decide +kernel
theorem d68_22_30 : decode jdk_68_method_22_code 30 = .ok (.invokevirtual 208, 3) := by decide +kernel
theorem d68_22_33 : decode jdk_68_method_22_code 33 = .ok (.aload_n 0, 1) := by decide +kernel
theorem d68_22_34 : decode jdk_68_method_22_code 34 = .ok (.dup, 1) := by decide +kernel
theorem d68_22_35 : decode jdk_68_method_22_code 35 = .ok (.getfield 79, 3) := by decide +kernel
theorem d68_22_38 : decode jdk_68_method_22_code 38 = .ok (.iload_n 2, 1) := by decide +kernel
theorem d68_22_39 : decode jdk_68_method_22_code 39 = .ok (.iadd, 1) := by decide +kernel
theorem d68_22_40 : decode jdk_68_method_22_code 40 = .ok (.putfield 79, 3) := by decide +kernel
theorem d68_22_43 : decode jdk_68_method_22_code 43 = .ok (.aload_n 0, 1) := by decide +kernel
theorem d68_22_44 : decode jdk_68_method_22_code 44 = .ok (.areturn, 1) := by decide +kernel
def QGa (Z : State) (xb xt xy yb : Addr) (ky kt : ClassId) (X us : List Int32) (h0 : Heap) (n0 : Nat) (v : Option Value) (h : Heap) (L : List Loc) : Prop := v = some (.ref xb) ∧ Fr n0 L ∧ Keep h0 h [xb, xt] ∧ Exa Z h xb "java/lang/StringBuilder" ∧ Fld Z h xb "java/lang/AbstractStringBuilder" "value" "[B" (.ref xt) ∧ Fld Z h xb "java/lang/AbstractStringBuilder" "coder" "B" (.int 0) ∧ Fld Z h xb "java/lang/AbstractStringBuilder" "count" "I" (.int (Int32.ofNat (X ++ us).length)) ∧ Arv Z h xt kt .byte 16 (pad 16 (X ++ us)) (.int 0)
theorem rmGa (l : Launch) (Z : State) (a0 : Array Value) (hw : ∀ d ∈ tables_1, d.before a0 Z = true) (ws : List Jvm.Cond) (xb xt xy yb : Addr) (ky kt : ClassId) (X us : List Int32) (h0 : Heap) (n0 : Nat) (X00 : Old Z n0 h0) (G1 : Int32) (S1 : Sta Z Z.heap "java/lang/String" "COMPACT_STRINGS" "Z" (.int G1)) (P1 : ¬ G1 = 0) (Exb : Exa Z h0 xb "java/lang/StringBuilder") (Vxb : Fld Z h0 xb "java/lang/AbstractStringBuilder" "value" "[B" (.ref xt)) (Cxb : Fld Z h0 xb "java/lang/AbstractStringBuilder" "coder" "B" (.int 0)) (Nxb : Fld Z h0 xb "java/lang/AbstractStringBuilder" "count" "I" (.int (Int32.ofNat X.length))) (Axt : Arv Z h0 xt kt .byte 16 (pad 16 X) (.int 0)) (Exy : Exa Z h0 xy "java/lang/String") (Cxy : Fld Z h0 xy "java/lang/String" "coder" "B" (.int 0)) (Vxy : Fld Z h0 xy "java/lang/String" "value" "[B" (.ref yb)) (Axy : Arv Z h0 yb ky .byte (Int32.ofNat us.length) (us.map Value.int) (.int 0)) (ge_xb : n0 ≤ xb) (ge_xt : n0 ≤ xt) (nbt : xb ≠ xt) (hc : X.length + us.length ≤ 16) :
  MetFree l yN9 (head1 (Jvm.Cond.code yN9 jdk_68_method_22_code 3 (some (.object "java/lang/AbstractStringBuilder")) :: ws) ({ frames := 3, cells := 0, slots := 0, locals := 47 } : Room)) (fun aa U => aa = #[(.ref xb), (.ref xy)] ∧ Z.Warmed39 U.vm ∧ U.heap = h0) (fun _ _ _ _ _ => True) (fun _ U o U' => ∃ v L, o = .returned v ∧ QGa Z xb xt xy yb ky kt X us h0 n0 v U'.heap L ∧ FrameEnd U o U' L ({ frames := 3, cells := 0, slots := 0, locals := 47 } : Room).cells ({ frames := 3, cells := 0, slots := 0, locals := 47 } : Room).slots) := by
 refine MetFree.of_bodySF (plainFor_of_name pn_8) hisR ?_
 intro p e s m args below meth c s₁ Bd hml0 hP hK
 obtain ⟨rfl, hZ, hh⟩ := hP
 have hx := Bd.exec
 have hby := Bd.bytes
 have hml : c.maxLocals = 3 := hml0
 have hown : s.vm.findClass "java/lang/AbstractStringBuilder" = some m.cls := findClass_of_methodNamed Bd.named
 have hnm := (name_of_methodNamed Bd.named Bd.method).1
 have X0 : Stand p l e ({ frames := 3, cells := 0, slots := 0, locals := 47 } : Room) s m #[(.ref xb), (.ref xy)] below meth c s₁ [] 0 0 := Stand.of_body Bd
 have e0 : s₁.heap = h0 := by rw [← hh, Bd.state]; rfl
 have N0 := Fr.nil n0
 have K0 := Keep.refl h0 [xb, xt]
 have ef : entryFrame m #[(.ref xb), (.ref xy)] 3 = mkF m 0 #[vr xb, vr xy, un] [] := by first | (simp [entryFrame, mkF, argsToLocals, Value.category]; done) | rfl
 rw [ef]
 refine fin_of fun Kx hF => ?_
 show Go p.tables e below Kx _ (mkF m 0 _ [])
 refine s_aloadN (pc' := 1) X0.here hx (hb hby d68_22_0) rfl rfl rfl ?_
 refine s_ifnonnullY (pc' := 9) X0.here hx (hb hby d68_22_1) (by decide) (by decide) ?_
 refine s_aloadN (pc' := 10) X0.here hx (hb hby d68_22_9) rfl rfl rfl ?_
 obtain ⟨_, T259, L259, X259, hQ259, st259⟩ := kV X0 hx hZ (y := yN33) hown (hv hw 200 rfl) (hv hw 66 rfl) (notFace_of_selects (args := #[]) (mvT hZ (hv hw 68 rfl))) (hv hw 68 rfl) (hv hw 67 rfl) (hv hw 8 rfl) (hv hw 69 rfl) (by decide) (rmGl l Z a0 hw [] xy yb _ us h0 n0 X00 G1 S1 P1 Exy Cxy Vxy Axy) e0 Exy (W := 0) (g := (mkF m 10 #[vr xb, vr xy, un] [(.ref xy)])) rfl (by rw [hml]; rfl) (argsL := []) (rest := []) (lenOf pd_6 rfl) rfl (by exact Nat.le_of_eq rfl) (hb hby d68_22_10) rfl (nb rfl) (nb rfl) (nb rfl) (nb rfl)
 obtain ⟨rfl, Nq259, hE259⟩ := hQ259
 have N259 := Fr.app N0 Nq259
 refine Go.tr st259 ?_
 show Go p.tables e below Kx _ (mkF m 13 _ [(.int (Int32.ofNat us.length))])
 refine s_istoreN (pc' := 14) (Ls' := #[vr xb, vr xy, .val (.int (Int32.ofNat us.length))]) X259.here hx (hb hby d68_22_13) rfl  rfl ?_
 refine s_aloadN (pc' := 15) X259.here hx (hb hby d68_22_14) rfl rfl rfl ?_
 refine s_aloadN (pc' := 16) X259.here hx (hb hby d68_22_15) rfl rfl rfl ?_
 obtain ⟨T260, X260, e260, st260⟩ := getF X259 hx hZ hown (host := "") (Or.inl (hv hw 201 rfl)) Via.refl hE259 Nxb (g := (mkF m 16 #[vr xb, vr xy, .val (.int (Int32.ofNat us.length))] [(.ref xb), (.ref xb)])) rfl rfl (hb hby d68_22_16)
 refine Go.st st260 ?_
 show Go p.tables e below Kx _ (mkF m 19 _ [(.int (Int32.ofNat X.length)), (.ref xb)])
 refine s_iloadN (pc' := 20) X260.here hx (hb hby d68_22_19) rfl rfl ?_
 refine s_iadd (pc' := 21) (z := (Int32.ofNat (X ++ us).length)) X260.here hx (hb hby d68_22_20) rfl (lapp _ _) ?_
 obtain ⟨_, T264, L264, X264, hQ264, st264⟩ := kV X260 hx hZ (y := yN10) hown (hv hw 203 rfl) (decl_of (hv hw 204 rfl) (hv hw 207 rfl)) (notFace_of_selects (args := #[]) (mvT hZ (hv hw 206 rfl))) (hv hw 206 rfl) (hv hw 204 rfl) (hv hw 182 rfl) (hv hw 207 rfl) (by decide) (rmGe l Z a0 hw [] xb xt _ X (Int32.ofNat (X ++ us).length) h0 n0 X00 Vxb Cxb Axt (cap16 hc)) e260 Exb (W := 0) (g := (mkF m 21 #[vr xb, vr xy, .val (.int (Int32.ofNat us.length))] [(.int (Int32.ofNat (X ++ us).length)), (.ref xb)])) rfl (by rw [hml]; rfl) (argsL := [(.int (Int32.ofNat (X ++ us).length))]) (rest := []) (lenOf pd_24 rfl) rfl (by exact Nat.le_of_eq rfl) (hb hby d68_22_21) rfl (nb rfl) (nb rfl) (nb rfl) (nb rfl)
 obtain ⟨rfl, Nq264, hE264⟩ := hQ264
 have N264 := Fr.app N259 Nq264
 refine Go.tr st264 ?_
 show Go p.tables e below Kx _ (mkF m 24 _ [])
 refine s_aloadN (pc' := 25) X264.here hx (hb hby d68_22_24) rfl rfl rfl ?_
 refine s_aloadN (pc' := 26) X264.here hx (hb hby d68_22_25) rfl rfl rfl ?_
 obtain ⟨T265, X265, e265, st265⟩ := getF X264 hx hZ hown (host := "") (Or.inl (hv hw 201 rfl)) Via.refl hE264 Nxb (g := (mkF m 26 #[vr xb, vr xy, .val (.int (Int32.ofNat us.length))] [(.ref xb), (.ref xb)])) rfl rfl (hb hby d68_22_26)
 refine Go.st st265 ?_
 show Go p.tables e below Kx _ (mkF m 29 _ [(.int (Int32.ofNat X.length)), (.ref xb)])
 refine s_aloadN (pc' := 30) X265.here hx (hb hby d68_22_29) rfl rfl rfl ?_
 obtain ⟨_, T278, L278, X278, hQ278, st278⟩ := kV X265 hx hZ (y := yN15) hown (hv hw 208 rfl) (decl_of (hv hw 209 rfl) (hv hw 212 rfl)) (notFace_of_selects (args := #[]) (mvT hZ (hv hw 211 rfl))) (hv hw 211 rfl) (hv hw 209 rfl) (hv hw 182 rfl) (hv hw 212 rfl) (by decide) (rmGp l Z a0 hw [] xb xt xy yb _ _ X us h0 n0 X00 G1 S1 P1 Exb Vxb Cxb Axt Exy Cxy Vxy Axy ge_xt hc) e265 Exb (W := 0) (g := (mkF m 30 #[vr xb, vr xy, .val (.int (Int32.ofNat us.length))] [(.ref xy), (.int (Int32.ofNat X.length)), (.ref xb)])) rfl (by rw [hml]; rfl) (argsL := [(.int (Int32.ofNat X.length)), (.ref xy)]) (rest := []) (lenOf pd_28 rfl) rfl (by exact Nat.le_of_eq rfl) (hb hby d68_22_30) rfl (nb rfl) (nb rfl) (nb rfl) (nb rfl)
 obtain ⟨rfl, Nq278, Kq278, q1_278⟩ := hQ278
 have N278 := Fr.app N264 Nq278
 have K278 : Keep h0 T278.heap [xb, xt] := K0.trans Kq278 (allS (P := fun zz => zz ∈ [xb, xt] ∨ h0.size ≤ zz) (Or.inl (List.mem_of_getElem? (i := 1) rfl)) all0)
 have O278 : Old Z n0 T278.heap := X00.keep Kq278 (allS ge_xt all0)
 refine Go.tr st278 ?_
 show Go p.tables e below Kx _ (mkF m 33 _ [])
 refine s_aloadN (pc' := 34) X278.here hx (hb hby d68_22_33) rfl rfl rfl ?_
 refine s_dup (pc' := 35) X278.here hx (hb hby d68_22_34) rfl rfl ?_
 have f279 : Fld Z T278.heap xb "java/lang/AbstractStringBuilder" "count" "I" (.int (Int32.ofNat X.length)) := (Nxb.keep Kq278 (ninS nbt nin0))
 obtain ⟨T280, X280, e280, st280⟩ := getF X278 hx hZ hown (host := "") (Or.inl (hv hw 201 rfl)) Via.refl rfl f279 (g := (mkF m 35 #[vr xb, vr xy, .val (.int (Int32.ofNat us.length))] [(.ref xb), (.ref xb)])) rfl rfl (hb hby d68_22_35)
 refine Go.st st280 ?_
 show Go p.tables e below Kx _ (mkF m 38 _ [(.int (Int32.ofNat X.length)), (.ref xb)])
 refine s_iloadN (pc' := 39) X280.here hx (hb hby d68_22_38) rfl rfl ?_
 refine s_iadd (pc' := 40) (z := (Int32.ofNat (X ++ us).length)) X280.here hx (hb hby d68_22_39) rfl (lapp _ _) ?_
 have f281 : Exa Z T278.heap xb "java/lang/StringBuilder" := (Exb.keep Kq278)
 obtain ⟨T282, h282, X282, e282, W282, st282⟩ := putF X280 hx hZ hown (host := "") (Or.inl (hv hw 201 rfl)) Via.refl e280 f279 f281 (Or.inl (hv hw 202 rfl)) (hv hw 173 rfl) (ty := .int) (by decide) rfl rfl (g := (mkF m 40 #[vr xb, vr xy, .val (.int (Int32.ofNat us.length))] [(.int (Int32.ofNat (X ++ us).length)), (.ref xb)])) rfl rfl (hb hby d68_22_40)
 have Fw282 : Fld Z h282 xb "java/lang/AbstractStringBuilder" "count" "I" (.int (Int32.ofNat (X ++ us).length)) := f279.same W282
 have K282 : Keep h0 h282 [xb, xt] := K278.wr W282 (Or.inl (List.mem_of_getElem? (i := 0) rfl))
 have O282 : Old Z n0 h282 := O278.wr W282 ge_xb
 have N282 := Fr.snoc X282 N278 ge_xb
 refine Go.st st282 ?_
 show Go p.tables e below Kx _ (mkF m 43 _ [])
 refine s_aloadN (pc' := 44) X282.here hx (hb hby d68_22_43) rfl rfl rfl ?_
 have f283 : Exa Z h282 xb "java/lang/StringBuilder" := (f281.wr W282)
 have f284 : Fld Z h282 xb "java/lang/AbstractStringBuilder" "value" "[B" (.ref xt) := ((Vxb.keep Kq278 (ninS nbt nin0)).other W282 (Or.inr (slot_ne (Or.inl (hv hw 187 rfl)) (Or.inl (hv hw 202 rfl)) (by decide) (t := (.array .byte)) (t' := .int) (by decide) (by decide))))
 have f285 : Fld Z h282 xb "java/lang/AbstractStringBuilder" "coder" "B" (.int 0) := ((Cxb.keep Kq278 (ninS nbt nin0)).other W282 (Or.inr (slot_ne (Or.inl (hv hw 189 rfl)) (Or.inl (hv hw 202 rfl)) (by decide) (t := .byte) (t' := .int) (by decide) (by decide))))
 have f286 : Arv Z h282 xt kt .byte 16 (pad 16 (X ++ us)) (.int 0) := (q1_278.other W282 (Ne.symm nbt))
 obtain ⟨fs, hr, hrun, hended, hW, hsame⟩ := X282.leave (v := (some (.ref xb))) (fun h => by rw [Bd.returns] at h; cases h)
 refine Go.fin (retOut X282 hx Bd.returns rfl (Or.inr (Or.inr (Or.inr (Or.inr ⟨rfl, rfl, rfl⟩)))) (hb hby d68_22_44) hr) (hF _ _ hrun hended ⟨_, _, rfl, ?_, ⟨_, rfl⟩, hW, hsame.mono (by decide) (by decide)⟩)
 ·
  show QGa Z xb xt xy yb ky kt X us h0 n0 ((some (.ref xb)) : Option Value) T282.heap _
  rw [e282]
  exact ⟨rfl, N282, K282, f283, f284, f285, Fw282, f286⟩
theorem pd_29 : parseMethodDescriptor "(Ljava/lang/String;)Ljava/lang/AbstractStringBuilder;" = some ⟨[(.object "java/lang/String")], some (.object "java/lang/AbstractStringBuilder")⟩ := by decide +kernel
theorem d67_7_2 : decode jdk_67_method_7_code 2 = .ok (.invokespecial 29, 3) := by decide +kernel
theorem d67_7_5 : decode jdk_67_method_7_code 5 = .ok (.pop, 1) := by decide +kernel
theorem d67_7_6 : decode jdk_67_method_7_code 6 = .ok (.aload_n 0, 1) := by decide +kernel
theorem d67_7_7 : decode jdk_67_method_7_code 7 = .ok (.areturn, 1) := by decide +kernel
def QGs (Z : State) (xb xt xy yb : Addr) (ky kt : ClassId) (X us : List Int32) (h0 : Heap) (n0 : Nat) (v : Option Value) (h : Heap) (L : List Loc) : Prop := v = some (.ref xb) ∧ Fr n0 L ∧ Keep h0 h [xb, xt] ∧ Exa Z h xb "java/lang/StringBuilder" ∧ Fld Z h xb "java/lang/AbstractStringBuilder" "value" "[B" (.ref xt) ∧ Fld Z h xb "java/lang/AbstractStringBuilder" "coder" "B" (.int 0) ∧ Fld Z h xb "java/lang/AbstractStringBuilder" "count" "I" (.int (Int32.ofNat (X ++ us).length)) ∧ Arv Z h xt kt .byte 16 (pad 16 (X ++ us)) (.int 0)
theorem rmGs (l : Launch) (Z : State) (a0 : Array Value) (hw : ∀ d ∈ tables_1, d.before a0 Z = true) (ws : List Jvm.Cond) (xb xt xy yb : Addr) (ky kt : ClassId) (X us : List Int32) (h0 : Heap) (n0 : Nat) (X00 : Old Z n0 h0) (G1 : Int32) (S1 : Sta Z Z.heap "java/lang/String" "COMPACT_STRINGS" "Z" (.int G1)) (P1 : ¬ G1 = 0) (Exb : Exa Z h0 xb "java/lang/StringBuilder") (Vxb : Fld Z h0 xb "java/lang/AbstractStringBuilder" "value" "[B" (.ref xt)) (Cxb : Fld Z h0 xb "java/lang/AbstractStringBuilder" "coder" "B" (.int 0)) (Nxb : Fld Z h0 xb "java/lang/AbstractStringBuilder" "count" "I" (.int (Int32.ofNat X.length))) (Axt : Arv Z h0 xt kt .byte 16 (pad 16 X) (.int 0)) (Exy : Exa Z h0 xy "java/lang/String") (Cxy : Fld Z h0 xy "java/lang/String" "coder" "B" (.int 0)) (Vxy : Fld Z h0 xy "java/lang/String" "value" "[B" (.ref yb)) (Axy : Arv Z h0 yb ky .byte (Int32.ofNat us.length) (us.map Value.int) (.int 0)) (ge_xb : n0 ≤ xb) (ge_xt : n0 ≤ xt) (nbt : xb ≠ xt) (hc : X.length + us.length ≤ 16) :
  MetFree l yN37 (head1 (Jvm.Cond.code yN37 jdk_67_method_7_code 2 (some (.object "java/lang/StringBuilder")) :: ws) ({ frames := 4, cells := 0, slots := 0, locals := 61 } : Room)) (fun aa U => aa = #[(.ref xb), (.ref xy)] ∧ Z.Warmed39 U.vm ∧ U.heap = h0) (fun _ _ _ _ _ => True) (fun _ U o U' => ∃ v L, o = .returned v ∧ QGs Z xb xt xy yb ky kt X us h0 n0 v U'.heap L ∧ FrameEnd U o U' L ({ frames := 4, cells := 0, slots := 0, locals := 61 } : Room).cells ({ frames := 4, cells := 0, slots := 0, locals := 61 } : Room).slots) := by
 refine MetFree.of_bodySF (plainFor_of_name pn_7) hisR ?_
 intro p e s m args below meth c s₁ Bd hml0 hP hK
 obtain ⟨rfl, hZ, hh⟩ := hP
 have hx := Bd.exec
 have hby := Bd.bytes
 have hml : c.maxLocals = 2 := hml0
 have hown : s.vm.findClass "java/lang/StringBuilder" = some m.cls := findClass_of_methodNamed Bd.named
 have hnm := (name_of_methodNamed Bd.named Bd.method).1
 have X0 : Stand p l e ({ frames := 4, cells := 0, slots := 0, locals := 61 } : Room) s m #[(.ref xb), (.ref xy)] below meth c s₁ [] 0 0 := Stand.of_body Bd
 have e0 : s₁.heap = h0 := by rw [← hh, Bd.state]; rfl
 have N0 := Fr.nil n0
 have K0 := Keep.refl h0 [xb, xt]
 have ef : entryFrame m #[(.ref xb), (.ref xy)] 2 = mkF m 0 #[vr xb, vr xy] [] := by first | (simp [entryFrame, mkF, argsToLocals, Value.category]; done) | rfl
 rw [ef]
 refine fin_of fun Kx hF => ?_
 show Go p.tables e below Kx _ (mkF m 0 _ [])
 refine s_aloadN (pc' := 1) X0.here hx (hb hby d67_7_0) rfl rfl rfl ?_
 refine s_aloadN (pc' := 2) X0.here hx (hb hby d67_7_1) rfl rfl rfl ?_
 obtain ⟨_, _, ⟨T287, L287, k287, n287⟩, -, X287, ⟨Lc287, hQ287, l287, y287, z287⟩, st287⟩ := superBack X0 hx hZ (y := yN9) hown (hv hw 195 rfl) (same_of (y := yN9) (z := yN10) (by decide) (hv hw 196 rfl) rfl (hv hw 206 rfl)) (hv hw 196 rfl) (hv hw 197 rfl) (by decide) (backOf (W := 0) (rmGa l Z a0 hw [] xb xt xy yb _ _ X us h0 n0 X00 G1 S1 P1 Exb Vxb Cxb Nxb Axt Exy Cxy Vxy Axy ge_xb ge_xt nbt hc) hZ (hv hw 199 rfl) (hv hw 182 rfl) (by decide) (by decide)) e0 (Ins.self Exb) (g := (mkF m 2 #[vr xb, vr xy] [(.ref xy), (.ref xb)])) rfl (by rw [hml]; rfl) (hv hw 199 rfl) (argsL := [(.ref xy)]) (rest := []) (lenOf pd_29 rfl) rfl (by exact Nat.le_of_eq rfl) (hb hby d67_7_2) (fun _ _ => ⟨rfl, e0, (by decide : 0 + 0 ≤ _), (by decide : 0 + 0 ≤ _)⟩)
 dsimp only [Pt.U, Pt.locs, Pt.cells, Pt.slots] at X287 l287 y287 z287 st287 hQ287
 rw [l287, y287, z287] at X287
 obtain ⟨rfl, Nq287, Kq287, q1_287, q2_287, q3_287, q4_287, q5_287⟩ := hQ287
 have N287 := Fr.app N0 Nq287
 have K287 : Keep h0 T287.heap [xb, xt] := K0.trans Kq287 (allS (P := fun zz => zz ∈ [xb, xt] ∨ h0.size ≤ zz) (Or.inl (List.mem_of_getElem? (i := 0) rfl)) (allS (P := fun zz => zz ∈ [xb, xt] ∨ h0.size ≤ zz) (Or.inl (List.mem_of_getElem? (i := 1) rfl)) all0))
 have O287 : Old Z n0 T287.heap := X00.keep Kq287 (allS ge_xb (allS ge_xt all0))
 refine Go.tr st287 ?_
 show Go p.tables e below Kx _ (mkF m 5 _ [(.ref xb)])
 refine s_pop (pc' := 6) X287.here hx (hb hby d67_7_5) rfl rfl ?_
 refine s_aloadN (pc' := 7) X287.here hx (hb hby d67_7_6) rfl rfl rfl ?_
 obtain ⟨fs, hr, hrun, hended, hW, hsame⟩ := X287.leave (v := (some (.ref xb))) (fun h => by rw [Bd.returns] at h; cases h)
 refine Go.fin (retOut X287 hx Bd.returns rfl (Or.inr (Or.inr (Or.inr (Or.inr ⟨rfl, rfl, rfl⟩)))) (hb hby d67_7_7) hr) (hF _ _ hrun hended ⟨_, _, rfl, ?_, ⟨_, rfl⟩, hW, hsame.mono (by decide) (by decide)⟩)
 ·
  show QGs Z xb xt xy yb ky kt X us h0 n0 ((some (.ref xb)) : Option Value) T287.heap _
  skip
  exact ⟨rfl, N287, K287, q1_287, q2_287, q3_287, q4_287, q5_287⟩
theorem pd_30 : parseMethodDescriptor "(Ljava/lang/String;)Ljava/lang/StringBuilder;" = some ⟨[(.object "java/lang/String")], some (.object "java/lang/StringBuilder")⟩ := by decide +kernel
theorem p15_5_11 : decode prog_15_method_5_code 11 = .ok (.invokevirtual 48, 3) := by decide +kernel
theorem p15_5_14 : decode prog_15_method_5_code 14 = .ok (.ldc 78, 2) := by decide +kernel
theorem p15_5_16 : decode prog_15_method_5_code 16 = .ok (.invokevirtual 48, 3) := by decide +kernel
theorem p15_5_19 : decode prog_15_method_5_code 19 = .ok (.aload_n 0, 1) := by decide +kernel
theorem p15_5_20 : decode prog_15_method_5_code 20 = .ok (.getfield 13, 3) := by decide +kernel
theorem p15_5_23 : decode prog_15_method_5_code 23 = .ok (.invokevirtual 48, 3) := by decide +kernel
theorem d67_42_0 : decode jdk_67_method_42_code 0 = .ok (.new 18, 3) := by decide +kernel
theorem d67_42_3 : decode jdk_67_method_42_code 3 = .ok (.dup, 1) := by decide +kernel
theorem d67_42_4 : decode jdk_67_method_42_code 4 = .ok (.aload_n 0, 1) := by decide +kernel
theorem d42_53_0 : decode jdk_42_method_53_code 0 = .ok (.aload_n 0, 1) := by decide +kernel
theorem d42_53_1 : decode jdk_42_method_53_code 1 = .ok (.aload_n 1, 1) := by decide +kernel
theorem d42_53_2 : decode jdk_42_method_53_code 2 = .ok (.aconst_null, 1) := by decide +kernel
theorem d42_150_0 : decode jdk_42_method_150_code 0 = .ok (.aload_n 0, 1) := by decide +kernel
theorem d42_150_1 : decode jdk_42_method_150_code 1 = .ok (.invokespecial 1, 3) := by decide +kernel
theorem d42_150_4 : decode jdk_42_method_150_code 4 = .ok (.aload_n 1, 1) := by decide +kernel
theorem d68_64_0 : decode jdk_68_method_64_code 0 = .ok (.aload_n 0, 1) := by decide +kernel
theorem d68_64_1 : decode jdk_68_method_64_code 1 = .ok (.getfield 15, 3) := by decide +kernel
theorem d68_64_4 : decode jdk_68_method_64_code 4 = .ok (.areturn, 1) := by decide +kernel
def QKgv (Z : State) (xb xt : Addr) (h0 : Heap) (n0 : Nat) (v : Option Value) (h : Heap) (L : List Loc) : Prop := v = some (.ref xt) ∧ Fr n0 L ∧ h = h0
theorem rmKgv (l : Launch) (Z : State) (a0 : Array Value) (hw : ∀ d ∈ tables_1, d.before a0 Z = true) (ws : List Jvm.Cond) (xb xt : Addr) (h0 : Heap) (n0 : Nat) (X00 : Old Z n0 h0) (Vxb : Fld Z h0 xb "java/lang/AbstractStringBuilder" "value" "[B" (.ref xt)) :
  MetFree l yN11 (head1 (Jvm.Cond.code yN11 jdk_68_method_64_code 1 (some (.array .byte)) :: ws) ({ frames := 0, cells := 0, slots := 0, locals := 0 } : Room)) (fun aa U => aa = #[(.ref xb)] ∧ Z.Warmed39 U.vm ∧ U.heap = h0) (fun _ _ _ _ _ => True) (fun _ U o U' => ∃ v L, o = .returned v ∧ QKgv Z xb xt h0 n0 v U'.heap L ∧ FrameEnd U o U' L ({ frames := 0, cells := 0, slots := 0, locals := 0 } : Room).cells ({ frames := 0, cells := 0, slots := 0, locals := 0 } : Room).slots) := by
 refine MetFree.of_bodySF (plainFor_of_name pn_8) hisR ?_
 intro p e s m args below meth c s₁ Bd hml0 hP hK
 obtain ⟨rfl, hZ, hh⟩ := hP
 have hx := Bd.exec
 have hby := Bd.bytes
 have hml : c.maxLocals = 1 := hml0
 have hown : s.vm.findClass "java/lang/AbstractStringBuilder" = some m.cls := findClass_of_methodNamed Bd.named
 have hnm := (name_of_methodNamed Bd.named Bd.method).1
 have X0 : Stand p l e ({ frames := 0, cells := 0, slots := 0, locals := 0 } : Room) s m #[(.ref xb)] below meth c s₁ [] 0 0 := Stand.of_body Bd
 have e0 : s₁.heap = h0 := by rw [← hh, Bd.state]; rfl
 have N0 := Fr.nil n0
 have K0 := Keep.refl h0 []
 have ef : entryFrame m #[(.ref xb)] 1 = mkF m 0 #[vr xb] [] := by first | (simp [entryFrame, mkF, argsToLocals, Value.category]; done) | rfl
 rw [ef]
 refine fin_of fun Kx hF => ?_
 show Go p.tables e below Kx _ (mkF m 0 _ [])
 refine s_aloadN (pc' := 1) X0.here hx (hb hby d68_64_0) rfl rfl rfl ?_
 obtain ⟨T318, X318, e318, st318⟩ := getF X0 hx hZ hown (host := "") (Or.inl (hv hw 186 rfl)) Via.refl e0 Vxb (g := (mkF m 1 #[vr xb] [(.ref xb)])) rfl rfl (hb hby d68_64_1)
 refine Go.st st318 ?_
 show Go p.tables e below Kx _ (mkF m 4 _ [(.ref xt)])
 obtain ⟨fs, hr, hrun, hended, hW, hsame⟩ := X318.leave (v := (some (.ref xt))) (fun h => by rw [Bd.returns] at h; cases h)
 refine Go.fin (retOut X318 hx Bd.returns rfl (Or.inr (Or.inr (Or.inr (Or.inr ⟨rfl, rfl, rfl⟩)))) (hb hby d68_64_4) hr) (hF _ _ hrun hended ⟨_, _, rfl, ?_, ⟨_, rfl⟩, hW, hsame.mono (by decide) (by decide)⟩)
 ·
  show QKgv Z xb xt h0 n0 ((some (.ref xt)) : Option Value) T318.heap _
  rw [e318]
  exact ⟨rfl, N0, rfl⟩
theorem pd_31 : parseMethodDescriptor "()[B" = some ⟨[], some (.array .byte)⟩ := by decide +kernel
theorem d42_150_5 : decode jdk_42_method_150_code 5 = .ok (.invokevirtual 552, 3) := by decide +kernel
theorem d42_150_8 : decode jdk_42_method_150_code 8 = .ok (.astore_n 3, 1) := by decide +kernel
theorem d42_150_9 : decode jdk_42_method_150_code 9 = .ok (.aload_n 1, 1) := by decide +kernel
theorem d67_93_0 : decode jdk_67_method_93_code 0 = .ok (.aload_n 0, 1) := by decide +kernel
theorem d68_6_0 : decode jdk_68_method_6_code 0 = .ok (.aload_n 0, 1) := by decide +kernel
theorem d68_6_1 : decode jdk_68_method_6_code 1 = .ok (.getfield 79, 3) := by decide +kernel
theorem d68_6_4 : decode jdk_68_method_6_code 4 = .ok (.ireturn, 1) := by decide +kernel
def QGb0 (Z : State) (xb : Addr) (nb : Int32) (h0 : Heap) (n0 : Nat) (v : Option Value) (h : Heap) (L : List Loc) : Prop := v = some (.int nb) ∧ Fr n0 L ∧ h = h0
theorem rmGb0 (l : Launch) (Z : State) (a0 : Array Value) (hw : ∀ d ∈ tables_1, d.before a0 Z = true) (ws : List Jvm.Cond) (xb : Addr) (nb : Int32) (h0 : Heap) (n0 : Nat) (X00 : Old Z n0 h0) (Exb : Exa Z h0 xb "java/lang/StringBuilder") (Nxb : Fld Z h0 xb "java/lang/AbstractStringBuilder" "count" "I" (.int nb)) :
  MetFree l yN14 (head1 (Jvm.Cond.code yN14 jdk_68_method_6_code 1 (some .int) :: ws) ({ frames := 0, cells := 0, slots := 0, locals := 0 } : Room)) (fun aa U => aa = #[(.ref xb)] ∧ Z.Warmed39 U.vm ∧ U.heap = h0) (fun _ _ _ _ _ => True) (fun _ U o U' => ∃ v L, o = .returned v ∧ QGb0 Z xb nb h0 n0 v U'.heap L ∧ FrameEnd U o U' L ({ frames := 0, cells := 0, slots := 0, locals := 0 } : Room).cells ({ frames := 0, cells := 0, slots := 0, locals := 0 } : Room).slots) := by
 refine MetFree.of_bodySF (plainFor_of_name pn_8) hisR ?_
 intro p e s m args below meth c s₁ Bd hml0 hP hK
 obtain ⟨rfl, hZ, hh⟩ := hP
 have hx := Bd.exec
 have hby := Bd.bytes
 have hml : c.maxLocals = 1 := hml0
 have hown : s.vm.findClass "java/lang/AbstractStringBuilder" = some m.cls := findClass_of_methodNamed Bd.named
 have hnm := (name_of_methodNamed Bd.named Bd.method).1
 have X0 : Stand p l e ({ frames := 0, cells := 0, slots := 0, locals := 0 } : Room) s m #[(.ref xb)] below meth c s₁ [] 0 0 := Stand.of_body Bd
 have e0 : s₁.heap = h0 := by rw [← hh, Bd.state]; rfl
 have N0 := Fr.nil n0
 have K0 := Keep.refl h0 []
 have ef : entryFrame m #[(.ref xb)] 1 = mkF m 0 #[vr xb] [] := by first | (simp [entryFrame, mkF, argsToLocals, Value.category]; done) | rfl
 rw [ef]
 refine fin_of fun Kx hF => ?_
 show Go p.tables e below Kx _ (mkF m 0 _ [])
 refine s_aloadN (pc' := 1) X0.here hx (hb hby d68_6_0) rfl rfl rfl ?_
 obtain ⟨T320, X320, e320, st320⟩ := getF X0 hx hZ hown (host := "") (Or.inl (hv hw 201 rfl)) Via.refl e0 Nxb (g := (mkF m 1 #[vr xb] [(.ref xb)])) rfl rfl (hb hby d68_6_1)
 refine Go.st st320 ?_
 show Go p.tables e below Kx _ (mkF m 4 _ [(.int nb)])
 obtain ⟨fs, hr, hrun, hended, hW, hsame⟩ := X320.leave (v := (some (.int nb))) (fun h => by rw [Bd.returns] at h; cases h)
 refine Go.fin (retI X320 hx Bd.returns (hb hby d68_6_4) hr) (hF _ _ hrun hended ⟨_, _, rfl, ?_, ⟨_, rfl⟩, hW, hsame.mono (by decide) (by decide)⟩)
 ·
  show QGb0 Z xb nb h0 n0 ((some (.int nb)) : Option Value) T320.heap _
  rw [e320]
  exact ⟨rfl, N0, rfl⟩
theorem d67_93_1 : decode jdk_67_method_93_code 1 = .ok (.invokespecial 343, 3) := by decide +kernel
theorem d67_93_4 : decode jdk_67_method_93_code 4 = .ok (.ireturn, 1) := by decide +kernel
def QGb1 (Z : State) (xb : Addr) (nb : Int32) (h0 : Heap) (n0 : Nat) (v : Option Value) (h : Heap) (L : List Loc) : Prop := v = some (.int nb) ∧ Fr n0 L ∧ h = h0
theorem rmGb1 (l : Launch) (Z : State) (a0 : Array Value) (hw : ∀ d ∈ tables_1, d.before a0 Z = true) (ws : List Jvm.Cond) (xb : Addr) (nb : Int32) (h0 : Heap) (n0 : Nat) (X00 : Old Z n0 h0) (Exb : Exa Z h0 xb "java/lang/StringBuilder") (Nxb : Fld Z h0 xb "java/lang/AbstractStringBuilder" "count" "I" (.int nb)) :
  MetFree l yN38 (head1 (Jvm.Cond.code yN38 jdk_67_method_93_code 1 (some .int) :: ws) ({ frames := 1, cells := 0, slots := 0, locals := 12 } : Room)) (fun aa U => aa = #[(.ref xb)] ∧ Z.Warmed39 U.vm ∧ U.heap = h0) (fun _ _ _ _ _ => True) (fun _ U o U' => ∃ v L, o = .returned v ∧ QGb1 Z xb nb h0 n0 v U'.heap L ∧ FrameEnd U o U' L ({ frames := 1, cells := 0, slots := 0, locals := 12 } : Room).cells ({ frames := 1, cells := 0, slots := 0, locals := 12 } : Room).slots) := by
 refine MetFree.of_bodySF (plainFor_of_name pn_7) hisR ?_
 intro p e s m args below meth c s₁ Bd hml0 hP hK
 obtain ⟨rfl, hZ, hh⟩ := hP
 have hx := Bd.exec
 have hby := Bd.bytes
 have hml : c.maxLocals = 1 := hml0
 have hown : s.vm.findClass "java/lang/StringBuilder" = some m.cls := findClass_of_methodNamed Bd.named
 have hnm := (name_of_methodNamed Bd.named Bd.method).1
 have X0 : Stand p l e ({ frames := 1, cells := 0, slots := 0, locals := 12 } : Room) s m #[(.ref xb)] below meth c s₁ [] 0 0 := Stand.of_body Bd
 have e0 : s₁.heap = h0 := by rw [← hh, Bd.state]; rfl
 have N0 := Fr.nil n0
 have K0 := Keep.refl h0 []
 have ef : entryFrame m #[(.ref xb)] 1 = mkF m 0 #[vr xb] [] := by first | (simp [entryFrame, mkF, argsToLocals, Value.category]; done) | rfl
 rw [ef]
 refine fin_of fun Kx hF => ?_
 show Go p.tables e below Kx _ (mkF m 0 _ [])
 refine s_aloadN (pc' := 1) X0.here hx (hb hby d67_93_0) rfl rfl rfl ?_
 obtain ⟨_, _, ⟨T321, L321, k321, n321⟩, -, X321, ⟨Lc321, hQ321, l321, y321, z321⟩, st321⟩ := superBack X0 hx hZ (y := yN14) hown (hv hw 249 rfl) (same_of (y := yN14) (z := yN10) (by decide) (hv hw 245 rfl) rfl (hv hw 206 rfl)) (hv hw 245 rfl) (hv hw 197 rfl) (by decide) (backOf (W := 0) (rmGb0 l Z a0 hw [] xb nb h0 n0 X00 Exb Nxb) hZ (hv hw 250 rfl) (hv hw 182 rfl) (by decide) (by decide)) e0 (Ins.self Exb) (g := (mkF m 1 #[vr xb] [(.ref xb)])) rfl (by rw [hml]; rfl) (hv hw 250 rfl) (argsL := []) (rest := []) (lenOf pd_6 rfl) rfl (by exact Nat.le_of_eq rfl) (hb hby d67_93_1) (fun _ _ => ⟨rfl, e0, (by decide : 0 + 0 ≤ _), (by decide : 0 + 0 ≤ _)⟩)
 dsimp only [Pt.U, Pt.locs, Pt.cells, Pt.slots] at X321 l321 y321 z321 st321 hQ321
 rw [l321, y321, z321] at X321
 obtain ⟨rfl, Nq321, hE321⟩ := hQ321
 have N321 := Fr.app N0 Nq321
 refine Go.tr st321 ?_
 show Go p.tables e below Kx _ (mkF m 4 _ [(.int nb)])
 obtain ⟨fs, hr, hrun, hended, hW, hsame⟩ := X321.leave (v := (some (.int nb))) (fun h => by rw [Bd.returns] at h; cases h)
 refine Go.fin (retI X321 hx Bd.returns (hb hby d67_93_4) hr) (hF _ _ hrun hended ⟨_, _, rfl, ?_, ⟨_, rfl⟩, hW, hsame.mono (by decide) (by decide)⟩)
 ·
  show QGb1 Z xb nb h0 n0 ((some (.int nb)) : Option Value) T321.heap _
  rw [hE321]
  exact ⟨rfl, N321, rfl⟩
theorem d42_150_10 : decode jdk_42_method_150_code 10 = .ok (.invokevirtual 549, 3) := by decide +kernel
theorem d42_150_13 : decode jdk_42_method_150_code 13 = .ok (.istore 4, 2) := by decide +kernel
theorem d42_150_15 : decode jdk_42_method_150_code 15 = .ok (.aload_n 1, 1) := by decide +kernel
theorem d68_68_0 : decode jdk_68_method_68_code 0 = .ok (.getstatic 18, 3) := by decide +kernel
theorem d68_68_3 : decode jdk_68_method_68_code 3 = .ok (.ifCond .eq 14, 3) := by decide +kernel
theorem d68_68_6 : decode jdk_68_method_68_code 6 = .ok (.aload_n 0, 1) := by decide +kernel
theorem d68_68_7 : decode jdk_68_method_68_code 7 = .ok (.getfield 22, 3) := by decide +kernel
theorem d68_68_10 : decode jdk_68_method_68_code 10 = .ok (.ifCond .ne 7, 3) := by decide +kernel
theorem d68_68_13 : decode jdk_68_method_68_code 13 = .ok (.iconst 1, 1) := by decide +kernel
theorem d68_68_14 : decode jdk_68_method_68_code 14 = .ok (.goto 4, 3) := by decide +kernel
theorem d68_68_18 : decode jdk_68_method_68_code 18 = .ok (.ireturn, 1) := by decide +kernel
def QKbl (Z : State) (xb : Addr) (h0 : Heap) (n0 : Nat) (v : Option Value) (h : Heap) (L : List Loc) : Prop := v = some (.int 1) ∧ Fr n0 L ∧ h = h0
theorem rmKbl (l : Launch) (Z : State) (a0 : Array Value) (hw : ∀ d ∈ tables_1, d.before a0 Z = true) (ws : List Jvm.Cond) (xb : Addr) (h0 : Heap) (n0 : Nat) (X00 : Old Z n0 h0) (G1 : Int32) (S1 : Sta Z Z.heap "java/lang/String" "COMPACT_STRINGS" "Z" (.int G1)) (P1 : ¬ G1 = 0) (Cxb : Fld Z h0 xb "java/lang/AbstractStringBuilder" "coder" "B" (.int 0)) :
  MetFree l yN13 (head1 (Jvm.Cond.code yN13 jdk_68_method_68_code 1 (some .boolean) :: ws) ({ frames := 0, cells := 0, slots := 0, locals := 0 } : Room)) (fun aa U => aa = #[(.ref xb)] ∧ Z.Warmed39 U.vm ∧ U.heap = h0) (fun _ _ _ _ _ => True) (fun _ U o U' => ∃ v L, o = .returned v ∧ QKbl Z xb h0 n0 v U'.heap L ∧ FrameEnd U o U' L ({ frames := 0, cells := 0, slots := 0, locals := 0 } : Room).cells ({ frames := 0, cells := 0, slots := 0, locals := 0 } : Room).slots) := by
 refine MetFree.of_bodySF (plainFor_of_name pn_8) hisR ?_
 intro p e s m args below meth c s₁ Bd hml0 hP hK
 obtain ⟨rfl, hZ, hh⟩ := hP
 have hx := Bd.exec
 have hby := Bd.bytes
 have hml : c.maxLocals = 1 := hml0
 have hown : s.vm.findClass "java/lang/AbstractStringBuilder" = some m.cls := findClass_of_methodNamed Bd.named
 have hnm := (name_of_methodNamed Bd.named Bd.method).1
 have X0 : Stand p l e ({ frames := 0, cells := 0, slots := 0, locals := 0 } : Room) s m #[(.ref xb)] below meth c s₁ [] 0 0 := Stand.of_body Bd
 have e0 : s₁.heap = h0 := by rw [← hh, Bd.state]; rfl
 have N0 := Fr.nil n0
 have K0 := Keep.refl h0 []
 have ef : entryFrame m #[(.ref xb)] 1 = mkF m 0 #[vr xb] [] := by first | (simp [entryFrame, mkF, argsToLocals, Value.category]; done) | rfl
 rw [ef]
 refine fin_of fun Kx hF => ?_
 show Go p.tables e below Kx _ (mkF m 0 _ [])
 obtain ⟨T323, X323, e323, st323⟩ := getS2 X0 hx hZ hown (host := "") (Or.inl (hv hw 185 rfl)) Via.refl e0 (S1.ext X00.2) (g := (mkF m 0 #[vr xb] [])) rfl (hb hby d68_68_0)
 refine Go.st st323 ?_
 show Go p.tables e below Kx _ (mkF m 3 _ [(.int G1)])
 refine s_ifN (pc' := 6) X323.here hx (hb hby d68_68_3) rfl ((if0 _ _).trans (feq P1).1) ?_
 refine s_aloadN (pc' := 7) X323.here hx (hb hby d68_68_6) rfl rfl rfl ?_
 obtain ⟨T324, X324, e324, st324⟩ := getF X323 hx hZ hown (host := "") (Or.inl (hv hw 188 rfl)) Via.refl e323 Cxb (g := (mkF m 7 #[vr xb] [(.ref xb)])) rfl rfl (hb hby d68_68_7)
 refine Go.st st324 ?_
 show Go p.tables e below Kx _ (mkF m 10 _ [(.int 0)])
 refine s_ifN (pc' := 13) X324.here hx (hb hby d68_68_10) rfl ((if0 _ _).trans (teq (by decide)).2) ?_
 refine s_iconst (pc' := 14) (v := 1) X324.here hx (hb hby d68_68_13) rfl rfl ?_
 refine s_goto (pc' := 18) X324.here hx (hb hby d68_68_14) (by decide) (by decide) ?_
 obtain ⟨fs, hr, hrun, hended, hW, hsame⟩ := X324.leave (v := (some (.int 1))) (fun h => by rw [Bd.returns] at h; cases h)
 refine Go.fin (retN X324 hx (t := .boolean) Bd.returns (by simp) (hb hby d68_68_18) hr) (hF _ _ hrun hended ⟨_, _, rfl, ?_, ⟨_, rfl⟩, hW, hsame.mono (by decide) (by decide)⟩)
 ·
  show QKbl Z xb h0 n0 ((some (.int 1)) : Option Value) T324.heap _
  rw [e324]
  exact ⟨rfl, N0, rfl⟩
theorem d42_150_16 : decode jdk_42_method_150_code 16 = .ok (.invokevirtual 1047, 3) := by decide +kernel
theorem d42_150_19 : decode jdk_42_method_150_code 19 = .ok (.ifCond .eq 22, 3) := by decide +kernel
theorem d42_150_22 : decode jdk_42_method_150_code 22 = .ok (.aload_n 0, 1) := by decide +kernel
theorem d42_150_23 : decode jdk_42_method_150_code 23 = .ok (.iconst 0, 1) := by decide +kernel
theorem d42_150_24 : decode jdk_42_method_150_code 24 = .ok (.putfield 15, 3) := by decide +kernel
theorem d42_150_27 : decode jdk_42_method_150_code 27 = .ok (.aload_n 0, 1) := by decide +kernel
theorem d42_150_28 : decode jdk_42_method_150_code 28 = .ok (.aload_n 3, 1) := by decide +kernel
theorem d42_150_29 : decode jdk_42_method_150_code 29 = .ok (.iconst 0, 1) := by decide +kernel
theorem d42_150_30 : decode jdk_42_method_150_code 30 = .ok (.iload 4, 2) := by decide +kernel
def QGq (Z : State) (xt : Addr) (kt : ClassId) (X : List Int32) (h0 : Heap) (n0 : Nat) (v : Option Value) (h : Heap) (L : List Loc) : Prop := ∃ (t : Addr) (k : ClassId), v = some (.ref t) ∧ Fr n0 L ∧ Keep h0 h [] ∧ h0.size ≤ t ∧ Exa Z h t "[B" ∧ Arv Z h t k .byte (Int32.ofNat X.length) (X.map Value.int) (.int 0)
theorem rmGq (l : Launch) (Z : State) (a0 : Array Value) (hw : ∀ d ∈ tables_1, d.before a0 Z = true) (ws : List Jvm.Cond) (xt : Addr) (kt : ClassId) (X : List Int32) (h0 : Heap) (n0 : Nat) (X00 : Old Z n0 h0) (Axt : Arv Z h0 xt kt .byte 16 (pad 16 X) (.int 0)) (hl : X.length < 16) :
  MetFree l yN51 (head1 (Jvm.Cond.code yN51 jdk_65_method_133_code 5 (some (.array .byte)) :: ws) ({ frames := 1, cells := 1, slots := 16, locals := 18 } : Room)) (fun aa U => aa = #[(.ref xt), (.int 0), (.int (Int32.ofNat X.length))] ∧ Z.Warmed39 U.vm ∧ U.heap = h0) (fun _ _ _ _ _ => True) (fun _ U o U' => ∃ v L, o = .returned v ∧ QGq Z xt kt X h0 n0 v U'.heap L ∧ FrameEnd U o U' L ({ frames := 1, cells := 1, slots := 16, locals := 18 } : Room).cells ({ frames := 1, cells := 1, slots := 16, locals := 18 } : Room).slots) := by
 refine MetFree.of_bodySF (plainFor_of_name pn_6) hisR ?_
 intro p e s m args below meth c s₁ Bd hml0 hP hK
 obtain ⟨rfl, hZ, hh⟩ := hP
 have hx := Bd.exec
 have hby := Bd.bytes
 have hml : c.maxLocals = 5 := hml0
 have hown : s.vm.findClass "java/util/Arrays" = some m.cls := findClass_of_methodNamed Bd.named
 have hnm := (name_of_methodNamed Bd.named Bd.method).1
 have X0 : Stand p l e ({ frames := 1, cells := 1, slots := 16, locals := 18 } : Room) s m #[(.ref xt), (.int 0), (.int (Int32.ofNat X.length))] below meth c s₁ [] 0 0 := Stand.of_body Bd
 have e0 : s₁.heap = h0 := by rw [← hh, Bd.state]; rfl
 have N0 := Fr.nil n0
 have K0 := Keep.refl h0 []
 have ef : entryFrame m #[(.ref xt), (.int 0), (.int (Int32.ofNat X.length))] 5 = mkF m 0 #[vr xt, vi 0, .val (.int (Int32.ofNat X.length)), un, un] [] := by first | (simp [entryFrame, mkF, argsToLocals, Value.category]; done) | rfl
 rw [ef]
 refine fin_of fun Kx hF => ?_
 show Go p.tables e below Kx _ (mkF m 0 _ [])
 refine s_iloadN (pc' := 1) X0.here hx (hb hby d65_133_0) rfl rfl ?_
 refine s_iloadN (pc' := 2) X0.here hx (hb hby d65_133_1) rfl rfl ?_
 obtain ⟨_, T328, L328, X328, hQ328, st328⟩ := kS X0 hx hZ (y := yN48) hown (hv hw 116 rfl) (hv hw 117 rfl) (hv hw 111 rfl) (hv hw 118 rfl) (by decide) (rmPck l Z a0 hw [] 0 (Int32.ofNat X.length) h0 n0 X00 (nn0 (le4 hl))) e0 (W := 0) (g := (mkF m 2 #[vr xt, vi 0, .val (.int (Int32.ofNat X.length)), un, un] [(.int (Int32.ofNat X.length)), (.int 0)])) rfl (by rw [hml]; rfl) (argsL := [(.int 0), (.int (Int32.ofNat X.length))]) (rest := []) (lenOf pd_13 rfl) rfl (by exact Nat.le_of_eq rfl) (hb hby d65_133_2) rfl (nb rfl) (nb rfl) (nb rfl) (nb rfl)
 obtain ⟨rfl, Nq328, hE328⟩ := hQ328
 have N328 := Fr.app N0 Nq328
 refine Go.st st328 ?_
 show Go p.tables e below Kx _ (mkF m 5 _ [])
 refine s_iloadN (pc' := 6) X328.here hx (hb hby d65_133_5) rfl rfl ?_
 refine s_iloadN (pc' := 7) X328.here hx (hb hby d65_133_6) rfl rfl ?_
 refine s_isub (pc' := 8) (z := (Int32.ofNat X.length)) X328.here hx (hb hby d65_133_7) rfl (Int32.sub_zero _) ?_
 refine s_istoreN (pc' := 9) (Ls' := #[vr xt, vi 0, .val (.int (Int32.ofNat X.length)), .val (.int (Int32.ofNat X.length)), un]) X328.here hx (hb hby d65_133_8) rfl  rfl ?_
 refine s_iloadN (pc' := 10) X328.here hx (hb hby d65_133_9) rfl rfl ?_
 obtain ⟨T329, h329, k329, X329, e329, E329, A329, B329, st329⟩ := newPE X328 hx hZ (hv hw 25 rfl) hE328 (g := (mkF m 10 #[vr xt, vi 0, .val (.int (Int32.ofNat X.length)), .val (.int (Int32.ofNat X.length)), un] [(.int (Int32.ofNat X.length))])) rfl (hb hby d65_133_10) rfl (nn0 (le4 hl)) (cap := 16) (by rw [nl (le4 hl)]; exact Nat.le_of_lt hl) (by decide) (by decide) (by decide) (ad := "[B") (by decide)
 obtain ⟨b329, g329⟩ : ∃ z, z = h0.size := ⟨_, rfl⟩
 rw [← g329] at A329 B329 st329
 have sz329 : h0.size ≤ b329 := Nat.le_trans K0.1 (Nat.le_of_eq g329.symm)
 have ge329 : n0 ≤ b329 := Nat.le_trans (X00.1 ▸ X00.2.1) (Nat.le_of_eq g329.symm)
 have K329 : Keep h0 h329 [] := K0.ext E329
 have O329 : Old Z n0 h329 := X00.ext E329
 have V329 : Arv Z h329 b329 k329 .byte (Int32.ofNat X.length) (pad X.length []) (.int 0) := newPad (n := X.length) A329 (le4 hl)
 refine Go.st st329 ?_
 show Go p.tables e below Kx _ (mkF m 12 _ [(.ref b329)])
 refine s_astore (pc' := 14) (Ls' := #[vr xt, vi 0, .val (.int (Int32.ofNat X.length)), .val (.int (Int32.ofNat X.length)), vr b329]) X329.here hx (hb hby d65_133_12) rfl rfl rfl ?_
 refine s_aloadN (pc' := 15) X329.here hx (hb hby d65_133_14) rfl rfl rfl ?_
 refine s_iloadN (pc' := 16) X329.here hx (hb hby d65_133_15) rfl rfl ?_
 refine s_aload (pc' := 18) X329.here hx (hb hby d65_133_16) rfl rfl rfl ?_
 refine s_iconst (pc' := 19) (v := 0) X329.here hx (hb hby d65_133_18) rfl rfl ?_
 refine s_aloadN (pc' := 20) X329.here hx (hb hby d65_133_19) rfl rfl rfl ?_
 have f330 : Arv Z h329 xt kt .byte 16 (pad 16 X) (.int 0) := (Axt.ext E329)
 obtain ⟨cl331, Ar331, Aq331, As331, An331, Ah331, Ag331⟩ := id f330
 refine Go.st (X329.arraylength hx (by rw [e329]; exact Ar331.1) (State.isArrayOf_alike hZ.alike Ar331.2.1) (g := (mkF m 20 #[vr xt, vi 0, .val (.int (Int32.ofNat X.length)), .val (.int (Int32.ofNat X.length)), vr b329] [(.ref xt), (.int 0), (.ref b329), (.int 0), (.ref xt)])) rfl rfl (hb hby d65_133_20)) ?_
 rw [len_of As331 An331]
 show Go p.tables e below Kx _ (mkF m 21 _ [(.int 16), (.int 0), (.ref b329), (.int 0), (.ref xt)])
 refine s_iloadN (pc' := 22) X329.here hx (hb hby d65_133_21) rfl rfl ?_
 refine s_isub (pc' := 23) (z := 16) X329.here hx (hb hby d65_133_22) rfl (by decide) ?_
 refine s_iloadN (pc' := 24) X329.here hx (hb hby d65_133_23) rfl rfl ?_
 obtain ⟨_, T332, L332, X332, hQ332, st332⟩ := kS X329 hx hZ (y := yN17) hown (hv hw 119 rfl) (hv hw 87 rfl) (hv hw 84 rfl) (hv hw 88 rfl) (by decide) (rmGmin l Z a0 hw [] 16 (Int32.ofNat X.length) h329 n0 O329 (lt16 hl)) e329 (W := 4) (g := (mkF m 24 #[vr xt, vi 0, .val (.int (Int32.ofNat X.length)), .val (.int (Int32.ofNat X.length)), vr b329] [(.int (Int32.ofNat X.length)), (.int 16), (.int 0), (.ref b329), (.int 0), (.ref xt)])) rfl (by rw [hml]; rfl) (argsL := [(.int 16), (.int (Int32.ofNat X.length))]) (rest := [(.int 0), (.ref b329), (.int 0), (.ref xt)]) (lenOf pd_8 rfl) rfl (by exact Nat.le_of_eq rfl) (hb hby d65_133_24) rfl (nb rfl) (nb rfl) (nb rfl) (nb rfl)
 obtain ⟨rfl, Nq332, hE332⟩ := hQ332
 have N332 := Fr.app N328 Nq332
 refine Go.st st332 ?_
 show Go p.tables e below Kx _ (mkF m 27 _ [(.int (Int32.ofNat X.length)), (.int 0), (.ref b329), (.int 0), (.ref xt)])
 obtain ⟨T333, h333, L333, X333, e333, N333, KK333, V333, st333⟩ := cpPre X332 hx hZ hown (hv hw 120 rfl) (hv hw 123 rfl) (hv hw 121 rfl) (hv hw 122 rfl) hE332 (le4 hl) (by decide) (Nat.le_of_lt hl) f330 V329 N332 ge329 (g := (mkF m 27 #[vr xt, vi 0, .val (.int (Int32.ofNat X.length)), .val (.int (Int32.ofNat X.length)), vr b329] [(.int (Int32.ofNat X.length)), (.int 0), (.ref b329), (.int 0), (.ref xt)])) rfl (by rw [hml]; rfl) rfl (hb hby d65_133_27) (by decide) (W := 0) (by exact Nat.le_of_eq rfl) (by decide)
 have K333 : Keep h0 h333 [] := K329.trans KK333 (allS (P := fun zz => zz ∈ [] ∨ h0.size ≤ zz) (Or.inr sz329) all0)
 have O333 : Old Z n0 h333 := O329.keep KK333 (allS ge329 all0)
 refine Go.st st333 ?_
 show Go p.tables e below Kx _ (mkF m 30 _ [])
 refine s_aload (pc' := 32) X333.here hx (hb hby d65_133_30) rfl rfl rfl ?_
 have f334 : Exa Z h333 b329 "[B" := (B329.keep KK333)
 obtain ⟨fs, hr, hrun, hended, hW, hsame⟩ := X333.leave (v := (some (.ref b329))) (fun h => by rw [Bd.returns] at h; cases h)
 refine Go.fin (retOut X333 hx Bd.returns rfl (Or.inr (Or.inr (Or.inr (Or.inr ⟨rfl, rfl, rfl⟩)))) (hb hby d65_133_32) hr) (hF _ _ hrun hended ⟨_, _, rfl, ?_, ⟨_, rfl⟩, hW, hsame.mono (by decide) (by decide)⟩)
 ·
  show QGq Z xt kt X h0 n0 ((some (.ref b329)) : Option Value) T333.heap _
  rw [e333]
  exact ⟨_, _, rfl, N333, K333, sz329, f334, V333⟩
def QGr (Z : State) (xt : Addr) (kt : ClassId) (X : List Int32) (h0 : Heap) (n0 : Nat) (v : Option Value) (h : Heap) (L : List Loc) : Prop := ∃ (t : Addr) (k : ClassId), v = some (.ref t) ∧ Fr n0 L ∧ Keep h0 h [] ∧ h0.size ≤ t ∧ Exa Z h t "[B" ∧ Arv Z h t k .byte (Int32.ofNat X.length) (X.map Value.int) (.int 0)
theorem rmGr (l : Launch) (Z : State) (a0 : Array Value) (hw : ∀ d ∈ tables_1, d.before a0 Z = true) (ws : List Jvm.Cond) (xt : Addr) (kt : ClassId) (X : List Int32) (h0 : Heap) (n0 : Nat) (X00 : Old Z n0 h0) (Axt : Arv Z h0 xt kt .byte 16 (pad 16 X) (.int 0)) (hl : X.length < 16) :
  MetFree l yN50 (head1 (Jvm.Cond.code yN50 jdk_65_method_132_code 3 (some (.array .byte)) :: ws) ({ frames := 2, cells := 1, slots := 16, locals := 34 } : Room)) (fun aa U => aa = #[(.ref xt), (.int 0), (.int (Int32.ofNat X.length))] ∧ Z.Warmed39 U.vm ∧ U.heap = h0) (fun _ _ _ _ _ => True) (fun _ U o U' => ∃ v L, o = .returned v ∧ QGr Z xt kt X h0 n0 v U'.heap L ∧ FrameEnd U o U' L ({ frames := 2, cells := 1, slots := 16, locals := 34 } : Room).cells ({ frames := 2, cells := 1, slots := 16, locals := 34 } : Room).slots) := by
 refine MetFree.of_bodySF (plainFor_of_name pn_6) hisR ?_
 intro p e s m args below meth c s₁ Bd hml0 hP hK
 obtain ⟨rfl, hZ, hh⟩ := hP
 have hx := Bd.exec
 have hby := Bd.bytes
 have hml : c.maxLocals = 3 := hml0
 have hown : s.vm.findClass "java/util/Arrays" = some m.cls := findClass_of_methodNamed Bd.named
 have hnm := (name_of_methodNamed Bd.named Bd.method).1
 have X0 : Stand p l e ({ frames := 2, cells := 1, slots := 16, locals := 34 } : Room) s m #[(.ref xt), (.int 0), (.int (Int32.ofNat X.length))] below meth c s₁ [] 0 0 := Stand.of_body Bd
 have e0 : s₁.heap = h0 := by rw [← hh, Bd.state]; rfl
 have N0 := Fr.nil n0
 have K0 := Keep.refl h0 []
 have ef : entryFrame m #[(.ref xt), (.int 0), (.int (Int32.ofNat X.length))] 3 = mkF m 0 #[vr xt, vi 0, .val (.int (Int32.ofNat X.length))] [] := by first | (simp [entryFrame, mkF, argsToLocals, Value.category]; done) | rfl
 rw [ef]
 refine fin_of fun Kx hF => ?_
 show Go p.tables e below Kx _ (mkF m 0 _ [])
 refine s_iloadN (pc' := 1) X0.here hx (hb hby d65_132_0) rfl rfl ?_
 refine s_ifN (pc' := 4) X0.here hx (hb hby d65_132_1) rfl ((if0 _ _).trans (teq (by decide)).2) ?_
 refine s_iloadN (pc' := 5) X0.here hx (hb hby d65_132_4) rfl rfl ?_
 refine s_aloadN (pc' := 6) X0.here hx (hb hby d65_132_5) rfl rfl rfl ?_
 obtain ⟨cl327, Ar327, Aq327, As327, An327, Ah327, Ag327⟩ := id Axt
 refine Go.st (X0.arraylength hx (by rw [e0]; exact Ar327.1) (State.isArrayOf_alike hZ.alike Ar327.2.1) (g := (mkF m 6 #[vr xt, vi 0, .val (.int (Int32.ofNat X.length))] [(.ref xt), (.int (Int32.ofNat X.length))])) rfl rfl (hb hby d65_132_6)) ?_
 rw [len_of As327 An327]
 show Go p.tables e below Kx _ (mkF m 7 _ [(.int 16), (.int (Int32.ofNat X.length))])
 refine s_icmpN (pc' := 10) X0.here hx (hb hby d65_132_7) rfl (feq (ne16 hl)).1 ?_
 refine s_aloadN (pc' := 11) X0.here hx (hb hby d65_132_10) rfl rfl rfl ?_
 refine s_iloadN (pc' := 12) X0.here hx (hb hby d65_132_11) rfl rfl ?_
 refine s_iloadN (pc' := 13) X0.here hx (hb hby d65_132_12) rfl rfl ?_
 obtain ⟨_, T335, L335, X335, hQ335, st335⟩ := kS X0 hx hZ (y := yN51) hown (hv hw 113 rfl) (hv hw 114 rfl) (hv hw 111 rfl) (hv hw 115 rfl) (by decide) (rmGq l Z a0 hw [] xt _ X h0 n0 X00 Axt hl) e0 (W := 0) (g := (mkF m 13 #[vr xt, vi 0, .val (.int (Int32.ofNat X.length))] [(.int (Int32.ofNat X.length)), (.int 0), (.ref xt)])) rfl (by rw [hml]; rfl) (argsL := [(.ref xt), (.int 0), (.int (Int32.ofNat X.length))]) (rest := []) (lenOf pd_14 rfl) rfl (by exact Nat.le_of_eq rfl) (hb hby d65_132_13) rfl (nb rfl) (nb rfl) (nb rfl) (nb rfl)
 obtain ⟨t335, kt335, rfl, Nq335, Kq335, le335, q0_335, q1_335⟩ := hQ335
 have sz335 : h0.size ≤ t335 := Nat.le_trans K0.1 le335
 have ge335 : n0 ≤ t335 := Nat.le_trans (X00.1 ▸ X00.2.1) le335
 have N335 := Fr.app N0 Nq335
 have K335 : Keep h0 T335.heap [] := K0.trans Kq335 all0
 have O335 : Old Z n0 T335.heap := X00.keep Kq335 all0
 refine Go.st st335 ?_
 show Go p.tables e below Kx _ (mkF m 16 _ [(.ref t335)])
 obtain ⟨fs, hr, hrun, hended, hW, hsame⟩ := X335.leave (v := (some (.ref t335))) (fun h => by rw [Bd.returns] at h; cases h)
 refine Go.fin (retOut X335 hx Bd.returns rfl (Or.inr (Or.inr (Or.inr (Or.inr ⟨rfl, rfl, rfl⟩)))) (hb hby d65_132_16) hr) (hF _ _ hrun hended ⟨_, _, rfl, ?_, ⟨_, rfl⟩, hW, hsame.mono (by decide) (by decide)⟩)
 ·
  show QGr Z xt kt X h0 n0 ((some (.ref t335)) : Option Value) T335.heap _
  skip
  exact ⟨_, _, rfl, N335, K335, sz335, q0_335, q1_335⟩
theorem d42_150_32 : decode jdk_42_method_150_code 32 = .ok (.invokestatic 54, 3) := by decide +kernel
theorem d42_150_35 : decode jdk_42_method_150_code 35 = .ok (.putfield 9, 3) := by decide +kernel
theorem d42_150_38 : decode jdk_42_method_150_code 38 = .ok (.goto 59, 3) := by decide +kernel
theorem d42_150_97 : decode jdk_42_method_150_code 97 = .ok (.return_, 1) := by decide +kernel
def QGt0 (Z : State) (xs xb xt : Addr) (kt : ClassId) (X : List Int32) (h0 : Heap) (n0 : Nat) (v : Option Value) (h : Heap) (L : List Loc) : Prop := v = none ∧ Fr n0 L ∧ Keep h0 h [xs] ∧ Exa Z h xs "java/lang/String" ∧ Fld Z h xs "java/lang/String" "coder" "B" (.int 0) ∧ ∃ (t : Addr) (k : ClassId), h0.size ≤ t ∧ Exa Z h t "[B" ∧ Fld Z h xs "java/lang/String" "value" "[B" (.ref t) ∧ Arv Z h t k .byte (Int32.ofNat X.length) (X.map Value.int) (.int 0)
theorem rmGt0 (l : Launch) (Z : State) (a0 : Array Value) (hw : ∀ d ∈ tables_1, d.before a0 Z = true) (ws : List Jvm.Cond) (xs xb xt : Addr) (kt : ClassId) (X : List Int32) (h0 : Heap) (n0 : Nat) (X00 : Old Z n0 h0) (G1 : Int32) (S1 : Sta Z Z.heap "java/lang/String" "COMPACT_STRINGS" "Z" (.int G1)) (P1 : ¬ G1 = 0) (Exb : Exa Z h0 xb "java/lang/StringBuilder") (Vxb : Fld Z h0 xb "java/lang/AbstractStringBuilder" "value" "[B" (.ref xt)) (Cxb : Fld Z h0 xb "java/lang/AbstractStringBuilder" "coder" "B" (.int 0)) (Nxb : Fld Z h0 xb "java/lang/AbstractStringBuilder" "count" "I" (.int (Int32.ofNat X.length))) (Axt : Arv Z h0 xt kt .byte 16 (pad 16 X) (.int 0)) (hl : X.length < 16) (ge_xs : n0 ≤ xs) (nsb : xs ≠ xb) (nst : xs ≠ xt) (Exs : Exa Z h0 xs "java/lang/String") (Vxs : Fld Z h0 xs "java/lang/String" "value" "[B" .null) (Cxs : Fld Z h0 xs "java/lang/String" "coder" "B" (.int 0)) :
  MetFree l yN18 (head1 (Jvm.Cond.code yN18 jdk_42_method_150_code 5 none :: ws) ({ frames := 3, cells := 1, slots := 16, locals := 49 } : Room)) (fun aa U => aa = #[(.ref xs), (.ref xb), .null] ∧ Z.Warmed39 U.vm ∧ U.heap = h0) (fun _ _ _ _ _ => True) (fun _ U o U' => ∃ v L, o = .returned v ∧ QGt0 Z xs xb xt kt X h0 n0 v U'.heap L ∧ FrameEnd U o U' L ({ frames := 3, cells := 1, slots := 16, locals := 49 } : Room).cells ({ frames := 3, cells := 1, slots := 16, locals := 49 } : Room).slots) := by
 refine MetFree.of_bodySF (plainFor_of_name pn_3) hisR ?_
 intro p e s m args below meth c s₁ Bd hml0 hP hK
 obtain ⟨rfl, hZ, hh⟩ := hP
 have hx := Bd.exec
 have hby := Bd.bytes
 have hml : c.maxLocals = 5 := hml0
 have hown : s.vm.findClass "java/lang/String" = some m.cls := findClass_of_methodNamed Bd.named
 have hnm := (name_of_methodNamed Bd.named Bd.method).1
 have X0 : Stand p l e ({ frames := 3, cells := 1, slots := 16, locals := 49 } : Room) s m #[(.ref xs), (.ref xb), .null] below meth c s₁ [] 0 0 := Stand.of_body Bd
 have e0 : s₁.heap = h0 := by rw [← hh, Bd.state]; rfl
 have N0 := Fr.nil n0
 have K0 := Keep.refl h0 [xs]
 have ef : entryFrame m #[(.ref xs), (.ref xb), .null] 5 = mkF m 0 #[vr xs, vr xb, .val .null, un, un] [] := by first | (simp [entryFrame, mkF, argsToLocals, Value.category]; done) | rfl
 rw [ef]
 refine fin_of fun Kx hF => ?_
 show Go p.tables e below Kx _ (mkF m 0 _ [])
 refine s_aloadN (pc' := 1) X0.here hx (hb hby d42_150_0) rfl rfl rfl ?_
 obtain ⟨T317, X317, e317, st317⟩ := initO X0 hx hZ hown (hv hw 17 rfl) (hv hw 18 rfl) (hv hw 19 rfl) e0 (g := (mkF m 1 #[vr xs, vr xb, .val .null, un, un] [(.ref xs)])) rfl (by rw [hml]; rfl) rfl (hb hby d42_150_1) (by decide) (W := 0) (by exact Nat.le_of_eq rfl) (by decide)
 refine Go.st st317 ?_
 show Go p.tables e below Kx _ (mkF m 4 _ [])
 refine s_aloadN (pc' := 5) X317.here hx (hb hby d42_150_4) rfl rfl rfl ?_
 obtain ⟨_, T319, L319, X319, hQ319, st319⟩ := kV X317 hx hZ (y := yN11) hown (hv hw 238 rfl) (hv hw 239 rfl) (notFace_of_selects (args := #[]) (mvT hZ (hv hw 241 rfl))) (hv hw 241 rfl) (hv hw 240 rfl) (hv hw 182 rfl) (hv hw 242 rfl) (by decide) (rmKgv l Z a0 hw [] xb xt h0 n0 X00 Vxb) e317 Exb (W := 0) (g := (mkF m 5 #[vr xs, vr xb, .val .null, un, un] [(.ref xb)])) rfl (by rw [hml]; rfl) (argsL := []) (rest := []) (lenOf pd_31 rfl) rfl (by exact Nat.le_of_eq rfl) (hb hby d42_150_5) rfl (nb rfl) (nb rfl) (nb rfl) (nb rfl)
 obtain ⟨rfl, Nq319, hE319⟩ := hQ319
 have N319 := Fr.app N0 Nq319
 refine Go.tr st319 ?_
 show Go p.tables e below Kx _ (mkF m 8 _ [(.ref xt)])
 refine s_astoreN (pc' := 9) (Ls' := #[vr xs, vr xb, .val .null, vr xt, un]) X319.here hx (hb hby d42_150_8) rfl rfl rfl ?_
 refine s_aloadN (pc' := 10) X319.here hx (hb hby d42_150_9) rfl rfl rfl ?_
 obtain ⟨_, T322, L322, X322, hQ322, st322⟩ := kV X319 hx hZ (y := yN14) (z := yN38) hown (hv hw 243 rfl) (hv hw 244 rfl) (nf_of (args := #[]) (z := yN10) rfl (mvT hZ (hv hw 206 rfl))) (hv hw 246 rfl) (hv hw 247 rfl) (hv hw 174 rfl) (hv hw 248 rfl) (by decide) (rmGb1 l Z a0 hw [] xb (Int32.ofNat X.length) h0 n0 X00 Exb Nxb) hE319 Exb (W := 0) (g := (mkF m 10 #[vr xs, vr xb, .val .null, vr xt, un] [(.ref xb)])) rfl (by rw [hml]; rfl) (argsL := []) (rest := []) (lenOf pd_6 rfl) rfl (by exact Nat.le_of_eq rfl) (hb hby d42_150_10) rfl (nb rfl) (nb rfl) (nb rfl) (nb rfl)
 obtain ⟨rfl, Nq322, hE322⟩ := hQ322
 have N322 := Fr.app N319 Nq322
 refine Go.tr st322 ?_
 show Go p.tables e below Kx _ (mkF m 13 _ [(.int (Int32.ofNat X.length))])
 refine s_istore (pc' := 15) (Ls' := #[vr xs, vr xb, .val .null, vr xt, .val (.int (Int32.ofNat X.length))]) X322.here hx (hb hby d42_150_13) rfl  rfl ?_
 refine s_aloadN (pc' := 16) X322.here hx (hb hby d42_150_15) rfl rfl rfl ?_
 obtain ⟨_, T325, L325, X325, hQ325, st325⟩ := kV X322 hx hZ (y := yN13) hown (hv hw 251 rfl) (hv hw 252 rfl) (notFace_of_selects (args := #[]) (mvT hZ (hv hw 254 rfl))) (hv hw 254 rfl) (hv hw 253 rfl) (hv hw 182 rfl) (hv hw 255 rfl) (by decide) (rmKbl l Z a0 hw [] xb h0 n0 X00 G1 S1 P1 Cxb) hE322 Exb (W := 0) (g := (mkF m 16 #[vr xs, vr xb, .val .null, vr xt, .val (.int (Int32.ofNat X.length))] [(.ref xb)])) rfl (by rw [hml]; rfl) (argsL := []) (rest := []) (lenOf pd_4 rfl) rfl (by exact Nat.le_of_eq rfl) (hb hby d42_150_16) rfl (nb rfl) (nb rfl) (nb rfl) (nb rfl)
 obtain ⟨rfl, Nq325, hE325⟩ := hQ325
 have N325 := Fr.app N322 Nq325
 refine Go.tr st325 ?_
 show Go p.tables e below Kx _ (mkF m 19 _ [(.int 1)])
 refine s_ifN (pc' := 22) X325.here hx (hb hby d42_150_19) rfl ((if0 _ _).trans (feq (by decide)).1) ?_
 refine s_aloadN (pc' := 23) X325.here hx (hb hby d42_150_22) rfl rfl rfl ?_
 refine s_iconst (pc' := 24) (v := 0) X325.here hx (hb hby d42_150_23) rfl rfl ?_
 obtain ⟨T326, h326, X326, e326, W326, st326⟩ := putFN X325 hx hZ hown (hv hw 32 rfl) Via.refl hE325 Cxs Exs (Or.inr ⟨(hv hw 33 rfl), rfl, hnm⟩) (hv hw 7 rfl) (ty := .byte) (v' := (.int 0)) (by decide) (by decide) (by decide) (g := (mkF m 24 #[vr xs, vr xb, .val .null, vr xt, .val (.int (Int32.ofNat X.length))] [(.int 0), (.ref xs)])) rfl rfl (hb hby d42_150_24)
 have Fw326 : Fld Z h326 xs "java/lang/String" "coder" "B" (.int 0) := Cxs.same W326
 have K326 : Keep h0 h326 [xs] := K0.wr W326 (Or.inl (List.mem_of_getElem? (i := 0) rfl))
 have O326 : Old Z n0 h326 := X00.wr W326 ge_xs
 have N326 := Fr.snoc X326 N325 ge_xs
 refine Go.st st326 ?_
 show Go p.tables e below Kx _ (mkF m 27 _ [])
 refine s_aloadN (pc' := 28) X326.here hx (hb hby d42_150_27) rfl rfl rfl ?_
 refine s_aloadN (pc' := 29) X326.here hx (hb hby d42_150_28) rfl rfl rfl ?_
 refine s_iconst (pc' := 30) (v := 0) X326.here hx (hb hby d42_150_29) rfl rfl ?_
 refine s_iload (pc' := 32) X326.here hx (hb hby d42_150_30) rfl rfl ?_
 have f336 : Arv Z h326 xt kt .byte 16 (pad 16 X) (.int 0) := (Axt.other W326 (Ne.symm nst))
 obtain ⟨_, T337, L337, X337, hQ337, st337⟩ := kS X326 hx hZ (y := yN50) hown (hv hw 256 rfl) (hv hw 110 rfl) (hv hw 111 rfl) (hv hw 112 rfl) (by decide) (rmGr l Z a0 hw [] xt _ X h326 n0 O326 f336 hl) e326 (W := 1) (g := (mkF m 32 #[vr xs, vr xb, .val .null, vr xt, .val (.int (Int32.ofNat X.length))] [(.int (Int32.ofNat X.length)), (.int 0), (.ref xt), (.ref xs)])) rfl (by rw [hml]; rfl) (argsL := [(.ref xt), (.int 0), (.int (Int32.ofNat X.length))]) (rest := [(.ref xs)]) (lenOf pd_14 rfl) rfl (by exact Nat.le_of_eq rfl) (hb hby d42_150_32) rfl (nb rfl) (nb rfl) (nb rfl) (nb rfl)
 obtain ⟨t337, kt337, rfl, Nq337, Kq337, le337, q0_337, q1_337⟩ := hQ337
 have sz337 : h0.size ≤ t337 := Nat.le_trans K326.1 le337
 have ge337 : n0 ≤ t337 := Nat.le_trans (O326.1 ▸ O326.2.1) le337
 have N337 := Fr.app N326 Nq337
 have K337 : Keep h0 T337.heap [xs] := K326.trans Kq337 all0
 have O337 : Old Z n0 T337.heap := O326.keep Kq337 all0
 refine Go.st st337 ?_
 show Go p.tables e below Kx _ (mkF m 35 _ [(.ref t337), (.ref xs)])
 have f338 : Fld Z T337.heap xs "java/lang/String" "value" "[B" .null := ((Vxs.other W326 (Or.inr (slot_ne (Or.inr (hv hw 35 rfl)) (Or.inr (hv hw 33 rfl)) (by decide) (t := (.array .byte)) (t' := .byte) (by decide) (by decide)))).keep Kq337 nin0)
 have f339 : Exa Z T337.heap xs "java/lang/String" := ((Exs.wr W326).keep Kq337)
 obtain ⟨T340, h340, X340, e340, W340, st340⟩ := putF X337 hx hZ hown (host := "") (Or.inl (hv hw 34 rfl)) Via.refl rfl f338 f339 (Or.inr ⟨(hv hw 35 rfl), rfl, hnm⟩) (hv hw 7 rfl) (ty := (.array .byte)) (by decide) rfl rfl (g := (mkF m 35 #[vr xs, vr xb, .val .null, vr xt, .val (.int (Int32.ofNat X.length))] [(.ref t337), (.ref xs)])) rfl rfl (hb hby d42_150_35)
 have Fw340 : Fld Z h340 xs "java/lang/String" "value" "[B" (.ref t337) := f338.same W340
 have K340 : Keep h0 h340 [xs] := K337.wr W340 (Or.inl (List.mem_of_getElem? (i := 0) rfl))
 have O340 : Old Z n0 h340 := O337.wr W340 ge_xs
 have N340 := Fr.snoc X340 N337 ge_xs
 refine Go.st st340 ?_
 show Go p.tables e below Kx _ (mkF m 38 _ [])
 refine s_goto (pc' := 97) X340.here hx (hb hby d42_150_38) (by decide) (by decide) ?_
 have f341 : Exa Z h340 xs "java/lang/String" := (f339.wr W340)
 have f342 : Fld Z h340 xs "java/lang/String" "coder" "B" (.int 0) := ((Fw326.keep Kq337 nin0).other W340 (Or.inr (slot_ne (Or.inr (hv hw 33 rfl)) (Or.inr (hv hw 35 rfl)) (by decide) (t := .byte) (t' := (.array .byte)) (by decide) (by decide))))
 have f343 : Exa Z h340 t337 "[B" := (q0_337.wr W340)
 have f344 : Arv Z h340 t337 kt337 .byte (Int32.ofNat X.length) (X.map Value.int) (.int 0) := (q1_337.other W340 (Ne.symm (Nat.ne_of_lt (Nat.lt_of_lt_of_le (Nat.lt_of_lt_of_le Exs.lt (Nat.le_of_eq W326.size.symm)) le337))))
 obtain ⟨fs, hr, hrun, hended, hW, hsame⟩ := X340.leave (v := none) (fun _ => rfl)
 refine Go.fin (X340.returnOut hx Bd.returns (hb hby d42_150_97) hr) (hF _ _ hrun hended ⟨_, _, rfl, ?_, ⟨_, rfl⟩, hW, hsame.mono (by decide) (by decide)⟩)
 ·
  show QGt0 Z xs xb xt kt X h0 n0 (none : Option Value) T340.heap _
  rw [e340]
  exact ⟨rfl, N340, K340, f341, f342, t337, _, sz337, f343, Fw340, f344⟩
theorem pd_32 : parseMethodDescriptor "(Ljava/lang/AbstractStringBuilder;Ljava/lang/Void;)V" = some ⟨[(.object "java/lang/AbstractStringBuilder"), (.object "java/lang/Void")], none⟩ := by decide +kernel
theorem d42_53_3 : decode jdk_42_method_53_code 3 = .ok (.invokespecial 489, 3) := by decide +kernel
theorem d42_53_6 : decode jdk_42_method_53_code 6 = .ok (.return_, 1) := by decide +kernel
def QGt1 (Z : State) (xs xb xt : Addr) (kt : ClassId) (X : List Int32) (h0 : Heap) (n0 : Nat) (v : Option Value) (h : Heap) (L : List Loc) : Prop := v = none ∧ Fr n0 L ∧ Keep h0 h [xs] ∧ Exa Z h xs "java/lang/String" ∧ Fld Z h xs "java/lang/String" "coder" "B" (.int 0) ∧ ∃ (t : Addr) (k : ClassId), h0.size ≤ t ∧ Exa Z h t "[B" ∧ Fld Z h xs "java/lang/String" "value" "[B" (.ref t) ∧ Arv Z h t k .byte (Int32.ofNat X.length) (X.map Value.int) (.int 0)
theorem rmGt1 (l : Launch) (Z : State) (a0 : Array Value) (hw : ∀ d ∈ tables_1, d.before a0 Z = true) (ws : List Jvm.Cond) (xs xb xt : Addr) (kt : ClassId) (X : List Int32) (h0 : Heap) (n0 : Nat) (X00 : Old Z n0 h0) (G1 : Int32) (S1 : Sta Z Z.heap "java/lang/String" "COMPACT_STRINGS" "Z" (.int G1)) (P1 : ¬ G1 = 0) (Exb : Exa Z h0 xb "java/lang/StringBuilder") (Vxb : Fld Z h0 xb "java/lang/AbstractStringBuilder" "value" "[B" (.ref xt)) (Cxb : Fld Z h0 xb "java/lang/AbstractStringBuilder" "coder" "B" (.int 0)) (Nxb : Fld Z h0 xb "java/lang/AbstractStringBuilder" "count" "I" (.int (Int32.ofNat X.length))) (Axt : Arv Z h0 xt kt .byte 16 (pad 16 X) (.int 0)) (hl : X.length < 16) (ge_xs : n0 ≤ xs) (nsb : xs ≠ xb) (nst : xs ≠ xt) (Exs : Exa Z h0 xs "java/lang/String") (Vxs : Fld Z h0 xs "java/lang/String" "value" "[B" .null) (Cxs : Fld Z h0 xs "java/lang/String" "coder" "B" (.int 0)) :
  MetFree l yN19 (head1 (Jvm.Cond.code yN19 jdk_42_method_53_code 2 none :: ws) ({ frames := 4, cells := 1, slots := 16, locals := 65 } : Room)) (fun aa U => aa = #[(.ref xs), (.ref xb)] ∧ Z.Warmed39 U.vm ∧ U.heap = h0) (fun _ _ _ _ _ => True) (fun _ U o U' => ∃ v L, o = .returned v ∧ QGt1 Z xs xb xt kt X h0 n0 v U'.heap L ∧ FrameEnd U o U' L ({ frames := 4, cells := 1, slots := 16, locals := 65 } : Room).cells ({ frames := 4, cells := 1, slots := 16, locals := 65 } : Room).slots) := by
 refine MetFree.of_bodySF (plainFor_of_name pn_3) hisR ?_
 intro p e s m args below meth c s₁ Bd hml0 hP hK
 obtain ⟨rfl, hZ, hh⟩ := hP
 have hx := Bd.exec
 have hby := Bd.bytes
 have hml : c.maxLocals = 2 := hml0
 have hown : s.vm.findClass "java/lang/String" = some m.cls := findClass_of_methodNamed Bd.named
 have hnm := (name_of_methodNamed Bd.named Bd.method).1
 have X0 : Stand p l e ({ frames := 4, cells := 1, slots := 16, locals := 65 } : Room) s m #[(.ref xs), (.ref xb)] below meth c s₁ [] 0 0 := Stand.of_body Bd
 have e0 : s₁.heap = h0 := by rw [← hh, Bd.state]; rfl
 have N0 := Fr.nil n0
 have K0 := Keep.refl h0 [xs]
 have ef : entryFrame m #[(.ref xs), (.ref xb)] 2 = mkF m 0 #[vr xs, vr xb] [] := by first | (simp [entryFrame, mkF, argsToLocals, Value.category]; done) | rfl
 rw [ef]
 refine fin_of fun Kx hF => ?_
 show Go p.tables e below Kx _ (mkF m 0 _ [])
 refine s_aloadN (pc' := 1) X0.here hx (hb hby d42_53_0) rfl rfl rfl ?_
 refine s_aloadN (pc' := 2) X0.here hx (hb hby d42_53_1) rfl rfl rfl ?_
 refine s_aconst_null (pc' := 3) X0.here hx (hb hby d42_53_2) rfl ?_
 obtain ⟨_, T345, L345, X345, hQ345, st345⟩ := kI X0 hx hZ (y := yN18) rfl hown (hv hw 235 rfl) (hv hw 236 rfl) (hv hw 8 rfl) (hv hw 237 rfl) (by decide) (rmGt0 l Z a0 hw [] xs xb xt _ X h0 n0 X00 G1 S1 P1 Exb Vxb Cxb Nxb Axt hl ge_xs nsb nst Exs Vxs Cxs) e0 (a := xs) (W := 0) (g := (mkF m 3 #[vr xs, vr xb] [.null, (.ref xb), (.ref xs)])) rfl (by rw [hml]; rfl) (argsL := [(.ref xb), .null]) (rest := []) (lenOf pd_32 rfl) rfl (by exact Nat.le_of_eq rfl) (hb hby d42_53_3) rfl (nb rfl) (nb rfl) (nb rfl) (nb rfl)
 obtain ⟨rfl, Nq345, Kq345, q1_345, q2_345, t345, kt345, le345, q0_345, q3_345, q4_345⟩ := hQ345
 have sz345 : h0.size ≤ t345 := Nat.le_trans K0.1 le345
 have ge345 : n0 ≤ t345 := Nat.le_trans (X00.1 ▸ X00.2.1) le345
 have N345 := Fr.app N0 Nq345
 have K345 : Keep h0 T345.heap [xs] := K0.trans Kq345 (allS (P := fun zz => zz ∈ [xs] ∨ h0.size ≤ zz) (Or.inl (List.mem_of_getElem? (i := 0) rfl)) all0)
 have O345 : Old Z n0 T345.heap := X00.keep Kq345 (allS ge_xs all0)
 refine Go.tr st345 ?_
 show Go p.tables e below Kx _ (mkF m 6 _ [])
 obtain ⟨fs, hr, hrun, hended, hW, hsame⟩ := X345.leave (v := none) (fun _ => rfl)
 refine Go.fin (X345.returnOut hx Bd.returns (hb hby d42_53_6) hr) (hF _ _ hrun hended ⟨_, _, rfl, ?_, ⟨_, rfl⟩, hW, hsame.mono (by decide) (by decide)⟩)
 ·
  show QGt1 Z xs xb xt kt X h0 n0 (none : Option Value) T345.heap _
  skip
  exact ⟨rfl, N345, K345, q1_345, q2_345, t345, _, sz345, q0_345, q3_345, q4_345⟩
theorem pd_33 : parseMethodDescriptor "(Ljava/lang/StringBuilder;)V" = some ⟨[(.object "java/lang/StringBuilder")], none⟩ := by decide +kernel
theorem d67_42_5 : decode jdk_67_method_42_code 5 = .ok (.invokespecial 137, 3) := by decide +kernel
theorem d67_42_8 : decode jdk_67_method_42_code 8 = .ok (.areturn, 1) := by decide +kernel
def QGts (Z : State) (xb xt : Addr) (kt : ClassId) (X : List Int32) (h0 : Heap) (n0 : Nat) (v : Option Value) (h : Heap) (L : List Loc) : Prop := ∃ (y t : Addr) (k : ClassId), v = some (.ref y) ∧ Fr n0 L ∧ Keep h0 h [] ∧ h0.size ≤ y ∧ h0.size ≤ t ∧ Exa Z h t "[B" ∧ Exa Z h y "java/lang/String" ∧ Fld Z h y "java/lang/String" "coder" "B" (.int 0) ∧ Fld Z h y "java/lang/String" "value" "[B" (.ref t) ∧ Arv Z h t k .byte (Int32.ofNat X.length) (X.map Value.int) (.int 0)
theorem rmGts (l : Launch) (Z : State) (a0 : Array Value) (hw : ∀ d ∈ tables_1, d.before a0 Z = true) (ws : List Jvm.Cond) (xb xt : Addr) (kt : ClassId) (X : List Int32) (h0 : Heap) (n0 : Nat) (X00 : Old Z n0 h0) (G1 : Int32) (S1 : Sta Z Z.heap "java/lang/String" "COMPACT_STRINGS" "Z" (.int G1)) (P1 : ¬ G1 = 0) (Exb : Exa Z h0 xb "java/lang/StringBuilder") (Vxb : Fld Z h0 xb "java/lang/AbstractStringBuilder" "value" "[B" (.ref xt)) (Cxb : Fld Z h0 xb "java/lang/AbstractStringBuilder" "coder" "B" (.int 0)) (Nxb : Fld Z h0 xb "java/lang/AbstractStringBuilder" "count" "I" (.int (Int32.ofNat X.length))) (Axt : Arv Z h0 xt kt .byte 16 (pad 16 X) (.int 0)) (hl : X.length < 16) :
  MetFree l yN39 (head1 (Jvm.Cond.code yN39 jdk_67_method_42_code 1 (some (.object "java/lang/String")) :: ws) ({ frames := 5, cells := 2, slots := 20, locals := 79 } : Room)) (fun aa U => aa = #[(.ref xb)] ∧ Z.Warmed39 U.vm ∧ U.heap = h0) (fun _ _ _ _ _ => True) (fun _ U o U' => ∃ v L, o = .returned v ∧ QGts Z xb xt kt X h0 n0 v U'.heap L ∧ FrameEnd U o U' L ({ frames := 5, cells := 2, slots := 20, locals := 79 } : Room).cells ({ frames := 5, cells := 2, slots := 20, locals := 79 } : Room).slots) := by
 refine MetFree.of_bodySF (plainFor_of_name pn_7) hisR ?_
 intro p e s m args below meth c s₁ Bd hml0 hP hK
 obtain ⟨rfl, hZ, hh⟩ := hP
 have hx := Bd.exec
 have hby := Bd.bytes
 have hml : c.maxLocals = 1 := hml0
 have hown : s.vm.findClass "java/lang/StringBuilder" = some m.cls := findClass_of_methodNamed Bd.named
 have hnm := (name_of_methodNamed Bd.named Bd.method).1
 have X0 : Stand p l e ({ frames := 5, cells := 2, slots := 20, locals := 79 } : Room) s m #[(.ref xb)] below meth c s₁ [] 0 0 := Stand.of_body Bd
 have e0 : s₁.heap = h0 := by rw [← hh, Bd.state]; rfl
 have N0 := Fr.nil n0
 have K0 := Keep.refl h0 []
 have ef : entryFrame m #[(.ref xb)] 1 = mkF m 0 #[vr xb] [] := by first | (simp [entryFrame, mkF, argsToLocals, Value.category]; done) | rfl
 rw [ef]
 refine fin_of fun Kx hF => ?_
 show Go p.tables e below Kx _ (mkF m 0 _ [])
 obtain ⟨T316, h316, X316, e316, E316, A316, D316, -, st316⟩ := newO X0 hx hZ hown (hv hw 231 rfl) (hv hw 7 rfl) (hv hw 8 rfl) e0 (g := (mkF m 0 #[vr xb] [])) rfl (hb hby d67_42_0) (by decide) (by decide)
 obtain ⟨b316, g316⟩ : ∃ z, z = h0.size := ⟨_, rfl⟩
 rw [← g316] at A316 D316 st316
 have sz316 : h0.size ≤ b316 := Nat.le_trans K0.1 (Nat.le_of_eq g316.symm)
 have ge316 : n0 ≤ b316 := Nat.le_trans (X00.1 ▸ X00.2.1) (Nat.le_of_eq g316.symm)
 have K316 : Keep h0 h316 [] := K0.ext E316
 have O316 : Old Z n0 h316 := X00.ext E316
 have F316_coder : Fld Z h316 b316 "java/lang/String" "coder" "B" (.int 0) := D316 (Or.inr (hv hw 33 rfl)) (ty := .byte) (by decide)
 have F316_value : Fld Z h316 b316 "java/lang/String" "value" "[B" .null := D316 (Or.inr (hv hw 35 rfl)) (ty := (.array .byte)) (by decide)
 refine Go.st st316 ?_
 show Go p.tables e below Kx _ (mkF m 3 _ [(.ref b316)])
 refine s_dup (pc' := 4) X316.here hx (hb hby d67_42_3) rfl rfl ?_
 refine s_aloadN (pc' := 5) X316.here hx (hb hby d67_42_4) rfl rfl rfl ?_
 have f346 : Exa Z h316 xb "java/lang/StringBuilder" := (Exb.ext E316)
 have f347 : Fld Z h316 xb "java/lang/AbstractStringBuilder" "value" "[B" (.ref xt) := (Vxb.ext E316)
 have f348 : Fld Z h316 xb "java/lang/AbstractStringBuilder" "coder" "B" (.int 0) := (Cxb.ext E316)
 have f349 : Fld Z h316 xb "java/lang/AbstractStringBuilder" "count" "I" (.int (Int32.ofNat X.length)) := (Nxb.ext E316)
 have f350 : Arv Z h316 xt kt .byte 16 (pad 16 X) (.int 0) := (Axt.ext E316)
 obtain ⟨_, T351, L351, X351, hQ351, st351⟩ := kI X316 hx hZ (y := yN19) rfl hown (hv hw 232 rfl) (hv hw 233 rfl) (hv hw 8 rfl) (hv hw 234 rfl) (by decide) (rmGt1 l Z a0 hw [] b316 xb xt _ X h316 n0 O316 G1 S1 P1 f346 f347 f348 f349 f350 hl ge316 (Ne.symm (Nat.ne_of_lt (Nat.lt_of_lt_of_le Exb.lt (Nat.le_of_eq g316.symm)))) (Ne.symm (Nat.ne_of_lt (Nat.lt_of_lt_of_le Axt.lt (Nat.le_of_eq g316.symm)))) A316 F316_value F316_coder) e316 (a := b316) (W := 1) (g := (mkF m 5 #[vr xb] [(.ref xb), (.ref b316), (.ref b316)])) rfl (by rw [hml]; rfl) (argsL := [(.ref xb)]) (rest := [(.ref b316)]) (lenOf pd_33 rfl) rfl (by exact Nat.le_of_eq rfl) (hb hby d67_42_5) rfl (nb rfl) (nb rfl) (nb rfl) (nb rfl)
 obtain ⟨rfl, Nq351, Kq351, q1_351, q2_351, t351, kt351, le351, q0_351, q3_351, q4_351⟩ := hQ351
 have sz351 : h0.size ≤ t351 := Nat.le_trans K316.1 le351
 have ge351 : n0 ≤ t351 := Nat.le_trans (O316.1 ▸ O316.2.1) le351
 have N351 := Fr.app N0 Nq351
 have K351 : Keep h0 T351.heap [] := K316.trans Kq351 (allS (P := fun zz => zz ∈ [] ∨ h0.size ≤ zz) (Or.inr sz316) all0)
 have O351 : Old Z n0 T351.heap := O316.keep Kq351 (allS ge316 all0)
 refine Go.tr st351 ?_
 show Go p.tables e below Kx _ (mkF m 8 _ [(.ref b316)])
 obtain ⟨fs, hr, hrun, hended, hW, hsame⟩ := X351.leave (v := (some (.ref b316))) (fun h => by rw [Bd.returns] at h; cases h)
 refine Go.fin (retOut X351 hx Bd.returns rfl (Or.inr (Or.inr (Or.inr (Or.inr ⟨rfl, rfl, rfl⟩)))) (hb hby d67_42_8) hr) (hF _ _ hrun hended ⟨_, _, rfl, ?_, ⟨_, rfl⟩, hW, hsame.mono (by decide) (by decide)⟩)
 ·
  show QGts Z xb xt kt X h0 n0 ((some (.ref b316)) : Option Value) T351.heap _
  skip
  exact ⟨_, _, _, rfl, N351, K351, sz316, sz351, q0_351, q1_351, q2_351, q3_351, q4_351⟩
theorem p15_5_26 : decode prog_15_method_5_code 26 = .ok (.invokevirtual 54, 3) := by decide +kernel
theorem p15_5_29 : decode prog_15_method_5_code 29 = .ok (.getstatic 80, 3) := by decide +kernel
theorem d42_64_0 : decode jdk_42_method_64_code 0 = .ok (.aload_n 1, 1) := by decide +kernel
theorem d42_64_1 : decode jdk_42_method_64_code 1 = .ok (.ifnonnull 11, 3) := by decide +kernel
theorem d42_64_12 : decode jdk_42_method_64_code 12 = .ok (.aload_n 1, 1) := by decide +kernel
theorem d42_64_13 : decode jdk_42_method_64_code 13 = .ok (.aload_n 0, 1) := by decide +kernel
theorem d42_64_14 : decode jdk_42_method_64_code 14 = .ok (.invokevirtual 335, 3) := by decide +kernel
theorem d42_64_17 : decode jdk_42_method_64_code 17 = .ok (.aload_n 0, 1) := by decide +kernel
theorem d42_64_18 : decode jdk_42_method_64_code 18 = .ok (.getfield 9, 3) := by decide +kernel
theorem d42_18_0 : decode jdk_42_method_18_code 0 = .ok (.aload_n 0, 1) := by decide +kernel
theorem d42_18_1 : decode jdk_42_method_18_code 1 = .ok (.getstatic 86, 3) := by decide +kernel
theorem d42_18_4 : decode jdk_42_method_18_code 4 = .ok (.if_acmp .ne 10, 3) := by decide +kernel
theorem d42_18_7 : decode jdk_42_method_18_code 7 = .ok (.iload_n 1, 1) := by decide +kernel
theorem d42_18_8 : decode jdk_42_method_18_code 8 = .ok (.aload_n 2, 1) := by decide +kernel
theorem d42_18_9 : decode jdk_42_method_18_code 9 = .ok (.iconst 1, 1) := by decide +kernel
theorem d42_46_0 : decode jdk_42_method_46_code 0 = .ok (.iload_n 0, 1) := by decide +kernel
theorem d42_46_1 : decode jdk_42_method_46_code 1 = .ok (.iconst 1, 1) := by decide +kernel
theorem d42_46_2 : decode jdk_42_method_46_code 2 = .ok (.if_icmp .ne 9, 3) := by decide +kernel
theorem d42_46_11 : decode jdk_42_method_46_code 11 = .ok (.aload_n 1, 1) := by decide +kernel
theorem d42_46_12 : decode jdk_42_method_46_code 12 = .ok (.iconst 0, 1) := by decide +kernel
theorem d42_46_13 : decode jdk_42_method_46_code 13 = .ok (.aload_n 1, 1) := by decide +kernel
theorem d42_46_14 : decode jdk_42_method_46_code 14 = .ok (.arraylength, 1) := by decide +kernel
theorem pn_9 : plainName "java/lang/StringCoding" = true := by first | (simp [plainName, overriddenIn]; done) | decide +kernel
theorem d123_2_0 : decode jdk_123_method_2_code 0 = .ok (.aload_n 0, 1) := by decide +kernel
theorem d123_2_1 : decode jdk_123_method_2_code 1 = .ok (.iload_n 1, 1) := by decide +kernel
theorem d123_2_2 : decode jdk_123_method_2_code 2 = .ok (.iload_n 2, 1) := by decide +kernel
theorem d123_3_0 : decode jdk_123_method_3_code 0 = .ok (.iload_n 1, 1) := by decide +kernel
theorem d123_3_1 : decode jdk_123_method_3_code 1 = .ok (.iload_n 2, 1) := by decide +kernel
theorem d123_3_2 : decode jdk_123_method_3_code 2 = .ok (.iadd, 1) := by decide +kernel
theorem d123_3_3 : decode jdk_123_method_3_code 3 = .ok (.istore_n 3, 1) := by decide +kernel
theorem d123_3_4 : decode jdk_123_method_3_code 4 = .ok (.iload_n 1, 1) := by decide +kernel
theorem d123_3_5 : decode jdk_123_method_3_code 5 = .ok (.istore 4, 2) := by decide +kernel
theorem d123_3_7 : decode jdk_123_method_3_code 7 = .ok (.iload 4, 2) := by decide +kernel
theorem d123_3_9 : decode jdk_123_method_3_code 9 = .ok (.iload_n 3, 1) := by decide +kernel
theorem d123_3_10 : decode jdk_123_method_3_code 10 = .ok (.if_icmp .ge 21, 3) := by decide +kernel
theorem d123_3_31 : decode jdk_123_method_3_code 31 = .ok (.iload_n 2, 1) := by decide +kernel
theorem d123_3_32 : decode jdk_123_method_3_code 32 = .ok (.ireturn, 1) := by decide +kernel
theorem d123_3_13 : decode jdk_123_method_3_code 13 = .ok (.aload_n 0, 1) := by decide +kernel
theorem d123_3_14 : decode jdk_123_method_3_code 14 = .ok (.iload 4, 2) := by decide +kernel
theorem d123_3_16 : decode jdk_123_method_3_code 16 = .ok (.baload, 1) := by decide +kernel
theorem d123_3_17 : decode jdk_123_method_3_code 17 = .ok (.ifCond .ge 8, 3) := by decide +kernel
theorem d123_3_20 : decode jdk_123_method_3_code 20 = .ok (.iload 4, 2) := by decide +kernel
theorem d123_3_22 : decode jdk_123_method_3_code 22 = .ok (.iload_n 1, 1) := by decide +kernel
theorem d123_3_23 : decode jdk_123_method_3_code 23 = .ok (.isub, 1) := by decide +kernel
theorem d123_3_24 : decode jdk_123_method_3_code 24 = .ok (.ireturn, 1) := by decide +kernel
theorem d123_3_25 : decode jdk_123_method_3_code 25 = .ok (.iinc 4 1, 3) := by decide +kernel
theorem d123_3_28 : decode jdk_123_method_3_code 28 = .ok (.goto (-21), 3) := by decide +kernel
def QGcp (Z : State) (xt : Addr) (kt : ClassId) (us : List Int32) (h0 : Heap) (n0 : Nat) (v : Option Value) (h : Heap) (L : List Loc) : Prop := (∃ r : Int32, v = some (.int r) ∧ ((r = (Int32.ofNat us.length) ∧ (∀ b ∈ us, ¬ b < 0)) ∨ (¬ r = (Int32.ofNat us.length) ∧ ¬ (∀ b ∈ us, ¬ b < 0)))) ∧ Fr n0 L ∧ h = h0
theorem rmGcp (l : Launch) (Z : State) (a0 : Array Value) (hw : ∀ d ∈ tables_1, d.before a0 Z = true) (ws : List Jvm.Cond) (xt : Addr) (kt : ClassId) (us : List Int32) (h0 : Heap) (n0 : Nat) (X00 : Old Z n0 h0) (Axt : Arv Z h0 xt kt .byte (Int32.ofNat us.length) (us.map Value.int) (.int 0)) (hus : us.length ≤ 4000) :
  MetFree l yN40 (head1 (Jvm.Cond.code yN40 jdk_123_method_3_code 5 (some .int) :: ws) ({ frames := 0, cells := 0, slots := 0, locals := 0 } : Room)) (fun aa U => aa = #[(.ref xt), (.int 0), (.int (Int32.ofNat us.length))] ∧ Z.Warmed39 U.vm ∧ U.heap = h0) (fun _ _ _ _ _ => True) (fun _ U o U' => ∃ v L, o = .returned v ∧ QGcp Z xt kt us h0 n0 v U'.heap L ∧ FrameEnd U o U' L ({ frames := 0, cells := 0, slots := 0, locals := 0 } : Room).cells ({ frames := 0, cells := 0, slots := 0, locals := 0 } : Room).slots) := by
 refine MetFree.of_bodySF (plainFor_of_name pn_9) hisR ?_
 intro p e s m args below meth c s₁ Bd hml0 hP hK
 obtain ⟨rfl, hZ, hh⟩ := hP
 have hx := Bd.exec
 have hby := Bd.bytes
 have hml : c.maxLocals = 5 := hml0
 have hown : s.vm.findClass "java/lang/StringCoding" = some m.cls := findClass_of_methodNamed Bd.named
 have hnm := (name_of_methodNamed Bd.named Bd.method).1
 have X0 : Stand p l e ({ frames := 0, cells := 0, slots := 0, locals := 0 } : Room) s m #[(.ref xt), (.int 0), (.int (Int32.ofNat us.length))] below meth c s₁ [] 0 0 := Stand.of_body Bd
 have e0 : s₁.heap = h0 := by rw [← hh, Bd.state]; rfl
 have N0 := Fr.nil n0
 have K0 := Keep.refl h0 []
 have ef : entryFrame m #[(.ref xt), (.int 0), (.int (Int32.ofNat us.length))] 5 = mkF m 0 #[vr xt, vi 0, .val (.int (Int32.ofNat us.length)), un, un] [] := by first | (simp [entryFrame, mkF, argsToLocals, Value.category]; done) | rfl
 rw [ef]
 refine fin_of fun Kx hF => ?_
 show Go p.tables e below Kx _ (mkF m 0 _ [])
 refine s_iloadN (pc' := 1) X0.here hx (hb hby d123_3_0) rfl rfl ?_
 refine s_iloadN (pc' := 2) X0.here hx (hb hby d123_3_1) rfl rfl ?_
 refine s_iadd (pc' := 3) (z := (Int32.ofNat us.length)) X0.here hx (hb hby d123_3_2) rfl (Int32.zero_add _) ?_
 refine s_istoreN (pc' := 4) (Ls' := #[vr xt, vi 0, .val (.int (Int32.ofNat us.length)), .val (.int (Int32.ofNat us.length)), un]) X0.here hx (hb hby d123_3_3) rfl  rfl ?_
 refine s_iloadN (pc' := 5) X0.here hx (hb hby d123_3_4) rfl rfl ?_
 refine s_istore (pc' := 7) (Ls' := #[vr xt, vi 0, .val (.int (Int32.ofNat us.length)), .val (.int (Int32.ofNat us.length)), vi 0]) X0.here hx (hb hby d123_3_5) rfl  rfl ?_
 have J : ∀ (rr dd : List Int32) (TJ : State) (LJ : List Loc), Stand p l e ({ frames := 0, cells := 0, slots := 0, locals := 0 } : Room) s m #[(.ref xt), (.int 0), (.int (Int32.ofNat us.length))] below meth c TJ LJ 0 0 → Fr n0 LJ → TJ.heap = h0 → us = dd ++ rr → (∀ b ∈ dd, ¬ b < 0) → Go p.tables e below Kx TJ (mkF m 7 #[vr xt, vi 0, .val (.int (Int32.ofNat us.length)), .val (.int (Int32.ofNat us.length)), .val (.int (Int32.ofNat dd.length))] []) := by
  intro rr
  induction rr with
  | nil =>
   intro dd TJ LJ XJ NJ eJ hs ha
   show Go p.tables e below Kx _ (mkF m 7 _ [])
   refine s_iload (pc' := 9) XJ.here hx (hb hby d123_3_7) rfl rfl ?_
   refine s_iloadN (pc' := 10) XJ.here hx (hb hby d123_3_9) rfl rfl ?_
   refine s_icmpY (pc' := 31) XJ.here hx (hb hby d123_3_10) (flt (lt_end hs)).2.1 (by decide) (by decide) ?_
   refine s_iloadN (pc' := 32) XJ.here hx (hb hby d123_3_31) rfl rfl ?_
   obtain ⟨fs, hr, hrun, hended, hW, hsame⟩ := XJ.leave (v := (some (.int (Int32.ofNat us.length)))) (fun h => by rw [Bd.returns] at h; cases h)
   refine Go.fin (retI XJ hx Bd.returns (hb hby d123_3_32) hr) (hF _ _ hrun hended ⟨_, _, rfl, ?_, ⟨_, rfl⟩, hW, hsame.mono (by decide) (by decide)⟩)
   ·
    show QGcp Z xt kt us h0 n0 ((some (.int (Int32.ofNat us.length))) : Option Value) TJ.heap _
    rw [eJ]
    exact ⟨⟨_, rfl, Or.inl ⟨rfl, by rw [hs, List.append_nil]; exact ha⟩⟩, NJ, rfl⟩
  | cons bb rr ih =>
   intro dd TJ LJ XJ NJ eJ hs ha
   show Go p.tables e below Kx _ (mkF m 7 _ [])
   refine s_iload (pc' := 9) XJ.here hx (hb hby d123_3_7) rfl rfl ?_
   refine s_iloadN (pc' := 10) XJ.here hx (hb hby d123_3_9) rfl rfl ?_
   refine s_icmpN (pc' := 13) XJ.here hx (hb hby d123_3_10) rfl (tlt (at_mid hs hus .null).2.2).2.1 ?_
   refine s_aloadN (pc' := 14) XJ.here hx (hb hby d123_3_13) rfl rfl rfl ?_
   refine s_iload (pc' := 16) XJ.here hx (hb hby d123_3_14) rfl rfl ?_
   obtain ⟨cl362, Ar362, Aq362, As362, An362, Ah362, Ag362⟩ := id Axt
   have in363 := inb_of (j := (Int32.ofNat dd.length)) As362 (at_mid hs hus .null).2
   have at363 : cl362.slots[((Int32.ofNat dd.length)).toNatClampNeg]? = some (.int bb) := Ah362.at in363 (at_mid hs hus _).1
   refine Go.st (XJ.baloadBytes hx (j := (Int32.ofNat dd.length)) (v := (.int bb)) (by rw [eJ]; exact Ar362.1) (State.isArrayOf_alike hZ.alike Ar362.2.1) Ar362.2.2 in363 at363 (g := (mkF m 16 #[vr xt, vi 0, .val (.int (Int32.ofNat us.length)), .val (.int (Int32.ofNat us.length)), .val (.int (Int32.ofNat dd.length))] [(.int (Int32.ofNat dd.length)), (.ref xt)])) rfl rfl (hb hby d123_3_16)) ?_
   show Go p.tables e below Kx _ (mkF m 17 _ [(.int bb)])
   by_cases hc364 : bb < (0 : Int32)
   ·
    refine s_ifN (pc' := 20) XJ.here hx (hb hby d123_3_17) rfl ((if0 _ _).trans (tlt hc364).2.1) ?_
    refine s_iload (pc' := 22) XJ.here hx (hb hby d123_3_20) rfl rfl ?_
    refine s_iloadN (pc' := 23) XJ.here hx (hb hby d123_3_22) rfl rfl ?_
    refine s_isub (pc' := 24) (z := (Int32.ofNat dd.length)) XJ.here hx (hb hby d123_3_23) rfl (Int32.sub_zero _) ?_
    obtain ⟨fs, hr, hrun, hended, hW, hsame⟩ := XJ.leave (v := (some (.int (Int32.ofNat dd.length)))) (fun h => by rw [Bd.returns] at h; cases h)
    refine Go.fin (retI XJ hx Bd.returns (hb hby d123_3_24) hr) (hF _ _ hrun hended ⟨_, _, rfl, ?_, ⟨_, rfl⟩, hW, hsame.mono (by decide) (by decide)⟩)
    ·
     show QGcp Z xt kt us h0 n0 ((some (.int (Int32.ofNat dd.length))) : Option Value) TJ.heap _
     rw [eJ]
     exact ⟨⟨_, rfl, Or.inr ⟨ne_mid hs hus, fun q => q bb (by rw [hs]; simp) hc364⟩⟩, NJ, rfl⟩
   ·
    refine s_ifY (pc' := 25) XJ.here hx (hb hby d123_3_17) ((if0 _ _).trans (flt hc364).2.1) (by decide) (by decide) ?_
    refine s_iinc (pc' := 28) (Ls' := #[vr xt, vi 0, .val (.int (Int32.ofNat us.length)), .val (.int (Int32.ofNat us.length)), .val (.int (Int32.ofNat (dd ++ [bb]).length))]) (z := (Int32.ofNat (dd ++ [bb]).length)) XJ.here hx (hb hby d123_3_25) rfl rfl (lsucc _ _) rfl ?_
    refine s_goto (pc' := 7) XJ.here hx (hb hby d123_3_28) (by decide) (by decide) ?_
    exact ih _ _ _ XJ NJ eJ (app_mid hs) (fun b hb => (List.mem_append.mp hb).elim (ha b) (fun q => by rw [List.mem_singleton.mp q]; exact hc364))
 exact J us [] _ _ X0 N0 e0 rfl (fun _ hb => nomatch hb)
theorem pd_34 : parseMethodDescriptor "([BII)I" = some ⟨[(.array .byte), .int, .int], some .int⟩ := by decide +kernel
theorem d123_2_3 : decode jdk_123_method_2_code 3 = .ok (.invokestatic 7, 3) := by decide +kernel
theorem d123_2_6 : decode jdk_123_method_2_code 6 = .ok (.iload_n 2, 1) := by decide +kernel
theorem d123_2_7 : decode jdk_123_method_2_code 7 = .ok (.if_icmp .eq 7, 3) := by decide +kernel
theorem d123_2_14 : decode jdk_123_method_2_code 14 = .ok (.iconst 0, 1) := by decide +kernel
theorem d123_2_15 : decode jdk_123_method_2_code 15 = .ok (.ireturn, 1) := by decide +kernel
theorem d123_2_10 : decode jdk_123_method_2_code 10 = .ok (.iconst 1, 1) := by decide +kernel
theorem d123_2_11 : decode jdk_123_method_2_code 11 = .ok (.goto 4, 3) := by decide +kernel
def QGhn (Z : State) (xt : Addr) (kt : ClassId) (us : List Int32) (h0 : Heap) (n0 : Nat) (v : Option Value) (h : Heap) (L : List Loc) : Prop := (∃ r : Int32, v = some (.int r) ∧ ((r = 0 ∧ (∀ b ∈ us, ¬ b < 0)) ∨ (r = 1 ∧ ¬ (∀ b ∈ us, ¬ b < 0)))) ∧ Fr n0 L ∧ h = h0
theorem rmGhn (l : Launch) (Z : State) (a0 : Array Value) (hw : ∀ d ∈ tables_1, d.before a0 Z = true) (ws : List Jvm.Cond) (xt : Addr) (kt : ClassId) (us : List Int32) (h0 : Heap) (n0 : Nat) (X00 : Old Z n0 h0) (Axt : Arv Z h0 xt kt .byte (Int32.ofNat us.length) (us.map Value.int) (.int 0)) (hus : us.length ≤ 4000) :
  MetFree l yN41 (head1 (Jvm.Cond.code yN41 jdk_123_method_2_code 3 (some .boolean) :: ws) ({ frames := 1, cells := 0, slots := 0, locals := 16 } : Room)) (fun aa U => aa = #[(.ref xt), (.int 0), (.int (Int32.ofNat us.length))] ∧ Z.Warmed39 U.vm ∧ U.heap = h0) (fun _ _ _ _ _ => True) (fun _ U o U' => ∃ v L, o = .returned v ∧ QGhn Z xt kt us h0 n0 v U'.heap L ∧ FrameEnd U o U' L ({ frames := 1, cells := 0, slots := 0, locals := 16 } : Room).cells ({ frames := 1, cells := 0, slots := 0, locals := 16 } : Room).slots) := by
 refine MetFree.of_bodySF (plainFor_of_name pn_9) hisR ?_
 intro p e s m args below meth c s₁ Bd hml0 hP hK
 obtain ⟨rfl, hZ, hh⟩ := hP
 have hx := Bd.exec
 have hby := Bd.bytes
 have hml : c.maxLocals = 3 := hml0
 have hown : s.vm.findClass "java/lang/StringCoding" = some m.cls := findClass_of_methodNamed Bd.named
 have hnm := (name_of_methodNamed Bd.named Bd.method).1
 have X0 : Stand p l e ({ frames := 1, cells := 0, slots := 0, locals := 16 } : Room) s m #[(.ref xt), (.int 0), (.int (Int32.ofNat us.length))] below meth c s₁ [] 0 0 := Stand.of_body Bd
 have e0 : s₁.heap = h0 := by rw [← hh, Bd.state]; rfl
 have N0 := Fr.nil n0
 have K0 := Keep.refl h0 []
 have ef : entryFrame m #[(.ref xt), (.int 0), (.int (Int32.ofNat us.length))] 3 = mkF m 0 #[vr xt, vi 0, .val (.int (Int32.ofNat us.length))] [] := by first | (simp [entryFrame, mkF, argsToLocals, Value.category]; done) | rfl
 rw [ef]
 refine fin_of fun Kx hF => ?_
 show Go p.tables e below Kx _ (mkF m 0 _ [])
 refine s_aloadN (pc' := 1) X0.here hx (hb hby d123_2_0) rfl rfl rfl ?_
 refine s_iloadN (pc' := 2) X0.here hx (hb hby d123_2_1) rfl rfl ?_
 refine s_iloadN (pc' := 3) X0.here hx (hb hby d123_2_2) rfl rfl ?_
 obtain ⟨_, T365, L365, X365, hQ365, st365⟩ := kS X0 hx hZ (y := yN40) hown (hv hw 276 rfl) (hv hw 277 rfl) (hv hw 274 rfl) (hv hw 278 rfl) (by decide) (rmGcp l Z a0 hw [] xt kt us h0 n0 X00 Axt hus) e0 (W := 0) (g := (mkF m 3 #[vr xt, vi 0, .val (.int (Int32.ofNat us.length))] [(.int (Int32.ofNat us.length)), (.int 0), (.ref xt)])) rfl (by rw [hml]; rfl) (argsL := [(.ref xt), (.int 0), (.int (Int32.ofNat us.length))]) (rest := []) (lenOf pd_34 rfl) rfl (by exact Nat.le_of_eq rfl) (hb hby d123_2_3) rfl (nb rfl) (nb rfl) (nb rfl) (nb rfl)
 obtain ⟨⟨r365, rfl, hr365⟩, Nq365, hE365⟩ := hQ365
 rcases hr365 with ⟨hn365, hr365⟩ | ⟨hn365, hr365⟩
 ·
  have N365 := Fr.app N0 Nq365
  refine Go.st st365 ?_
  show Go p.tables e below Kx _ (mkF m 6 _ [(.int r365)])
  refine s_iloadN (pc' := 7) X365.here hx (hb hby d123_2_6) rfl rfl ?_
  refine s_icmpY (pc' := 14) X365.here hx (hb hby d123_2_7) (teq hn365).1 (by decide) (by decide) ?_
  refine s_iconst (pc' := 15) (v := 0) X365.here hx (hb hby d123_2_14) rfl rfl ?_
  obtain ⟨fs, hr, hrun, hended, hW, hsame⟩ := X365.leave (v := (some (.int 0))) (fun h => by rw [Bd.returns] at h; cases h)
  refine Go.fin (retN X365 hx (t := .boolean) Bd.returns (by simp) (hb hby d123_2_15) hr) (hF _ _ hrun hended ⟨_, _, rfl, ?_, ⟨_, rfl⟩, hW, hsame.mono (by decide) (by decide)⟩)
  ·
   show QGhn Z xt kt us h0 n0 ((some (.int 0)) : Option Value) T365.heap _
   rw [hE365]
   exact ⟨⟨_, rfl, Or.inl ⟨rfl, hr365⟩⟩, N365, rfl⟩
 ·
  have N365 := Fr.app N0 Nq365
  refine Go.st st365 ?_
  show Go p.tables e below Kx _ (mkF m 6 _ [(.int r365)])
  refine s_iloadN (pc' := 7) X365.here hx (hb hby d123_2_6) rfl rfl ?_
  refine s_icmpN (pc' := 10) X365.here hx (hb hby d123_2_7) rfl (feq hn365).1 ?_
  refine s_iconst (pc' := 11) (v := 1) X365.here hx (hb hby d123_2_10) rfl rfl ?_
  refine s_goto (pc' := 15) X365.here hx (hb hby d123_2_11) (by decide) (by decide) ?_
  obtain ⟨fs, hr, hrun, hended, hW, hsame⟩ := X365.leave (v := (some (.int 1))) (fun h => by rw [Bd.returns] at h; cases h)
  refine Go.fin (retN X365 hx (t := .boolean) Bd.returns (by simp) (hb hby d123_2_15) hr) (hF _ _ hrun hended ⟨_, _, rfl, ?_, ⟨_, rfl⟩, hW, hsame.mono (by decide) (by decide)⟩)
  ·
   show QGhn Z xt kt us h0 n0 ((some (.int 1)) : Option Value) T365.heap _
   rw [hE365]
   exact ⟨⟨_, rfl, Or.inr ⟨rfl, hr365⟩⟩, N365, rfl⟩
theorem pd_35 : parseMethodDescriptor "([BII)Z" = some ⟨[(.array .byte), .int, .int], some .boolean⟩ := by decide +kernel
theorem d42_46_15 : decode jdk_42_method_46_code 15 = .ok (.invokestatic 128, 3) := by decide +kernel
theorem d42_46_18 : decode jdk_42_method_46_code 18 = .ok (.ifCond .ne 11, 3) := by decide +kernel
theorem d42_46_21 : decode jdk_42_method_46_code 21 = .ok (.aload_n 1, 1) := by decide +kernel
theorem d42_46_22 : decode jdk_42_method_46_code 22 = .ok (.invokevirtual 279, 3) := by decide +kernel
theorem d42_46_25 : decode jdk_42_method_46_code 25 = .ok (.checkcast 280, 3) := by decide +kernel
theorem d42_46_28 : decode jdk_42_method_46_code 28 = .ok (.areturn, 1) := by decide +kernel
theorem d42_46_29 : decode jdk_42_method_46_code 29 = .ok (.iconst 0, 1) := by decide +kernel
theorem d42_46_30 : decode jdk_42_method_46_code 30 = .ok (.istore_n 3, 1) := by decide +kernel
theorem d42_46_31 : decode jdk_42_method_46_code 31 = .ok (.aload_n 1, 1) := by decide +kernel
theorem d42_46_32 : decode jdk_42_method_46_code 32 = .ok (.arraylength, 1) := by decide +kernel
theorem pn_10 : plainName "java/lang/StringUTF16" = true := by first | (simp [plainName, overriddenIn]; done) | decide +kernel
theorem d52_2_0 : decode jdk_52_method_2_code 0 = .ok (.iload_n 0, 1) := by decide +kernel
theorem d52_3_0 : decode jdk_52_method_3_code 0 = .ok (.iload_n 0, 1) := by decide +kernel
theorem d52_3_1 : decode jdk_52_method_3_code 1 = .ok (.ifCond .ge 11, 3) := by decide +kernel
theorem d52_3_12 : decode jdk_52_method_3_code 12 = .ok (.iload_n 0, 1) := by decide +kernel
theorem d52_3_13 : decode jdk_52_method_3_code 13 = .ok (.ldc 20, 2) := by decide +kernel
theorem d52_3_15 : decode jdk_52_method_3_code 15 = .ok (.if_icmp .lt 40, 3) := by decide +kernel
theorem d52_3_55 : decode jdk_52_method_3_code 55 = .ok (.iload_n 0, 1) := by decide +kernel
theorem d52_3_56 : decode jdk_52_method_3_code 56 = .ok (.iconst 1, 1) := by decide +kernel
theorem d52_3_57 : decode jdk_52_method_3_code 57 = .ok (.ishl, 1) := by decide +kernel
theorem d52_3_58 : decode jdk_52_method_3_code 58 = .ok (.ireturn, 1) := by decide +kernel
def QGnl (Z : State) (us : List Int32) (h0 : Heap) (n0 : Nat) (v : Option Value) (h : Heap) (L : List Loc) : Prop := v = some (.int (Int32.ofNat (us ++ us).length)) ∧ Fr n0 L ∧ h = h0
theorem rmGnl (l : Launch) (Z : State) (a0 : Array Value) (hw : ∀ d ∈ tables_1, d.before a0 Z = true) (ws : List Jvm.Cond) (us : List Int32) (h0 : Heap) (n0 : Nat) (X00 : Old Z n0 h0) (hl : us.length < 16) :
  MetFree l yN47 (head1 (Jvm.Cond.code yN47 jdk_52_method_3_code 1 (some .int) :: ws) ({ frames := 0, cells := 0, slots := 0, locals := 0 } : Room)) (fun aa U => aa = #[(.int (Int32.ofNat us.length))] ∧ Z.Warmed39 U.vm ∧ U.heap = h0) (fun _ _ _ _ _ => True) (fun _ U o U' => ∃ v L, o = .returned v ∧ QGnl Z us h0 n0 v U'.heap L ∧ FrameEnd U o U' L ({ frames := 0, cells := 0, slots := 0, locals := 0 } : Room).cells ({ frames := 0, cells := 0, slots := 0, locals := 0 } : Room).slots) := by
 refine MetFree.of_bodySF (plainFor_of_name pn_10) hisR ?_
 intro p e s m args below meth c s₁ Bd hml0 hP hK
 obtain ⟨rfl, hZ, hh⟩ := hP
 have hx := Bd.exec
 have hby := Bd.bytes
 have hml : c.maxLocals = 1 := hml0
 have hown : s.vm.findClass "java/lang/StringUTF16" = some m.cls := findClass_of_methodNamed Bd.named
 have hnm := (name_of_methodNamed Bd.named Bd.method).1
 have X0 : Stand p l e ({ frames := 0, cells := 0, slots := 0, locals := 0 } : Room) s m #[(.int (Int32.ofNat us.length))] below meth c s₁ [] 0 0 := Stand.of_body Bd
 have e0 : s₁.heap = h0 := by rw [← hh, Bd.state]; rfl
 have N0 := Fr.nil n0
 have K0 := Keep.refl h0 []
 have ef : entryFrame m #[(.int (Int32.ofNat us.length))] 1 = mkF m 0 #[.val (.int (Int32.ofNat us.length))] [] := by first | (simp [entryFrame, mkF, argsToLocals, Value.category]; done) | rfl
 rw [ef]
 refine fin_of fun Kx hF => ?_
 show Go p.tables e below Kx _ (mkF m 0 _ [])
 refine s_iloadN (pc' := 1) X0.here hx (hb hby d52_3_0) rfl rfl ?_
 refine s_ifY (pc' := 12) X0.here hx (hb hby d52_3_1) ((if0 _ _).trans (flt (nn0 (le4 hl))).2.1) (by decide) (by decide) ?_
 refine s_iloadN (pc' := 13) X0.here hx (hb hby d52_3_12) rfl rfl ?_
 refine Go.st (X0.ldcInt hx hown (mvT hZ (hv hw 297 rfl)) (g := (mkF m 13 #[.val (.int (Int32.ofNat us.length))] [(.int (Int32.ofNat us.length))])) rfl (hb hby d52_3_13)) ?_
 show Go p.tables e below Kx _ (mkF m 15 _ [(.int 1073741823), (.int (Int32.ofNat us.length))])
 refine s_icmpY (pc' := 55) X0.here hx (hb hby d52_3_15) (tlt (lt_big hl)).1 (by decide) (by decide) ?_
 refine s_iloadN (pc' := 56) X0.here hx (hb hby d52_3_55) rfl rfl ?_
 refine s_iconst (pc' := 57) (v := 1) X0.here hx (hb hby d52_3_56) rfl rfl ?_
 refine s_ishl (pc' := 58) (z := (Int32.ofNat (us ++ us).length)) X0.here hx (hb hby d52_3_57) rfl shl1 ?_
 obtain ⟨fs, hr, hrun, hended, hW, hsame⟩ := X0.leave (v := (some (.int (Int32.ofNat (us ++ us).length)))) (fun h => by rw [Bd.returns] at h; cases h)
 refine Go.fin (retI X0 hx Bd.returns (hb hby d52_3_58) hr) (hF _ _ hrun hended ⟨_, _, rfl, ?_, ⟨_, rfl⟩, hW, hsame.mono (by decide) (by decide)⟩)
 ·
  show QGnl Z us h0 n0 ((some (.int (Int32.ofNat (us ++ us).length))) : Option Value) s₁.heap _
  rw [e0]
  exact ⟨rfl, N0, rfl⟩
theorem d52_2_1 : decode jdk_52_method_2_code 1 = .ok (.invokestatic 11, 3) := by decide +kernel
theorem d52_2_4 : decode jdk_52_method_2_code 4 = .ok (.newarray .byte, 2) := by decide +kernel
theorem d52_2_6 : decode jdk_52_method_2_code 6 = .ok (.areturn, 1) := by decide +kernel
def QGnb (Z : State) (us : List Int32) (h0 : Heap) (n0 : Nat) (v : Option Value) (h : Heap) (L : List Loc) : Prop := ∃ (t : Addr) (k : ClassId), v = some (.ref t) ∧ Fr n0 L ∧ Keep h0 h [] ∧ h0.size ≤ t ∧ Exa Z h t "[B" ∧ Arv Z h t k .byte (Int32.ofNat (us ++ us).length) (pad (us ++ us).length []) (.int 0)
theorem rmGnb (l : Launch) (Z : State) (a0 : Array Value) (hw : ∀ d ∈ tables_1, d.before a0 Z = true) (ws : List Jvm.Cond) (us : List Int32) (h0 : Heap) (n0 : Nat) (X00 : Old Z n0 h0) (hl : us.length < 16) :
  MetFree l yN46 (head1 (Jvm.Cond.code yN46 jdk_52_method_2_code 1 (some (.array .byte)) :: ws) ({ frames := 1, cells := 1, slots := 30, locals := 12 } : Room)) (fun aa U => aa = #[(.int (Int32.ofNat us.length))] ∧ Z.Warmed39 U.vm ∧ U.heap = h0) (fun _ _ _ _ _ => True) (fun _ U o U' => ∃ v L, o = .returned v ∧ QGnb Z us h0 n0 v U'.heap L ∧ FrameEnd U o U' L ({ frames := 1, cells := 1, slots := 30, locals := 12 } : Room).cells ({ frames := 1, cells := 1, slots := 30, locals := 12 } : Room).slots) := by
 refine MetFree.of_bodySF (plainFor_of_name pn_10) hisR ?_
 intro p e s m args below meth c s₁ Bd hml0 hP hK
 obtain ⟨rfl, hZ, hh⟩ := hP
 have hx := Bd.exec
 have hby := Bd.bytes
 have hml : c.maxLocals = 1 := hml0
 have hown : s.vm.findClass "java/lang/StringUTF16" = some m.cls := findClass_of_methodNamed Bd.named
 have hnm := (name_of_methodNamed Bd.named Bd.method).1
 have X0 : Stand p l e ({ frames := 1, cells := 1, slots := 30, locals := 12 } : Room) s m #[(.int (Int32.ofNat us.length))] below meth c s₁ [] 0 0 := Stand.of_body Bd
 have e0 : s₁.heap = h0 := by rw [← hh, Bd.state]; rfl
 have N0 := Fr.nil n0
 have K0 := Keep.refl h0 []
 have ef : entryFrame m #[(.int (Int32.ofNat us.length))] 1 = mkF m 0 #[.val (.int (Int32.ofNat us.length))] [] := by first | (simp [entryFrame, mkF, argsToLocals, Value.category]; done) | rfl
 rw [ef]
 refine fin_of fun Kx hF => ?_
 show Go p.tables e below Kx _ (mkF m 0 _ [])
 refine s_iloadN (pc' := 1) X0.here hx (hb hby d52_2_0) rfl rfl ?_
 obtain ⟨_, T370, L370, X370, hQ370, st370⟩ := kS X0 hx hZ (y := yN47) hown (hv hw 294 rfl) (hv hw 295 rfl) (hv hw 23 rfl) (hv hw 296 rfl) (by decide) (rmGnl l Z a0 hw [] us h0 n0 X00 hl) e0 (W := 0) (g := (mkF m 1 #[.val (.int (Int32.ofNat us.length))] [(.int (Int32.ofNat us.length))])) rfl (by rw [hml]; rfl) (argsL := [(.int (Int32.ofNat us.length))]) (rest := []) (lenOf pd_10 rfl) rfl (by exact Nat.le_of_eq rfl) (hb hby d52_2_1) rfl (nb rfl) (nb rfl) (nb rfl) (nb rfl)
 obtain ⟨rfl, Nq370, hE370⟩ := hQ370
 have N370 := Fr.app N0 Nq370
 refine Go.st st370 ?_
 show Go p.tables e below Kx _ (mkF m 4 _ [(.int (Int32.ofNat (us ++ us).length))])
 obtain ⟨T371, h371, k371, X371, e371, E371, A371, B371, st371⟩ := newPE X370 hx hZ (hv hw 25 rfl) hE370 (g := (mkF m 4 #[.val (.int (Int32.ofNat us.length))] [(.int (Int32.ofNat (us ++ us).length))])) rfl (hb hby d52_2_4) rfl (nn0 (len2k hl)) (cap := 30) (by rw [nl (len2k hl)]; exact len2 hl) (by decide) (by decide) (by decide) (ad := "[B") (by decide)
 obtain ⟨b371, g371⟩ : ∃ z, z = h0.size := ⟨_, rfl⟩
 rw [← g371] at A371 B371 st371
 have sz371 : h0.size ≤ b371 := Nat.le_trans K0.1 (Nat.le_of_eq g371.symm)
 have ge371 : n0 ≤ b371 := Nat.le_trans (X00.1 ▸ X00.2.1) (Nat.le_of_eq g371.symm)
 have K371 : Keep h0 h371 [] := K0.ext E371
 have O371 : Old Z n0 h371 := X00.ext E371
 have V371 : Arv Z h371 b371 k371 .byte (Int32.ofNat (us ++ us).length) (pad (us ++ us).length []) (.int 0) := newPad (n := (us ++ us).length) A371 (len2k hl)
 refine Go.st st371 ?_
 show Go p.tables e below Kx _ (mkF m 6 _ [(.ref b371)])
 obtain ⟨fs, hr, hrun, hended, hW, hsame⟩ := X371.leave (v := (some (.ref b371))) (fun h => by rw [Bd.returns] at h; cases h)
 refine Go.fin (retOut X371 hx Bd.returns rfl (Or.inr (Or.inr (Or.inr (Or.inr ⟨rfl, rfl, rfl⟩)))) (hb hby d52_2_6) hr) (hF _ _ hrun hended ⟨_, _, rfl, ?_, ⟨_, rfl⟩, hW, hsame.mono (by decide) (by decide)⟩)
 ·
  show QGnb Z us h0 n0 ((some (.ref b371)) : Option Value) T371.heap _
  rw [e371]
  exact ⟨_, _, rfl, N370, K371, sz371, B371, V371⟩
theorem pd_36 : parseMethodDescriptor "(I)[B" = some ⟨[.int], some (.array .byte)⟩ := by decide +kernel
theorem d42_46_33 : decode jdk_42_method_46_code 33 = .ok (.invokestatic 60, 3) := by decide +kernel
theorem d42_46_36 : decode jdk_42_method_46_code 36 = .ok (.astore 4, 2) := by decide +kernel
theorem d42_46_38 : decode jdk_42_method_46_code 38 = .ok (.aload_n 1, 1) := by decide +kernel
theorem d42_46_39 : decode jdk_42_method_46_code 39 = .ok (.astore 5, 2) := by decide +kernel
theorem d42_46_41 : decode jdk_42_method_46_code 41 = .ok (.aload 5, 2) := by decide +kernel
theorem d42_46_43 : decode jdk_42_method_46_code 43 = .ok (.arraylength, 1) := by decide +kernel
theorem d42_46_44 : decode jdk_42_method_46_code 44 = .ok (.istore 6, 2) := by decide +kernel
theorem d42_46_46 : decode jdk_42_method_46_code 46 = .ok (.iconst 0, 1) := by decide +kernel
theorem d42_46_47 : decode jdk_42_method_46_code 47 = .ok (.istore 7, 2) := by decide +kernel
theorem d42_46_49 : decode jdk_42_method_46_code 49 = .ok (.iload 7, 2) := by decide +kernel
theorem d42_46_51 : decode jdk_42_method_46_code 51 = .ok (.iload 6, 2) := by decide +kernel
theorem d42_46_53 : decode jdk_42_method_46_code 53 = .ok (.if_icmp .ge 71, 3) := by decide +kernel
theorem d42_46_124 : decode jdk_42_method_46_code 124 = .ok (.iload_n 3, 1) := by decide +kernel
theorem d42_46_125 : decode jdk_42_method_46_code 125 = .ok (.aload 4, 2) := by decide +kernel
theorem d42_46_127 : decode jdk_42_method_46_code 127 = .ok (.arraylength, 1) := by decide +kernel
theorem d42_46_128 : decode jdk_42_method_46_code 128 = .ok (.if_icmp .ne 6, 3) := by decide +kernel
theorem d42_46_134 : decode jdk_42_method_46_code 134 = .ok (.aload 4, 2) := by decide +kernel
theorem d42_46_136 : decode jdk_42_method_46_code 136 = .ok (.iload_n 3, 1) := by decide +kernel
theorem d65_121_0 : decode jdk_65_method_121_code 0 = .ok (.iload_n 1, 1) := by decide +kernel
theorem d65_121_1 : decode jdk_65_method_121_code 1 = .ok (.aload_n 0, 1) := by decide +kernel
theorem d65_121_2 : decode jdk_65_method_121_code 2 = .ok (.arraylength, 1) := by decide +kernel
theorem d65_121_3 : decode jdk_65_method_121_code 3 = .ok (.if_icmp .ne 11, 3) := by decide +kernel
theorem d65_121_14 : decode jdk_65_method_121_code 14 = .ok (.iload_n 1, 1) := by decide +kernel
theorem d65_121_15 : decode jdk_65_method_121_code 15 = .ok (.newarray .byte, 2) := by decide +kernel
theorem d65_121_17 : decode jdk_65_method_121_code 17 = .ok (.astore_n 2, 1) := by decide +kernel
theorem d65_121_18 : decode jdk_65_method_121_code 18 = .ok (.aload_n 0, 1) := by decide +kernel
theorem d65_121_19 : decode jdk_65_method_121_code 19 = .ok (.iconst 0, 1) := by decide +kernel
theorem d65_121_20 : decode jdk_65_method_121_code 20 = .ok (.aload_n 2, 1) := by decide +kernel
theorem d65_121_21 : decode jdk_65_method_121_code 21 = .ok (.iconst 0, 1) := by decide +kernel
theorem d65_121_22 : decode jdk_65_method_121_code 22 = .ok (.aload_n 0, 1) := by decide +kernel
theorem d65_121_23 : decode jdk_65_method_121_code 23 = .ok (.arraylength, 1) := by decide +kernel
theorem d65_121_24 : decode jdk_65_method_121_code 24 = .ok (.iload_n 1, 1) := by decide +kernel
theorem d65_121_25 : decode jdk_65_method_121_code 25 = .ok (.invokestatic 304, 3) := by decide +kernel
theorem d65_121_28 : decode jdk_65_method_121_code 28 = .ok (.invokestatic 150, 3) := by decide +kernel
theorem d65_121_31 : decode jdk_65_method_121_code 31 = .ok (.aload_n 2, 1) := by decide +kernel
theorem d65_121_32 : decode jdk_65_method_121_code 32 = .ok (.areturn, 1) := by decide +kernel
def QGco (Z : State) (xt : Addr) (kt : ClassId) (NN X : List Int32) (h0 : Heap) (n0 : Nat) (v : Option Value) (h : Heap) (L : List Loc) : Prop := ∃ (t : Addr) (k : ClassId), v = some (.ref t) ∧ Fr n0 L ∧ Keep h0 h [] ∧ h0.size ≤ t ∧ Exa Z h t "[B" ∧ Arv Z h t k .byte (Int32.ofNat X.length) (X.map Value.int) (.int 0)
theorem rmGco (l : Launch) (Z : State) (a0 : Array Value) (hw : ∀ d ∈ tables_1, d.before a0 Z = true) (ws : List Jvm.Cond) (xt : Addr) (kt : ClassId) (NN X : List Int32) (h0 : Heap) (n0 : Nat) (X00 : Old Z n0 h0) (Axt : Arv Z h0 xt kt .byte (Int32.ofNat NN.length) (pad NN.length X) (.int 0)) (hlt : X.length < NN.length) (hN : NN.length ≤ 30) :
  MetFree l yN49 (head1 (Jvm.Cond.code yN49 jdk_65_method_121_code 3 (some (.array .byte)) :: ws) ({ frames := 1, cells := 1, slots := 30, locals := 18 } : Room)) (fun aa U => aa = #[(.ref xt), (.int (Int32.ofNat X.length))] ∧ Z.Warmed39 U.vm ∧ U.heap = h0) (fun _ _ _ _ _ => True) (fun _ U o U' => ∃ v L, o = .returned v ∧ QGco Z xt kt NN X h0 n0 v U'.heap L ∧ FrameEnd U o U' L ({ frames := 1, cells := 1, slots := 30, locals := 18 } : Room).cells ({ frames := 1, cells := 1, slots := 30, locals := 18 } : Room).slots) := by
 refine MetFree.of_bodySF (plainFor_of_name pn_6) hisR ?_
 intro p e s m args below meth c s₁ Bd hml0 hP hK
 obtain ⟨rfl, hZ, hh⟩ := hP
 have hx := Bd.exec
 have hby := Bd.bytes
 have hml : c.maxLocals = 3 := hml0
 have hown : s.vm.findClass "java/util/Arrays" = some m.cls := findClass_of_methodNamed Bd.named
 have hnm := (name_of_methodNamed Bd.named Bd.method).1
 have X0 : Stand p l e ({ frames := 1, cells := 1, slots := 30, locals := 18 } : Room) s m #[(.ref xt), (.int (Int32.ofNat X.length))] below meth c s₁ [] 0 0 := Stand.of_body Bd
 have e0 : s₁.heap = h0 := by rw [← hh, Bd.state]; rfl
 have N0 := Fr.nil n0
 have K0 := Keep.refl h0 []
 have ef : entryFrame m #[(.ref xt), (.int (Int32.ofNat X.length))] 3 = mkF m 0 #[vr xt, .val (.int (Int32.ofNat X.length)), un] [] := by first | (simp [entryFrame, mkF, argsToLocals, Value.category]; done) | rfl
 rw [ef]
 refine fin_of fun Kx hF => ?_
 show Go p.tables e below Kx _ (mkF m 0 _ [])
 refine s_iloadN (pc' := 1) X0.here hx (hb hby d65_121_0) rfl rfl ?_
 refine s_aloadN (pc' := 2) X0.here hx (hb hby d65_121_1) rfl rfl rfl ?_
 obtain ⟨cl376, Ar376, Aq376, As376, An376, Ah376, Ag376⟩ := id Axt
 refine Go.st (X0.arraylength hx (by rw [e0]; exact Ar376.1) (State.isArrayOf_alike hZ.alike Ar376.2.1) (g := (mkF m 2 #[vr xt, .val (.int (Int32.ofNat X.length)), un] [(.ref xt), (.int (Int32.ofNat X.length))])) rfl rfl (hb hby d65_121_2)) ?_
 rw [len_of As376 An376]
 show Go p.tables e below Kx _ (mkF m 3 _ [(.int (Int32.ofNat NN.length)), (.int (Int32.ofNat X.length))])
 refine s_icmpY (pc' := 14) X0.here hx (hb hby d65_121_3) (feq (ne_len hlt (Nat.le_trans hN (by decide)))).2 (by decide) (by decide) ?_
 refine s_iloadN (pc' := 15) X0.here hx (hb hby d65_121_14) rfl rfl ?_
 obtain ⟨T377, h377, k377, X377, e377, E377, A377, B377, st377⟩ := newPE X0 hx hZ (hv hw 25 rfl) e0 (g := (mkF m 15 #[vr xt, .val (.int (Int32.ofNat X.length)), un] [(.int (Int32.ofNat X.length))])) rfl (hb hby d65_121_15) rfl (nn0 (Nat.le_trans (Nat.le_of_lt hlt) (Nat.le_trans hN (by decide)))) (cap := 30) (by rw [nl (Nat.le_trans (Nat.le_of_lt hlt) (Nat.le_trans hN (by decide)))]; exact Nat.le_trans (Nat.le_of_lt hlt) hN) (by decide) (by decide) (by decide) (ad := "[B") (by decide)
 obtain ⟨b377, g377⟩ : ∃ z, z = h0.size := ⟨_, rfl⟩
 rw [← g377] at A377 B377 st377
 have sz377 : h0.size ≤ b377 := Nat.le_trans K0.1 (Nat.le_of_eq g377.symm)
 have ge377 : n0 ≤ b377 := Nat.le_trans (X00.1 ▸ X00.2.1) (Nat.le_of_eq g377.symm)
 have K377 : Keep h0 h377 [] := K0.ext E377
 have O377 : Old Z n0 h377 := X00.ext E377
 have V377 : Arv Z h377 b377 k377 .byte (Int32.ofNat X.length) (pad X.length []) (.int 0) := newPad (n := X.length) A377 (Nat.le_trans (Nat.le_of_lt hlt) (Nat.le_trans hN (by decide)))
 refine Go.st st377 ?_
 show Go p.tables e below Kx _ (mkF m 17 _ [(.ref b377)])
 refine s_astoreN (pc' := 18) (Ls' := #[vr xt, .val (.int (Int32.ofNat X.length)), vr b377]) X377.here hx (hb hby d65_121_17) rfl rfl rfl ?_
 refine s_aloadN (pc' := 19) X377.here hx (hb hby d65_121_18) rfl rfl rfl ?_
 refine s_iconst (pc' := 20) (v := 0) X377.here hx (hb hby d65_121_19) rfl rfl ?_
 refine s_aloadN (pc' := 21) X377.here hx (hb hby d65_121_20) rfl rfl rfl ?_
 refine s_iconst (pc' := 22) (v := 0) X377.here hx (hb hby d65_121_21) rfl rfl ?_
 refine s_aloadN (pc' := 23) X377.here hx (hb hby d65_121_22) rfl rfl rfl ?_
 have f378 : Arv Z h377 xt kt .byte (Int32.ofNat NN.length) (pad NN.length X) (.int 0) := (Axt.ext E377)
 obtain ⟨cl379, Ar379, Aq379, As379, An379, Ah379, Ag379⟩ := id f378
 refine Go.st (X377.arraylength hx (by rw [e377]; exact Ar379.1) (State.isArrayOf_alike hZ.alike Ar379.2.1) (g := (mkF m 23 #[vr xt, .val (.int (Int32.ofNat X.length)), vr b377] [(.ref xt), (.int 0), (.ref b377), (.int 0), (.ref xt)])) rfl rfl (hb hby d65_121_23)) ?_
 rw [len_of As379 An379]
 show Go p.tables e below Kx _ (mkF m 24 _ [(.int (Int32.ofNat NN.length)), (.int 0), (.ref b377), (.int 0), (.ref xt)])
 refine s_iloadN (pc' := 25) X377.here hx (hb hby d65_121_24) rfl rfl ?_
 obtain ⟨_, T380, L380, X380, hQ380, st380⟩ := kS X377 hx hZ (y := yN17) hown (hv hw 119 rfl) (hv hw 87 rfl) (hv hw 84 rfl) (hv hw 88 rfl) (by decide) (rmGmin l Z a0 hw [] (Int32.ofNat NN.length) (Int32.ofNat X.length) h377 n0 O377 (inpad hlt (Nat.le_trans hN (by decide))).2) e377 (W := 4) (g := (mkF m 25 #[vr xt, .val (.int (Int32.ofNat X.length)), vr b377] [(.int (Int32.ofNat X.length)), (.int (Int32.ofNat NN.length)), (.int 0), (.ref b377), (.int 0), (.ref xt)])) rfl (by rw [hml]; rfl) (argsL := [(.int (Int32.ofNat NN.length)), (.int (Int32.ofNat X.length))]) (rest := [(.int 0), (.ref b377), (.int 0), (.ref xt)]) (lenOf pd_8 rfl) rfl (by exact Nat.le_of_eq rfl) (hb hby d65_121_25) rfl (nb rfl) (nb rfl) (nb rfl) (nb rfl)
 obtain ⟨rfl, Nq380, hE380⟩ := hQ380
 have N380 := Fr.app N0 Nq380
 refine Go.st st380 ?_
 show Go p.tables e below Kx _ (mkF m 28 _ [(.int (Int32.ofNat X.length)), (.int 0), (.ref b377), (.int 0), (.ref xt)])
 obtain ⟨T381, h381, L381, X381, e381, N381, KK381, V381, st381⟩ := cpPre X380 hx hZ hown (hv hw 120 rfl) (hv hw 123 rfl) (hv hw 121 rfl) (hv hw 122 rfl) hE380 (Nat.le_trans (Nat.le_of_lt hlt) (Nat.le_trans hN (by decide))) (Nat.le_trans hN (by decide)) (Nat.le_of_lt hlt) f378 V377 N380 ge377 (g := (mkF m 28 #[vr xt, .val (.int (Int32.ofNat X.length)), vr b377] [(.int (Int32.ofNat X.length)), (.int 0), (.ref b377), (.int 0), (.ref xt)])) rfl (by rw [hml]; rfl) rfl (hb hby d65_121_28) (by decide) (W := 0) (by exact Nat.le_of_eq rfl) (by decide)
 have K381 : Keep h0 h381 [] := K377.trans KK381 (allS (P := fun zz => zz ∈ [] ∨ h0.size ≤ zz) (Or.inr sz377) all0)
 have O381 : Old Z n0 h381 := O377.keep KK381 (allS ge377 all0)
 refine Go.st st381 ?_
 show Go p.tables e below Kx _ (mkF m 31 _ [])
 refine s_aloadN (pc' := 32) X381.here hx (hb hby d65_121_31) rfl rfl rfl ?_
 have f382 : Exa Z h381 b377 "[B" := (B377.keep KK381)
 obtain ⟨fs, hr, hrun, hended, hW, hsame⟩ := X381.leave (v := (some (.ref b377))) (fun h => by rw [Bd.returns] at h; cases h)
 refine Go.fin (retOut X381 hx Bd.returns rfl (Or.inr (Or.inr (Or.inr (Or.inr ⟨rfl, rfl, rfl⟩)))) (hb hby d65_121_32) hr) (hF _ _ hrun hended ⟨_, _, rfl, ?_, ⟨_, rfl⟩, hW, hsame.mono (by decide) (by decide)⟩)
 ·
  show QGco Z xt kt NN X h0 n0 ((some (.ref b377)) : Option Value) T381.heap _
  rw [e381]
  exact ⟨_, _, rfl, N381, K381, sz377, f382, V381⟩
theorem pd_37 : parseMethodDescriptor "([BI)[B" = some ⟨[(.array .byte), .int], some (.array .byte)⟩ := by decide +kernel
theorem d42_46_137 : decode jdk_42_method_46_code 137 = .ok (.invokestatic 102, 3) := by decide +kernel
theorem d42_46_140 : decode jdk_42_method_46_code 140 = .ok (.areturn, 1) := by decide +kernel
theorem d42_46_56 : decode jdk_42_method_46_code 56 = .ok (.aload 5, 2) := by decide +kernel
theorem d42_46_58 : decode jdk_42_method_46_code 58 = .ok (.iload 7, 2) := by decide +kernel
theorem d42_46_60 : decode jdk_42_method_46_code 60 = .ok (.baload, 1) := by decide +kernel
theorem d42_46_61 : decode jdk_42_method_46_code 61 = .ok (.istore 8, 2) := by decide +kernel
theorem d42_46_63 : decode jdk_42_method_46_code 63 = .ok (.iload 8, 2) := by decide +kernel
theorem d42_46_65 : decode jdk_42_method_46_code 65 = .ok (.ifCond .ge 44, 3) := by decide +kernel
theorem d42_46_68 : decode jdk_42_method_46_code 68 = .ok (.aload 4, 2) := by decide +kernel
theorem d42_46_70 : decode jdk_42_method_46_code 70 = .ok (.iload_n 3, 1) := by decide +kernel
theorem d42_46_71 : decode jdk_42_method_46_code 71 = .ok (.iinc 3 1, 3) := by decide +kernel
theorem d42_46_74 : decode jdk_42_method_46_code 74 = .ok (.sipush 192, 3) := by decide +kernel
theorem d42_46_77 : decode jdk_42_method_46_code 77 = .ok (.iload 8, 2) := by decide +kernel
theorem d42_46_79 : decode jdk_42_method_46_code 79 = .ok (.sipush 255, 3) := by decide +kernel
theorem d42_46_82 : decode jdk_42_method_46_code 82 = .ok (.iand, 1) := by decide +kernel
theorem d42_46_83 : decode jdk_42_method_46_code 83 = .ok (.bipush 6, 2) := by decide +kernel
theorem d42_46_85 : decode jdk_42_method_46_code 85 = .ok (.ishr, 1) := by decide +kernel
theorem d42_46_86 : decode jdk_42_method_46_code 86 = .ok (.ior, 1) := by decide +kernel
theorem d42_46_87 : decode jdk_42_method_46_code 87 = .ok (.i2b, 1) := by decide +kernel
theorem d42_46_88 : decode jdk_42_method_46_code 88 = .ok (.bastore, 1) := by decide +kernel
theorem d42_46_89 : decode jdk_42_method_46_code 89 = .ok (.aload 4, 2) := by decide +kernel
theorem d42_46_91 : decode jdk_42_method_46_code 91 = .ok (.iload_n 3, 1) := by decide +kernel
theorem d42_46_92 : decode jdk_42_method_46_code 92 = .ok (.iinc 3 1, 3) := by decide +kernel
theorem d42_46_95 : decode jdk_42_method_46_code 95 = .ok (.sipush 128, 3) := by decide +kernel
theorem d42_46_98 : decode jdk_42_method_46_code 98 = .ok (.iload 8, 2) := by decide +kernel
theorem d42_46_100 : decode jdk_42_method_46_code 100 = .ok (.bipush 63, 2) := by decide +kernel
theorem d42_46_102 : decode jdk_42_method_46_code 102 = .ok (.iand, 1) := by decide +kernel
theorem d42_46_103 : decode jdk_42_method_46_code 103 = .ok (.ior, 1) := by decide +kernel
theorem d42_46_104 : decode jdk_42_method_46_code 104 = .ok (.i2b, 1) := by decide +kernel
theorem d42_46_105 : decode jdk_42_method_46_code 105 = .ok (.bastore, 1) := by decide +kernel
theorem d42_46_106 : decode jdk_42_method_46_code 106 = .ok (.goto 12, 3) := by decide +kernel
theorem d42_46_118 : decode jdk_42_method_46_code 118 = .ok (.iinc 7 1, 3) := by decide +kernel
theorem d42_46_121 : decode jdk_42_method_46_code 121 = .ok (.goto (-72), 3) := by decide +kernel
theorem d42_46_109 : decode jdk_42_method_46_code 109 = .ok (.aload 4, 2) := by decide +kernel
theorem d42_46_111 : decode jdk_42_method_46_code 111 = .ok (.iload_n 3, 1) := by decide +kernel
theorem d42_46_112 : decode jdk_42_method_46_code 112 = .ok (.iinc 3 1, 3) := by decide +kernel
theorem d42_46_115 : decode jdk_42_method_46_code 115 = .ok (.iload 8, 2) := by decide +kernel
theorem d42_46_117 : decode jdk_42_method_46_code 117 = .ok (.bastore, 1) := by decide +kernel
def QGu8 (Z : State) (xt : Addr) (kt : ClassId) (us : List Int32) (h0 : Heap) (n0 : Nat) (v : Option Value) (h : Heap) (L : List Loc) : Prop := ∃ (t : Addr) (k : ClassId), v = some (.ref t) ∧ Fr n0 L ∧ Keep h0 h [] ∧ h0.size ≤ t ∧ Arv Z h t k .byte (Int32.ofNat (enc us).length) ((enc us).map Value.int) (.int 0)
theorem rmGu8 (l : Launch) (Z : State) (a0 : Array Value) (hw : ∀ d ∈ tables_1, d.before a0 Z = true) (ws : List Jvm.Cond) (xt : Addr) (kt : ClassId) (us : List Int32) (h0 : Heap) (n0 : Nat) (X00 : Old Z n0 h0) (Bxt : Exa Z h0 xt "[B") (Axt : Arv Z h0 xt kt .byte (Int32.ofNat us.length) (us.map Value.int) (.int 0)) (hl : us.length < 16) (hbt : ∀ b ∈ us, b.toInt8.toInt32 = b) (hen : (enc us).length < (us ++ us).length) :
  MetFree l yN25 (head1 (Jvm.Cond.code yN25 jdk_42_method_46_code 9 (some (.array .byte)) :: ws) ({ frames := 2, cells := 2, slots := 60, locals := 32 } : Room)) (fun aa U => aa = #[(.int 0), (.ref xt), (.int 1)] ∧ Z.Warmed39 U.vm ∧ U.heap = h0) (fun _ _ _ _ _ => True) (fun _ U o U' => ∃ v L, o = .returned v ∧ QGu8 Z xt kt us h0 n0 v U'.heap L ∧ FrameEnd U o U' L ({ frames := 2, cells := 2, slots := 60, locals := 32 } : Room).cells ({ frames := 2, cells := 2, slots := 60, locals := 32 } : Room).slots) := by
 refine MetFree.of_bodySF (plainFor_of_name pn_3) hisR ?_
 intro p e s m args below meth c s₁ Bd hml0 hP hK
 obtain ⟨rfl, hZ, hh⟩ := hP
 have hx := Bd.exec
 have hby := Bd.bytes
 have hml : c.maxLocals = 9 := hml0
 have hown : s.vm.findClass "java/lang/String" = some m.cls := findClass_of_methodNamed Bd.named
 have hnm := (name_of_methodNamed Bd.named Bd.method).1
 have X0 : Stand p l e ({ frames := 2, cells := 2, slots := 60, locals := 32 } : Room) s m #[(.int 0), (.ref xt), (.int 1)] below meth c s₁ [] 0 0 := Stand.of_body Bd
 have e0 : s₁.heap = h0 := by rw [← hh, Bd.state]; rfl
 have N0 := Fr.nil n0
 have K0 := Keep.refl h0 []
 have ef : entryFrame m #[(.int 0), (.ref xt), (.int 1)] 9 = mkF m 0 #[vi 0, vr xt, vi 1, un, un, un, un, un, un] [] := by first | (simp [entryFrame, mkF, argsToLocals, Value.category]; done) | rfl
 rw [ef]
 refine fin_of fun Kx hF => ?_
 show Go p.tables e below Kx _ (mkF m 0 _ [])
 refine s_iloadN (pc' := 1) X0.here hx (hb hby d42_46_0) rfl rfl ?_
 refine s_iconst (pc' := 2) (v := 1) X0.here hx (hb hby d42_46_1) rfl rfl ?_
 refine s_icmpY (pc' := 11) X0.here hx (hb hby d42_46_2) (feq (by decide)).2 (by decide) (by decide) ?_
 refine s_aloadN (pc' := 12) X0.here hx (hb hby d42_46_11) rfl rfl rfl ?_
 refine s_iconst (pc' := 13) (v := 0) X0.here hx (hb hby d42_46_12) rfl rfl ?_
 refine s_aloadN (pc' := 14) X0.here hx (hb hby d42_46_13) rfl rfl rfl ?_
 obtain ⟨cl361, Ar361, Aq361, As361, An361, Ah361, Ag361⟩ := id Axt
 refine Go.st (X0.arraylength hx (by rw [e0]; exact Ar361.1) (State.isArrayOf_alike hZ.alike Ar361.2.1) (g := (mkF m 14 #[vi 0, vr xt, vi 1, un, un, un, un, un, un] [(.ref xt), (.int 0), (.ref xt)])) rfl rfl (hb hby d42_46_14)) ?_
 rw [len_of As361 An361]
 show Go p.tables e below Kx _ (mkF m 15 _ [(.int (Int32.ofNat us.length)), (.int 0), (.ref xt)])
 obtain ⟨_, T366, L366, X366, hQ366, st366⟩ := kS X0 hx hZ (y := yN41) hown (hv hw 272 rfl) (hv hw 273 rfl) (hv hw 274 rfl) (hv hw 275 rfl) (by decide) (rmGhn l Z a0 hw [] xt kt us h0 n0 X00 Axt (le4 hl)) e0 (W := 0) (g := (mkF m 15 #[vi 0, vr xt, vi 1, un, un, un, un, un, un] [(.int (Int32.ofNat us.length)), (.int 0), (.ref xt)])) rfl (by rw [hml]; rfl) (argsL := [(.ref xt), (.int 0), (.int (Int32.ofNat us.length))]) (rest := []) (lenOf pd_35 rfl) rfl (by exact Nat.le_of_eq rfl) (hb hby d42_46_15) rfl (nb rfl) (nb rfl) (nb rfl) (nb rfl)
 obtain ⟨⟨r366, rfl, hr366⟩, Nq366, hE366⟩ := hQ366
 rcases hr366 with ⟨rfl, hr366⟩ | ⟨rfl, hr366⟩
 ·
  have N366 := Fr.app N0 Nq366
  refine Go.st st366 ?_
  show Go p.tables e below Kx _ (mkF m 18 _ [(.int 0)])
  refine s_ifN (pc' := 21) X366.here hx (hb hby d42_46_18) rfl ((if0 _ _).trans (teq (by decide)).2) ?_
  refine s_aloadN (pc' := 22) X366.here hx (hb hby d42_46_21) rfl rfl rfl ?_
  obtain ⟨T367, h367, X367, e367, E367, C367, A367, st367⟩ := cloneH X366 hx hZ hown (hv hw 279 rfl) (hv hw 280 rfl) (hv hw 284 rfl) (hv hw 282 rfl) (hv hw 283 rfl) (hv hw 285 rfl) hE366 Axt.arh Bxt (g := (mkF m 22 #[vi 0, vr xt, vi 1, un, un, un, un, un, un] [(.ref xt)])) rfl (by rw [hml]; rfl) rfl (hb hby d42_46_22) (by decide) (W := 0) (by exact Nat.le_of_eq rfl) (by decide) (cap := 16) (by rw [nl (le4 hl)]; exact Nat.le_of_lt hl) (by decide) (by decide)
  obtain ⟨b367, g367⟩ : ∃ z, z = h0.size := ⟨_, rfl⟩
  rw [← g367] at C367 A367 st367
  have sz367 : h0.size ≤ b367 := Nat.le_trans K0.1 (Nat.le_of_eq g367.symm)
  have ge367 : n0 ≤ b367 := Nat.le_trans (X00.1 ▸ X00.2.1) (Nat.le_of_eq g367.symm)
  have K367 : Keep h0 h367 [] := K0.ext E367
  have O367 : Old Z n0 h367 := X00.ext E367
  have V367 : Arv Z h367 b367 kt .byte (Int32.ofNat us.length) (us.map Value.int) (.int 0) := C367
  refine Go.st st367 ?_
  show Go p.tables e below Kx _ (mkF m 25 _ [(.ref b367)])
  obtain ⟨T368, X368, e368, st368⟩ := castY X367 hx hZ hown (hv hw 286 rfl) e367 (Ins.self A367) (g := (mkF m 25 #[vi 0, vr xt, vi 1, un, un, un, un, un, un] [(.ref b367)])) rfl rfl (hb hby d42_46_25)
  refine Go.st st368 ?_
  show Go p.tables e below Kx _ (mkF m 28 _ [(.ref b367)])
  obtain ⟨fs, hr, hrun, hended, hW, hsame⟩ := X368.leave (v := (some (.ref b367))) (fun h => by rw [Bd.returns] at h; cases h)
  refine Go.fin (retOut X368 hx Bd.returns rfl (Or.inr (Or.inr (Or.inr (Or.inr ⟨rfl, rfl, rfl⟩)))) (hb hby d42_46_28) hr) (hF _ _ hrun hended ⟨_, _, rfl, ?_, ⟨_, rfl⟩, hW, hsame.mono (by decide) (by decide)⟩)
  ·
   show QGu8 Z xt kt us h0 n0 ((some (.ref b367)) : Option Value) T368.heap _
   rw [e368]
   exact ⟨_, _, rfl, N366, K367, sz367, by rw [enc_all hr366]; exact V367⟩
 ·
  have N366 := Fr.app N0 Nq366
  refine Go.st st366 ?_
  show Go p.tables e below Kx _ (mkF m 18 _ [(.int 1)])
  refine s_ifY (pc' := 29) X366.here hx (hb hby d42_46_18) ((if0 _ _).trans (feq (by decide)).2) (by decide) (by decide) ?_
  refine s_iconst (pc' := 30) (v := 0) X366.here hx (hb hby d42_46_29) rfl rfl ?_
  refine s_istoreN (pc' := 31) (Ls' := #[vi 0, vr xt, vi 1, vi 0, un, un, un, un, un]) X366.here hx (hb hby d42_46_30) rfl  rfl ?_
  refine s_aloadN (pc' := 32) X366.here hx (hb hby d42_46_31) rfl rfl rfl ?_
  obtain ⟨cl369, Ar369, Aq369, As369, An369, Ah369, Ag369⟩ := id Axt
  refine Go.st (X366.arraylength hx (by rw [hE366]; exact Ar369.1) (State.isArrayOf_alike hZ.alike Ar369.2.1) (g := (mkF m 32 #[vi 0, vr xt, vi 1, vi 0, un, un, un, un, un] [(.ref xt)])) rfl rfl (hb hby d42_46_32)) ?_
  rw [len_of As369 An369]
  show Go p.tables e below Kx _ (mkF m 33 _ [(.int (Int32.ofNat us.length))])
  obtain ⟨_, T372, L372, X372, hQ372, st372⟩ := kS X366 hx hZ (y := yN46) hown (hv hw 291 rfl) (hv hw 292 rfl) (hv hw 23 rfl) (hv hw 293 rfl) (by decide) (rmGnb l Z a0 hw [] us h0 n0 X00 hl) hE366 (W := 0) (g := (mkF m 33 #[vi 0, vr xt, vi 1, vi 0, un, un, un, un, un] [(.int (Int32.ofNat us.length))])) rfl (by rw [hml]; rfl) (argsL := [(.int (Int32.ofNat us.length))]) (rest := []) (lenOf pd_36 rfl) rfl (by exact Nat.le_of_eq rfl) (hb hby d42_46_33) rfl (nb rfl) (nb rfl) (nb rfl) (nb rfl)
  obtain ⟨t372, kt372, rfl, Nq372, Kq372, le372, q0_372, q1_372⟩ := hQ372
  have sz372 : h0.size ≤ t372 := Nat.le_trans K0.1 le372
  have ge372 : n0 ≤ t372 := Nat.le_trans (X00.1 ▸ X00.2.1) le372
  have N372 := Fr.app N366 Nq372
  have K372 : Keep h0 T372.heap [] := K0.trans Kq372 all0
  have O372 : Old Z n0 T372.heap := X00.keep Kq372 all0
  refine Go.st st372 ?_
  show Go p.tables e below Kx _ (mkF m 36 _ [(.ref t372)])
  refine s_astore (pc' := 38) (Ls' := #[vi 0, vr xt, vi 1, vi 0, vr t372, un, un, un, un]) X372.here hx (hb hby d42_46_36) rfl rfl rfl ?_
  refine s_aloadN (pc' := 39) X372.here hx (hb hby d42_46_38) rfl rfl rfl ?_
  refine s_astore (pc' := 41) (Ls' := #[vi 0, vr xt, vi 1, vi 0, vr t372, vr xt, un, un, un]) X372.here hx (hb hby d42_46_39) rfl rfl rfl ?_
  refine s_aload (pc' := 43) X372.here hx (hb hby d42_46_41) rfl rfl rfl ?_
  have f373 : Arv Z T372.heap xt kt .byte (Int32.ofNat us.length) (us.map Value.int) (.int 0) := (Axt.keep Kq372 nin0)
  obtain ⟨cl374, Ar374, Aq374, As374, An374, Ah374, Ag374⟩ := id f373
  refine Go.st (X372.arraylength hx (by  exact Ar374.1) (State.isArrayOf_alike hZ.alike Ar374.2.1) (g := (mkF m 43 #[vi 0, vr xt, vi 1, vi 0, vr t372, vr xt, un, un, un] [(.ref xt)])) rfl rfl (hb hby d42_46_43)) ?_
  rw [len_of As374 An374]
  show Go p.tables e below Kx _ (mkF m 44 _ [(.int (Int32.ofNat us.length))])
  refine s_istore (pc' := 46) (Ls' := #[vi 0, vr xt, vi 1, vi 0, vr t372, vr xt, .val (.int (Int32.ofNat us.length)), un, un]) X372.here hx (hb hby d42_46_44) rfl  rfl ?_
  refine s_iconst (pc' := 47) (v := 0) X372.here hx (hb hby d42_46_46) rfl rfl ?_
  refine s_istore (pc' := 49) (Ls' := #[vi 0, vr xt, vi 1, vi 0, vr t372, vr xt, .val (.int (Int32.ofNat us.length)), vi 0, un]) X372.here hx (hb hby d42_46_47) rfl  rfl ?_
  have ne_t : xt ≠ t372 := (Nat.ne_of_lt (Nat.lt_of_lt_of_le Axt.lt le372))
  have J : ∀ (rr dd ee : List Int32) (s8 : Slot) (TJ : State) (LJ : List Loc) (hJ : Heap), Stand p l e ({ frames := 2, cells := 2, slots := 60, locals := 32 } : Room) s m #[(.int 0), (.ref xt), (.int 1)] below meth c TJ LJ 1 30 → Fr n0 LJ → TJ.heap = hJ → Keep h0 hJ [] → Old Z n0 hJ → us = dd ++ rr → ee = enc dd → Arv Z hJ t372 kt372 .byte (Int32.ofNat (us ++ us).length) (pad (us ++ us).length ee) (.int 0) → (s8 = un ∨ ∃ q : Int32, s8 = vi q) → Go p.tables e below Kx TJ (mkF m 49 #[vi 0, vr xt, vi 1, .val (.int (Int32.ofNat ee.length)), vr t372, vr xt, .val (.int (Int32.ofNat us.length)), .val (.int (Int32.ofNat dd.length)), s8] []) := by
   intro rr
   induction rr with
   | nil =>
    intro dd ee s8 TJ LJ hJ XJ NJ eJ KJ OJ hs he AJ h8
    have hll : ee.length < (us ++ us).length := by rw [enc_end hs he]; exact hen
    show Go p.tables e below Kx _ (mkF m 49 _ [])
    refine s_iload (pc' := 51) XJ.here hx (hb hby d42_46_49) rfl rfl ?_
    refine s_iload (pc' := 53) XJ.here hx (hb hby d42_46_51) rfl rfl ?_
    refine s_icmpY (pc' := 124) XJ.here hx (hb hby d42_46_53) (flt (lt_end hs)).2.1 (by decide) (by decide) ?_
    refine s_iloadN (pc' := 125) XJ.here hx (hb hby d42_46_124) rfl rfl ?_
    refine s_aload (pc' := 127) XJ.here hx (hb hby d42_46_125) rfl rfl rfl ?_
    obtain ⟨cl375, Ar375, Aq375, As375, An375, Ah375, Ag375⟩ := id AJ
    refine Go.st (XJ.arraylength hx (by rw [eJ]; exact Ar375.1) (State.isArrayOf_alike hZ.alike Ar375.2.1) (g := (mkF m 127 #[vi 0, vr xt, vi 1, .val (.int (Int32.ofNat ee.length)), vr t372, vr xt, .val (.int (Int32.ofNat us.length)), .val (.int (Int32.ofNat dd.length)), s8] [(.ref t372), (.int (Int32.ofNat ee.length))])) rfl rfl (hb hby d42_46_127)) ?_
    rw [len_of As375 An375]
    show Go p.tables e below Kx _ (mkF m 128 _ [(.int (Int32.ofNat (us ++ us).length)), (.int (Int32.ofNat ee.length))])
    refine s_icmpY (pc' := 134) XJ.here hx (hb hby d42_46_128) (feq (ne_len hll (len2k hl))).2 (by decide) (by decide) ?_
    refine s_aload (pc' := 136) XJ.here hx (hb hby d42_46_134) rfl rfl rfl ?_
    refine s_iloadN (pc' := 137) XJ.here hx (hb hby d42_46_136) rfl rfl ?_
    obtain ⟨_, T383, L383, X383, hQ383, st383⟩ := kS XJ hx hZ (y := yN49) hown (hv hw 298 rfl) (hv hw 299 rfl) (hv hw 111 rfl) (hv hw 300 rfl) (by decide) (rmGco l Z a0 hw [] t372 _ (us ++ us) ee hJ n0 OJ AJ hll (len2 hl)) eJ (W := 0) (g := (mkF m 137 #[vi 0, vr xt, vi 1, .val (.int (Int32.ofNat ee.length)), vr t372, vr xt, .val (.int (Int32.ofNat us.length)), .val (.int (Int32.ofNat dd.length)), s8] [(.int (Int32.ofNat ee.length)), (.ref t372)])) rfl (by rw [hml]; rfl) (argsL := [(.ref t372), (.int (Int32.ofNat ee.length))]) (rest := []) (lenOf pd_37 rfl) rfl (by exact Nat.le_of_eq rfl) (hb hby d42_46_137) rfl (nb rfl) (nb rfl) (nb rfl) (nb rfl)
    obtain ⟨t383, kt383, rfl, Nq383, Kq383, le383, q0_383, q1_383⟩ := hQ383
    have sz383 : h0.size ≤ t383 := Nat.le_trans KJ.1 le383
    have ge383 : n0 ≤ t383 := Nat.le_trans (OJ.1 ▸ OJ.2.1) le383
    have N383 := Fr.app NJ Nq383
    have K383 : Keep h0 T383.heap [] := KJ.trans Kq383 all0
    have O383 : Old Z n0 T383.heap := OJ.keep Kq383 all0
    refine Go.st st383 ?_
    show Go p.tables e below Kx _ (mkF m 140 _ [(.ref t383)])
    obtain ⟨fs, hr, hrun, hended, hW, hsame⟩ := X383.leave (v := (some (.ref t383))) (fun h => by rw [Bd.returns] at h; cases h)
    refine Go.fin (retOut X383 hx Bd.returns rfl (Or.inr (Or.inr (Or.inr (Or.inr ⟨rfl, rfl, rfl⟩)))) (hb hby d42_46_140) hr) (hF _ _ hrun hended ⟨_, _, rfl, ?_, ⟨_, rfl⟩, hW, hsame.mono (by decide) (by decide)⟩)
    ·
     show QGu8 Z xt kt us h0 n0 ((some (.ref t383)) : Option Value) T383.heap _
     skip
     exact ⟨_, _, rfl, N383, K383, sz383, by rw [← enc_end hs he]; exact q1_383⟩
   | cons bb rr ih =>
    intro dd ee s8 TJ LJ hJ XJ NJ eJ KJ OJ hs he AJ h8
    have hin : ee.length + 1 < (us ++ us).length := enc_in hs he
    have hbb : bb.toInt8.toInt32 = bb := hbt bb (by rw [hs]; simp)
    show Go p.tables e below Kx _ (mkF m 49 _ [])
    refine s_iload (pc' := 51) XJ.here hx (hb hby d42_46_49) rfl rfl ?_
    refine s_iload (pc' := 53) XJ.here hx (hb hby d42_46_51) rfl rfl ?_
    refine s_icmpN (pc' := 56) XJ.here hx (hb hby d42_46_53) rfl (tlt (at_mid hs (le4 hl) .null).2.2).2.1 ?_
    refine s_aload (pc' := 58) XJ.here hx (hb hby d42_46_56) rfl rfl rfl ?_
    refine s_iload (pc' := 60) XJ.here hx (hb hby d42_46_58) rfl rfl ?_
    obtain ⟨cl384, Ar384, Aq384, As384, An384, Ah384, Ag384⟩ := id (Axt.keep KJ nin0)
    have in385 := inb_of (j := (Int32.ofNat dd.length)) As384 (at_mid hs (le4 hl) .null).2
    have at385 : cl384.slots[((Int32.ofNat dd.length)).toNatClampNeg]? = some (.int bb) := Ah384.at in385 (at_mid hs (le4 hl) _).1
    refine Go.st (XJ.baloadBytes hx (j := (Int32.ofNat dd.length)) (v := (.int bb)) (by rw [eJ]; exact Ar384.1) (State.isArrayOf_alike hZ.alike Ar384.2.1) Ar384.2.2 in385 at385 (g := (mkF m 60 #[vi 0, vr xt, vi 1, .val (.int (Int32.ofNat ee.length)), vr t372, vr xt, .val (.int (Int32.ofNat us.length)), .val (.int (Int32.ofNat dd.length)), s8] [(.int (Int32.ofNat dd.length)), (.ref xt)])) rfl rfl (hb hby d42_46_60)) ?_
    show Go p.tables e below Kx _ (mkF m 61 _ [(.int bb)])
    refine s_istore (pc' := 63) (Ls' := #[vi 0, vr xt, vi 1, .val (.int (Int32.ofNat ee.length)), vr t372, vr xt, .val (.int (Int32.ofNat us.length)), .val (.int (Int32.ofNat dd.length)), vi bb]) XJ.here hx (hb hby d42_46_61) rfl  (by rcases h8 with rfl | ⟨_, rfl⟩ <;> rfl) ?_
    refine s_iload (pc' := 65) XJ.here hx (hb hby d42_46_63) rfl rfl ?_
    by_cases hc386 : bb < (0 : Int32)
    ·
     refine s_ifN (pc' := 68) XJ.here hx (hb hby d42_46_65) rfl ((if0 _ _).trans (tlt hc386).2.1) ?_
     refine s_aload (pc' := 70) XJ.here hx (hb hby d42_46_68) rfl rfl rfl ?_
     refine s_iloadN (pc' := 71) XJ.here hx (hb hby d42_46_70) rfl rfl ?_
     refine s_iinc (pc' := 74) (Ls' := #[vi 0, vr xt, vi 1, .val (.int (Int32.ofNat (ee ++ [(((192 : Int32) ||| ((bb &&& 255) >>> ((6 : Int32) &&& 31))).toInt8.toInt32)]).length)), vr t372, vr xt, .val (.int (Int32.ofNat us.length)), .val (.int (Int32.ofNat dd.length)), vi bb]) (z := (Int32.ofNat (ee ++ [(((192 : Int32) ||| ((bb &&& 255) >>> ((6 : Int32) &&& 31))).toInt8.toInt32)]).length)) XJ.here hx (hb hby d42_46_71) rfl rfl (lsucc _ (((192 : Int32) ||| ((bb &&& 255) >>> ((6 : Int32) &&& 31))).toInt8.toInt32)) rfl ?_
     refine s_sipush (pc' := 77) (v := 192) XJ.here hx (hb hby d42_46_74) rfl rfl ?_
     refine s_iload (pc' := 79) XJ.here hx (hb hby d42_46_77) rfl rfl ?_
     refine s_sipush (pc' := 82) (v := 255) XJ.here hx (hb hby d42_46_79) rfl rfl ?_
     refine s_iand (pc' := 83) XJ.here hx (hb hby d42_46_82) rfl rfl ?_
     refine s_bipush (pc' := 85) (v := 6) XJ.here hx (hb hby d42_46_83) rfl rfl ?_
     refine s_ishr (pc' := 86) XJ.here hx (hb hby d42_46_85) rfl rfl ?_
     refine s_ior (pc' := 87) XJ.here hx (hb hby d42_46_86) rfl rfl ?_
     refine s_i2b (pc' := 88) XJ.here hx (hb hby d42_46_87) rfl rfl ?_
     obtain ⟨cl387, Ar387, Aq387, As387, An387, Ah387, Ag387⟩ := id AJ
     have rm388 : ee.length < (us ++ us).length := (Nat.lt_of_succ_lt hin)
     have in388 := inb_of (j := (Int32.ofNat ee.length)) As387 (inpad (n := (us ++ us).length) rm388 (len2k hl))
     obtain ⟨T388, h388, X388, e388, W388, st388⟩ := stB XJ hx hZ eJ Ar387 (j := (Int32.ofNat ee.length)) in388 (g := (mkF m 88 #[vi 0, vr xt, vi 1, .val (.int (Int32.ofNat (ee ++ [(((192 : Int32) ||| ((bb &&& 255) >>> ((6 : Int32) &&& 31))).toInt8.toInt32)]).length)), vr t372, vr xt, .val (.int (Int32.ofNat us.length)), .val (.int (Int32.ofNat dd.length)), vi bb] [(.int (((192 : Int32) ||| ((bb &&& 255) >>> ((6 : Int32) &&& 31))).toInt8.toInt32)), (.int (Int32.ofNat ee.length)), (.ref t372)])) rfl rfl (hb hby d42_46_88)
     have V388 : Arv Z h388 t372 kt372 .byte (Int32.ofNat (us ++ us).length) (pad (us ++ us).length (ee ++ [(((192 : Int32) ||| ((bb &&& 255) >>> ((6 : Int32) &&& 31))).toInt8.toInt32)])) (.int 0) := by
      have q := Arv.set Ar387 Aq387 As387 An387 Ah387 Ag387 (fits_nar_byte _) W388 ee.length (nl (Nat.le_trans (Nat.le_of_lt rm388) (len2k hl))) (by rw [pad_len (Nat.le_of_lt rm388)]; exact rm388)
      rw [i8i8 ((192 : Int32) ||| ((bb &&& 255) >>> ((6 : Int32) &&& 31))), pad_set rm388] at q; exact q
     have K388 : Keep h0 h388 [] := KJ.wr W388 (Or.inr sz372)
     have O388 : Old Z n0 h388 := OJ.wr W388 ge372
     have N388 := Fr.snoc X388 NJ ge372
     refine Go.st st388 ?_
     show Go p.tables e below Kx _ (mkF m 89 _ [])
     refine s_aload (pc' := 91) X388.here hx (hb hby d42_46_89) rfl rfl rfl ?_
     refine s_iloadN (pc' := 92) X388.here hx (hb hby d42_46_91) rfl rfl ?_
     refine s_iinc (pc' := 95) (Ls' := #[vi 0, vr xt, vi 1, .val (.int (Int32.ofNat ((ee ++ [(((192 : Int32) ||| ((bb &&& 255) >>> ((6 : Int32) &&& 31))).toInt8.toInt32)]) ++ [(((128 : Int32) ||| (bb &&& 63)).toInt8.toInt32)]).length)), vr t372, vr xt, .val (.int (Int32.ofNat us.length)), .val (.int (Int32.ofNat dd.length)), vi bb]) (z := (Int32.ofNat ((ee ++ [(((192 : Int32) ||| ((bb &&& 255) >>> ((6 : Int32) &&& 31))).toInt8.toInt32)]) ++ [(((128 : Int32) ||| (bb &&& 63)).toInt8.toInt32)]).length)) X388.here hx (hb hby d42_46_92) rfl rfl (lsucc _ (((128 : Int32) ||| (bb &&& 63)).toInt8.toInt32)) rfl ?_
     refine s_sipush (pc' := 98) (v := 128) X388.here hx (hb hby d42_46_95) rfl rfl ?_
     refine s_iload (pc' := 100) X388.here hx (hb hby d42_46_98) rfl rfl ?_
     refine s_bipush (pc' := 102) (v := 63) X388.here hx (hb hby d42_46_100) rfl rfl ?_
     refine s_iand (pc' := 103) X388.here hx (hb hby d42_46_102) rfl rfl ?_
     refine s_ior (pc' := 104) X388.here hx (hb hby d42_46_103) rfl rfl ?_
     refine s_i2b (pc' := 105) X388.here hx (hb hby d42_46_104) rfl rfl ?_
     obtain ⟨cl389, Ar389, Aq389, As389, An389, Ah389, Ag389⟩ := id V388
     have rm390 : (ee ++ [(((192 : Int32) ||| ((bb &&& 255) >>> ((6 : Int32) &&& 31))).toInt8.toInt32)]).length < (us ++ us).length := (by rw [List.length_append]; exact hin)
     have in390 := inb_of (j := (Int32.ofNat (ee ++ [(((192 : Int32) ||| ((bb &&& 255) >>> ((6 : Int32) &&& 31))).toInt8.toInt32)]).length)) As389 (inpad (n := (us ++ us).length) rm390 (len2k hl))
     obtain ⟨T390, h390, X390, e390, W390, st390⟩ := stB X388 hx hZ e388 Ar389 (j := (Int32.ofNat (ee ++ [(((192 : Int32) ||| ((bb &&& 255) >>> ((6 : Int32) &&& 31))).toInt8.toInt32)]).length)) in390 (g := (mkF m 105 #[vi 0, vr xt, vi 1, .val (.int (Int32.ofNat ((ee ++ [(((192 : Int32) ||| ((bb &&& 255) >>> ((6 : Int32) &&& 31))).toInt8.toInt32)]) ++ [(((128 : Int32) ||| (bb &&& 63)).toInt8.toInt32)]).length)), vr t372, vr xt, .val (.int (Int32.ofNat us.length)), .val (.int (Int32.ofNat dd.length)), vi bb] [(.int (((128 : Int32) ||| (bb &&& 63)).toInt8.toInt32)), (.int (Int32.ofNat (ee ++ [(((192 : Int32) ||| ((bb &&& 255) >>> ((6 : Int32) &&& 31))).toInt8.toInt32)]).length)), (.ref t372)])) rfl rfl (hb hby d42_46_105)
     have V390 : Arv Z h390 t372 kt372 .byte (Int32.ofNat (us ++ us).length) (pad (us ++ us).length ((ee ++ [(((192 : Int32) ||| ((bb &&& 255) >>> ((6 : Int32) &&& 31))).toInt8.toInt32)]) ++ [(((128 : Int32) ||| (bb &&& 63)).toInt8.toInt32)])) (.int 0) := by
      have q := Arv.set Ar389 Aq389 As389 An389 Ah389 Ag389 (fits_nar_byte _) W390 (ee ++ [(((192 : Int32) ||| ((bb &&& 255) >>> ((6 : Int32) &&& 31))).toInt8.toInt32)]).length (nl (Nat.le_trans (Nat.le_of_lt rm390) (len2k hl))) (by rw [pad_len (Nat.le_of_lt rm390)]; exact rm390)
      rw [i8i8 ((128 : Int32) ||| (bb &&& 63)), pad_set rm390] at q; exact q
     have K390 : Keep h0 h390 [] := K388.wr W390 (Or.inr sz372)
     have O390 : Old Z n0 h390 := O388.wr W390 ge372
     have N390 := Fr.snoc X390 N388 ge372
     refine Go.st st390 ?_
     show Go p.tables e below Kx _ (mkF m 106 _ [])
     refine s_goto (pc' := 118) X390.here hx (hb hby d42_46_106) (by decide) (by decide) ?_
     refine s_iinc (pc' := 121) (Ls' := #[vi 0, vr xt, vi 1, .val (.int (Int32.ofNat ((ee ++ [(((192 : Int32) ||| ((bb &&& 255) >>> ((6 : Int32) &&& 31))).toInt8.toInt32)]) ++ [(((128 : Int32) ||| (bb &&& 63)).toInt8.toInt32)]).length)), vr t372, vr xt, .val (.int (Int32.ofNat us.length)), .val (.int (Int32.ofNat (dd ++ [bb]).length)), vi bb]) (z := (Int32.ofNat (dd ++ [bb]).length)) X390.here hx (hb hby d42_46_118) rfl rfl (lsucc _ bb) rfl ?_
     refine s_goto (pc' := 49) X390.here hx (hb hby d42_46_121) (by decide) (by decide) ?_
     exact ih _ _ _ _ _ _ X390 N390 e390 K390 O390 (app_mid hs) (enc_p hc386 he) V390 (Or.inr ⟨_, rfl⟩)
    ·
     refine s_ifY (pc' := 109) XJ.here hx (hb hby d42_46_65) ((if0 _ _).trans (flt hc386).2.1) (by decide) (by decide) ?_
     refine s_aload (pc' := 111) XJ.here hx (hb hby d42_46_109) rfl rfl rfl ?_
     refine s_iloadN (pc' := 112) XJ.here hx (hb hby d42_46_111) rfl rfl ?_
     refine s_iinc (pc' := 115) (Ls' := #[vi 0, vr xt, vi 1, .val (.int (Int32.ofNat (ee ++ [bb]).length)), vr t372, vr xt, .val (.int (Int32.ofNat us.length)), .val (.int (Int32.ofNat dd.length)), vi bb]) (z := (Int32.ofNat (ee ++ [bb]).length)) XJ.here hx (hb hby d42_46_112) rfl rfl (lsucc _ bb) rfl ?_
     refine s_iload (pc' := 117) XJ.here hx (hb hby d42_46_115) rfl rfl ?_
     obtain ⟨cl391, Ar391, Aq391, As391, An391, Ah391, Ag391⟩ := id AJ
     have rm392 : ee.length < (us ++ us).length := (Nat.lt_of_succ_lt hin)
     have in392 := inb_of (j := (Int32.ofNat ee.length)) As391 (inpad (n := (us ++ us).length) rm392 (len2k hl))
     obtain ⟨T392, h392, X392, e392, W392, st392⟩ := stB XJ hx hZ eJ Ar391 (j := (Int32.ofNat ee.length)) in392 (g := (mkF m 117 #[vi 0, vr xt, vi 1, .val (.int (Int32.ofNat (ee ++ [bb]).length)), vr t372, vr xt, .val (.int (Int32.ofNat us.length)), .val (.int (Int32.ofNat dd.length)), vi bb] [(.int bb), (.int (Int32.ofNat ee.length)), (.ref t372)])) rfl rfl (hb hby d42_46_117)
     have V392 : Arv Z h392 t372 kt372 .byte (Int32.ofNat (us ++ us).length) (pad (us ++ us).length (ee ++ [bb])) (.int 0) := by
      have q := Arv.set Ar391 Aq391 As391 An391 Ah391 Ag391 (fits_nar_byte _) W392 ee.length (nl (Nat.le_trans (Nat.le_of_lt rm392) (len2k hl))) (by rw [pad_len (Nat.le_of_lt rm392)]; exact rm392)
      rw [hbb, pad_set rm392] at q; exact q
     have K392 : Keep h0 h392 [] := KJ.wr W392 (Or.inr sz372)
     have O392 : Old Z n0 h392 := OJ.wr W392 ge372
     have N392 := Fr.snoc X392 NJ ge372
     refine Go.st st392 ?_
     show Go p.tables e below Kx _ (mkF m 118 _ [])
     refine s_iinc (pc' := 121) (Ls' := #[vi 0, vr xt, vi 1, .val (.int (Int32.ofNat (ee ++ [bb]).length)), vr t372, vr xt, .val (.int (Int32.ofNat us.length)), .val (.int (Int32.ofNat (dd ++ [bb]).length)), vi bb]) (z := (Int32.ofNat (dd ++ [bb]).length)) X392.here hx (hb hby d42_46_118) rfl rfl (lsucc _ bb) rfl ?_
     refine s_goto (pc' := 49) X392.here hx (hb hby d42_46_121) (by decide) (by decide) ?_
     exact ih _ _ _ _ _ _ X392 N392 e392 K392 O392 (app_mid hs) (enc_n hc386 he) V392 (Or.inr ⟨_, rfl⟩)
  exact J us [] [] _ _ _ _ X372 N372 rfl K372 O372 rfl rfl q1_372 (Or.inl rfl)
theorem pd_38 : parseMethodDescriptor "(B[BZ)[B" = some ⟨[.byte, (.array .byte), .boolean], some (.array .byte)⟩ := by decide +kernel
theorem d42_18_10 : decode jdk_42_method_18_code 10 = .ok (.invokestatic 252, 3) := by decide +kernel
theorem d42_18_13 : decode jdk_42_method_18_code 13 = .ok (.areturn, 1) := by decide +kernel
def QGen (Z : State) (xt u8 : Addr) (kt : ClassId) (us : List Int32) (h0 : Heap) (n0 : Nat) (v : Option Value) (h : Heap) (L : List Loc) : Prop := ∃ (t : Addr) (k : ClassId), v = some (.ref t) ∧ Fr n0 L ∧ Keep h0 h [] ∧ h0.size ≤ t ∧ Arv Z h t k .byte (Int32.ofNat (enc us).length) ((enc us).map Value.int) (.int 0)
theorem rmGen (l : Launch) (Z : State) (a0 : Array Value) (hw : ∀ d ∈ tables_1, d.before a0 Z = true) (ws : List Jvm.Cond) (xt u8 : Addr) (kt : ClassId) (us : List Int32) (h0 : Heap) (n0 : Nat) (X00 : Old Z n0 h0) (SU : Sta Z Z.heap "sun/nio/cs/UTF_8" "INSTANCE" "Lsun/nio/cs/UTF_8;" (.ref u8)) (Bxt : Exa Z h0 xt "[B") (Axt : Arv Z h0 xt kt .byte (Int32.ofNat us.length) (us.map Value.int) (.int 0)) (hl : us.length < 16) (hbt : ∀ b ∈ us, b.toInt8.toInt32 = b) (hen : (enc us).length < (us ++ us).length) :
  MetFree l yN24 (head1 (Jvm.Cond.code yN24 jdk_42_method_18_code 3 (some (.array .byte)) :: ws) ({ frames := 3, cells := 2, slots := 60, locals := 52 } : Room)) (fun aa U => aa = #[(.ref u8), (.int 0), (.ref xt)] ∧ Z.Warmed39 U.vm ∧ U.heap = h0) (fun _ _ _ _ _ => True) (fun _ U o U' => ∃ v L, o = .returned v ∧ QGen Z xt u8 kt us h0 n0 v U'.heap L ∧ FrameEnd U o U' L ({ frames := 3, cells := 2, slots := 60, locals := 52 } : Room).cells ({ frames := 3, cells := 2, slots := 60, locals := 52 } : Room).slots) := by
 refine MetFree.of_bodySF (plainFor_of_name pn_3) hisR ?_
 intro p e s m args below meth c s₁ Bd hml0 hP hK
 obtain ⟨rfl, hZ, hh⟩ := hP
 have hx := Bd.exec
 have hby := Bd.bytes
 have hml : c.maxLocals = 3 := hml0
 have hown : s.vm.findClass "java/lang/String" = some m.cls := findClass_of_methodNamed Bd.named
 have hnm := (name_of_methodNamed Bd.named Bd.method).1
 have X0 : Stand p l e ({ frames := 3, cells := 2, slots := 60, locals := 52 } : Room) s m #[(.ref u8), (.int 0), (.ref xt)] below meth c s₁ [] 0 0 := Stand.of_body Bd
 have e0 : s₁.heap = h0 := by rw [← hh, Bd.state]; rfl
 have N0 := Fr.nil n0
 have K0 := Keep.refl h0 []
 have ef : entryFrame m #[(.ref u8), (.int 0), (.ref xt)] 3 = mkF m 0 #[vr u8, vi 0, vr xt] [] := by first | (simp [entryFrame, mkF, argsToLocals, Value.category]; done) | rfl
 rw [ef]
 refine fin_of fun Kx hF => ?_
 show Go p.tables e below Kx _ (mkF m 0 _ [])
 refine s_aloadN (pc' := 1) X0.here hx (hb hby d42_18_0) rfl rfl rfl ?_
 obtain ⟨T360, X360, e360, st360⟩ := getS2 X0 hx hZ hown (host := "") (Or.inl (hv hw 267 rfl)) Via.refl e0 (SU.ext X00.2) (g := (mkF m 1 #[vr u8, vi 0, vr xt] [(.ref u8)])) rfl (hb hby d42_18_1)
 refine Go.st st360 ?_
 show Go p.tables e below Kx _ (mkF m 4 _ [(.ref u8), (.ref u8)])
 refine Go.st (fun _ r => Jvm.RoadKit.acmp (g := (mkF m 4 #[vr u8, vi 0, vr xt] [(.ref u8), (.ref u8)])) X360 hx rfl rfl rfl (pc0 := 4) (pc' := 7) (same := true) rfl (hb hby d42_18_4) rfl (decide_eq_true rfl) (by decide) (by decide) r) ?_
 show Go p.tables e below Kx _ (mkF m 7 _ [])
 refine s_iloadN (pc' := 8) X360.here hx (hb hby d42_18_7) rfl rfl ?_
 refine s_aloadN (pc' := 9) X360.here hx (hb hby d42_18_8) rfl rfl rfl ?_
 refine s_iconst (pc' := 10) (v := 1) X360.here hx (hb hby d42_18_9) rfl rfl ?_
 obtain ⟨_, T393, L393, X393, hQ393, st393⟩ := kS X360 hx hZ (y := yN25) hown (hv hw 269 rfl) (hv hw 270 rfl) (hv hw 8 rfl) (hv hw 271 rfl) (by decide) (rmGu8 l Z a0 hw [] xt kt us h0 n0 X00 Bxt Axt hl hbt hen) e360 (W := 0) (g := (mkF m 10 #[vr u8, vi 0, vr xt] [(.int 1), (.ref xt), (.int 0)])) rfl (by rw [hml]; rfl) (argsL := [(.int 0), (.ref xt), (.int 1)]) (rest := []) (lenOf pd_38 rfl) rfl (by exact Nat.le_of_eq rfl) (hb hby d42_18_10) rfl (nb rfl) (nb rfl) (nb rfl) (nb rfl)
 obtain ⟨t393, kt393, rfl, Nq393, Kq393, le393, q1_393⟩ := hQ393
 have sz393 : h0.size ≤ t393 := Nat.le_trans K0.1 le393
 have ge393 : n0 ≤ t393 := Nat.le_trans (X00.1 ▸ X00.2.1) le393
 have N393 := Fr.app N0 Nq393
 have K393 : Keep h0 T393.heap [] := K0.trans Kq393 all0
 have O393 : Old Z n0 T393.heap := X00.keep Kq393 all0
 refine Go.st st393 ?_
 show Go p.tables e below Kx _ (mkF m 13 _ [(.ref t393)])
 obtain ⟨fs, hr, hrun, hended, hW, hsame⟩ := X393.leave (v := (some (.ref t393))) (fun h => by rw [Bd.returns] at h; cases h)
 refine Go.fin (retOut X393 hx Bd.returns rfl (Or.inr (Or.inr (Or.inr (Or.inr ⟨rfl, rfl, rfl⟩)))) (hb hby d42_18_13) hr) (hF _ _ hrun hended ⟨_, _, rfl, ?_, ⟨_, rfl⟩, hW, hsame.mono (by decide) (by decide)⟩)
 ·
  show QGen Z xt u8 kt us h0 n0 ((some (.ref t393)) : Option Value) T393.heap _
  skip
  exact ⟨_, _, rfl, N393, K393, sz393, q1_393⟩
theorem pd_39 : parseMethodDescriptor "(Ljava/nio/charset/Charset;B[B)[B" = some ⟨[(.object "java/nio/charset/Charset"), .byte, (.array .byte)], some (.array .byte)⟩ := by decide +kernel
theorem d42_64_21 : decode jdk_42_method_64_code 21 = .ok (.invokestatic 535, 3) := by decide +kernel
theorem d42_64_24 : decode jdk_42_method_64_code 24 = .ok (.areturn, 1) := by decide +kernel
def QGgU (Z : State) (xy yb u8 : Addr) (ky : ClassId) (us : List Int32) (h0 : Heap) (n0 : Nat) (v : Option Value) (h : Heap) (L : List Loc) : Prop := ∃ (t : Addr) (k : ClassId), v = some (.ref t) ∧ Fr n0 L ∧ Keep h0 h [] ∧ h0.size ≤ t ∧ Arv Z h t k .byte (Int32.ofNat (enc us).length) ((enc us).map Value.int) (.int 0)
theorem rmGgU (l : Launch) (Z : State) (a0 : Array Value) (hw : ∀ d ∈ tables_1, d.before a0 Z = true) (ws : List Jvm.Cond) (xy yb u8 : Addr) (ky : ClassId) (us : List Int32) (h0 : Heap) (n0 : Nat) (X00 : Old Z n0 h0) (G1 : Int32) (S1 : Sta Z Z.heap "java/lang/String" "COMPACT_STRINGS" "Z" (.int G1)) (P1 : ¬ G1 = 0) (SU : Sta Z Z.heap "sun/nio/cs/UTF_8" "INSTANCE" "Lsun/nio/cs/UTF_8;" (.ref u8)) (Exy : Exa Z h0 xy "java/lang/String") (Cxy : Fld Z h0 xy "java/lang/String" "coder" "B" (.int 0)) (Vxy : Fld Z h0 xy "java/lang/String" "value" "[B" (.ref yb)) (Axy : Arv Z h0 yb ky .byte (Int32.ofNat us.length) (us.map Value.int) (.int 0)) (Byb : Exa Z h0 yb "[B") (hl : us.length < 16) (hbt : ∀ b ∈ us, b.toInt8.toInt32 = b) (hen : (enc us).length < (us ++ us).length) :
  MetFree l yN27 (head1 (Jvm.Cond.code yN27 jdk_42_method_64_code 2 (some (.array .byte)) :: ws) ({ frames := 4, cells := 2, slots := 60, locals := 66 } : Room)) (fun aa U => aa = #[(.ref xy), (.ref u8)] ∧ Z.Warmed39 U.vm ∧ U.heap = h0) (fun _ _ _ _ _ => True) (fun _ U o U' => ∃ v L, o = .returned v ∧ QGgU Z xy yb u8 ky us h0 n0 v U'.heap L ∧ FrameEnd U o U' L ({ frames := 4, cells := 2, slots := 60, locals := 66 } : Room).cells ({ frames := 4, cells := 2, slots := 60, locals := 66 } : Room).slots) := by
 refine MetFree.of_bodySF (plainFor_of_name pn_3) hisR ?_
 intro p e s m args below meth c s₁ Bd hml0 hP hK
 obtain ⟨rfl, hZ, hh⟩ := hP
 have hx := Bd.exec
 have hby := Bd.bytes
 have hml : c.maxLocals = 2 := hml0
 have hown : s.vm.findClass "java/lang/String" = some m.cls := findClass_of_methodNamed Bd.named
 have hnm := (name_of_methodNamed Bd.named Bd.method).1
 have X0 : Stand p l e ({ frames := 4, cells := 2, slots := 60, locals := 66 } : Room) s m #[(.ref xy), (.ref u8)] below meth c s₁ [] 0 0 := Stand.of_body Bd
 have e0 : s₁.heap = h0 := by rw [← hh, Bd.state]; rfl
 have N0 := Fr.nil n0
 have K0 := Keep.refl h0 []
 have ef : entryFrame m #[(.ref xy), (.ref u8)] 2 = mkF m 0 #[vr xy, vr u8] [] := by first | (simp [entryFrame, mkF, argsToLocals, Value.category]; done) | rfl
 rw [ef]
 refine fin_of fun Kx hF => ?_
 show Go p.tables e below Kx _ (mkF m 0 _ [])
 refine s_aloadN (pc' := 1) X0.here hx (hb hby d42_64_0) rfl rfl rfl ?_
 refine s_ifnonnullY (pc' := 12) X0.here hx (hb hby d42_64_1) (by decide) (by decide) ?_
 refine s_aloadN (pc' := 13) X0.here hx (hb hby d42_64_12) rfl rfl rfl ?_
 refine s_aloadN (pc' := 14) X0.here hx (hb hby d42_64_13) rfl rfl rfl ?_
 obtain ⟨_, T358, L358, X358, hQ358, st358⟩ := kV X0 hx hZ (y := yN23) hown (hv hw 70 rfl) (hv hw 71 rfl) (notFace_of_selects (args := #[]) (mvT hZ (hv hw 73 rfl))) (hv hw 73 rfl) (hv hw 72 rfl) (hv hw 8 rfl) (hv hw 74 rfl) (by decide) (rmKc l Z a0 hw [] xy h0 n0 X00 G1 S1 P1 Cxy) e0 Exy (W := 1) (g := (mkF m 14 #[vr xy, vr u8] [(.ref xy), (.ref u8)])) rfl (by rw [hml]; rfl) (argsL := []) (rest := [(.ref u8)]) (lenOf pd_5 rfl) rfl (by exact Nat.le_of_eq rfl) (hb hby d42_64_14) rfl (nb rfl) (nb rfl) (nb rfl) (nb rfl)
 obtain ⟨rfl, Nq358, hE358⟩ := hQ358
 have N358 := Fr.app N0 Nq358
 refine Go.tr st358 ?_
 show Go p.tables e below Kx _ (mkF m 17 _ [(.int 0), (.ref u8)])
 refine s_aloadN (pc' := 18) X358.here hx (hb hby d42_64_17) rfl rfl rfl ?_
 obtain ⟨T359, X359, e359, st359⟩ := getF X358 hx hZ hown (host := "") (Or.inl (hv hw 34 rfl)) Via.refl hE358 Vxy (g := (mkF m 18 #[vr xy, vr u8] [(.ref xy), (.int 0), (.ref u8)])) rfl rfl (hb hby d42_64_18)
 refine Go.st st359 ?_
 show Go p.tables e below Kx _ (mkF m 21 _ [(.ref yb), (.int 0), (.ref u8)])
 obtain ⟨_, T394, L394, X394, hQ394, st394⟩ := kS X359 hx hZ (y := yN24) hown (hv hw 264 rfl) (hv hw 265 rfl) (hv hw 8 rfl) (hv hw 266 rfl) (by decide) (rmGen l Z a0 hw [] yb u8 ky us h0 n0 X00 SU Byb Axy hl hbt hen) e359 (W := 0) (g := (mkF m 21 #[vr xy, vr u8] [(.ref yb), (.int 0), (.ref u8)])) rfl (by rw [hml]; rfl) (argsL := [(.ref u8), (.int 0), (.ref yb)]) (rest := []) (lenOf pd_39 rfl) rfl (by exact Nat.le_of_eq rfl) (hb hby d42_64_21) rfl (nb rfl) (nb rfl) (nb rfl) (nb rfl)
 obtain ⟨t394, kt394, rfl, Nq394, Kq394, le394, q1_394⟩ := hQ394
 have sz394 : h0.size ≤ t394 := Nat.le_trans K0.1 le394
 have ge394 : n0 ≤ t394 := Nat.le_trans (X00.1 ▸ X00.2.1) le394
 have N394 := Fr.app N358 Nq394
 have K394 : Keep h0 T394.heap [] := K0.trans Kq394 all0
 have O394 : Old Z n0 T394.heap := X00.keep Kq394 all0
 refine Go.st st394 ?_
 show Go p.tables e below Kx _ (mkF m 24 _ [(.ref t394)])
 obtain ⟨fs, hr, hrun, hended, hW, hsame⟩ := X394.leave (v := (some (.ref t394))) (fun h => by rw [Bd.returns] at h; cases h)
 refine Go.fin (retOut X394 hx Bd.returns rfl (Or.inr (Or.inr (Or.inr (Or.inr ⟨rfl, rfl, rfl⟩)))) (hb hby d42_64_24) hr) (hF _ _ hrun hended ⟨_, _, rfl, ?_, ⟨_, rfl⟩, hW, hsame.mono (by decide) (by decide)⟩)
 ·
  show QGgU Z xy yb u8 ky us h0 n0 ((some (.ref t394)) : Option Value) T394.heap _
  skip
  exact ⟨_, _, rfl, N394, K394, sz394, q1_394⟩
theorem pd_40 : parseMethodDescriptor "(Ljava/nio/charset/Charset;)[B" = some ⟨[(.object "java/nio/charset/Charset")], some (.array .byte)⟩ := by decide +kernel
theorem p15_5_32 : decode prog_15_method_5_code 32 = .ok (.invokevirtual 86, 3) := by decide +kernel
theorem p15_5_35 : decode prog_15_method_5_code 35 = .ok (.areturn, 1) := by decide +kernel
def QDa (Z : State) (xd yu yp u8 : Addr) (bu bp : Nat) (cu cp : List Int32) (h0 : Heap) (n0 : Nat) (v : Option Value) (h : Heap) (L : List Loc) : Prop := ∃ (t : Addr) (k : ClassId), v = some (.ref t) ∧ Fr n0 L ∧ Keep h0 h [] ∧ h0.size ≤ t ∧ Arv Z h t k .byte (Int32.ofNat (enc (((([] : List Int32) ++ (i8s cu)) ++ [(58 : Int32)]) ++ (i8s cp))).length) ((enc (((([] : List Int32) ++ (i8s cu)) ++ [(58 : Int32)]) ++ (i8s cp))).map Value.int) (.int 0)
theorem rmDa (l : Launch) (Z : State) (a0 : Array Value) (hw : ∀ d ∈ tables_1, d.before a0 Z = true) (ws : List Jvm.Cond) (xd yu yp u8 : Addr) (bu bp : Nat) (cu cp : List Int32) (h0 : Heap) (n0 : Nat) (X00 : Old Z n0 h0) (hEL : EW Z a0 consts_1) (wS : ∀ a ∈ Bundle.stringAtoms, a.before a0 Z = true) (G1 : Int32) (S1 : Sta Z Z.heap "java/lang/String" "COMPACT_STRINGS" "Z" (.int G1)) (P1 : ¬ G1 = 0) (SU : Sta Z Z.heap "sun/nio/cs/UTF_8" "INSTANCE" "Lsun/nio/cs/UTF_8;" (.ref u8)) (SC : Sta Z Z.heap "java/nio/charset/StandardCharsets" "UTF_8" "Ljava/nio/charset/Charset;" (.ref u8)) (Exd : Exa Z h0 xd "com/example/turnlock/turnlock/session/DigestCredentials") (F1 : Fld Z h0 xd "com/example/turnlock/turnlock/session/DigestCredentials" "user" "Ljava/lang/String;" (.ref yu)) (F2 : Fld Z h0 xd "com/example/turnlock/turnlock/session/DigestCredentials" "password" "Ljava/lang/String;" (.ref yp)) (TU : Str Z h0 bu yu cu) (TP : Str Z h0 bp yp cp) (hcl : cu.length + cp.length < 15) :
  MetFree l yN1 (head1 (Jvm.Cond.code yN1 prog_15_method_5_code 1 (some (.array .byte)) :: ws) ({ frames := 6, cells := 8, slots := 120, locals := 91 } : Room)) (fun aa U => aa = #[(.ref xd)] ∧ Z.Warmed39 U.vm ∧ U.heap = h0 ∧ CHv Z consts_1 U.vm h0) (fun _ _ _ _ _ => True) (fun _ U o U' => ∃ v L, o = .returned v ∧ QDa Z xd yu yp u8 bu bp cu cp h0 n0 v U'.heap L ∧ CHr Z consts_1 U.vm U.heap U'.vm U'.heap ∧ ReturnedEndW U o U' L ({ frames := 6, cells := 8, slots := 120, locals := 91 } : Room).cells ({ frames := 6, cells := 8, slots := 120, locals := 91 } : Room).slots) := by
 refine MetFree.of_bodySF (plainFor_of_name pn_1) hisR ?_
 intro p e s m args below meth c s₁ Bd hml0 hP hK
 obtain ⟨rfl, hZ, hh, H0⟩ := hP
 have hx := Bd.exec
 have hby := Bd.bytes
 have hml : c.maxLocals = 1 := hml0
 have hown : s.vm.findClass "com/example/turnlock/turnlock/session/DigestCredentials" = some m.cls := findClass_of_methodNamed Bd.named
 have hnm := (name_of_methodNamed Bd.named Bd.method).1
 have X0 : Stand p l e ({ frames := 6, cells := 8, slots := 120, locals := 91 } : Room) (s.setVm s.vm) m #[(.ref xd)] below meth c s₁ [] 0 0 := Stand.of_body Bd
 have e0 : s₁.heap = h0 := by rw [← hh, Bd.state]; rfl
 have N0 := Fr.nil n0
 have K0 := Keep.refl h0 []
 have hS0 : s.Since s.vm h0.size := (State.WarmedH.refl s).since _
 have hk0 := Nat.le_refl h0.size
 have C0 : CHr Z consts_1 s.vm h0 s.vm h0 := CHr.refl H0
 have ef : entryFrame m #[(.ref xd)] 1 = mkF m 0 #[vr xd] [] := by first | (simp [entryFrame, mkF, argsToLocals, Value.category]; done) | rfl
 rw [ef]
 refine fin_of fun Kx hF => ?_
 show Go p.tables e below Kx _ (mkF m 0 _ [])
 obtain ⟨-, sEyu, sCyu, ⟨sbyu, skyu, -, sFyu, sAyu⟩, spyu, slyu⟩ := id TU
 have sVyu : Arv Z h0 sbyu skyu .byte (Int32.ofNat (i8s cu).length) ((i8s cu).map Value.int) (.int 0) := i8arv sAyu
 obtain ⟨-, sEyp, sCyp, ⟨sbyp, skyp, -, sFyp, sAyp⟩, spyp, slyp⟩ := id TP
 have sVyp : Arv Z h0 sbyp skyp .byte (Int32.ofNat (i8s cp).length) ((i8s cp).map Value.int) (.int 0) := i8arv sAyp
 have k1 : ([] : List Int32).length + (i8s cu).length ≤ 16 := by simp only [List.length_append, List.length_nil, List.length_cons, i8s_len]; omega
 have k2 : (([] : List Int32) ++ (i8s cu)).length + [(58 : Int32)].length ≤ 16 := by simp only [List.length_append, List.length_nil, List.length_cons, i8s_len]; omega
 have k3 : ((([] : List Int32) ++ (i8s cu)) ++ [(58 : Int32)]).length + (i8s cp).length ≤ 16 := by simp only [List.length_append, List.length_nil, List.length_cons, i8s_len]; omega
 have k4 : (((([] : List Int32) ++ (i8s cu)) ++ [(58 : Int32)]) ++ (i8s cp)).length < 16 := by simp only [List.length_append, List.length_nil, List.length_cons, i8s_len]; omega
 have k5 : ∀ b ∈ (((([] : List Int32) ++ (i8s cu)) ++ [(58 : Int32)]) ++ (i8s cp)), b.toInt8.toInt32 = b := by
  intro b hb
  simp only [List.mem_append, List.mem_singleton, List.not_mem_nil, false_or] at hb
  rcases hb with (hb | rfl) | hb
  ·
   exact i8s_bt b hb
  ·
   decide
  ·
   exact i8s_bt b hb
 have k6 : (enc (((([] : List Int32) ++ (i8s cu)) ++ [(58 : Int32)]) ++ (i8s cp))).length < ((((([] : List Int32) ++ (i8s cu)) ++ [(58 : Int32)]) ++ (i8s cp)) ++ (((([] : List Int32) ++ (i8s cu)) ++ [(58 : Int32)]) ++ (i8s cp))).length := enc_lt (by simp)
 show Go p.tables e below Kx _ (mkF m 0 _ [])
 obtain ⟨T237, h237, X237, e237, E237, A237, D237, -, st237⟩ := newO X0 hx hZ hown (hv hw 172 rfl) (hv hw 173 rfl) (hv hw 174 rfl) e0 (g := (mkF m 0 #[vr xd] [])) rfl (hb hby p15_5_0) (by decide) (by decide)
 obtain ⟨b237, g237⟩ : ∃ z, z = h0.size := ⟨_, rfl⟩
 rw [← g237] at A237 D237 st237
 have sz237 : h0.size ≤ b237 := Nat.le_trans K0.1 (Nat.le_of_eq g237.symm)
 have ge237 : n0 ≤ b237 := Nat.le_trans (X00.1 ▸ X00.2.1) (Nat.le_of_eq g237.symm)
 have sn237 : Safe Z consts_1 s.vm h0 b237 := Safe.new (Nat.le_of_eq g237.symm)
 have K237 : Keep h0 h237 [] := K0.ext E237
 have O237 : Old Z n0 h237 := X00.ext E237
 have sf238 : Safe Z consts_1 s.vm h237 b237 := (Safe.ext E237 H0 sn237)
 have H237 : CHv Z consts_1 s.vm h237 := H0.ext E237
 have C237 : CHr Z consts_1 s.vm h0 s.vm h237 := C0.trans (CHr.ext E237 H0)
 have hk237 := Nat.le_trans hk0 E237.1
 have F237_value : Fld Z h237 b237 "java/lang/AbstractStringBuilder" "value" "[B" .null := D237 (Or.inl (hv hw 187 rfl)) (ty := (.array .byte)) (by decide)
 have F237_coder : Fld Z h237 b237 "java/lang/AbstractStringBuilder" "coder" "B" (.int 0) := D237 (Or.inl (hv hw 189 rfl)) (ty := .byte) (by decide)
 have F237_count : Fld Z h237 b237 "java/lang/AbstractStringBuilder" "count" "I" (.int 0) := D237 (Or.inl (hv hw 202 rfl)) (ty := .int) (by decide)
 refine Go.st st237 ?_
 show Go p.tables e below Kx _ (mkF m 3 _ [(.ref b237)])
 refine s_dup (pc' := 4) X237.here hx (hb hby p15_5_3) rfl rfl ?_
 obtain ⟨_, T253, L253, X253, hQ253, st253⟩ := kI X237 hx hZ (y := yN36) rfl hown (hv hw 175 rfl) (hv hw 176 rfl) (hv hw 174 rfl) (hv hw 177 rfl) (by decide) (rmKn1 l Z a0 hw [] b237 h237 n0 O237 G1 S1 P1 ge237 A237 F237_value F237_coder F237_count) e237 (a := b237) (W := 1) (g := (mkF m 4 #[vr xd] [(.ref b237), (.ref b237)])) rfl (by rw [hml]; rfl) (argsL := []) (rest := [(.ref b237)]) (lenOf pd_25 rfl) rfl (by exact Nat.le_of_eq rfl) (hb hby p15_5_4) rfl (nb rfl) (nb rfl) (nb rfl) (nb rfl)
 obtain ⟨rfl, Nq253, Kq253, q1_253, t253, kt253, le253, q2_253, q3_253, q4_253, q5_253⟩ := hQ253
 have sz253 : h0.size ≤ t253 := Nat.le_trans K237.1 le253
 have ge253 : n0 ≤ t253 := Nat.le_trans (O237.1 ▸ O237.2.1) le253
 have sn253 : Safe Z consts_1 s.vm h237 t253 := Safe.new le253
 have N253 := Fr.app N0 Nq253
 have K253 : Keep h0 T253.heap [] := K237.trans Kq253 (allS (P := fun zz => zz ∈ [] ∨ h0.size ≤ zz) (Or.inr sz237) all0)
 have O253 : Old Z n0 T253.heap := O237.keep Kq253 (allS ge237 all0)
 have sf254 : Safe Z consts_1 s.vm T253.heap b237 := (Safe.keep Kq253 (sfS sf238 sf0) H237 sf238)
 have sf255 : Safe Z consts_1 s.vm T253.heap t253 := (Safe.keep Kq253 (sfS sf238 sf0) H237 sn253)
 have H253 : CHv Z consts_1 s.vm T253.heap := H237.keep Kq253 (sfS sf238 sf0)
 have C253 : CHr Z consts_1 s.vm h0 s.vm T253.heap := C237.trans (CHr.keep Kq253 (sfS sf238 sf0) H237)
 have hk253 := Nat.le_trans hk237 Kq253.1
 refine Go.tr st253 ?_
 show Go p.tables e below Kx _ (mkF m 7 _ [(.ref b237)])
 have V256 : Arv Z T253.heap t253 kt253 .byte 16 (pad 16 ([] : List Int32)) (.int 0) := q5_253
 have F256 : Fld Z T253.heap b237 "java/lang/AbstractStringBuilder" "count" "I" (.int (Int32.ofNat ([] : List Int32).length)) := q4_253
 refine s_aloadN (pc' := 8) X253.here hx (hb hby p15_5_7) rfl rfl rfl ?_
 have f257 : Fld Z T253.heap xd "com/example/turnlock/turnlock/session/DigestCredentials" "user" "Ljava/lang/String;" (.ref yu) := ((F1.ext E237).keep Kq253 (ninS (Nat.ne_of_lt (Nat.lt_of_lt_of_le Exd.lt (Nat.le_of_eq g237.symm))) nin0))
 obtain ⟨T258, X258, e258, st258⟩ := getF X253 hx hZ hown (host := "") (Or.inl (hv hw 149 rfl)) Via.refl rfl f257 (g := (mkF m 8 #[vr xd] [(.ref xd), (.ref b237)])) rfl rfl (hb hby p15_5_8)
 refine Go.st st258 ?_
 show Go p.tables e below Kx _ (mkF m 11 _ [(.ref yu), (.ref b237)])
 have f288 : Exa Z T253.heap yu "java/lang/String" := ((sEyu.ext E237).keep Kq253)
 have f289 : Fld Z T253.heap yu "java/lang/String" "coder" "B" (.int 0) := ((sCyu.ext E237).keep Kq253 (ninS (Nat.ne_of_lt (Nat.lt_of_lt_of_le sEyu.lt (Nat.le_of_eq g237.symm))) nin0))
 have f290 : Fld Z T253.heap yu "java/lang/String" "value" "[B" (.ref sbyu) := ((sFyu.ext E237).keep Kq253 (ninS (Nat.ne_of_lt (Nat.lt_of_lt_of_le sEyu.lt (Nat.le_of_eq g237.symm))) nin0))
 have f291 : Arv Z T253.heap sbyu skyu .byte (Int32.ofNat (i8s cu).length) ((i8s cu).map Value.int) (.int 0) := ((sVyu.ext E237).keep Kq253 (ninS (Nat.ne_of_lt (Nat.lt_of_lt_of_le sVyu.lt (Nat.le_of_eq g237.symm))) nin0))
 obtain ⟨_, T292, L292, X292, hQ292, st292⟩ := kV X258 hx hZ (y := yN37) hown (hv hw 190 rfl) (hv hw 191 rfl) (notFace_of_selects (args := #[]) (mvT hZ (hv hw 193 rfl))) (hv hw 193 rfl) (hv hw 192 rfl) (hv hw 174 rfl) (hv hw 194 rfl) (by decide) (rmGs l Z a0 hw [] b237 t253 yu sbyu _ _ ([] : List Int32) (i8s cu) T253.heap n0 O253 G1 S1 P1 q1_253 q2_253 q3_253 F256 V256 f288 f289 f290 f291 ge237 ge253 (Nat.ne_of_lt (Nat.lt_of_lt_of_le A237.lt le253)) k1) e258 q1_253 (W := 0) (g := (mkF m 11 #[vr xd] [(.ref yu), (.ref b237)])) rfl (by rw [hml]; rfl) (argsL := [(.ref yu)]) (rest := []) (lenOf pd_30 rfl) rfl (by exact Nat.le_of_eq rfl) (hb hby p15_5_11) rfl (nb rfl) (nb rfl) (nb rfl) (nb rfl)
 obtain ⟨rfl, Nq292, Kq292, q1_292, q2_292, q3_292, q4_292, q5_292⟩ := hQ292
 have N292 := Fr.app N253 Nq292
 have K292 : Keep h0 T292.heap [] := K253.trans Kq292 (allS (P := fun zz => zz ∈ [] ∨ h0.size ≤ zz) (Or.inr sz237) (allS (P := fun zz => zz ∈ [] ∨ h0.size ≤ zz) (Or.inr sz253) all0))
 have O292 : Old Z n0 T292.heap := O253.keep Kq292 (allS ge237 (allS ge253 all0))
 have sf293 : Safe Z consts_1 s.vm T292.heap b237 := (Safe.keep Kq292 (sfS sf254 (sfS sf255 sf0)) H253 sf254)
 have sf294 : Safe Z consts_1 s.vm T292.heap t253 := (Safe.keep Kq292 (sfS sf254 (sfS sf255 sf0)) H253 sf255)
 have H292 : CHv Z consts_1 s.vm T292.heap := H253.keep Kq292 (sfS sf254 (sfS sf255 sf0))
 have C292 : CHr Z consts_1 s.vm h0 s.vm T292.heap := C253.trans (CHr.keep Kq292 (sfS sf254 (sfS sf255 sf0)) H253)
 have hk292 := Nat.le_trans hk253 Kq292.1
 refine Go.tr st292 ?_
 show Go p.tables e below Kx _ (mkF m 14 _ [(.ref b237)])
 obtain ⟨a295, T295, h295, k1295, b295, k295, X295, e295, E295, hS295, hk295, hZ295, hown295, A295, FC295, FV295, V295, la295, lb295, Cr295, Lt295, sx295, st295⟩ := ldcCH X292 hx hZ hown (hv hw 225 rfl) wS rfl hS0 hk292 hEL (List.mem_of_getElem? (i := 3) rfl) H292 (vs := [(.int 58)]) (z := 1) (by decide) (by decide) (by decide) (g := (mkF m 14 #[vr xd] [(.ref b237)])) rfl (hb hby p15_5_14) (n := 4) (by decide) (by decide) (by decide) (by decide)
 have sf296 : Safe Z consts_1 T295.vm h295 b237 := Cr295.safe (Nat.lt_of_lt_of_le A237.lt (Nat.le_trans Kq253.1 Kq292.1)) sf293
 have sf297 : Safe Z consts_1 T295.vm h295 t253 := Cr295.safe (Nat.lt_of_lt_of_le q5_253.lt Kq292.1) sf294
 have C295 := C292.trans Cr295
 have K295 : Keep h0 h295 [] := K292.ext E295
 have O295 : Old Z n0 h295 := O292.ext E295
 refine Go.st st295 ?_
 show Go p.tables e below Kx _ (mkF m 16 _ [(.ref a295), (.ref b237)])
 have V298 : Arv Z h295 b295 k295 .byte (Int32.ofNat [(58 : Int32)].length) ([(58 : Int32)].map Value.int) (.int 0) := V295
 have f299 : Exa Z h295 b237 "java/lang/StringBuilder" := (q1_292.ext E295)
 have f300 : Fld Z h295 b237 "java/lang/AbstractStringBuilder" "value" "[B" (.ref t253) := (q2_292.ext E295)
 have f301 : Fld Z h295 b237 "java/lang/AbstractStringBuilder" "coder" "B" (.int 0) := (q3_292.ext E295)
 have f302 : Fld Z h295 b237 "java/lang/AbstractStringBuilder" "count" "I" (.int (Int32.ofNat (([] : List Int32) ++ (i8s cu)).length)) := (q4_292.ext E295)
 have f303 : Arv Z h295 t253 kt253 .byte 16 (pad 16 (([] : List Int32) ++ (i8s cu))) (.int 0) := (q5_292.ext E295)
 obtain ⟨_, T304, L304, X304, hQ304, st304⟩ := kV X295 hx hZ295 (y := yN37) hown295 (hv hw 190 rfl) (hv hw 191 rfl) (notFace_of_selects (args := #[]) (mvT hZ295 (hv hw 193 rfl))) (hv hw 193 rfl) (hv hw 192 rfl) (hv hw 174 rfl) (hv hw 194 rfl) (by decide) (rmGs l Z a0 hw [] b237 t253 a295 b295 _ _ (([] : List Int32) ++ (i8s cu)) [(58 : Int32)] h295 n0 O295 G1 S1 P1 f299 f300 f301 f302 f303 A295 FC295 FV295 V298 ge237 ge253 (Nat.ne_of_lt (Nat.lt_of_lt_of_le A237.lt le253)) k2) e295 f299 (W := 0) (g := (mkF m 16 #[vr xd] [(.ref a295), (.ref b237)])) rfl (by rw [hml]; rfl) (argsL := [(.ref a295)]) (rest := []) (lenOf pd_30 rfl) rfl (by exact Nat.le_of_eq rfl) (hb hby p15_5_16) rfl (nb rfl) (nb rfl) (nb rfl) (nb rfl)
 obtain ⟨rfl, Nq304, Kq304, q1_304, q2_304, q3_304, q4_304, q5_304⟩ := hQ304
 have N304 := Fr.app N292 Nq304
 have K304 : Keep h0 T304.heap [] := K295.trans Kq304 (allS (P := fun zz => zz ∈ [] ∨ h0.size ≤ zz) (Or.inr sz237) (allS (P := fun zz => zz ∈ [] ∨ h0.size ≤ zz) (Or.inr sz253) all0))
 have O304 : Old Z n0 T304.heap := O295.keep Kq304 (allS ge237 (allS ge253 all0))
 have sf305 : Safe Z consts_1 T295.vm T304.heap b237 := (Safe.keep Kq304 (sfS sf296 (sfS sf297 sf0)) Cr295.1 sf296)
 have sf306 : Safe Z consts_1 T295.vm T304.heap t253 := (Safe.keep Kq304 (sfS sf296 (sfS sf297 sf0)) Cr295.1 sf297)
 have H304 : CHv Z consts_1 T295.vm T304.heap := Cr295.1.keep Kq304 (sfS sf296 (sfS sf297 sf0))
 have C304 : CHr Z consts_1 s.vm h0 T295.vm T304.heap := C295.trans (CHr.keep Kq304 (sfS sf296 (sfS sf297 sf0)) Cr295.1)
 have hk304 := Nat.le_trans hk295 Kq304.1
 refine Go.tr st304 ?_
 show Go p.tables e below Kx _ (mkF m 19 _ [(.ref b237)])
 refine s_aloadN (pc' := 20) X304.here hx (hb hby p15_5_19) rfl rfl rfl ?_
 have f307 : Fld Z T304.heap xd "com/example/turnlock/turnlock/session/DigestCredentials" "password" "Ljava/lang/String;" (.ref yp) := (((((F2.ext E237).keep Kq253 (ninS (Nat.ne_of_lt (Nat.lt_of_lt_of_le Exd.lt (Nat.le_of_eq g237.symm))) nin0)).keep Kq292 (ninS (Nat.ne_of_lt (Nat.lt_of_lt_of_le Exd.lt (Nat.le_of_eq g237.symm))) (ninS (Nat.ne_of_lt (Nat.lt_of_lt_of_le (Nat.lt_of_lt_of_le Exd.lt E237.1) le253)) nin0))).ext E295).keep Kq304 (ninS (Nat.ne_of_lt (Nat.lt_of_lt_of_le Exd.lt (Nat.le_of_eq g237.symm))) (ninS (Nat.ne_of_lt (Nat.lt_of_lt_of_le (Nat.lt_of_lt_of_le Exd.lt E237.1) le253)) nin0)))
 obtain ⟨T308, X308, e308, st308⟩ := getF X304 hx hZ295 hown295 (host := "") (Or.inl (hv hw 151 rfl)) Via.refl rfl f307 (g := (mkF m 20 #[vr xd] [(.ref xd), (.ref b237)])) rfl rfl (hb hby p15_5_20)
 refine Go.st st308 ?_
 show Go p.tables e below Kx _ (mkF m 23 _ [(.ref yp), (.ref b237)])
 have f309 : Exa Z T304.heap yp "java/lang/String" := (((((sEyp.ext E237).keep Kq253).keep Kq292).ext E295).keep Kq304)
 have f310 : Fld Z T304.heap yp "java/lang/String" "coder" "B" (.int 0) := (((((sCyp.ext E237).keep Kq253 (ninS (Nat.ne_of_lt (Nat.lt_of_lt_of_le sEyp.lt (Nat.le_of_eq g237.symm))) nin0)).keep Kq292 (ninS (Nat.ne_of_lt (Nat.lt_of_lt_of_le sEyp.lt (Nat.le_of_eq g237.symm))) (ninS (Nat.ne_of_lt (Nat.lt_of_lt_of_le (Nat.lt_of_lt_of_le sEyp.lt E237.1) le253)) nin0))).ext E295).keep Kq304 (ninS (Nat.ne_of_lt (Nat.lt_of_lt_of_le sEyp.lt (Nat.le_of_eq g237.symm))) (ninS (Nat.ne_of_lt (Nat.lt_of_lt_of_le (Nat.lt_of_lt_of_le sEyp.lt E237.1) le253)) nin0)))
 have f311 : Fld Z T304.heap yp "java/lang/String" "value" "[B" (.ref sbyp) := (((((sFyp.ext E237).keep Kq253 (ninS (Nat.ne_of_lt (Nat.lt_of_lt_of_le sEyp.lt (Nat.le_of_eq g237.symm))) nin0)).keep Kq292 (ninS (Nat.ne_of_lt (Nat.lt_of_lt_of_le sEyp.lt (Nat.le_of_eq g237.symm))) (ninS (Nat.ne_of_lt (Nat.lt_of_lt_of_le (Nat.lt_of_lt_of_le sEyp.lt E237.1) le253)) nin0))).ext E295).keep Kq304 (ninS (Nat.ne_of_lt (Nat.lt_of_lt_of_le sEyp.lt (Nat.le_of_eq g237.symm))) (ninS (Nat.ne_of_lt (Nat.lt_of_lt_of_le (Nat.lt_of_lt_of_le sEyp.lt E237.1) le253)) nin0)))
 have f312 : Arv Z T304.heap sbyp skyp .byte (Int32.ofNat (i8s cp).length) ((i8s cp).map Value.int) (.int 0) := (((((sVyp.ext E237).keep Kq253 (ninS (Nat.ne_of_lt (Nat.lt_of_lt_of_le sVyp.lt (Nat.le_of_eq g237.symm))) nin0)).keep Kq292 (ninS (Nat.ne_of_lt (Nat.lt_of_lt_of_le sVyp.lt (Nat.le_of_eq g237.symm))) (ninS (Nat.ne_of_lt (Nat.lt_of_lt_of_le (Nat.lt_of_lt_of_le sVyp.lt E237.1) le253)) nin0))).ext E295).keep Kq304 (ninS (Nat.ne_of_lt (Nat.lt_of_lt_of_le sVyp.lt (Nat.le_of_eq g237.symm))) (ninS (Nat.ne_of_lt (Nat.lt_of_lt_of_le (Nat.lt_of_lt_of_le sVyp.lt E237.1) le253)) nin0)))
 obtain ⟨_, T313, L313, X313, hQ313, st313⟩ := kV X308 hx hZ295 (y := yN37) hown295 (hv hw 190 rfl) (hv hw 191 rfl) (notFace_of_selects (args := #[]) (mvT hZ295 (hv hw 193 rfl))) (hv hw 193 rfl) (hv hw 192 rfl) (hv hw 174 rfl) (hv hw 194 rfl) (by decide) (rmGs l Z a0 hw [] b237 t253 yp sbyp _ _ ((([] : List Int32) ++ (i8s cu)) ++ [(58 : Int32)]) (i8s cp) T304.heap n0 O304 G1 S1 P1 q1_304 q2_304 q3_304 q4_304 q5_304 f309 f310 f311 f312 ge237 ge253 (Nat.ne_of_lt (Nat.lt_of_lt_of_le A237.lt le253)) k3) e308 q1_304 (W := 0) (g := (mkF m 23 #[vr xd] [(.ref yp), (.ref b237)])) rfl (by rw [hml]; rfl) (argsL := [(.ref yp)]) (rest := []) (lenOf pd_30 rfl) rfl (by exact Nat.le_of_eq rfl) (hb hby p15_5_23) rfl (nb rfl) (nb rfl) (nb rfl) (nb rfl)
 obtain ⟨rfl, Nq313, Kq313, q1_313, q2_313, q3_313, q4_313, q5_313⟩ := hQ313
 have N313 := Fr.app N304 Nq313
 have K313 : Keep h0 T313.heap [] := K304.trans Kq313 (allS (P := fun zz => zz ∈ [] ∨ h0.size ≤ zz) (Or.inr sz237) (allS (P := fun zz => zz ∈ [] ∨ h0.size ≤ zz) (Or.inr sz253) all0))
 have O313 : Old Z n0 T313.heap := O304.keep Kq313 (allS ge237 (allS ge253 all0))
 have sf314 : Safe Z consts_1 T295.vm T313.heap b237 := (Safe.keep Kq313 (sfS sf305 (sfS sf306 sf0)) H304 sf305)
 have sf315 : Safe Z consts_1 T295.vm T313.heap t253 := (Safe.keep Kq313 (sfS sf305 (sfS sf306 sf0)) H304 sf306)
 have H313 : CHv Z consts_1 T295.vm T313.heap := H304.keep Kq313 (sfS sf305 (sfS sf306 sf0))
 have C313 : CHr Z consts_1 s.vm h0 T295.vm T313.heap := C304.trans (CHr.keep Kq313 (sfS sf305 (sfS sf306 sf0)) H304)
 have hk313 := Nat.le_trans hk304 Kq313.1
 refine Go.tr st313 ?_
 show Go p.tables e below Kx _ (mkF m 26 _ [(.ref b237)])
 obtain ⟨_, T352, L352, X352, hQ352, st352⟩ := kV X313 hx hZ295 (y := yN39) hown295 (hv hw 226 rfl) (hv hw 227 rfl) (notFace_of_selects (args := #[]) (mvT hZ295 (hv hw 229 rfl))) (hv hw 229 rfl) (hv hw 228 rfl) (hv hw 174 rfl) (hv hw 230 rfl) (by decide) (rmGts l Z a0 hw [] b237 t253 _ (((([] : List Int32) ++ (i8s cu)) ++ [(58 : Int32)]) ++ (i8s cp)) T313.heap n0 O313 G1 S1 P1 q1_313 q2_313 q3_313 q4_313 q5_313 k4) rfl q1_313 (W := 0) (g := (mkF m 26 #[vr xd] [(.ref b237)])) rfl (by rw [hml]; rfl) (argsL := []) (rest := []) (lenOf pd_22 rfl) rfl (by exact Nat.le_of_eq rfl) (hb hby p15_5_26) rfl (nb rfl) (nb rfl) (nb rfl) (nb rfl)
 obtain ⟨y352, t352, kt352, rfl, Nq352, Kq352, ly352, le352, q0_352, q1_352, q2_352, q3_352, q4_352⟩ := hQ352
 have sz352 : h0.size ≤ t352 := Nat.le_trans K313.1 le352
 have ge352 : n0 ≤ t352 := Nat.le_trans (O313.1 ▸ O313.2.1) le352
 have sn352 : Safe Z consts_1 T295.vm T313.heap t352 := Safe.new le352
 have sz352y : h0.size ≤ y352 := Nat.le_trans K313.1 ly352
 have ge352y : n0 ≤ y352 := Nat.le_trans (O313.1 ▸ O313.2.1) ly352
 have sn352y : Safe Z consts_1 T295.vm T313.heap y352 := Safe.new ly352
 have N352 := Fr.app N313 Nq352
 have K352 : Keep h0 T352.heap [] := K313.trans Kq352 all0
 have O352 : Old Z n0 T352.heap := O313.keep Kq352 all0
 have sf353 : Safe Z consts_1 T295.vm T352.heap b237 := (Safe.keep Kq352 sf0 H313 sf314)
 have sf354 : Safe Z consts_1 T295.vm T352.heap t253 := (Safe.keep Kq352 sf0 H313 sf315)
 have sf355 : Safe Z consts_1 T295.vm T352.heap t352 := (Safe.keep Kq352 sf0 H313 sn352)
 have sf356 : Safe Z consts_1 T295.vm T352.heap y352 := (Safe.keep Kq352 sf0 H313 sn352y)
 have H352 : CHv Z consts_1 T295.vm T352.heap := H313.keep Kq352 sf0
 have C352 : CHr Z consts_1 s.vm h0 T295.vm T352.heap := C313.trans (CHr.keep Kq352 sf0 H313)
 have hk352 := Nat.le_trans hk313 Kq352.1
 refine Go.tr st352 ?_
 show Go p.tables e below Kx _ (mkF m 29 _ [(.ref y352)])
 obtain ⟨T357, X357, e357, st357⟩ := getS2 X352 hx hZ295 hown295 (host := "") (Or.inl (hv hw 257 rfl)) Via.refl rfl (SC.ext O352.2) (g := (mkF m 29 #[vr xd] [(.ref y352)])) rfl (hb hby p15_5_29)
 refine Go.st st357 ?_
 show Go p.tables e below Kx _ (mkF m 32 _ [(.ref u8), (.ref y352)])
 obtain ⟨_, T395, L395, X395, hQ395, st395⟩ := kV X357 hx hZ295 (y := yN27) hown295 (hv hw 259 rfl) (hv hw 260 rfl) (notFace_of_selects (args := #[]) (mvT hZ295 (hv hw 262 rfl))) (hv hw 262 rfl) (hv hw 261 rfl) (hv hw 8 rfl) (hv hw 263 rfl) (by decide) (rmGgU l Z a0 hw [] y352 t352 u8 _ (((([] : List Int32) ++ (i8s cu)) ++ [(58 : Int32)]) ++ (i8s cp)) T352.heap n0 O352 G1 S1 P1 SU q1_352 q2_352 q3_352 q4_352 q0_352 k4 k5 k6) e357 q1_352 (W := 0) (g := (mkF m 32 #[vr xd] [(.ref u8), (.ref y352)])) rfl (by rw [hml]; rfl) (argsL := [(.ref u8)]) (rest := []) (lenOf pd_40 rfl) rfl (by exact Nat.le_of_eq rfl) (hb hby p15_5_32) rfl (nb rfl) (nb rfl) (nb rfl) (nb rfl)
 obtain ⟨t395, kt395, rfl, Nq395, Kq395, le395, q1_395⟩ := hQ395
 have sz395 : h0.size ≤ t395 := Nat.le_trans K352.1 le395
 have ge395 : n0 ≤ t395 := Nat.le_trans (O352.1 ▸ O352.2.1) le395
 have sn395 : Safe Z consts_1 T295.vm T352.heap t395 := Safe.new le395
 have N395 := Fr.app N352 Nq395
 have K395 : Keep h0 T395.heap [] := K352.trans Kq395 all0
 have O395 : Old Z n0 T395.heap := O352.keep Kq395 all0
 have sf396 : Safe Z consts_1 T295.vm T395.heap b237 := (Safe.keep Kq395 sf0 H352 sf353)
 have sf397 : Safe Z consts_1 T295.vm T395.heap t253 := (Safe.keep Kq395 sf0 H352 sf354)
 have sf398 : Safe Z consts_1 T295.vm T395.heap t352 := (Safe.keep Kq395 sf0 H352 sf355)
 have sf399 : Safe Z consts_1 T295.vm T395.heap y352 := (Safe.keep Kq395 sf0 H352 sf356)
 have sf400 : Safe Z consts_1 T295.vm T395.heap t395 := (Safe.keep Kq395 sf0 H352 sn395)
 have H395 : CHv Z consts_1 T295.vm T395.heap := H352.keep Kq395 sf0
 have C395 : CHr Z consts_1 s.vm h0 T295.vm T395.heap := C352.trans (CHr.keep Kq395 sf0 H352)
 have hk395 := Nat.le_trans hk352 Kq395.1
 refine Go.tr st395 ?_
 show Go p.tables e below Kx _ (mkF m 35 _ [(.ref t395)])
 obtain ⟨fs, hr, hrun, hended, hRW⟩ := X395.leaveW hS295 hk395 (v := (some (.ref t395))) (fun h => by rw [Bd.returns] at h; cases h)
 have hCx := C395.trans (CHv.at X395 hZ295 hEL H395)
 refine Go.fin (retOut X395 hx Bd.returns rfl (Or.inr (Or.inr (Or.inr (Or.inr ⟨rfl, rfl, rfl⟩)))) (hb hby p15_5_35) hr) (hF _ _ hrun hended ⟨_, _, rfl, ?_, ?_, hRW.1, hRW.2.1, hRW.2.2.1, hRW.2.2.2.mono (by decide) (by decide)⟩)
 ·
  show QDa Z xd yu yp u8 bu bp cu cp h0 n0 ((some (.ref t395)) : Option Value) T395.heap _
  skip
  exact ⟨_, _, rfl, N395, K395, sz395, q1_395⟩
 ·
  show CHr Z consts_1 s.vm s.heap T395.vm T395.heap
  rw [hh]; exact hCx
theorem d_m4_0 : decode method_4_code 0 = .ok (.iload_n 2, 1) := by decide +kernel
theorem d_m4_1 : decode method_4_code 1 = .ok (.iload_n 3, 1) := by decide +kernel
theorem d_m4_2 : decode method_4_code 2 = .ok (.if_icmp .ge 12, 3) := by decide +kernel
theorem d_m4_5 : decode method_4_code 5 = .ok (.aload_n 0, 1) := by decide +kernel
theorem d_m4_6 : decode method_4_code 6 = .ok (.iload_n 2, 1) := by decide +kernel
theorem d_m4_7 : decode method_4_code 7 = .ok (.baload, 1) := by decide +kernel
theorem d_m4_8 : decode method_4_code 8 = .ok (.aload_n 1, 1) := by decide +kernel
theorem d_m4_9 : decode method_4_code 9 = .ok (.iload_n 2, 1) := by decide +kernel
theorem d_m4_10 : decode method_4_code 10 = .ok (.baload, 1) := by decide +kernel
theorem d_m4_11 : decode method_4_code 11 = .ok (.if_icmp .ne 7, 3) := by decide +kernel
theorem d_m4_14 : decode method_4_code 14 = .ok (.iconst 1, 1) := by decide +kernel
theorem d_m4_15 : decode method_4_code 15 = .ok (.goto 4, 3) := by decide +kernel
theorem d_m4_19 : decode method_4_code 19 = .ok (.ireturn, 1) := by decide +kernel
def QDs (Z : State) (xg xe : Addr) (kg ke : ClassId) (X : List Int32) (ii : Int32) (h0 : Heap) (n0 : Nat) (v : Option Value) (h : Heap) (L : List Loc) : Prop := v = some (.int 1) ∧ Fr n0 L ∧ h = h0
theorem rmDs (l : Launch) (Z : State) (a0 : Array Value) (hw : ∀ d ∈ tables_1, d.before a0 Z = true) (ws : List Jvm.Cond) (xg xe : Addr) (kg ke : ClassId) (X : List Int32) (ii : Int32) (h0 : Heap) (n0 : Nat) (X00 : Old Z n0 h0) (Axg : Arv Z h0 xg kg .byte (Int32.ofNat X.length) (X.map Value.int) (.int 0)) (Axe : Arv Z h0 xe ke .byte 10 (pad 10 X) (.int 0)) (hX : X.length ≤ 10) (hii : ¬ ii < 0) :
  MetFree l yN7 (head1 (Jvm.Cond.code yN7 method_4_code 4 (some .boolean) :: ws) ({ frames := 0, cells := 0, slots := 0, locals := 0 } : Room)) (fun aa U => aa = #[(.ref xg), (.ref xe), (.int ii), (.int (Int32.ofNat X.length))] ∧ Z.Warmed39 U.vm ∧ U.heap = h0) (fun _ _ _ _ _ => True) (fun _ U o U' => ∃ v L, o = .returned v ∧ QDs Z xg xe kg ke X ii h0 n0 v U'.heap L ∧ FrameEnd U o U' L ({ frames := 0, cells := 0, slots := 0, locals := 0 } : Room).cells ({ frames := 0, cells := 0, slots := 0, locals := 0 } : Room).slots) := by
 refine MetFree.of_bodySF (plainFor_of_name pn_0) hisR ?_
 intro p e s m args below meth c s₁ Bd hml0 hP hK
 obtain ⟨rfl, hZ, hh⟩ := hP
 have hx := Bd.exec
 have hby := Bd.bytes
 have hml : c.maxLocals = 4 := hml0
 have hown : s.vm.findClass "com/example/turnlock/turnlock/session/DigestCredentialsParsePinLaw" = some m.cls := findClass_of_methodNamed Bd.named
 have hnm := (name_of_methodNamed Bd.named Bd.method).1
 have X0 : Stand p l e ({ frames := 0, cells := 0, slots := 0, locals := 0 } : Room) s m #[(.ref xg), (.ref xe), (.int ii), (.int (Int32.ofNat X.length))] below meth c s₁ [] 0 0 := Stand.of_body Bd
 have e0 : s₁.heap = h0 := by rw [← hh, Bd.state]; rfl
 have N0 := Fr.nil n0
 have K0 := Keep.refl h0 []
 have ef : entryFrame m #[(.ref xg), (.ref xe), (.int ii), (.int (Int32.ofNat X.length))] 4 = mkF m 0 #[vr xg, vr xe, vi ii, .val (.int (Int32.ofNat X.length))] [] := by first | (simp [entryFrame, mkF, argsToLocals, Value.category]; done) | rfl
 rw [ef]
 refine fin_of fun Kx hF => ?_
 show Go p.tables e below Kx _ (mkF m 0 _ [])
 refine s_iloadN (pc' := 1) X0.here hx (hb hby d_m4_0) rfl rfl ?_
 refine s_iloadN (pc' := 2) X0.here hx (hb hby d_m4_1) rfl rfl ?_
 by_cases hc403 : ii < (Int32.ofNat X.length)
 ·
  refine s_icmpN (pc' := 5) X0.here hx (hb hby d_m4_2) rfl (tlt hc403).2.1 ?_
  refine s_aloadN (pc' := 6) X0.here hx (hb hby d_m4_5) rfl rfl rfl ?_
  refine s_iloadN (pc' := 7) X0.here hx (hb hby d_m4_6) rfl rfl ?_
  obtain ⟨cl404, Ar404, Aq404, As404, An404, Ah404, Ag404⟩ := id Axg
  have in405 := inb_of (j := ii) As404 ⟨hii, hc403⟩
  have at405 : cl404.slots[(ii).toNatClampNeg]? = some (.int (atg X ii)) := Ah404.at in405 (atg_B hii hc403 (Nat.le_trans hX (by decide)) _)
  refine Go.st (X0.baloadBytes hx (j := ii) (v := (.int (atg X ii))) (by rw [e0]; exact Ar404.1) (State.isArrayOf_alike hZ.alike Ar404.2.1) Ar404.2.2 in405 at405 (g := (mkF m 7 #[vr xg, vr xe, vi ii, .val (.int (Int32.ofNat X.length))] [(.int ii), (.ref xg)])) rfl rfl (hb hby d_m4_7)) ?_
  show Go p.tables e below Kx _ (mkF m 8 _ [(.int (atg X ii))])
  refine s_aloadN (pc' := 9) X0.here hx (hb hby d_m4_8) rfl rfl rfl ?_
  refine s_iloadN (pc' := 10) X0.here hx (hb hby d_m4_9) rfl rfl ?_
  obtain ⟨cl406, Ar406, Aq406, As406, An406, Ah406, Ag406⟩ := id Axe
  have in407 := inb_of (j := ii) As406 ⟨hii, lt_pad (n := 10) hc403 hX (by decide)⟩
  have at407 : cl406.slots[(ii).toNatClampNeg]? = some (.int (atg X ii)) := Ah406.at in407 (atg_P hii hc403 (Nat.le_trans hX (by decide)) _)
  refine Go.st (X0.baloadBytes hx (j := ii) (v := (.int (atg X ii))) (by rw [e0]; exact Ar406.1) (State.isArrayOf_alike hZ.alike Ar406.2.1) Ar406.2.2 in407 at407 (g := (mkF m 10 #[vr xg, vr xe, vi ii, .val (.int (Int32.ofNat X.length))] [(.int ii), (.ref xe), (.int (atg X ii))])) rfl rfl (hb hby d_m4_10)) ?_
  show Go p.tables e below Kx _ (mkF m 11 _ [(.int (atg X ii)), (.int (atg X ii))])
  refine s_icmpN (pc' := 14) X0.here hx (hb hby d_m4_11) rfl (teq rfl).2 ?_
  refine s_iconst (pc' := 15) (v := 1) X0.here hx (hb hby d_m4_14) rfl rfl ?_
  refine s_goto (pc' := 19) X0.here hx (hb hby d_m4_15) (by decide) (by decide) ?_
  obtain ⟨fs, hr, hrun, hended, hW, hsame⟩ := X0.leave (v := (some (.int 1))) (fun h => by rw [Bd.returns] at h; cases h)
  refine Go.fin (retN X0 hx (t := .boolean) Bd.returns (by simp) (hb hby d_m4_19) hr) (hF _ _ hrun hended ⟨_, _, rfl, ?_, ⟨_, rfl⟩, hW, hsame.mono (by decide) (by decide)⟩)
  ·
   show QDs Z xg xe kg ke X ii h0 n0 ((some (.int 1)) : Option Value) s₁.heap _
   rw [e0]
   exact ⟨rfl, N0, rfl⟩
 ·
  refine s_icmpY (pc' := 14) X0.here hx (hb hby d_m4_2) (flt hc403).2.1 (by decide) (by decide) ?_
  refine s_iconst (pc' := 15) (v := 1) X0.here hx (hb hby d_m4_14) rfl rfl ?_
  refine s_goto (pc' := 19) X0.here hx (hb hby d_m4_15) (by decide) (by decide) ?_
  obtain ⟨fs, hr, hrun, hended, hW, hsame⟩ := X0.leave (v := (some (.int 1))) (fun h => by rw [Bd.returns] at h; cases h)
  refine Go.fin (retN X0 hx (t := .boolean) Bd.returns (by simp) (hb hby d_m4_19) hr) (hF _ _ hrun hended ⟨_, _, rfl, ?_, ⟨_, rfl⟩, hW, hsame.mono (by decide) (by decide)⟩)
  ·
   show QDs Z xg xe kg ke X ii h0 n0 ((some (.int 1)) : Option Value) s₁.heap _
   rw [e0]
   exact ⟨rfl, N0, rfl⟩
theorem pd_41 : parseMethodDescriptor "([B[BII)Z" = some ⟨[(.array .byte), (.array .byte), .int, .int], some .boolean⟩ := by decide +kernel
def QL (Z : State) (p0 : Int64) (p1 : Int32) (u8 : Addr) (h0 : Heap) (n0 : Nat) (v : Option Value) (h : Heap) (L : List Loc) : Prop := v = some (.int 1) ∧ Fr n0 L
theorem rmL (l : Launch) (Z : State) (a0 : Array Value) (hw : ∀ d ∈ tables_1, d.before a0 Z = true) (ws : List Jvm.Cond) (p0 : Int64) (p1 : Int32) (u8 : Addr) (h0 : Heap) (n0 : Nat) (X00 : Old Z n0 h0) (hEL : EW Z a0 consts_1) (wS : ∀ a ∈ Bundle.stringAtoms, a.before a0 Z = true) (G1 : Int32) (S1 : Sta Z Z.heap "java/lang/String" "COMPACT_STRINGS" "Z" (.int G1)) (P1 : ¬ G1 = 0) (vf : Value) (hvf : vf.isRef = true) (SFm : Sta Z Z.heap "jdk/internal/util/Preconditions" "SIOOBE_FORMATTER" "Ljava/util/function/BiFunction;" vf) (SU : Sta Z Z.heap "sun/nio/cs/UTF_8" "INSTANCE" "Lsun/nio/cs/UTF_8;" (.ref u8)) (SC : Sta Z Z.heap "java/nio/charset/StandardCharsets" "UTF_8" "Ljava/nio/charset/Charset;" (.ref u8)) :
  MetFree l x (head1 (Jvm.Cond.code x code maxLocals ret :: ws) room_1) (fun aa U => aa = #[(.long p0), (.int p1)] ∧ Z.Warmed39 U.vm ∧ U.heap = h0 ∧ CHv Z consts_1 U.vm h0) (fun _ _ _ _ _ => True) (fun _ U o U' => ∃ v L, o = .returned v ∧ QL Z p0 p1 u8 h0 n0 v U'.heap L ∧ CHr Z consts_1 U.vm U.heap U'.vm U'.heap ∧ ReturnedEndW U o U' L room_1.cells room_1.slots) := by
 refine MetFree.of_bodySF (plainFor_of_name pn_0) hisR ?_
 intro p e s m args below meth c s₁ Bd hml0 hP hK
 obtain ⟨rfl, hZ, hh, H0⟩ := hP
 have hx := Bd.exec
 have hby := Bd.bytes
 have hml : c.maxLocals = 15 := hml0
 have hown : s.vm.findClass "com/example/turnlock/turnlock/session/DigestCredentialsParsePinLaw" = some m.cls := findClass_of_methodNamed Bd.named
 have hnm := (name_of_methodNamed Bd.named Bd.method).1
 have X0 : Stand p l e room_1 (s.setVm s.vm) m #[(.long p0), (.int p1)] below meth c s₁ [] 0 0 := Stand.of_body Bd
 have e0 : s₁.heap = h0 := by rw [← hh, Bd.state]; rfl
 have N0 := Fr.nil n0
 have K0 := Keep.refl h0 []
 have hS0 : s.Since s.vm h0.size := (State.WarmedH.refl s).since _
 have hk0 := Nat.le_refl h0.size
 have C0 : CHr Z consts_1 s.vm h0 s.vm h0 := CHr.refl H0
 have ef : entryFrame m #[(.long p0), (.int p1)] maxLocals = mkF m 0 #[.val (.long p0), sn, vi p1, un, un, un, un, un, un, un, un, un, un, un, un] [] := by first | (simp [entryFrame, mkF, argsToLocals, Value.category, maxLocals]; done) | rfl
 rw [ef]
 refine fin_of fun Kx hF => ?_
 show Go p.tables e below Kx _ (mkF m 0 _ [])
 refine s_iconst (pc' := 1) (v := 1) X0.here hx (hb hby at_0) rfl rfl ?_
 refine s_iloadN (pc' := 2) X0.here hx (hb hby at_1) rfl rfl ?_
 refine Go.st (X0.ldcInt hx hown (mvT hZ (hv hw 0 rfl)) (g := (mkF m 2 #[.val (.long p0), sn, vi p1, un, un, un, un, un, un, un, un, un, un, un, un] [(.int p1), (.int 1)])) rfl (hb hby at_2)) ?_
 show Go p.tables e below Kx _ (mkF m 4 _ [(.int 2147483647), (.int p1), (.int 1)])
 refine s_iand (pc' := 5) X0.here hx (hb hby at_4) rfl rfl ?_
 refine s_iconst (pc' := 6) (v := 3) X0.here hx (hb hby at_5) rfl rfl ?_
 refine s_irem (pc' := 7) X0.here hx (hb hby at_6) rfl (by decide) rfl ?_
 refine s_iadd (pc' := 8) X0.here hx (hb hby at_7) rfl rfl ?_
 rcases p3 p1 with hpp7 | hpp7 | hpp7
 ·
  rw [hpp7]
  show Go p.tables e below Kx _ (mkF m 8 _ [(.int 1)])
  refine s_istoreN (pc' := 9) (Ls' := #[.val (.long p0), sn, vi p1, vi 1, un, un, un, un, un, un, un, un, un, un, un]) X0.here hx (hb hby at_8) rfl  rfl ?_
  refine s_lloadN (pc' := 10) X0.here hx (hb hby at_9) rfl rfl ?_
  refine s_iconst (pc' := 11) (v := 0) X0.here hx (hb hby at_10) rfl rfl ?_
  refine s_iloadN (pc' := 12) X0.here hx (hb hby at_11) rfl rfl ?_
  obtain ⟨_, T8, L8, X8, hQ8, st8⟩ := kS X0 hx hZ (y := yN5) hown (hv hw 1 rfl) (hv hw 2 rfl) (hv hw 3 rfl) (hv hw 4 rfl) (by decide) (rmCn l Z a0 hw [] p0 0 1 h0 n0 X00 (by decide)) e0 (W := 0) (g := (mkF m 12 #[.val (.long p0), sn, vi p1, vi 1, un, un, un, un, un, un, un, un, un, un, un] [(.int 1), (.int 0), (.long p0)])) rfl (by rw [hml]; rfl) (argsL := [(.long p0), (.int 0), (.int 1)]) (rest := []) (lenOf pd_0 rfl) rfl (by exact Nat.le_of_eq rfl) (hb hby at_12) rfl (nb rfl) (nb rfl) (nb rfl) (nb rfl)
  obtain ⟨⟨r8, rfl, hr8⟩, Nq8, hE8⟩ := hQ8
  have N8 := Fr.app N0 Nq8
  refine Go.st st8 ?_
  show Go p.tables e below Kx _ (mkF m 15 _ [(.int r8)])
  refine s_istore (pc' := 17) (Ls' := #[.val (.long p0), sn, vi p1, vi 1, vi r8, un, un, un, un, un, un, un, un, un, un]) X8.here hx (hb hby at_15) rfl  rfl ?_
  refine s_lloadN (pc' := 18) X8.here hx (hb hby at_17) rfl rfl ?_
  refine s_iconst (pc' := 19) (v := 1) X8.here hx (hb hby at_18) rfl rfl ?_
  refine s_iloadN (pc' := 20) X8.here hx (hb hby at_19) rfl rfl ?_
  obtain ⟨_, T9, L9, X9, hQ9, st9⟩ := kS X8 hx hZ (y := yN5) hown (hv hw 1 rfl) (hv hw 2 rfl) (hv hw 3 rfl) (hv hw 4 rfl) (by decide) (rmCe l Z a0 hw [] p0 1 h0 n0 X00 ) hE8 (W := 0) (g := (mkF m 20 #[.val (.long p0), sn, vi p1, vi 1, vi r8, un, un, un, un, un, un, un, un, un, un] [(.int 1), (.int 1), (.long p0)])) rfl (by rw [hml]; rfl) (argsL := [(.long p0), (.int 1), (.int 1)]) (rest := []) (lenOf pd_0 rfl) rfl (by exact Nat.le_of_eq rfl) (hb hby at_20) rfl (nb rfl) (nb rfl) (nb rfl) (nb rfl)
  obtain ⟨rfl, Nq9, hE9⟩ := hQ9
  have N9 := Fr.app N8 Nq9
  refine Go.st st9 ?_
  show Go p.tables e below Kx _ (mkF m 23 _ [(.int 58)])
  refine s_istore (pc' := 25) (Ls' := #[.val (.long p0), sn, vi p1, vi 1, vi r8, vi 58, un, un, un, un, un, un, un, un, un]) X9.here hx (hb hby at_23) rfl  rfl ?_
  refine s_lloadN (pc' := 26) X9.here hx (hb hby at_25) rfl rfl ?_
  refine s_iconst (pc' := 27) (v := 2) X9.here hx (hb hby at_26) rfl rfl ?_
  refine s_iloadN (pc' := 28) X9.here hx (hb hby at_27) rfl rfl ?_
  obtain ⟨_, T10, L10, X10, hQ10, st10⟩ := kS X9 hx hZ (y := yN5) hown (hv hw 1 rfl) (hv hw 2 rfl) (hv hw 3 rfl) (hv hw 4 rfl) (by decide) (rmCn l Z a0 hw [] p0 2 1 h0 n0 X00 (by decide)) hE9 (W := 0) (g := (mkF m 28 #[.val (.long p0), sn, vi p1, vi 1, vi r8, vi 58, un, un, un, un, un, un, un, un, un] [(.int 1), (.int 2), (.long p0)])) rfl (by rw [hml]; rfl) (argsL := [(.long p0), (.int 2), (.int 1)]) (rest := []) (lenOf pd_0 rfl) rfl (by exact Nat.le_of_eq rfl) (hb hby at_28) rfl (nb rfl) (nb rfl) (nb rfl) (nb rfl)
  obtain ⟨⟨r10, rfl, hr10⟩, Nq10, hE10⟩ := hQ10
  have N10 := Fr.app N9 Nq10
  refine Go.st st10 ?_
  show Go p.tables e below Kx _ (mkF m 31 _ [(.int r10)])
  refine s_istore (pc' := 33) (Ls' := #[.val (.long p0), sn, vi p1, vi 1, vi r8, vi 58, vi r10, un, un, un, un, un, un, un, un]) X10.here hx (hb hby at_31) rfl  rfl ?_
  refine s_lloadN (pc' := 34) X10.here hx (hb hby at_33) rfl rfl ?_
  refine s_iconst (pc' := 35) (v := 3) X10.here hx (hb hby at_34) rfl rfl ?_
  refine s_iloadN (pc' := 36) X10.here hx (hb hby at_35) rfl rfl ?_
  obtain ⟨_, T11, L11, X11, hQ11, st11⟩ := kS X10 hx hZ (y := yN5) hown (hv hw 1 rfl) (hv hw 2 rfl) (hv hw 3 rfl) (hv hw 4 rfl) (by decide) (rmCn l Z a0 hw [] p0 3 1 h0 n0 X00 (by decide)) hE10 (W := 0) (g := (mkF m 36 #[.val (.long p0), sn, vi p1, vi 1, vi r8, vi 58, vi r10, un, un, un, un, un, un, un, un] [(.int 1), (.int 3), (.long p0)])) rfl (by rw [hml]; rfl) (argsL := [(.long p0), (.int 3), (.int 1)]) (rest := []) (lenOf pd_0 rfl) rfl (by exact Nat.le_of_eq rfl) (hb hby at_36) rfl (nb rfl) (nb rfl) (nb rfl) (nb rfl)
  obtain ⟨⟨r11, rfl, hr11⟩, Nq11, hE11⟩ := hQ11
  have N11 := Fr.app N10 Nq11
  refine Go.st st11 ?_
  show Go p.tables e below Kx _ (mkF m 39 _ [(.int r11)])
  refine s_istore (pc' := 41) (Ls' := #[.val (.long p0), sn, vi p1, vi 1, vi r8, vi 58, vi r10, vi r11, un, un, un, un, un, un, un]) X11.here hx (hb hby at_39) rfl  rfl ?_
  refine s_lloadN (pc' := 42) X11.here hx (hb hby at_41) rfl rfl ?_
  refine s_iconst (pc' := 43) (v := 4) X11.here hx (hb hby at_42) rfl rfl ?_
  refine s_iloadN (pc' := 44) X11.here hx (hb hby at_43) rfl rfl ?_
  obtain ⟨_, T12, L12, X12, hQ12, st12⟩ := kS X11 hx hZ (y := yN5) hown (hv hw 1 rfl) (hv hw 2 rfl) (hv hw 3 rfl) (hv hw 4 rfl) (by decide) (rmCn l Z a0 hw [] p0 4 1 h0 n0 X00 (by decide)) hE11 (W := 0) (g := (mkF m 44 #[.val (.long p0), sn, vi p1, vi 1, vi r8, vi 58, vi r10, vi r11, un, un, un, un, un, un, un] [(.int 1), (.int 4), (.long p0)])) rfl (by rw [hml]; rfl) (argsL := [(.long p0), (.int 4), (.int 1)]) (rest := []) (lenOf pd_0 rfl) rfl (by exact Nat.le_of_eq rfl) (hb hby at_44) rfl (nb rfl) (nb rfl) (nb rfl) (nb rfl)
  obtain ⟨⟨r12, rfl, hr12⟩, Nq12, hE12⟩ := hQ12
  have N12 := Fr.app N11 Nq12
  refine Go.st st12 ?_
  show Go p.tables e below Kx _ (mkF m 47 _ [(.int r12)])
  refine s_istore (pc' := 49) (Ls' := #[.val (.long p0), sn, vi p1, vi 1, vi r8, vi 58, vi r10, vi r11, vi r12, un, un, un, un, un, un]) X12.here hx (hb hby at_47) rfl  rfl ?_
  obtain ⟨T13, h13, X13, e13, E13, A13, D13, -, st13⟩ := newO X12 hx hZ hown (hv hw 6 rfl) (hv hw 7 rfl) (hv hw 8 rfl) hE12 (g := (mkF m 49 #[.val (.long p0), sn, vi p1, vi 1, vi r8, vi 58, vi r10, vi r11, vi r12, un, un, un, un, un, un] [])) rfl (hb hby at_49) (by decide) (by decide)
  obtain ⟨b13, g13⟩ : ∃ z, z = h0.size := ⟨_, rfl⟩
  rw [← g13] at A13 D13 st13
  have sz13 : h0.size ≤ b13 := Nat.le_trans K0.1 (Nat.le_of_eq g13.symm)
  have ge13 : n0 ≤ b13 := Nat.le_trans (X00.1 ▸ X00.2.1) (Nat.le_of_eq g13.symm)
  have sn13 : Safe Z consts_1 s.vm h0 b13 := Safe.new (Nat.le_of_eq g13.symm)
  have K13 : Keep h0 h13 [] := K0.ext E13
  have O13 : Old Z n0 h13 := X00.ext E13
  have sf14 : Safe Z consts_1 s.vm h13 b13 := (Safe.ext E13 H0 sn13)
  have H13 : CHv Z consts_1 s.vm h13 := H0.ext E13
  have C13 : CHr Z consts_1 s.vm h0 s.vm h13 := C0.trans (CHr.ext E13 H0)
  have hk13 := Nat.le_trans hk0 E13.1
  have F13_coder : Fld Z h13 b13 "java/lang/String" "coder" "B" (.int 0) := D13 (Or.inr (hv hw 33 rfl)) (ty := .byte) (by decide)
  have F13_value : Fld Z h13 b13 "java/lang/String" "value" "[B" .null := D13 (Or.inr (hv hw 35 rfl)) (ty := (.array .byte)) (by decide)
  refine Go.st st13 ?_
  show Go p.tables e below Kx _ (mkF m 52 _ [(.ref b13)])
  refine s_dup (pc' := 53) X13.here hx (hb hby at_52) rfl rfl ?_
  refine s_iconst (pc' := 54) (v := 5) X13.here hx (hb hby at_53) rfl rfl ?_
  obtain ⟨T15, h15, k15, X15, e15, E15, A15, st15⟩ := newP X13 hx hZ (hv hw 9 rfl) e13 (g := (mkF m 54 #[.val (.long p0), sn, vi p1, vi 1, vi r8, vi 58, vi r10, vi r11, vi r12, un, un, un, un, un, un] [(.int 5), (.ref b13), (.ref b13)])) rfl (hb hby at_54) rfl (by decide) (cap := 5) (by decide) (by decide) (by decide) (by decide)
  obtain ⟨b15, g15⟩ : ∃ z, z = h13.size := ⟨_, rfl⟩
  rw [← g15] at A15 st15
  have sz15 : h0.size ≤ b15 := Nat.le_trans K13.1 (Nat.le_of_eq g15.symm)
  have ge15 : n0 ≤ b15 := Nat.le_trans (O13.1 ▸ O13.2.1) (Nat.le_of_eq g15.symm)
  have sn15 : Safe Z consts_1 s.vm h13 b15 := Safe.new (Nat.le_of_eq g15.symm)
  have K15 : Keep h0 h15 [] := K13.ext E15
  have O15 : Old Z n0 h15 := O13.ext E15
  have sf16 : Safe Z consts_1 s.vm h15 b13 := (Safe.ext E15 H13 sf14)
  have sf17 : Safe Z consts_1 s.vm h15 b15 := (Safe.ext E15 H13 sn15)
  have H15 : CHv Z consts_1 s.vm h15 := H13.ext E15
  have C15 : CHr Z consts_1 s.vm h0 s.vm h15 := C13.trans (CHr.ext E15 H13)
  have hk15 := Nat.le_trans hk13 E15.1
  have V15 : Arv Z h15 b15 k15 .char 5 [(.int 0), (.int 0), (.int 0), (.int 0), (.int 0)] (.int 0) := (Arv.new A15 (by decide)).pad (pad_rep [] (.int 0) 5)
  refine Go.st st15 ?_
  show Go p.tables e below Kx _ (mkF m 56 _ [(.ref b15), (.ref b13), (.ref b13)])
  refine s_dup (pc' := 57) X15.here hx (hb hby at_56) rfl rfl ?_
  refine s_iconst (pc' := 58) (v := 0) X15.here hx (hb hby at_57) rfl rfl ?_
  refine s_iload (pc' := 60) X15.here hx (hb hby at_58) rfl rfl ?_
  obtain ⟨cl18, Ar18, Aq18, As18, An18, Ah18, Ag18⟩ := id V15
  have in19 := inb_of (j := 0) As18 (by decide)
  obtain ⟨T19, h19, X19, e19, W19, st19⟩ := stC X15 hx hZ e15 Ar18 (j := 0) in19 (g := (mkF m 60 #[.val (.long p0), sn, vi p1, vi 1, vi r8, vi 58, vi r10, vi r11, vi r12, un, un, un, un, un, un] [(.int r8), (.int 0), (.ref b15), (.ref b15), (.ref b13), (.ref b13)])) rfl rfl (hb hby at_60)
  have V19 : Arv Z h19 b15 k15 .char 5 [(.int r8), (.int 0), (.int 0), (.int 0), (.int 0)] (.int 0) := by
   have q := Arv.set Ar18 Aq18 As18 An18 Ah18 Ag18 (fits_nar_char _) W19 0 rfl (Nat.le_of_ble_eq_true rfl)
   rw [chr_nar hr8.1] at q; exact q
  have K19 : Keep h0 h19 [] := K15.wr W19 (Or.inr sz15)
  have O19 : Old Z n0 h19 := O15.wr W19 ge15
  have sf20 : Safe Z consts_1 s.vm h19 b13 := (Safe.wr W19 sf17 H15 sf16)
  have sf21 : Safe Z consts_1 s.vm h19 b15 := (Safe.wr W19 sf17 H15 sf17)
  have H19 : CHv Z consts_1 s.vm h19 := H15.wr W19 sf17
  have C19 : CHr Z consts_1 s.vm h0 s.vm h19 := C15.trans (CHr.wr W19 sf17 H15)
  have hk19 := Nat.le_trans hk15 (Nat.le_of_eq W19.size.symm)
  have N19 := Fr.snoc X19 N12 ge15
  refine Go.st st19 ?_
  show Go p.tables e below Kx _ (mkF m 61 _ [(.ref b15), (.ref b13), (.ref b13)])
  refine s_dup (pc' := 62) X19.here hx (hb hby at_61) rfl rfl ?_
  refine s_iconst (pc' := 63) (v := 1) X19.here hx (hb hby at_62) rfl rfl ?_
  refine s_iload (pc' := 65) X19.here hx (hb hby at_63) rfl rfl ?_
  obtain ⟨cl22, Ar22, Aq22, As22, An22, Ah22, Ag22⟩ := id V19
  have in23 := inb_of (j := 1) As22 (by decide)
  obtain ⟨T23, h23, X23, e23, W23, st23⟩ := stC X19 hx hZ e19 Ar22 (j := 1) in23 (g := (mkF m 65 #[.val (.long p0), sn, vi p1, vi 1, vi r8, vi 58, vi r10, vi r11, vi r12, un, un, un, un, un, un] [(.int 58), (.int 1), (.ref b15), (.ref b15), (.ref b13), (.ref b13)])) rfl rfl (hb hby at_65)
  have V23 : Arv Z h23 b15 k15 .char 5 [(.int r8), (.int 58), (.int 0), (.int 0), (.int 0)] (.int 0) := by
   have q := Arv.set Ar22 Aq22 As22 An22 Ah22 Ag22 (fits_nar_char _) W23 1 rfl (Nat.le_of_ble_eq_true rfl)
   rw [chr_nar (by decide)] at q; exact q
  have K23 : Keep h0 h23 [] := K19.wr W23 (Or.inr sz15)
  have O23 : Old Z n0 h23 := O19.wr W23 ge15
  have sf24 : Safe Z consts_1 s.vm h23 b13 := (Safe.wr W23 sf21 H19 sf20)
  have sf25 : Safe Z consts_1 s.vm h23 b15 := (Safe.wr W23 sf21 H19 sf21)
  have H23 : CHv Z consts_1 s.vm h23 := H19.wr W23 sf21
  have C23 : CHr Z consts_1 s.vm h0 s.vm h23 := C19.trans (CHr.wr W23 sf21 H19)
  have hk23 := Nat.le_trans hk19 (Nat.le_of_eq W23.size.symm)
  have N23 := Fr.snoc X23 N19 ge15
  refine Go.st st23 ?_
  show Go p.tables e below Kx _ (mkF m 66 _ [(.ref b15), (.ref b13), (.ref b13)])
  refine s_dup (pc' := 67) X23.here hx (hb hby at_66) rfl rfl ?_
  refine s_iconst (pc' := 68) (v := 2) X23.here hx (hb hby at_67) rfl rfl ?_
  refine s_iload (pc' := 70) X23.here hx (hb hby at_68) rfl rfl ?_
  obtain ⟨cl26, Ar26, Aq26, As26, An26, Ah26, Ag26⟩ := id V23
  have in27 := inb_of (j := 2) As26 (by decide)
  obtain ⟨T27, h27, X27, e27, W27, st27⟩ := stC X23 hx hZ e23 Ar26 (j := 2) in27 (g := (mkF m 70 #[.val (.long p0), sn, vi p1, vi 1, vi r8, vi 58, vi r10, vi r11, vi r12, un, un, un, un, un, un] [(.int r10), (.int 2), (.ref b15), (.ref b15), (.ref b13), (.ref b13)])) rfl rfl (hb hby at_70)
  have V27 : Arv Z h27 b15 k15 .char 5 [(.int r8), (.int 58), (.int r10), (.int 0), (.int 0)] (.int 0) := by
   have q := Arv.set Ar26 Aq26 As26 An26 Ah26 Ag26 (fits_nar_char _) W27 2 rfl (Nat.le_of_ble_eq_true rfl)
   rw [chr_nar hr10.1] at q; exact q
  have K27 : Keep h0 h27 [] := K23.wr W27 (Or.inr sz15)
  have O27 : Old Z n0 h27 := O23.wr W27 ge15
  have sf28 : Safe Z consts_1 s.vm h27 b13 := (Safe.wr W27 sf25 H23 sf24)
  have sf29 : Safe Z consts_1 s.vm h27 b15 := (Safe.wr W27 sf25 H23 sf25)
  have H27 : CHv Z consts_1 s.vm h27 := H23.wr W27 sf25
  have C27 : CHr Z consts_1 s.vm h0 s.vm h27 := C23.trans (CHr.wr W27 sf25 H23)
  have hk27 := Nat.le_trans hk23 (Nat.le_of_eq W27.size.symm)
  have N27 := Fr.snoc X27 N23 ge15
  refine Go.st st27 ?_
  show Go p.tables e below Kx _ (mkF m 71 _ [(.ref b15), (.ref b13), (.ref b13)])
  refine s_dup (pc' := 72) X27.here hx (hb hby at_71) rfl rfl ?_
  refine s_iconst (pc' := 73) (v := 3) X27.here hx (hb hby at_72) rfl rfl ?_
  refine s_iload (pc' := 75) X27.here hx (hb hby at_73) rfl rfl ?_
  obtain ⟨cl30, Ar30, Aq30, As30, An30, Ah30, Ag30⟩ := id V27
  have in31 := inb_of (j := 3) As30 (by decide)
  obtain ⟨T31, h31, X31, e31, W31, st31⟩ := stC X27 hx hZ e27 Ar30 (j := 3) in31 (g := (mkF m 75 #[.val (.long p0), sn, vi p1, vi 1, vi r8, vi 58, vi r10, vi r11, vi r12, un, un, un, un, un, un] [(.int r11), (.int 3), (.ref b15), (.ref b15), (.ref b13), (.ref b13)])) rfl rfl (hb hby at_75)
  have V31 : Arv Z h31 b15 k15 .char 5 [(.int r8), (.int 58), (.int r10), (.int r11), (.int 0)] (.int 0) := by
   have q := Arv.set Ar30 Aq30 As30 An30 Ah30 Ag30 (fits_nar_char _) W31 3 rfl (Nat.le_of_ble_eq_true rfl)
   rw [chr_nar hr11.1] at q; exact q
  have K31 : Keep h0 h31 [] := K27.wr W31 (Or.inr sz15)
  have O31 : Old Z n0 h31 := O27.wr W31 ge15
  have sf32 : Safe Z consts_1 s.vm h31 b13 := (Safe.wr W31 sf29 H27 sf28)
  have sf33 : Safe Z consts_1 s.vm h31 b15 := (Safe.wr W31 sf29 H27 sf29)
  have H31 : CHv Z consts_1 s.vm h31 := H27.wr W31 sf29
  have C31 : CHr Z consts_1 s.vm h0 s.vm h31 := C27.trans (CHr.wr W31 sf29 H27)
  have hk31 := Nat.le_trans hk27 (Nat.le_of_eq W31.size.symm)
  have N31 := Fr.snoc X31 N27 ge15
  refine Go.st st31 ?_
  show Go p.tables e below Kx _ (mkF m 76 _ [(.ref b15), (.ref b13), (.ref b13)])
  refine s_dup (pc' := 77) X31.here hx (hb hby at_76) rfl rfl ?_
  refine s_iconst (pc' := 78) (v := 4) X31.here hx (hb hby at_77) rfl rfl ?_
  refine s_iload (pc' := 80) X31.here hx (hb hby at_78) rfl rfl ?_
  obtain ⟨cl34, Ar34, Aq34, As34, An34, Ah34, Ag34⟩ := id V31
  have in35 := inb_of (j := 4) As34 (by decide)
  obtain ⟨T35, h35, X35, e35, W35, st35⟩ := stC X31 hx hZ e31 Ar34 (j := 4) in35 (g := (mkF m 80 #[.val (.long p0), sn, vi p1, vi 1, vi r8, vi 58, vi r10, vi r11, vi r12, un, un, un, un, un, un] [(.int r12), (.int 4), (.ref b15), (.ref b15), (.ref b13), (.ref b13)])) rfl rfl (hb hby at_80)
  have V35 : Arv Z h35 b15 k15 .char 5 [(.int r8), (.int 58), (.int r10), (.int r11), (.int r12)] (.int 0) := by
   have q := Arv.set Ar34 Aq34 As34 An34 Ah34 Ag34 (fits_nar_char _) W35 4 rfl (Nat.le_of_ble_eq_true rfl)
   rw [chr_nar hr12.1] at q; exact q
  have K35 : Keep h0 h35 [] := K31.wr W35 (Or.inr sz15)
  have O35 : Old Z n0 h35 := O31.wr W35 ge15
  have sf36 : Safe Z consts_1 s.vm h35 b13 := (Safe.wr W35 sf33 H31 sf32)
  have sf37 : Safe Z consts_1 s.vm h35 b15 := (Safe.wr W35 sf33 H31 sf33)
  have H35 : CHv Z consts_1 s.vm h35 := H31.wr W35 sf33
  have C35 : CHr Z consts_1 s.vm h0 s.vm h35 := C31.trans (CHr.wr W35 sf33 H31)
  have hk35 := Nat.le_trans hk31 (Nat.le_of_eq W35.size.symm)
  have N35 := Fr.snoc X35 N31 ge15
  refine Go.st st35 ?_
  show Go p.tables e below Kx _ (mkF m 81 _ [(.ref b15), (.ref b13), (.ref b13)])
  have f38 : Exa Z h35 b13 "java/lang/String" := ((((((A13.ext E15).wr W19).wr W23).wr W27).wr W31).wr W35)
  have f39 : Fld Z h35 b13 "java/lang/String" "value" "[B" .null := ((((((F13_value.ext E15).other W19 (Or.inl (Nat.ne_of_lt (Nat.lt_of_lt_of_le A13.lt (Nat.le_of_eq g15.symm))))).other W23 (Or.inl (Nat.ne_of_lt (Nat.lt_of_lt_of_le A13.lt (Nat.le_of_eq g15.symm))))).other W27 (Or.inl (Nat.ne_of_lt (Nat.lt_of_lt_of_le A13.lt (Nat.le_of_eq g15.symm))))).other W31 (Or.inl (Nat.ne_of_lt (Nat.lt_of_lt_of_le A13.lt (Nat.le_of_eq g15.symm))))).other W35 (Or.inl (Nat.ne_of_lt (Nat.lt_of_lt_of_le A13.lt (Nat.le_of_eq g15.symm)))))
  have f40 : Fld Z h35 b13 "java/lang/String" "coder" "B" (.int 0) := ((((((F13_coder.ext E15).other W19 (Or.inl (Nat.ne_of_lt (Nat.lt_of_lt_of_le A13.lt (Nat.le_of_eq g15.symm))))).other W23 (Or.inl (Nat.ne_of_lt (Nat.lt_of_lt_of_le A13.lt (Nat.le_of_eq g15.symm))))).other W27 (Or.inl (Nat.ne_of_lt (Nat.lt_of_lt_of_le A13.lt (Nat.le_of_eq g15.symm))))).other W31 (Or.inl (Nat.ne_of_lt (Nat.lt_of_lt_of_le A13.lt (Nat.le_of_eq g15.symm))))).other W35 (Or.inl (Nat.ne_of_lt (Nat.lt_of_lt_of_le A13.lt (Nat.le_of_eq g15.symm)))))
  have hp41 : ∀ c ∈ ([r8, (58 : Int32), r10, r11, r12] : List Int32), ¬ c < 0 ∧ ¬ 255 < c := by
   intro c hc
   simp only [List.mem_cons, List.not_mem_nil, or_false] at hc
   rcases hc with rfl | rfl | rfl | rfl | rfl
   ·
    exact hr8.1
   ·
    exact (by decide)
   ·
    exact hr10.1
   ·
    exact hr11.1
   ·
    exact hr12.1
  obtain ⟨_, _, ⟨T42, L42, k42, n42⟩, -, X42, ⟨Lc42, hQ42, l42, y42, z42⟩, st42⟩ := X35.specialBack hx (y := yN21) rfl hown (mvT hZ (hv hw 10 rfl)) (mvT hZ (hv hw 11 rfl)) (mvT hZ (hv hw 12 rfl)) (by decide) (StrChars.Road.backV (W := 1) hZ (hwsV Z a0 hw) (kI := 4) (hv hw 7 rfl) (cs := [r8, (58 : Int32), r10, r11, r12]) (bs := ([r8, (58 : Int32), r10, r11, r12] : List Int32).map (fun c => c.toInt8.toInt32)) (n := 5) ge13 (O35.1 ▸ O35.2.1) f38 f39 f40 V35 (S1.ext O35.2) P1 rfl rfl (by decide) (by decide) hp41 rfl (by decide) (by decide)) (g := (mkF m 81 #[.val (.long p0), sn, vi p1, vi 1, vi r8, vi 58, vi r10, vi r11, vi r12, un, un, un, un, un, un] [(.ref b15), (.ref b13), (.ref b13)])) rfl (by rw [hml]; rfl) (Steps.refl _) (a := b13) (argsL := [(.ref b15)]) (rest := [(.ref b13)]) (lenOf pd_1 rfl) rfl (by exact Nat.le_of_eq rfl) (hb hby at_81) (fun _ _ => ⟨rfl, e35, (by decide : 2 + 1 ≤ _), (by decide : 9 + 5 ≤ _)⟩)
  dsimp only [Pt.U, Pt.locs, Pt.cells, Pt.slots] at X42 l42 y42 z42 st42 hQ42
  rw [l42, y42, z42] at X42
  obtain ⟨rfl, Nq42, Kq42, q1_42, q2_42, t42, kt42, -, -, -, q3_42, q4_42⟩ := hQ42
  have N42 := Fr.app N35 Nq42
  have K42 : Keep h0 T42.heap [] := K35.trans Kq42 (allS (P := fun zz => zz ∈ [] ∨ h0.size ≤ zz) (Or.inr sz13) all0)
  have O42 : Old Z n0 T42.heap := O35.keep Kq42 (allS ge13 all0)
  have sf43 : Safe Z consts_1 s.vm T42.heap b13 := (Safe.keep Kq42 (sfS sf36 sf0) H35 sf36)
  have H42 : CHv Z consts_1 s.vm T42.heap := H35.keep Kq42 (sfS sf36 sf0)
  have C42 : CHr Z consts_1 s.vm h0 s.vm T42.heap := C35.trans (CHr.keep Kq42 (sfS sf36 sf0) H35)
  have hk42 := Nat.le_trans hk35 Kq42.1
  refine Go.tr st42 ?_
  show Go p.tables e below Kx _ (mkF m 84 _ [(.ref b13)])
  have St42 : Str Z T42.heap T42.heap.size b13 [r8, (58 : Int32), r10, r11, r12] := Str.of q1_42 q2_42 q3_42 q4_42 rfl rfl hp41 (Nat.le_of_ble_eq_true rfl)
  refine s_astore (pc' := 86) (Ls' := #[.val (.long p0), sn, vi p1, vi 1, vi r8, vi 58, vi r10, vi r11, vi r12, vr b13, un, un, un, un, un]) X42.here hx (hb hby at_84) rfl rfl rfl ?_
  refine s_iloadN (pc' := 87) X42.here hx (hb hby at_86) rfl rfl ?_
  refine s_iconst (pc' := 88) (v := 1) X42.here hx (hb hby at_87) rfl rfl ?_
  refine s_icmpN (pc' := 91) X42.here hx (hb hby at_88) rfl (teq (by decide)).2 ?_
  obtain ⟨T44, h44, X44, e44, E44, A44, D44, -, st44⟩ := newO X42 hx hZ hown (hv hw 6 rfl) (hv hw 7 rfl) (hv hw 8 rfl) rfl (g := (mkF m 91 #[.val (.long p0), sn, vi p1, vi 1, vi r8, vi 58, vi r10, vi r11, vi r12, vr b13, un, un, un, un, un] [])) rfl (hb hby at_91) (by decide) (by decide)
  obtain ⟨b44, g44⟩ : ∃ z, z = T42.heap.size := ⟨_, rfl⟩
  rw [← g44] at A44 D44 st44
  have sz44 : h0.size ≤ b44 := Nat.le_trans K42.1 (Nat.le_of_eq g44.symm)
  have ge44 : n0 ≤ b44 := Nat.le_trans (O42.1 ▸ O42.2.1) (Nat.le_of_eq g44.symm)
  have sn44 : Safe Z consts_1 s.vm T42.heap b44 := Safe.new (Nat.le_of_eq g44.symm)
  have K44 : Keep h0 h44 [] := K42.ext E44
  have O44 : Old Z n0 h44 := O42.ext E44
  have sf45 : Safe Z consts_1 s.vm h44 b44 := (Safe.ext E44 H42 sn44)
  have H44 : CHv Z consts_1 s.vm h44 := H42.ext E44
  have C44 : CHr Z consts_1 s.vm h0 s.vm h44 := C42.trans (CHr.ext E44 H42)
  have hk44 := Nat.le_trans hk42 E44.1
  have F44_coder : Fld Z h44 b44 "java/lang/String" "coder" "B" (.int 0) := D44 (Or.inr (hv hw 33 rfl)) (ty := .byte) (by decide)
  have F44_value : Fld Z h44 b44 "java/lang/String" "value" "[B" .null := D44 (Or.inr (hv hw 35 rfl)) (ty := (.array .byte)) (by decide)
  refine Go.st st44 ?_
  show Go p.tables e below Kx _ (mkF m 94 _ [(.ref b44)])
  refine s_dup (pc' := 95) X44.here hx (hb hby at_94) rfl rfl ?_
  refine s_iconst (pc' := 96) (v := 1) X44.here hx (hb hby at_95) rfl rfl ?_
  obtain ⟨T46, h46, k46, X46, e46, E46, A46, st46⟩ := newP X44 hx hZ (hv hw 9 rfl) e44 (g := (mkF m 96 #[.val (.long p0), sn, vi p1, vi 1, vi r8, vi 58, vi r10, vi r11, vi r12, vr b13, un, un, un, un, un] [(.int 1), (.ref b44), (.ref b44)])) rfl (hb hby at_96) rfl (by decide) (cap := 1) (by decide) (by decide) (by decide) (by decide)
  obtain ⟨b46, g46⟩ : ∃ z, z = h44.size := ⟨_, rfl⟩
  rw [← g46] at A46 st46
  have sz46 : h0.size ≤ b46 := Nat.le_trans K44.1 (Nat.le_of_eq g46.symm)
  have ge46 : n0 ≤ b46 := Nat.le_trans (O44.1 ▸ O44.2.1) (Nat.le_of_eq g46.symm)
  have sn46 : Safe Z consts_1 s.vm h44 b46 := Safe.new (Nat.le_of_eq g46.symm)
  have K46 : Keep h0 h46 [] := K44.ext E46
  have O46 : Old Z n0 h46 := O44.ext E46
  have sf47 : Safe Z consts_1 s.vm h46 b44 := (Safe.ext E46 H44 sf45)
  have sf48 : Safe Z consts_1 s.vm h46 b46 := (Safe.ext E46 H44 sn46)
  have H46 : CHv Z consts_1 s.vm h46 := H44.ext E46
  have C46 : CHr Z consts_1 s.vm h0 s.vm h46 := C44.trans (CHr.ext E46 H44)
  have hk46 := Nat.le_trans hk44 E46.1
  have V46 : Arv Z h46 b46 k46 .char 1 [(.int 0)] (.int 0) := (Arv.new A46 (by decide)).pad (pad_rep [] (.int 0) 1)
  refine Go.st st46 ?_
  show Go p.tables e below Kx _ (mkF m 98 _ [(.ref b46), (.ref b44), (.ref b44)])
  refine s_dup (pc' := 99) X46.here hx (hb hby at_98) rfl rfl ?_
  refine s_iconst (pc' := 100) (v := 0) X46.here hx (hb hby at_99) rfl rfl ?_
  refine s_iload (pc' := 102) X46.here hx (hb hby at_100) rfl rfl ?_
  obtain ⟨cl49, Ar49, Aq49, As49, An49, Ah49, Ag49⟩ := id V46
  have in50 := inb_of (j := 0) As49 (by decide)
  obtain ⟨T50, h50, X50, e50, W50, st50⟩ := stC X46 hx hZ e46 Ar49 (j := 0) in50 (g := (mkF m 102 #[.val (.long p0), sn, vi p1, vi 1, vi r8, vi 58, vi r10, vi r11, vi r12, vr b13, un, un, un, un, un] [(.int r8), (.int 0), (.ref b46), (.ref b46), (.ref b44), (.ref b44)])) rfl rfl (hb hby at_102)
  have V50 : Arv Z h50 b46 k46 .char 1 [(.int r8)] (.int 0) := by
   have q := Arv.set Ar49 Aq49 As49 An49 Ah49 Ag49 (fits_nar_char _) W50 0 rfl (Nat.le_of_ble_eq_true rfl)
   rw [chr_nar hr8.1] at q; exact q
  have K50 : Keep h0 h50 [] := K46.wr W50 (Or.inr sz46)
  have O50 : Old Z n0 h50 := O46.wr W50 ge46
  have sf51 : Safe Z consts_1 s.vm h50 b44 := (Safe.wr W50 sf48 H46 sf47)
  have sf52 : Safe Z consts_1 s.vm h50 b46 := (Safe.wr W50 sf48 H46 sf48)
  have H50 : CHv Z consts_1 s.vm h50 := H46.wr W50 sf48
  have C50 : CHr Z consts_1 s.vm h0 s.vm h50 := C46.trans (CHr.wr W50 sf48 H46)
  have hk50 := Nat.le_trans hk46 (Nat.le_of_eq W50.size.symm)
  have N50 := Fr.snoc X50 N42 ge46
  refine Go.st st50 ?_
  show Go p.tables e below Kx _ (mkF m 103 _ [(.ref b46), (.ref b44), (.ref b44)])
  have f53 : Exa Z h50 b44 "java/lang/String" := ((A44.ext E46).wr W50)
  have f54 : Fld Z h50 b44 "java/lang/String" "value" "[B" .null := ((F44_value.ext E46).other W50 (Or.inl (Nat.ne_of_lt (Nat.lt_of_lt_of_le A44.lt (Nat.le_of_eq g46.symm)))))
  have f55 : Fld Z h50 b44 "java/lang/String" "coder" "B" (.int 0) := ((F44_coder.ext E46).other W50 (Or.inl (Nat.ne_of_lt (Nat.lt_of_lt_of_le A44.lt (Nat.le_of_eq g46.symm)))))
  have hp56 : ∀ c ∈ ([r8] : List Int32), ¬ c < 0 ∧ ¬ 255 < c := by
   intro c hc
   simp only [List.mem_cons, List.not_mem_nil, or_false] at hc
   rcases hc with rfl
   ·
    exact hr8.1
  obtain ⟨_, _, ⟨T57, L57, k57, n57⟩, -, X57, ⟨Lc57, hQ57, l57, y57, z57⟩, st57⟩ := X50.specialBack hx (y := yN21) rfl hown (mvT hZ (hv hw 10 rfl)) (mvT hZ (hv hw 11 rfl)) (mvT hZ (hv hw 12 rfl)) (by decide) (StrChars.Road.backV (W := 1) hZ (hwsV Z a0 hw) (kI := 4) (hv hw 7 rfl) (cs := [r8]) (bs := ([r8] : List Int32).map (fun c => c.toInt8.toInt32)) (n := 1) ge44 (O50.1 ▸ O50.2.1) f53 f54 f55 V50 (S1.ext O50.2) P1 rfl rfl (by decide) (by decide) hp56 rfl (by decide) (by decide)) (g := (mkF m 103 #[.val (.long p0), sn, vi p1, vi 1, vi r8, vi 58, vi r10, vi r11, vi r12, vr b13, un, un, un, un, un] [(.ref b46), (.ref b44), (.ref b44)])) rfl (by rw [hml]; rfl) (Steps.refl _) (a := b44) (argsL := [(.ref b46)]) (rest := [(.ref b44)]) (lenOf pd_1 rfl) rfl (by exact Nat.le_of_eq rfl) (hb hby at_103) (fun _ _ => ⟨rfl, e50, (by decide : 5 + 1 ≤ _), (by decide : 19 + 1 ≤ _)⟩)
  dsimp only [Pt.U, Pt.locs, Pt.cells, Pt.slots] at X57 l57 y57 z57 st57 hQ57
  rw [l57, y57, z57] at X57
  obtain ⟨rfl, Nq57, Kq57, q1_57, q2_57, t57, kt57, -, -, -, q3_57, q4_57⟩ := hQ57
  have N57 := Fr.app N50 Nq57
  have K57 : Keep h0 T57.heap [] := K50.trans Kq57 (allS (P := fun zz => zz ∈ [] ∨ h0.size ≤ zz) (Or.inr sz44) all0)
  have O57 : Old Z n0 T57.heap := O50.keep Kq57 (allS ge44 all0)
  have sf58 : Safe Z consts_1 s.vm T57.heap b44 := (Safe.keep Kq57 (sfS sf51 sf0) H50 sf51)
  have H57 : CHv Z consts_1 s.vm T57.heap := H50.keep Kq57 (sfS sf51 sf0)
  have C57 : CHr Z consts_1 s.vm h0 s.vm T57.heap := C50.trans (CHr.keep Kq57 (sfS sf51 sf0) H50)
  have hk57 := Nat.le_trans hk50 Kq57.1
  refine Go.tr st57 ?_
  show Go p.tables e below Kx _ (mkF m 106 _ [(.ref b44)])
  have St57 : Str Z T57.heap T57.heap.size b44 [r8] := Str.of q1_57 q2_57 q3_57 q4_57 rfl rfl hp56 (Nat.le_of_ble_eq_true rfl)
  refine s_astore (pc' := 108) (Ls' := #[.val (.long p0), sn, vi p1, vi 1, vi r8, vi 58, vi r10, vi r11, vi r12, vr b13, vr b44, un, un, un, un]) X57.here hx (hb hby at_106) rfl rfl rfl ?_
  refine s_goto (pc' := 168) X57.here hx (hb hby at_108) (by decide) (by decide) ?_
  refine s_bipush (pc' := 170) (v := 10) X57.here hx (hb hby at_168) rfl rfl ?_
  obtain ⟨T59, h59, k59, X59, e59, E59, A59, B59, st59⟩ := newPE X57 hx hZ (hv hw 25 rfl) rfl (g := (mkF m 170 #[.val (.long p0), sn, vi p1, vi 1, vi r8, vi 58, vi r10, vi r11, vi r12, vr b13, vr b44, un, un, un, un] [(.int 10)])) rfl (hb hby at_170) rfl (by decide) (cap := 10) (by decide) (by decide) (by decide) (by decide) (ad := "[B") (by decide)
  obtain ⟨b59, g59⟩ : ∃ z, z = T57.heap.size := ⟨_, rfl⟩
  rw [← g59] at A59 B59 st59
  have sz59 : h0.size ≤ b59 := Nat.le_trans K57.1 (Nat.le_of_eq g59.symm)
  have ge59 : n0 ≤ b59 := Nat.le_trans (O57.1 ▸ O57.2.1) (Nat.le_of_eq g59.symm)
  have sn59 : Safe Z consts_1 s.vm T57.heap b59 := Safe.new (Nat.le_of_eq g59.symm)
  have K59 : Keep h0 h59 [] := K57.ext E59
  have O59 : Old Z n0 h59 := O57.ext E59
  have sf60 : Safe Z consts_1 s.vm h59 b59 := (Safe.ext E59 H57 sn59)
  have H59 : CHv Z consts_1 s.vm h59 := H57.ext E59
  have C59 : CHr Z consts_1 s.vm h0 s.vm h59 := C57.trans (CHr.ext E59 H57)
  have hk59 := Nat.le_trans hk57 E59.1
  have V59 : Arv Z h59 b59 k59 .byte 10 [(.int 0), (.int 0), (.int 0), (.int 0), (.int 0), (.int 0), (.int 0), (.int 0), (.int 0), (.int 0)] (.int 0) := (Arv.new A59 (by decide)).pad (pad_rep [] (.int 0) 10)
  refine Go.st st59 ?_
  show Go p.tables e below Kx _ (mkF m 172 _ [(.ref b59)])
  have V61 : Arv Z h59 b59 k59 .byte 10 (pad 10 ([] : List Int32)) (.int 0) := V59
  refine s_astore (pc' := 174) (Ls' := #[.val (.long p0), sn, vi p1, vi 1, vi r8, vi 58, vi r10, vi r11, vi r12, vr b13, vr b44, vr b59, un, un, un]) X59.here hx (hb hby at_172) rfl rfl rfl ?_
  refine s_iconst (pc' := 175) (v := 0) X59.here hx (hb hby at_174) rfl rfl ?_
  refine s_istore (pc' := 177) (Ls' := #[.val (.long p0), sn, vi p1, vi 1, vi r8, vi 58, vi r10, vi r11, vi r12, vr b13, vr b44, vr b59, vi 0, un, un]) X59.here hx (hb hby at_175) rfl  rfl ?_
  refine s_aload (pc' := 179) X59.here hx (hb hby at_177) rfl rfl rfl ?_
  refine s_iload (pc' := 181) X59.here hx (hb hby at_179) rfl rfl ?_
  refine s_iload (pc' := 183) X59.here hx (hb hby at_181) rfl rfl ?_
  have rp : ([] : List Int32).length + 1 < 10 := Nat.lt_of_le_of_lt (Nat.succ_le_succ (Nat.le_refl 0)) (by decide)
  obtain ⟨_, T69, L69, X69, hQ69, st69⟩ := kS X59 hx hZ (y := yN6) hown (hv hw 36 rfl) (hv hw 37 rfl) (hv hw 3 rfl) (hv hw 38 rfl) (by decide) (rmDp l Z a0 hw [] b59 k59 ([] : List Int32) r8 h59 n0 O59 ge59 V61 hr8.1 rp) e59 (W := 0) (g := (mkF m 183 #[.val (.long p0), sn, vi p1, vi 1, vi r8, vi 58, vi r10, vi r11, vi r12, vr b13, vr b44, vr b59, vi 0, un, un] [(.int r8), (.int 0), (.ref b59)])) rfl (by rw [hml]; rfl) (argsL := [(.ref b59), (.int 0), (.int r8)]) (rest := []) (lenOf pd_2 rfl) rfl (by exact Nat.le_of_eq rfl) (hb hby at_183) rfl (nb rfl) (nb rfl) (nb rfl) (nb rfl)
  obtain ⟨X69l, hD69, hl69, rfl, Nq69, Kq69, q1_69⟩ := hQ69
  have N69 := Fr.app N57 Nq69
  have K69 : Keep h0 T69.heap [] := K59.trans Kq69 (allS (P := fun zz => zz ∈ [] ∨ h0.size ≤ zz) (Or.inr sz59) all0)
  have O69 : Old Z n0 T69.heap := O59.keep Kq69 (allS ge59 all0)
  have sf70 : Safe Z consts_1 s.vm T69.heap b59 := (Safe.keep Kq69 (sfS sf60 sf0) H59 sf60)
  have H69 : CHv Z consts_1 s.vm T69.heap := H59.keep Kq69 (sfS sf60 sf0)
  have C69 : CHr Z consts_1 s.vm h0 s.vm T69.heap := C59.trans (CHr.keep Kq69 (sfS sf60 sf0) H59)
  have hk69 := Nat.le_trans hk59 Kq69.1
  refine Go.st st69 ?_
  show Go p.tables e below Kx _ (mkF m 186 _ [(.int (Int32.ofNat X69l.length))])
  have hp69 : X69l.length ≤ 2 := Nat.le_trans hl69 (Nat.add_le_add_right (Nat.le_refl 0) 2)
  refine s_istore (pc' := 188) (Ls' := #[.val (.long p0), sn, vi p1, vi 1, vi r8, vi 58, vi r10, vi r11, vi r12, vr b13, vr b44, vr b59, .val (.int (Int32.ofNat X69l.length)), un, un]) X69.here hx (hb hby at_186) rfl  rfl ?_
  refine s_aload (pc' := 190) X69.here hx (hb hby at_188) rfl rfl rfl ?_
  refine s_iload (pc' := 192) X69.here hx (hb hby at_190) rfl rfl ?_
  refine s_iload (pc' := 194) X69.here hx (hb hby at_192) rfl rfl ?_
  have rp : X69l.length + 1 < 10 := Nat.lt_of_le_of_lt (Nat.succ_le_succ hp69) (by decide)
  obtain ⟨_, T71, L71, X71, hQ71, st71⟩ := kS X69 hx hZ (y := yN6) hown (hv hw 36 rfl) (hv hw 37 rfl) (hv hw 3 rfl) (hv hw 38 rfl) (by decide) (rmDp l Z a0 hw [] b59 k59 X69l 58 T69.heap n0 O69 ge59 q1_69 (by decide) rp) rfl (W := 0) (g := (mkF m 194 #[.val (.long p0), sn, vi p1, vi 1, vi r8, vi 58, vi r10, vi r11, vi r12, vr b13, vr b44, vr b59, .val (.int (Int32.ofNat X69l.length)), un, un] [(.int 58), (.int (Int32.ofNat X69l.length)), (.ref b59)])) rfl (by rw [hml]; rfl) (argsL := [(.ref b59), (.int (Int32.ofNat X69l.length)), (.int 58)]) (rest := []) (lenOf pd_2 rfl) rfl (by exact Nat.le_of_eq rfl) (hb hby at_194) rfl (nb rfl) (nb rfl) (nb rfl) (nb rfl)
  obtain ⟨X71l, hD71, hl71, rfl, Nq71, Kq71, q1_71⟩ := hQ71
  have N71 := Fr.app N69 Nq71
  have K71 : Keep h0 T71.heap [] := K69.trans Kq71 (allS (P := fun zz => zz ∈ [] ∨ h0.size ≤ zz) (Or.inr sz59) all0)
  have O71 : Old Z n0 T71.heap := O69.keep Kq71 (allS ge59 all0)
  have sf72 : Safe Z consts_1 s.vm T71.heap b59 := (Safe.keep Kq71 (sfS sf70 sf0) H69 sf70)
  have H71 : CHv Z consts_1 s.vm T71.heap := H69.keep Kq71 (sfS sf70 sf0)
  have C71 : CHr Z consts_1 s.vm h0 s.vm T71.heap := C69.trans (CHr.keep Kq71 (sfS sf70 sf0) H69)
  have hk71 := Nat.le_trans hk69 Kq71.1
  refine Go.st st71 ?_
  show Go p.tables e below Kx _ (mkF m 197 _ [(.int (Int32.ofNat X71l.length))])
  have hp71 : X71l.length ≤ 4 := Nat.le_trans hl71 (Nat.add_le_add_right hp69 2)
  refine s_istore (pc' := 199) (Ls' := #[.val (.long p0), sn, vi p1, vi 1, vi r8, vi 58, vi r10, vi r11, vi r12, vr b13, vr b44, vr b59, .val (.int (Int32.ofNat X71l.length)), un, un]) X71.here hx (hb hby at_197) rfl  rfl ?_
  refine s_aload (pc' := 201) X71.here hx (hb hby at_199) rfl rfl rfl ?_
  refine s_iload (pc' := 203) X71.here hx (hb hby at_201) rfl rfl ?_
  refine s_iload (pc' := 205) X71.here hx (hb hby at_203) rfl rfl ?_
  have rp : X71l.length + 1 < 10 := Nat.lt_of_le_of_lt (Nat.succ_le_succ hp71) (by decide)
  obtain ⟨_, T73, L73, X73, hQ73, st73⟩ := kS X71 hx hZ (y := yN6) hown (hv hw 36 rfl) (hv hw 37 rfl) (hv hw 3 rfl) (hv hw 38 rfl) (by decide) (rmDp l Z a0 hw [] b59 k59 X71l r10 T71.heap n0 O71 ge59 q1_71 hr10.1 rp) rfl (W := 0) (g := (mkF m 205 #[.val (.long p0), sn, vi p1, vi 1, vi r8, vi 58, vi r10, vi r11, vi r12, vr b13, vr b44, vr b59, .val (.int (Int32.ofNat X71l.length)), un, un] [(.int r10), (.int (Int32.ofNat X71l.length)), (.ref b59)])) rfl (by rw [hml]; rfl) (argsL := [(.ref b59), (.int (Int32.ofNat X71l.length)), (.int r10)]) (rest := []) (lenOf pd_2 rfl) rfl (by exact Nat.le_of_eq rfl) (hb hby at_205) rfl (nb rfl) (nb rfl) (nb rfl) (nb rfl)
  obtain ⟨X73l, hD73, hl73, rfl, Nq73, Kq73, q1_73⟩ := hQ73
  have N73 := Fr.app N71 Nq73
  have K73 : Keep h0 T73.heap [] := K71.trans Kq73 (allS (P := fun zz => zz ∈ [] ∨ h0.size ≤ zz) (Or.inr sz59) all0)
  have O73 : Old Z n0 T73.heap := O71.keep Kq73 (allS ge59 all0)
  have sf74 : Safe Z consts_1 s.vm T73.heap b59 := (Safe.keep Kq73 (sfS sf72 sf0) H71 sf72)
  have H73 : CHv Z consts_1 s.vm T73.heap := H71.keep Kq73 (sfS sf72 sf0)
  have C73 : CHr Z consts_1 s.vm h0 s.vm T73.heap := C71.trans (CHr.keep Kq73 (sfS sf72 sf0) H71)
  have hk73 := Nat.le_trans hk71 Kq73.1
  refine Go.st st73 ?_
  show Go p.tables e below Kx _ (mkF m 208 _ [(.int (Int32.ofNat X73l.length))])
  have hp73 : X73l.length ≤ 6 := Nat.le_trans hl73 (Nat.add_le_add_right hp71 2)
  refine s_istore (pc' := 210) (Ls' := #[.val (.long p0), sn, vi p1, vi 1, vi r8, vi 58, vi r10, vi r11, vi r12, vr b13, vr b44, vr b59, .val (.int (Int32.ofNat X73l.length)), un, un]) X73.here hx (hb hby at_208) rfl  rfl ?_
  refine s_aload (pc' := 212) X73.here hx (hb hby at_210) rfl rfl rfl ?_
  refine s_iload (pc' := 214) X73.here hx (hb hby at_212) rfl rfl ?_
  refine s_iload (pc' := 216) X73.here hx (hb hby at_214) rfl rfl ?_
  have rp : X73l.length + 1 < 10 := Nat.lt_of_le_of_lt (Nat.succ_le_succ hp73) (by decide)
  obtain ⟨_, T75, L75, X75, hQ75, st75⟩ := kS X73 hx hZ (y := yN6) hown (hv hw 36 rfl) (hv hw 37 rfl) (hv hw 3 rfl) (hv hw 38 rfl) (by decide) (rmDp l Z a0 hw [] b59 k59 X73l r11 T73.heap n0 O73 ge59 q1_73 hr11.1 rp) rfl (W := 0) (g := (mkF m 216 #[.val (.long p0), sn, vi p1, vi 1, vi r8, vi 58, vi r10, vi r11, vi r12, vr b13, vr b44, vr b59, .val (.int (Int32.ofNat X73l.length)), un, un] [(.int r11), (.int (Int32.ofNat X73l.length)), (.ref b59)])) rfl (by rw [hml]; rfl) (argsL := [(.ref b59), (.int (Int32.ofNat X73l.length)), (.int r11)]) (rest := []) (lenOf pd_2 rfl) rfl (by exact Nat.le_of_eq rfl) (hb hby at_216) rfl (nb rfl) (nb rfl) (nb rfl) (nb rfl)
  obtain ⟨X75l, hD75, hl75, rfl, Nq75, Kq75, q1_75⟩ := hQ75
  have N75 := Fr.app N73 Nq75
  have K75 : Keep h0 T75.heap [] := K73.trans Kq75 (allS (P := fun zz => zz ∈ [] ∨ h0.size ≤ zz) (Or.inr sz59) all0)
  have O75 : Old Z n0 T75.heap := O73.keep Kq75 (allS ge59 all0)
  have sf76 : Safe Z consts_1 s.vm T75.heap b59 := (Safe.keep Kq75 (sfS sf74 sf0) H73 sf74)
  have H75 : CHv Z consts_1 s.vm T75.heap := H73.keep Kq75 (sfS sf74 sf0)
  have C75 : CHr Z consts_1 s.vm h0 s.vm T75.heap := C73.trans (CHr.keep Kq75 (sfS sf74 sf0) H73)
  have hk75 := Nat.le_trans hk73 Kq75.1
  refine Go.st st75 ?_
  show Go p.tables e below Kx _ (mkF m 219 _ [(.int (Int32.ofNat X75l.length))])
  have hp75 : X75l.length ≤ 8 := Nat.le_trans hl75 (Nat.add_le_add_right hp73 2)
  refine s_istore (pc' := 221) (Ls' := #[.val (.long p0), sn, vi p1, vi 1, vi r8, vi 58, vi r10, vi r11, vi r12, vr b13, vr b44, vr b59, .val (.int (Int32.ofNat X75l.length)), un, un]) X75.here hx (hb hby at_219) rfl  rfl ?_
  refine s_aload (pc' := 223) X75.here hx (hb hby at_221) rfl rfl rfl ?_
  refine s_iload (pc' := 225) X75.here hx (hb hby at_223) rfl rfl ?_
  refine s_iload (pc' := 227) X75.here hx (hb hby at_225) rfl rfl ?_
  have rp : X75l.length + 1 < 10 := Nat.lt_of_le_of_lt (Nat.succ_le_succ hp75) (by decide)
  obtain ⟨_, T77, L77, X77, hQ77, st77⟩ := kS X75 hx hZ (y := yN6) hown (hv hw 36 rfl) (hv hw 37 rfl) (hv hw 3 rfl) (hv hw 38 rfl) (by decide) (rmDp l Z a0 hw [] b59 k59 X75l r12 T75.heap n0 O75 ge59 q1_75 hr12.1 rp) rfl (W := 0) (g := (mkF m 227 #[.val (.long p0), sn, vi p1, vi 1, vi r8, vi 58, vi r10, vi r11, vi r12, vr b13, vr b44, vr b59, .val (.int (Int32.ofNat X75l.length)), un, un] [(.int r12), (.int (Int32.ofNat X75l.length)), (.ref b59)])) rfl (by rw [hml]; rfl) (argsL := [(.ref b59), (.int (Int32.ofNat X75l.length)), (.int r12)]) (rest := []) (lenOf pd_2 rfl) rfl (by exact Nat.le_of_eq rfl) (hb hby at_227) rfl (nb rfl) (nb rfl) (nb rfl) (nb rfl)
  obtain ⟨X77l, hD77, hl77, rfl, Nq77, Kq77, q1_77⟩ := hQ77
  have N77 := Fr.app N75 Nq77
  have K77 : Keep h0 T77.heap [] := K75.trans Kq77 (allS (P := fun zz => zz ∈ [] ∨ h0.size ≤ zz) (Or.inr sz59) all0)
  have O77 : Old Z n0 T77.heap := O75.keep Kq77 (allS ge59 all0)
  have sf78 : Safe Z consts_1 s.vm T77.heap b59 := (Safe.keep Kq77 (sfS sf76 sf0) H75 sf76)
  have H77 : CHv Z consts_1 s.vm T77.heap := H75.keep Kq77 (sfS sf76 sf0)
  have C77 : CHr Z consts_1 s.vm h0 s.vm T77.heap := C75.trans (CHr.keep Kq77 (sfS sf76 sf0) H75)
  have hk77 := Nat.le_trans hk75 Kq77.1
  refine Go.st st77 ?_
  show Go p.tables e below Kx _ (mkF m 230 _ [(.int (Int32.ofNat X77l.length))])
  have hp77 : X77l.length ≤ 10 := Nat.le_trans hl77 (Nat.add_le_add_right hp75 2)
  refine s_istore (pc' := 232) (Ls' := #[.val (.long p0), sn, vi p1, vi 1, vi r8, vi 58, vi r10, vi r11, vi r12, vr b13, vr b44, vr b59, .val (.int (Int32.ofNat X77l.length)), un, un]) X77.here hx (hb hby at_230) rfl  rfl ?_
  refine s_aload (pc' := 234) X77.here hx (hb hby at_232) rfl rfl rfl ?_
  have hn79 : ∀ c ∈ ([r8] : List Int32), ¬ c = 58 := by
   intro c hc
   simp only [List.mem_cons, List.not_mem_nil, or_false] at hc
   rcases hc with rfl
   ·
    exact (hr8.2.2.2 (by decide))
  have hn80 : ∀ c ∈ ([r8, (58 : Int32), r10, r11, r12] : List Int32), ¬ c = 10 := by
   intro c hc
   simp only [List.mem_cons, List.not_mem_nil, or_false] at hc
   rcases hc with rfl | rfl | rfl | rfl | rfl
   ·
    exact hr8.2.1
   ·
    exact (by decide)
   ·
    exact hr10.2.1
   ·
    exact hr11.2.1
   ·
    exact hr12.2.1
  have hn81 : ∀ c ∈ ([r8, (58 : Int32), r10, r11, r12] : List Int32), ¬ c = 13 := by
   intro c hc
   simp only [List.mem_cons, List.not_mem_nil, or_false] at hc
   rcases hc with rfl | rfl | rfl | rfl | rfl
   ·
    exact hr8.2.2.1
   ·
    exact (by decide)
   ·
    exact hr10.2.2.1
   ·
    exact hr11.2.2.1
   ·
    exact hr12.2.2.1
  have f229 : Str Z T77.heap T42.heap.size b13 [r8, (58 : Int32), r10, r11, r12] := ((((((((((St42.ext E44).ext E46).wr W50 (Nat.le_trans E44.1 (Nat.le_of_eq g46.symm))).keep Kq57 (allS (Nat.le_of_eq g44.symm) all0)).ext E59).keep Kq69 (allS (Nat.le_trans (Nat.le_trans (Nat.le_trans (Nat.le_trans E44.1 E46.1) (Nat.le_of_eq W50.size.symm)) Kq57.1) (Nat.le_of_eq g59.symm)) all0)).keep Kq71 (allS (Nat.le_trans (Nat.le_trans (Nat.le_trans (Nat.le_trans E44.1 E46.1) (Nat.le_of_eq W50.size.symm)) Kq57.1) (Nat.le_of_eq g59.symm)) all0)).keep Kq73 (allS (Nat.le_trans (Nat.le_trans (Nat.le_trans (Nat.le_trans E44.1 E46.1) (Nat.le_of_eq W50.size.symm)) Kq57.1) (Nat.le_of_eq g59.symm)) all0)).keep Kq75 (allS (Nat.le_trans (Nat.le_trans (Nat.le_trans (Nat.le_trans E44.1 E46.1) (Nat.le_of_eq W50.size.symm)) Kq57.1) (Nat.le_of_eq g59.symm)) all0)).keep Kq77 (allS (Nat.le_trans (Nat.le_trans (Nat.le_trans (Nat.le_trans E44.1 E46.1) (Nat.le_of_eq W50.size.symm)) Kq57.1) (Nat.le_of_eq g59.symm)) all0))
  obtain ⟨_, _, ⟨T230, L230, k230, n230⟩, -, X230, hS'230, hg'230, ⟨Lc230, hQ230, l230, y230, z230, Cr230⟩, st230⟩ := callSS X77 hx (y := yN3) hown (mvT hZ (hv hw 39 rfl)) (mvT hZ (hv hw 40 rfl)) (mvT hZ (hv hw 41 rfl)) (mvT hZ (hv hw 42 rfl)) (by decide) (backOfSH (W := 0) (rmPp l Z a0 hw [] b13 _ [r8] [r10, r11, r12] T77.heap n0 O77 hEL wS G1 S1 P1 vf hvf SFm f229 hn79 (by simp) (by simp) hn80 hn81 (by simp)) hZ (hv hw 42 rfl) (hv hw 41 rfl) (by decide) (by decide) hEL H77) (g := (mkF m 234 #[.val (.long p0), sn, vi p1, vi 1, vi r8, vi 58, vi r10, vi r11, vi r12, vr b13, vr b44, vr b59, .val (.int (Int32.ofNat X77l.length)), un, un] [(.ref b13)])) rfl (by rw [hml]; rfl) (argsL := [(.ref b13)]) (rest := []) (lenOf pd_21 rfl) rfl (by exact Nat.le_of_eq rfl) (hb hby at_234) (fun _ _ => ⟨rfl, rfl, (by decide : 7 + 11 ≤ _), (by decide : 30 + 162 ≤ _)⟩)
  dsimp only [Pt.U, Pt.locs, Pt.cells, Pt.slots] at X230 l230 y230 z230 st230 hQ230 hS'230 hg'230 Cr230
  rw [l230, y230, z230] at X230
  obtain ⟨d230, yu230, yp230, bu230, bp230, rfl, Nq230, Kq230, q1_230, q2_230, q3_230, q4_230, q5_230⟩ := hQ230
  have N230 := Fr.app N77 Nq230
  have X230 : Stand p l e _ (s.setVm T230.vm) m _ below meth c T230 _ _ _ := X230
  obtain ⟨hZ230, hown230⟩ := wideOn hZ hS'230 hown
  have hS230 : s.Since T230.vm T230.heap.size := hS0.trans hS'230 (Nat.le_trans hk77 hg'230)
  have hk230 := Nat.le_refl T230.heap.size
  have C230 := C77.trans Cr230
  have K230 : Keep h0 T230.heap [] := K77.trans Kq230 all0
  have O230 : Old Z n0 T230.heap := O77.keep Kq230 all0
  refine Go.tr st230 ?_
  show Go p.tables e below Kx _ (mkF m 237 _ [(.ref d230)])
  refine s_astore (pc' := 239) (Ls' := #[.val (.long p0), sn, vi p1, vi 1, vi r8, vi 58, vi r10, vi r11, vi r12, vr b13, vr b44, vr b59, .val (.int (Int32.ofNat X77l.length)), vr d230, un]) X230.here hx (hb hby at_237) rfl rfl rfl ?_
  refine s_aload (pc' := 241) X230.here hx (hb hby at_239) rfl rfl rfl ?_
  obtain ⟨_, T232, L232, X232, hQ232, st232⟩ := kV X230 hx hZ230 (y := yN4) hown230 (hv hw 153 rfl) (hv hw 154 rfl) (notFace_of_selects (args := #[]) (mvT hZ230 (hv hw 156 rfl))) (hv hw 156 rfl) (hv hw 155 rfl) (hv hw 41 rfl) (hv hw 157 rfl) (by decide) (rmDu l Z a0 hw [] d230 yu230 T230.heap n0 O230 q2_230) rfl q1_230 (W := 0) (g := (mkF m 241 #[.val (.long p0), sn, vi p1, vi 1, vi r8, vi 58, vi r10, vi r11, vi r12, vr b13, vr b44, vr b59, .val (.int (Int32.ofNat X77l.length)), vr d230, un] [(.ref d230)])) rfl (by rw [hml]; rfl) (argsL := []) (rest := []) (lenOf pd_22 rfl) rfl (by exact Nat.le_of_eq rfl) (hb hby at_241) rfl (nb rfl) (nb rfl) (nb rfl) (nb rfl)
  obtain ⟨rfl, Nq232, hE232⟩ := hQ232
  have N232 := Fr.app N230 Nq232
  refine Go.tr st232 ?_
  show Go p.tables e below Kx _ (mkF m 244 _ [(.ref yu230)])
  refine s_aload (pc' := 246) X232.here hx (hb hby at_244) rfl rfl rfl ?_
  have f233 : Str Z T230.heap T57.heap.size b44 [r8] := (((((((St57.ext E59).keep Kq69 (allS (Nat.le_of_eq g59.symm) all0)).keep Kq71 (allS (Nat.le_of_eq g59.symm) all0)).keep Kq73 (allS (Nat.le_of_eq g59.symm) all0)).keep Kq75 (allS (Nat.le_of_eq g59.symm) all0)).keep Kq77 (allS (Nat.le_of_eq g59.symm) all0)).keep Kq230 all0)
  obtain ⟨-, sE234, sC234, ⟨st234, sk234, -, sF234, sA234⟩, sp234, sl234⟩ := id q4_230
  obtain ⟨-, sE235, sC235, ⟨st235, sk235, -, sF235, sA235⟩, sp235, sl235⟩ := id f233
  obtain ⟨cq236, kq236, q236a, q236b, q236c⟩ := isOf hZ230 hE232 sE234
  obtain ⟨_, _, ⟨T236, L236, k236, n236⟩, -, X236, ⟨Lc236, hQ236, l236, y236, z236⟩, st236⟩ := X232.virtualBack hx (y := yN26) (z := yN26) hown230 (mvT hZ230 (hv hw 158 rfl)) (mvT hZ230 (hv hw 159 rfl)) (notFace_of_selects (args := #[]) (mvT hZ230 (hv hw 161 rfl))) (mvT hZ230 (hv hw 161 rfl)) (mvT hZ230 (hv hw 160 rfl)) (by decide) (StrChars.Road.eqW (W := 0) (s := (s.setVm T230.vm)) hZ230 (hwsE Z a0 hw) (kI := 4) (hv hw 7 rfl) sE234 sF234 sC234 sA234 (StrChars.Road.codOf rfl (fun c hc => (sp234 c hc).2)) (chr_up sp234) sl234 sE235 sF235 sC235 sA235 (StrChars.Road.codOf rfl (fun c hc => (sp235 c hc).2)) (chr_up sp235) sl235 (S1.ext O230.2) P1 (by decide) (by decide)) q236a q236c (g := (mkF m 246 #[.val (.long p0), sn, vi p1, vi 1, vi r8, vi 58, vi r10, vi r11, vi r12, vr b13, vr b44, vr b59, .val (.int (Int32.ofNat X77l.length)), vr d230, un] [(.ref b44), (.ref yu230)])) rfl (by rw [hml]; rfl) (Steps.refl _) (argsL := [(.ref b44)]) (rest := []) (lenOf pd_23 rfl) rfl (by exact Nat.le_of_eq rfl) (hb hby at_246) (fun _ _ => ⟨rfl, hE232, (by decide : 18 + 0 ≤ _), (by decide : 192 + 0 ≤ _)⟩)
  dsimp only [Pt.U, Pt.locs, Pt.cells, Pt.slots] at X236 l236 y236 z236 st236 hQ236
  rw [l236, y236, z236] at X236
  obtain ⟨hv236, rfl, hE236⟩ := hQ236
  rcases hv236 with ⟨rfl, hs236⟩ | ⟨rfl, hs236⟩
  ·
   have N236 := Fr.app N232 (Fr.nil n0)
   refine Go.tr st236 ?_
   show Go p.tables e below Kx _ (mkF m 249 _ [(.int 1)])
   refine s_ifY (pc' := 254) X236.here hx (hb hby at_249) ((if0 _ _).trans (feq (by decide)).2) (by decide) (by decide) ?_
   refine s_aload (pc' := 256) X236.here hx (hb hby at_254) rfl rfl rfl ?_
   obtain ⟨cq401, kq401, q401a, q401b, q401c⟩ := isOf hZ230 hE236 q1_230
   obtain ⟨_, _, ⟨T401, L401, k401, n401⟩, -, X401, hS'401, hg'401, ⟨Lc401, hQ401, l401, y401, z401, Cr401⟩, st401⟩ := X236.virtualBackS hx (y := yN1) (z := yN1) hown230 (mvT hZ230 (hv hw 167 rfl)) (mvT hZ230 (hv hw 168 rfl)) (notFace_of_selects (args := #[]) (mvT hZ230 (hv hw 170 rfl))) (mvT hZ230 (hv hw 170 rfl)) (mvT hZ230 (hv hw 169 rfl)) (by decide) (backOfSH (W := 0) (rmDa l Z a0 hw [] d230 yu230 yp230 u8 _ _ [r8] [r10, r11, r12] T230.heap n0 O230 hEL wS G1 S1 P1 SU SC q1_230 q2_230 q3_230 q4_230 q5_230 (by simp)) hZ230 (hv hw 171 rfl) (hv hw 41 rfl) (by decide) (by decide) hEL Cr230.1) q401a q401c (g := (mkF m 256 #[.val (.long p0), sn, vi p1, vi 1, vi r8, vi 58, vi r10, vi r11, vi r12, vr b13, vr b44, vr b59, .val (.int (Int32.ofNat X77l.length)), vr d230, un] [(.ref d230)])) rfl (by rw [hml]; rfl) (Steps.refl _) (argsL := []) (rest := []) (lenOf pd_31 rfl) rfl (by exact Nat.le_of_eq rfl) (hb hby at_256) (fun _ _ => ⟨rfl, hE236, (by decide : 18 + 8 ≤ _), (by decide : 192 + 120 ≤ _)⟩)
   dsimp only [Pt.U, Pt.locs, Pt.cells, Pt.slots] at X401 l401 y401 z401 st401 hQ401 hS'401 hg'401 Cr401
   rw [l401, y401, z401] at X401
   obtain ⟨t401, kt401, rfl, Nq401, Kq401, le401, q1_401⟩ := hQ401
   have sz401 : h0.size ≤ t401 := Nat.le_trans K230.1 le401
   have ge401 : n0 ≤ t401 := Nat.le_trans (O230.1 ▸ O230.2.1) le401
   have sn401 : Safe Z consts_1 T230.vm T230.heap t401 := Safe.new le401
   have N401 := Fr.app N236 Nq401
   have X401 : Stand p l e _ (s.setVm T401.vm) m _ below meth c T401 _ _ _ := X401
   obtain ⟨hZ401, hown401⟩ := wideOn hZ230 hS'401 hown230
   have hS401 : s.Since T401.vm T401.heap.size := hS230.trans hS'401 (Nat.le_trans hk230 (by rw [hE236] at hg'401; exact hg'401))
   have hk401 := Nat.le_refl T401.heap.size
   have C401 := C230.trans Cr401
   have K401 : Keep h0 T401.heap [] := K230.trans Kq401 all0
   have O401 : Old Z n0 T401.heap := O230.keep Kq401 all0
   refine Go.tr st401 ?_
   show Go p.tables e below Kx _ (mkF m 259 _ [(.ref t401)])
   have hX401 : enc (((([] : List Int32) ++ (i8s [r8])) ++ [(58 : Int32)]) ++ (i8s [r10, r11, r12])) = X77l := by rw [hD77, hD75, hD73, hD71, hD69]; simp [i8s, enc, encB58, t58]
   rw [hX401] at q1_401
   refine s_astore (pc' := 261) (Ls' := #[.val (.long p0), sn, vi p1, vi 1, vi r8, vi 58, vi r10, vi r11, vi r12, vr b13, vr b44, vr b59, .val (.int (Int32.ofNat X77l.length)), vr d230, vr t401]) X401.here hx (hb hby at_259) rfl rfl rfl ?_
   refine s_aload (pc' := 263) X401.here hx (hb hby at_261) rfl rfl rfl ?_
   obtain ⟨cl402, Ar402, Aq402, As402, An402, Ah402, Ag402⟩ := id q1_401
   refine Go.st (X401.arraylength hx (by  exact Ar402.1) (State.isArrayOf_alike hZ401.alike Ar402.2.1) (g := (mkF m 263 #[.val (.long p0), sn, vi p1, vi 1, vi r8, vi 58, vi r10, vi r11, vi r12, vr b13, vr b44, vr b59, .val (.int (Int32.ofNat X77l.length)), vr d230, vr t401] [(.ref t401)])) rfl rfl (hb hby at_263)) ?_
   rw [len_of As402 An402]
   show Go p.tables e below Kx _ (mkF m 264 _ [(.int (Int32.ofNat X77l.length))])
   refine s_iload (pc' := 266) X401.here hx (hb hby at_264) rfl rfl ?_
   refine s_icmpN (pc' := 269) X401.here hx (hb hby at_266) rfl (teq rfl).2 ?_
   refine s_aload (pc' := 271) X401.here hx (hb hby at_269) rfl rfl rfl ?_
   refine s_aload (pc' := 273) X401.here hx (hb hby at_271) rfl rfl rfl ?_
   refine s_iconst (pc' := 274) (v := 0) X401.here hx (hb hby at_273) rfl rfl ?_
   refine s_iload (pc' := 276) X401.here hx (hb hby at_274) rfl rfl ?_
   have f408 : Arv Z T401.heap b59 k59 .byte 10 (pad 10 X77l) (.int 0) := ((q1_77.keep Kq230 nin0).keep Kq401 nin0)
   obtain ⟨_, T409, L409, X409, hQ409, st409⟩ := kS X401 hx hZ401 (y := yN7) hown401 (hv hw 288 rfl) (hv hw 289 rfl) (hv hw 3 rfl) (hv hw 290 rfl) (by decide) (rmDs l Z a0 hw [] t401 b59 _ _ X77l 0 T401.heap n0 O401 q1_401 f408 (Nat.le_trans hp77 (by decide)) (by decide)) rfl (W := 0) (g := (mkF m 276 #[.val (.long p0), sn, vi p1, vi 1, vi r8, vi 58, vi r10, vi r11, vi r12, vr b13, vr b44, vr b59, .val (.int (Int32.ofNat X77l.length)), vr d230, vr t401] [(.int (Int32.ofNat X77l.length)), (.int 0), (.ref b59), (.ref t401)])) rfl (by rw [hml]; rfl) (argsL := [(.ref t401), (.ref b59), (.int 0), (.int (Int32.ofNat X77l.length))]) (rest := []) (lenOf pd_41 rfl) rfl (by exact Nat.le_of_eq rfl) (hb hby at_276) rfl (nb rfl) (nb rfl) (nb rfl) (nb rfl)
   obtain ⟨rfl, Nq409, hE409⟩ := hQ409
   have N409 := Fr.app N401 Nq409
   refine Go.st st409 ?_
   show Go p.tables e below Kx _ (mkF m 279 _ [(.int 1)])
   refine s_ifN (pc' := 282) X409.here hx (hb hby at_279) rfl ((if0 _ _).trans (feq (by decide)).1) ?_
   refine s_aload (pc' := 284) X409.here hx (hb hby at_282) rfl rfl rfl ?_
   refine s_aload (pc' := 286) X409.here hx (hb hby at_284) rfl rfl rfl ?_
   refine s_iconst (pc' := 287) (v := 1) X409.here hx (hb hby at_286) rfl rfl ?_
   refine s_iload (pc' := 289) X409.here hx (hb hby at_287) rfl rfl ?_
   obtain ⟨_, T410, L410, X410, hQ410, st410⟩ := kS X409 hx hZ401 (y := yN7) hown401 (hv hw 288 rfl) (hv hw 289 rfl) (hv hw 3 rfl) (hv hw 290 rfl) (by decide) (rmDs l Z a0 hw [] t401 b59 _ _ X77l 1 T401.heap n0 O401 q1_401 f408 (Nat.le_trans hp77 (by decide)) (by decide)) hE409 (W := 0) (g := (mkF m 289 #[.val (.long p0), sn, vi p1, vi 1, vi r8, vi 58, vi r10, vi r11, vi r12, vr b13, vr b44, vr b59, .val (.int (Int32.ofNat X77l.length)), vr d230, vr t401] [(.int (Int32.ofNat X77l.length)), (.int 1), (.ref b59), (.ref t401)])) rfl (by rw [hml]; rfl) (argsL := [(.ref t401), (.ref b59), (.int 1), (.int (Int32.ofNat X77l.length))]) (rest := []) (lenOf pd_41 rfl) rfl (by exact Nat.le_of_eq rfl) (hb hby at_289) rfl (nb rfl) (nb rfl) (nb rfl) (nb rfl)
   obtain ⟨rfl, Nq410, hE410⟩ := hQ410
   have N410 := Fr.app N409 Nq410
   refine Go.st st410 ?_
   show Go p.tables e below Kx _ (mkF m 292 _ [(.int 1)])
   refine s_ifN (pc' := 295) X410.here hx (hb hby at_292) rfl ((if0 _ _).trans (feq (by decide)).1) ?_
   refine s_aload (pc' := 297) X410.here hx (hb hby at_295) rfl rfl rfl ?_
   refine s_aload (pc' := 299) X410.here hx (hb hby at_297) rfl rfl rfl ?_
   refine s_iconst (pc' := 300) (v := 2) X410.here hx (hb hby at_299) rfl rfl ?_
   refine s_iload (pc' := 302) X410.here hx (hb hby at_300) rfl rfl ?_
   obtain ⟨_, T411, L411, X411, hQ411, st411⟩ := kS X410 hx hZ401 (y := yN7) hown401 (hv hw 288 rfl) (hv hw 289 rfl) (hv hw 3 rfl) (hv hw 290 rfl) (by decide) (rmDs l Z a0 hw [] t401 b59 _ _ X77l 2 T401.heap n0 O401 q1_401 f408 (Nat.le_trans hp77 (by decide)) (by decide)) hE410 (W := 0) (g := (mkF m 302 #[.val (.long p0), sn, vi p1, vi 1, vi r8, vi 58, vi r10, vi r11, vi r12, vr b13, vr b44, vr b59, .val (.int (Int32.ofNat X77l.length)), vr d230, vr t401] [(.int (Int32.ofNat X77l.length)), (.int 2), (.ref b59), (.ref t401)])) rfl (by rw [hml]; rfl) (argsL := [(.ref t401), (.ref b59), (.int 2), (.int (Int32.ofNat X77l.length))]) (rest := []) (lenOf pd_41 rfl) rfl (by exact Nat.le_of_eq rfl) (hb hby at_302) rfl (nb rfl) (nb rfl) (nb rfl) (nb rfl)
   obtain ⟨rfl, Nq411, hE411⟩ := hQ411
   have N411 := Fr.app N410 Nq411
   refine Go.st st411 ?_
   show Go p.tables e below Kx _ (mkF m 305 _ [(.int 1)])
   refine s_ifN (pc' := 308) X411.here hx (hb hby at_305) rfl ((if0 _ _).trans (feq (by decide)).1) ?_
   refine s_aload (pc' := 310) X411.here hx (hb hby at_308) rfl rfl rfl ?_
   refine s_aload (pc' := 312) X411.here hx (hb hby at_310) rfl rfl rfl ?_
   refine s_iconst (pc' := 313) (v := 3) X411.here hx (hb hby at_312) rfl rfl ?_
   refine s_iload (pc' := 315) X411.here hx (hb hby at_313) rfl rfl ?_
   obtain ⟨_, T412, L412, X412, hQ412, st412⟩ := kS X411 hx hZ401 (y := yN7) hown401 (hv hw 288 rfl) (hv hw 289 rfl) (hv hw 3 rfl) (hv hw 290 rfl) (by decide) (rmDs l Z a0 hw [] t401 b59 _ _ X77l 3 T401.heap n0 O401 q1_401 f408 (Nat.le_trans hp77 (by decide)) (by decide)) hE411 (W := 0) (g := (mkF m 315 #[.val (.long p0), sn, vi p1, vi 1, vi r8, vi 58, vi r10, vi r11, vi r12, vr b13, vr b44, vr b59, .val (.int (Int32.ofNat X77l.length)), vr d230, vr t401] [(.int (Int32.ofNat X77l.length)), (.int 3), (.ref b59), (.ref t401)])) rfl (by rw [hml]; rfl) (argsL := [(.ref t401), (.ref b59), (.int 3), (.int (Int32.ofNat X77l.length))]) (rest := []) (lenOf pd_41 rfl) rfl (by exact Nat.le_of_eq rfl) (hb hby at_315) rfl (nb rfl) (nb rfl) (nb rfl) (nb rfl)
   obtain ⟨rfl, Nq412, hE412⟩ := hQ412
   have N412 := Fr.app N411 Nq412
   refine Go.st st412 ?_
   show Go p.tables e below Kx _ (mkF m 318 _ [(.int 1)])
   refine s_ifN (pc' := 321) X412.here hx (hb hby at_318) rfl ((if0 _ _).trans (feq (by decide)).1) ?_
   refine s_aload (pc' := 323) X412.here hx (hb hby at_321) rfl rfl rfl ?_
   refine s_aload (pc' := 325) X412.here hx (hb hby at_323) rfl rfl rfl ?_
   refine s_iconst (pc' := 326) (v := 4) X412.here hx (hb hby at_325) rfl rfl ?_
   refine s_iload (pc' := 328) X412.here hx (hb hby at_326) rfl rfl ?_
   obtain ⟨_, T413, L413, X413, hQ413, st413⟩ := kS X412 hx hZ401 (y := yN7) hown401 (hv hw 288 rfl) (hv hw 289 rfl) (hv hw 3 rfl) (hv hw 290 rfl) (by decide) (rmDs l Z a0 hw [] t401 b59 _ _ X77l 4 T401.heap n0 O401 q1_401 f408 (Nat.le_trans hp77 (by decide)) (by decide)) hE412 (W := 0) (g := (mkF m 328 #[.val (.long p0), sn, vi p1, vi 1, vi r8, vi 58, vi r10, vi r11, vi r12, vr b13, vr b44, vr b59, .val (.int (Int32.ofNat X77l.length)), vr d230, vr t401] [(.int (Int32.ofNat X77l.length)), (.int 4), (.ref b59), (.ref t401)])) rfl (by rw [hml]; rfl) (argsL := [(.ref t401), (.ref b59), (.int 4), (.int (Int32.ofNat X77l.length))]) (rest := []) (lenOf pd_41 rfl) rfl (by exact Nat.le_of_eq rfl) (hb hby at_328) rfl (nb rfl) (nb rfl) (nb rfl) (nb rfl)
   obtain ⟨rfl, Nq413, hE413⟩ := hQ413
   have N413 := Fr.app N412 Nq413
   refine Go.st st413 ?_
   show Go p.tables e below Kx _ (mkF m 331 _ [(.int 1)])
   refine s_ifN (pc' := 334) X413.here hx (hb hby at_331) rfl ((if0 _ _).trans (feq (by decide)).1) ?_
   refine s_aload (pc' := 336) X413.here hx (hb hby at_334) rfl rfl rfl ?_
   refine s_aload (pc' := 338) X413.here hx (hb hby at_336) rfl rfl rfl ?_
   refine s_iconst (pc' := 339) (v := 5) X413.here hx (hb hby at_338) rfl rfl ?_
   refine s_iload (pc' := 341) X413.here hx (hb hby at_339) rfl rfl ?_
   obtain ⟨_, T414, L414, X414, hQ414, st414⟩ := kS X413 hx hZ401 (y := yN7) hown401 (hv hw 288 rfl) (hv hw 289 rfl) (hv hw 3 rfl) (hv hw 290 rfl) (by decide) (rmDs l Z a0 hw [] t401 b59 _ _ X77l 5 T401.heap n0 O401 q1_401 f408 (Nat.le_trans hp77 (by decide)) (by decide)) hE413 (W := 0) (g := (mkF m 341 #[.val (.long p0), sn, vi p1, vi 1, vi r8, vi 58, vi r10, vi r11, vi r12, vr b13, vr b44, vr b59, .val (.int (Int32.ofNat X77l.length)), vr d230, vr t401] [(.int (Int32.ofNat X77l.length)), (.int 5), (.ref b59), (.ref t401)])) rfl (by rw [hml]; rfl) (argsL := [(.ref t401), (.ref b59), (.int 5), (.int (Int32.ofNat X77l.length))]) (rest := []) (lenOf pd_41 rfl) rfl (by exact Nat.le_of_eq rfl) (hb hby at_341) rfl (nb rfl) (nb rfl) (nb rfl) (nb rfl)
   obtain ⟨rfl, Nq414, hE414⟩ := hQ414
   have N414 := Fr.app N413 Nq414
   refine Go.st st414 ?_
   show Go p.tables e below Kx _ (mkF m 344 _ [(.int 1)])
   refine s_ifN (pc' := 347) X414.here hx (hb hby at_344) rfl ((if0 _ _).trans (feq (by decide)).1) ?_
   refine s_aload (pc' := 349) X414.here hx (hb hby at_347) rfl rfl rfl ?_
   refine s_aload (pc' := 351) X414.here hx (hb hby at_349) rfl rfl rfl ?_
   refine s_bipush (pc' := 353) (v := 6) X414.here hx (hb hby at_351) rfl rfl ?_
   refine s_iload (pc' := 355) X414.here hx (hb hby at_353) rfl rfl ?_
   obtain ⟨_, T415, L415, X415, hQ415, st415⟩ := kS X414 hx hZ401 (y := yN7) hown401 (hv hw 288 rfl) (hv hw 289 rfl) (hv hw 3 rfl) (hv hw 290 rfl) (by decide) (rmDs l Z a0 hw [] t401 b59 _ _ X77l 6 T401.heap n0 O401 q1_401 f408 (Nat.le_trans hp77 (by decide)) (by decide)) hE414 (W := 0) (g := (mkF m 355 #[.val (.long p0), sn, vi p1, vi 1, vi r8, vi 58, vi r10, vi r11, vi r12, vr b13, vr b44, vr b59, .val (.int (Int32.ofNat X77l.length)), vr d230, vr t401] [(.int (Int32.ofNat X77l.length)), (.int 6), (.ref b59), (.ref t401)])) rfl (by rw [hml]; rfl) (argsL := [(.ref t401), (.ref b59), (.int 6), (.int (Int32.ofNat X77l.length))]) (rest := []) (lenOf pd_41 rfl) rfl (by exact Nat.le_of_eq rfl) (hb hby at_355) rfl (nb rfl) (nb rfl) (nb rfl) (nb rfl)
   obtain ⟨rfl, Nq415, hE415⟩ := hQ415
   have N415 := Fr.app N414 Nq415
   refine Go.st st415 ?_
   show Go p.tables e below Kx _ (mkF m 358 _ [(.int 1)])
   refine s_ifN (pc' := 361) X415.here hx (hb hby at_358) rfl ((if0 _ _).trans (feq (by decide)).1) ?_
   refine s_aload (pc' := 363) X415.here hx (hb hby at_361) rfl rfl rfl ?_
   refine s_aload (pc' := 365) X415.here hx (hb hby at_363) rfl rfl rfl ?_
   refine s_bipush (pc' := 367) (v := 7) X415.here hx (hb hby at_365) rfl rfl ?_
   refine s_iload (pc' := 369) X415.here hx (hb hby at_367) rfl rfl ?_
   obtain ⟨_, T416, L416, X416, hQ416, st416⟩ := kS X415 hx hZ401 (y := yN7) hown401 (hv hw 288 rfl) (hv hw 289 rfl) (hv hw 3 rfl) (hv hw 290 rfl) (by decide) (rmDs l Z a0 hw [] t401 b59 _ _ X77l 7 T401.heap n0 O401 q1_401 f408 (Nat.le_trans hp77 (by decide)) (by decide)) hE415 (W := 0) (g := (mkF m 369 #[.val (.long p0), sn, vi p1, vi 1, vi r8, vi 58, vi r10, vi r11, vi r12, vr b13, vr b44, vr b59, .val (.int (Int32.ofNat X77l.length)), vr d230, vr t401] [(.int (Int32.ofNat X77l.length)), (.int 7), (.ref b59), (.ref t401)])) rfl (by rw [hml]; rfl) (argsL := [(.ref t401), (.ref b59), (.int 7), (.int (Int32.ofNat X77l.length))]) (rest := []) (lenOf pd_41 rfl) rfl (by exact Nat.le_of_eq rfl) (hb hby at_369) rfl (nb rfl) (nb rfl) (nb rfl) (nb rfl)
   obtain ⟨rfl, Nq416, hE416⟩ := hQ416
   have N416 := Fr.app N415 Nq416
   refine Go.st st416 ?_
   show Go p.tables e below Kx _ (mkF m 372 _ [(.int 1)])
   refine s_ifN (pc' := 375) X416.here hx (hb hby at_372) rfl ((if0 _ _).trans (feq (by decide)).1) ?_
   refine s_aload (pc' := 377) X416.here hx (hb hby at_375) rfl rfl rfl ?_
   refine s_aload (pc' := 379) X416.here hx (hb hby at_377) rfl rfl rfl ?_
   refine s_bipush (pc' := 381) (v := 8) X416.here hx (hb hby at_379) rfl rfl ?_
   refine s_iload (pc' := 383) X416.here hx (hb hby at_381) rfl rfl ?_
   obtain ⟨_, T417, L417, X417, hQ417, st417⟩ := kS X416 hx hZ401 (y := yN7) hown401 (hv hw 288 rfl) (hv hw 289 rfl) (hv hw 3 rfl) (hv hw 290 rfl) (by decide) (rmDs l Z a0 hw [] t401 b59 _ _ X77l 8 T401.heap n0 O401 q1_401 f408 (Nat.le_trans hp77 (by decide)) (by decide)) hE416 (W := 0) (g := (mkF m 383 #[.val (.long p0), sn, vi p1, vi 1, vi r8, vi 58, vi r10, vi r11, vi r12, vr b13, vr b44, vr b59, .val (.int (Int32.ofNat X77l.length)), vr d230, vr t401] [(.int (Int32.ofNat X77l.length)), (.int 8), (.ref b59), (.ref t401)])) rfl (by rw [hml]; rfl) (argsL := [(.ref t401), (.ref b59), (.int 8), (.int (Int32.ofNat X77l.length))]) (rest := []) (lenOf pd_41 rfl) rfl (by exact Nat.le_of_eq rfl) (hb hby at_383) rfl (nb rfl) (nb rfl) (nb rfl) (nb rfl)
   obtain ⟨rfl, Nq417, hE417⟩ := hQ417
   have N417 := Fr.app N416 Nq417
   refine Go.st st417 ?_
   show Go p.tables e below Kx _ (mkF m 386 _ [(.int 1)])
   refine s_ifN (pc' := 389) X417.here hx (hb hby at_386) rfl ((if0 _ _).trans (feq (by decide)).1) ?_
   refine s_aload (pc' := 391) X417.here hx (hb hby at_389) rfl rfl rfl ?_
   refine s_aload (pc' := 393) X417.here hx (hb hby at_391) rfl rfl rfl ?_
   refine s_bipush (pc' := 395) (v := 9) X417.here hx (hb hby at_393) rfl rfl ?_
   refine s_iload (pc' := 397) X417.here hx (hb hby at_395) rfl rfl ?_
   obtain ⟨_, T418, L418, X418, hQ418, st418⟩ := kS X417 hx hZ401 (y := yN7) hown401 (hv hw 288 rfl) (hv hw 289 rfl) (hv hw 3 rfl) (hv hw 290 rfl) (by decide) (rmDs l Z a0 hw [] t401 b59 _ _ X77l 9 T401.heap n0 O401 q1_401 f408 (Nat.le_trans hp77 (by decide)) (by decide)) hE417 (W := 0) (g := (mkF m 397 #[.val (.long p0), sn, vi p1, vi 1, vi r8, vi 58, vi r10, vi r11, vi r12, vr b13, vr b44, vr b59, .val (.int (Int32.ofNat X77l.length)), vr d230, vr t401] [(.int (Int32.ofNat X77l.length)), (.int 9), (.ref b59), (.ref t401)])) rfl (by rw [hml]; rfl) (argsL := [(.ref t401), (.ref b59), (.int 9), (.int (Int32.ofNat X77l.length))]) (rest := []) (lenOf pd_41 rfl) rfl (by exact Nat.le_of_eq rfl) (hb hby at_397) rfl (nb rfl) (nb rfl) (nb rfl) (nb rfl)
   obtain ⟨rfl, Nq418, hE418⟩ := hQ418
   have N418 := Fr.app N417 Nq418
   refine Go.st st418 ?_
   show Go p.tables e below Kx _ (mkF m 400 _ [(.int 1)])
   refine s_ifN (pc' := 403) X418.here hx (hb hby at_400) rfl ((if0 _ _).trans (feq (by decide)).1) ?_
   refine s_iconst (pc' := 404) (v := 1) X418.here hx (hb hby at_403) rfl rfl ?_
   refine s_goto (pc' := 408) X418.here hx (hb hby at_404) (by decide) (by decide) ?_
   obtain ⟨fs, hr, hrun, hended, hRW⟩ := X418.leaveW hS401 (by rw [hE418]; exact hk401) (v := (some (.int 1))) (fun h => by rw [Bd.returns] at h; cases h)
   have hCx := C401.trans (CHv.at X418 hZ401 hEL Cr401.1)
   refine Go.fin (retN X418 hx (t := .boolean) Bd.returns (by simp) (hb hby at_408) hr) (hF _ _ hrun hended ⟨_, _, rfl, ?_, ?_, hRW.1, hRW.2.1, hRW.2.2.1, hRW.2.2.2.mono (by decide) (by decide)⟩)
   ·
    show QL Z p0 p1 u8 h0 n0 ((some (.int 1)) : Option Value) T418.heap _
    rw [hE418]
    exact ⟨rfl, N418⟩
   ·
    show CHr Z consts_1 s.vm s.heap T418.vm T418.heap
    rw [hE418, hh]; exact hCx
  ·
   have N236 := Fr.app N232 (Fr.nil n0)
   refine Go.tr st236 ?_
   show Go p.tables e below Kx _ (mkF m 249 _ [(.int 0)])
   exact absurd rfl hs236
 ·
  rw [hpp7]
  show Go p.tables e below Kx _ (mkF m 8 _ [(.int 2)])
  refine s_istoreN (pc' := 9) (Ls' := #[.val (.long p0), sn, vi p1, vi 2, un, un, un, un, un, un, un, un, un, un, un]) X0.here hx (hb hby at_8) rfl  rfl ?_
  refine s_lloadN (pc' := 10) X0.here hx (hb hby at_9) rfl rfl ?_
  refine s_iconst (pc' := 11) (v := 0) X0.here hx (hb hby at_10) rfl rfl ?_
  refine s_iloadN (pc' := 12) X0.here hx (hb hby at_11) rfl rfl ?_
  obtain ⟨_, T419, L419, X419, hQ419, st419⟩ := kS X0 hx hZ (y := yN5) hown (hv hw 1 rfl) (hv hw 2 rfl) (hv hw 3 rfl) (hv hw 4 rfl) (by decide) (rmCn l Z a0 hw [] p0 0 2 h0 n0 X00 (by decide)) e0 (W := 0) (g := (mkF m 12 #[.val (.long p0), sn, vi p1, vi 2, un, un, un, un, un, un, un, un, un, un, un] [(.int 2), (.int 0), (.long p0)])) rfl (by rw [hml]; rfl) (argsL := [(.long p0), (.int 0), (.int 2)]) (rest := []) (lenOf pd_0 rfl) rfl (by exact Nat.le_of_eq rfl) (hb hby at_12) rfl (nb rfl) (nb rfl) (nb rfl) (nb rfl)
  obtain ⟨⟨r419, rfl, hr419⟩, Nq419, hE419⟩ := hQ419
  have N419 := Fr.app N0 Nq419
  refine Go.st st419 ?_
  show Go p.tables e below Kx _ (mkF m 15 _ [(.int r419)])
  refine s_istore (pc' := 17) (Ls' := #[.val (.long p0), sn, vi p1, vi 2, vi r419, un, un, un, un, un, un, un, un, un, un]) X419.here hx (hb hby at_15) rfl  rfl ?_
  refine s_lloadN (pc' := 18) X419.here hx (hb hby at_17) rfl rfl ?_
  refine s_iconst (pc' := 19) (v := 1) X419.here hx (hb hby at_18) rfl rfl ?_
  refine s_iloadN (pc' := 20) X419.here hx (hb hby at_19) rfl rfl ?_
  obtain ⟨_, T420, L420, X420, hQ420, st420⟩ := kS X419 hx hZ (y := yN5) hown (hv hw 1 rfl) (hv hw 2 rfl) (hv hw 3 rfl) (hv hw 4 rfl) (by decide) (rmCn l Z a0 hw [] p0 1 2 h0 n0 X00 (by decide)) hE419 (W := 0) (g := (mkF m 20 #[.val (.long p0), sn, vi p1, vi 2, vi r419, un, un, un, un, un, un, un, un, un, un] [(.int 2), (.int 1), (.long p0)])) rfl (by rw [hml]; rfl) (argsL := [(.long p0), (.int 1), (.int 2)]) (rest := []) (lenOf pd_0 rfl) rfl (by exact Nat.le_of_eq rfl) (hb hby at_20) rfl (nb rfl) (nb rfl) (nb rfl) (nb rfl)
  obtain ⟨⟨r420, rfl, hr420⟩, Nq420, hE420⟩ := hQ420
  have N420 := Fr.app N419 Nq420
  refine Go.st st420 ?_
  show Go p.tables e below Kx _ (mkF m 23 _ [(.int r420)])
  refine s_istore (pc' := 25) (Ls' := #[.val (.long p0), sn, vi p1, vi 2, vi r419, vi r420, un, un, un, un, un, un, un, un, un]) X420.here hx (hb hby at_23) rfl  rfl ?_
  refine s_lloadN (pc' := 26) X420.here hx (hb hby at_25) rfl rfl ?_
  refine s_iconst (pc' := 27) (v := 2) X420.here hx (hb hby at_26) rfl rfl ?_
  refine s_iloadN (pc' := 28) X420.here hx (hb hby at_27) rfl rfl ?_
  obtain ⟨_, T421, L421, X421, hQ421, st421⟩ := kS X420 hx hZ (y := yN5) hown (hv hw 1 rfl) (hv hw 2 rfl) (hv hw 3 rfl) (hv hw 4 rfl) (by decide) (rmCe l Z a0 hw [] p0 2 h0 n0 X00 ) hE420 (W := 0) (g := (mkF m 28 #[.val (.long p0), sn, vi p1, vi 2, vi r419, vi r420, un, un, un, un, un, un, un, un, un] [(.int 2), (.int 2), (.long p0)])) rfl (by rw [hml]; rfl) (argsL := [(.long p0), (.int 2), (.int 2)]) (rest := []) (lenOf pd_0 rfl) rfl (by exact Nat.le_of_eq rfl) (hb hby at_28) rfl (nb rfl) (nb rfl) (nb rfl) (nb rfl)
  obtain ⟨rfl, Nq421, hE421⟩ := hQ421
  have N421 := Fr.app N420 Nq421
  refine Go.st st421 ?_
  show Go p.tables e below Kx _ (mkF m 31 _ [(.int 58)])
  refine s_istore (pc' := 33) (Ls' := #[.val (.long p0), sn, vi p1, vi 2, vi r419, vi r420, vi 58, un, un, un, un, un, un, un, un]) X421.here hx (hb hby at_31) rfl  rfl ?_
  refine s_lloadN (pc' := 34) X421.here hx (hb hby at_33) rfl rfl ?_
  refine s_iconst (pc' := 35) (v := 3) X421.here hx (hb hby at_34) rfl rfl ?_
  refine s_iloadN (pc' := 36) X421.here hx (hb hby at_35) rfl rfl ?_
  obtain ⟨_, T422, L422, X422, hQ422, st422⟩ := kS X421 hx hZ (y := yN5) hown (hv hw 1 rfl) (hv hw 2 rfl) (hv hw 3 rfl) (hv hw 4 rfl) (by decide) (rmCn l Z a0 hw [] p0 3 2 h0 n0 X00 (by decide)) hE421 (W := 0) (g := (mkF m 36 #[.val (.long p0), sn, vi p1, vi 2, vi r419, vi r420, vi 58, un, un, un, un, un, un, un, un] [(.int 2), (.int 3), (.long p0)])) rfl (by rw [hml]; rfl) (argsL := [(.long p0), (.int 3), (.int 2)]) (rest := []) (lenOf pd_0 rfl) rfl (by exact Nat.le_of_eq rfl) (hb hby at_36) rfl (nb rfl) (nb rfl) (nb rfl) (nb rfl)
  obtain ⟨⟨r422, rfl, hr422⟩, Nq422, hE422⟩ := hQ422
  have N422 := Fr.app N421 Nq422
  refine Go.st st422 ?_
  show Go p.tables e below Kx _ (mkF m 39 _ [(.int r422)])
  refine s_istore (pc' := 41) (Ls' := #[.val (.long p0), sn, vi p1, vi 2, vi r419, vi r420, vi 58, vi r422, un, un, un, un, un, un, un]) X422.here hx (hb hby at_39) rfl  rfl ?_
  refine s_lloadN (pc' := 42) X422.here hx (hb hby at_41) rfl rfl ?_
  refine s_iconst (pc' := 43) (v := 4) X422.here hx (hb hby at_42) rfl rfl ?_
  refine s_iloadN (pc' := 44) X422.here hx (hb hby at_43) rfl rfl ?_
  obtain ⟨_, T423, L423, X423, hQ423, st423⟩ := kS X422 hx hZ (y := yN5) hown (hv hw 1 rfl) (hv hw 2 rfl) (hv hw 3 rfl) (hv hw 4 rfl) (by decide) (rmCn l Z a0 hw [] p0 4 2 h0 n0 X00 (by decide)) hE422 (W := 0) (g := (mkF m 44 #[.val (.long p0), sn, vi p1, vi 2, vi r419, vi r420, vi 58, vi r422, un, un, un, un, un, un, un] [(.int 2), (.int 4), (.long p0)])) rfl (by rw [hml]; rfl) (argsL := [(.long p0), (.int 4), (.int 2)]) (rest := []) (lenOf pd_0 rfl) rfl (by exact Nat.le_of_eq rfl) (hb hby at_44) rfl (nb rfl) (nb rfl) (nb rfl) (nb rfl)
  obtain ⟨⟨r423, rfl, hr423⟩, Nq423, hE423⟩ := hQ423
  have N423 := Fr.app N422 Nq423
  refine Go.st st423 ?_
  show Go p.tables e below Kx _ (mkF m 47 _ [(.int r423)])
  refine s_istore (pc' := 49) (Ls' := #[.val (.long p0), sn, vi p1, vi 2, vi r419, vi r420, vi 58, vi r422, vi r423, un, un, un, un, un, un]) X423.here hx (hb hby at_47) rfl  rfl ?_
  obtain ⟨T424, h424, X424, e424, E424, A424, D424, -, st424⟩ := newO X423 hx hZ hown (hv hw 6 rfl) (hv hw 7 rfl) (hv hw 8 rfl) hE423 (g := (mkF m 49 #[.val (.long p0), sn, vi p1, vi 2, vi r419, vi r420, vi 58, vi r422, vi r423, un, un, un, un, un, un] [])) rfl (hb hby at_49) (by decide) (by decide)
  obtain ⟨b424, g424⟩ : ∃ z, z = h0.size := ⟨_, rfl⟩
  rw [← g424] at A424 D424 st424
  have sz424 : h0.size ≤ b424 := Nat.le_trans K0.1 (Nat.le_of_eq g424.symm)
  have ge424 : n0 ≤ b424 := Nat.le_trans (X00.1 ▸ X00.2.1) (Nat.le_of_eq g424.symm)
  have sn424 : Safe Z consts_1 s.vm h0 b424 := Safe.new (Nat.le_of_eq g424.symm)
  have K424 : Keep h0 h424 [] := K0.ext E424
  have O424 : Old Z n0 h424 := X00.ext E424
  have sf425 : Safe Z consts_1 s.vm h424 b424 := (Safe.ext E424 H0 sn424)
  have H424 : CHv Z consts_1 s.vm h424 := H0.ext E424
  have C424 : CHr Z consts_1 s.vm h0 s.vm h424 := C0.trans (CHr.ext E424 H0)
  have hk424 := Nat.le_trans hk0 E424.1
  have F424_coder : Fld Z h424 b424 "java/lang/String" "coder" "B" (.int 0) := D424 (Or.inr (hv hw 33 rfl)) (ty := .byte) (by decide)
  have F424_value : Fld Z h424 b424 "java/lang/String" "value" "[B" .null := D424 (Or.inr (hv hw 35 rfl)) (ty := (.array .byte)) (by decide)
  refine Go.st st424 ?_
  show Go p.tables e below Kx _ (mkF m 52 _ [(.ref b424)])
  refine s_dup (pc' := 53) X424.here hx (hb hby at_52) rfl rfl ?_
  refine s_iconst (pc' := 54) (v := 5) X424.here hx (hb hby at_53) rfl rfl ?_
  obtain ⟨T426, h426, k426, X426, e426, E426, A426, st426⟩ := newP X424 hx hZ (hv hw 9 rfl) e424 (g := (mkF m 54 #[.val (.long p0), sn, vi p1, vi 2, vi r419, vi r420, vi 58, vi r422, vi r423, un, un, un, un, un, un] [(.int 5), (.ref b424), (.ref b424)])) rfl (hb hby at_54) rfl (by decide) (cap := 5) (by decide) (by decide) (by decide) (by decide)
  obtain ⟨b426, g426⟩ : ∃ z, z = h424.size := ⟨_, rfl⟩
  rw [← g426] at A426 st426
  have sz426 : h0.size ≤ b426 := Nat.le_trans K424.1 (Nat.le_of_eq g426.symm)
  have ge426 : n0 ≤ b426 := Nat.le_trans (O424.1 ▸ O424.2.1) (Nat.le_of_eq g426.symm)
  have sn426 : Safe Z consts_1 s.vm h424 b426 := Safe.new (Nat.le_of_eq g426.symm)
  have K426 : Keep h0 h426 [] := K424.ext E426
  have O426 : Old Z n0 h426 := O424.ext E426
  have sf427 : Safe Z consts_1 s.vm h426 b424 := (Safe.ext E426 H424 sf425)
  have sf428 : Safe Z consts_1 s.vm h426 b426 := (Safe.ext E426 H424 sn426)
  have H426 : CHv Z consts_1 s.vm h426 := H424.ext E426
  have C426 : CHr Z consts_1 s.vm h0 s.vm h426 := C424.trans (CHr.ext E426 H424)
  have hk426 := Nat.le_trans hk424 E426.1
  have V426 : Arv Z h426 b426 k426 .char 5 [(.int 0), (.int 0), (.int 0), (.int 0), (.int 0)] (.int 0) := (Arv.new A426 (by decide)).pad (pad_rep [] (.int 0) 5)
  refine Go.st st426 ?_
  show Go p.tables e below Kx _ (mkF m 56 _ [(.ref b426), (.ref b424), (.ref b424)])
  refine s_dup (pc' := 57) X426.here hx (hb hby at_56) rfl rfl ?_
  refine s_iconst (pc' := 58) (v := 0) X426.here hx (hb hby at_57) rfl rfl ?_
  refine s_iload (pc' := 60) X426.here hx (hb hby at_58) rfl rfl ?_
  obtain ⟨cl429, Ar429, Aq429, As429, An429, Ah429, Ag429⟩ := id V426
  have in430 := inb_of (j := 0) As429 (by decide)
  obtain ⟨T430, h430, X430, e430, W430, st430⟩ := stC X426 hx hZ e426 Ar429 (j := 0) in430 (g := (mkF m 60 #[.val (.long p0), sn, vi p1, vi 2, vi r419, vi r420, vi 58, vi r422, vi r423, un, un, un, un, un, un] [(.int r419), (.int 0), (.ref b426), (.ref b426), (.ref b424), (.ref b424)])) rfl rfl (hb hby at_60)
  have V430 : Arv Z h430 b426 k426 .char 5 [(.int r419), (.int 0), (.int 0), (.int 0), (.int 0)] (.int 0) := by
   have q := Arv.set Ar429 Aq429 As429 An429 Ah429 Ag429 (fits_nar_char _) W430 0 rfl (Nat.le_of_ble_eq_true rfl)
   rw [chr_nar hr419.1] at q; exact q
  have K430 : Keep h0 h430 [] := K426.wr W430 (Or.inr sz426)
  have O430 : Old Z n0 h430 := O426.wr W430 ge426
  have sf431 : Safe Z consts_1 s.vm h430 b424 := (Safe.wr W430 sf428 H426 sf427)
  have sf432 : Safe Z consts_1 s.vm h430 b426 := (Safe.wr W430 sf428 H426 sf428)
  have H430 : CHv Z consts_1 s.vm h430 := H426.wr W430 sf428
  have C430 : CHr Z consts_1 s.vm h0 s.vm h430 := C426.trans (CHr.wr W430 sf428 H426)
  have hk430 := Nat.le_trans hk426 (Nat.le_of_eq W430.size.symm)
  have N430 := Fr.snoc X430 N423 ge426
  refine Go.st st430 ?_
  show Go p.tables e below Kx _ (mkF m 61 _ [(.ref b426), (.ref b424), (.ref b424)])
  refine s_dup (pc' := 62) X430.here hx (hb hby at_61) rfl rfl ?_
  refine s_iconst (pc' := 63) (v := 1) X430.here hx (hb hby at_62) rfl rfl ?_
  refine s_iload (pc' := 65) X430.here hx (hb hby at_63) rfl rfl ?_
  obtain ⟨cl433, Ar433, Aq433, As433, An433, Ah433, Ag433⟩ := id V430
  have in434 := inb_of (j := 1) As433 (by decide)
  obtain ⟨T434, h434, X434, e434, W434, st434⟩ := stC X430 hx hZ e430 Ar433 (j := 1) in434 (g := (mkF m 65 #[.val (.long p0), sn, vi p1, vi 2, vi r419, vi r420, vi 58, vi r422, vi r423, un, un, un, un, un, un] [(.int r420), (.int 1), (.ref b426), (.ref b426), (.ref b424), (.ref b424)])) rfl rfl (hb hby at_65)
  have V434 : Arv Z h434 b426 k426 .char 5 [(.int r419), (.int r420), (.int 0), (.int 0), (.int 0)] (.int 0) := by
   have q := Arv.set Ar433 Aq433 As433 An433 Ah433 Ag433 (fits_nar_char _) W434 1 rfl (Nat.le_of_ble_eq_true rfl)
   rw [chr_nar hr420.1] at q; exact q
  have K434 : Keep h0 h434 [] := K430.wr W434 (Or.inr sz426)
  have O434 : Old Z n0 h434 := O430.wr W434 ge426
  have sf435 : Safe Z consts_1 s.vm h434 b424 := (Safe.wr W434 sf432 H430 sf431)
  have sf436 : Safe Z consts_1 s.vm h434 b426 := (Safe.wr W434 sf432 H430 sf432)
  have H434 : CHv Z consts_1 s.vm h434 := H430.wr W434 sf432
  have C434 : CHr Z consts_1 s.vm h0 s.vm h434 := C430.trans (CHr.wr W434 sf432 H430)
  have hk434 := Nat.le_trans hk430 (Nat.le_of_eq W434.size.symm)
  have N434 := Fr.snoc X434 N430 ge426
  refine Go.st st434 ?_
  show Go p.tables e below Kx _ (mkF m 66 _ [(.ref b426), (.ref b424), (.ref b424)])
  refine s_dup (pc' := 67) X434.here hx (hb hby at_66) rfl rfl ?_
  refine s_iconst (pc' := 68) (v := 2) X434.here hx (hb hby at_67) rfl rfl ?_
  refine s_iload (pc' := 70) X434.here hx (hb hby at_68) rfl rfl ?_
  obtain ⟨cl437, Ar437, Aq437, As437, An437, Ah437, Ag437⟩ := id V434
  have in438 := inb_of (j := 2) As437 (by decide)
  obtain ⟨T438, h438, X438, e438, W438, st438⟩ := stC X434 hx hZ e434 Ar437 (j := 2) in438 (g := (mkF m 70 #[.val (.long p0), sn, vi p1, vi 2, vi r419, vi r420, vi 58, vi r422, vi r423, un, un, un, un, un, un] [(.int 58), (.int 2), (.ref b426), (.ref b426), (.ref b424), (.ref b424)])) rfl rfl (hb hby at_70)
  have V438 : Arv Z h438 b426 k426 .char 5 [(.int r419), (.int r420), (.int 58), (.int 0), (.int 0)] (.int 0) := by
   have q := Arv.set Ar437 Aq437 As437 An437 Ah437 Ag437 (fits_nar_char _) W438 2 rfl (Nat.le_of_ble_eq_true rfl)
   rw [chr_nar (by decide)] at q; exact q
  have K438 : Keep h0 h438 [] := K434.wr W438 (Or.inr sz426)
  have O438 : Old Z n0 h438 := O434.wr W438 ge426
  have sf439 : Safe Z consts_1 s.vm h438 b424 := (Safe.wr W438 sf436 H434 sf435)
  have sf440 : Safe Z consts_1 s.vm h438 b426 := (Safe.wr W438 sf436 H434 sf436)
  have H438 : CHv Z consts_1 s.vm h438 := H434.wr W438 sf436
  have C438 : CHr Z consts_1 s.vm h0 s.vm h438 := C434.trans (CHr.wr W438 sf436 H434)
  have hk438 := Nat.le_trans hk434 (Nat.le_of_eq W438.size.symm)
  have N438 := Fr.snoc X438 N434 ge426
  refine Go.st st438 ?_
  show Go p.tables e below Kx _ (mkF m 71 _ [(.ref b426), (.ref b424), (.ref b424)])
  refine s_dup (pc' := 72) X438.here hx (hb hby at_71) rfl rfl ?_
  refine s_iconst (pc' := 73) (v := 3) X438.here hx (hb hby at_72) rfl rfl ?_
  refine s_iload (pc' := 75) X438.here hx (hb hby at_73) rfl rfl ?_
  obtain ⟨cl441, Ar441, Aq441, As441, An441, Ah441, Ag441⟩ := id V438
  have in442 := inb_of (j := 3) As441 (by decide)
  obtain ⟨T442, h442, X442, e442, W442, st442⟩ := stC X438 hx hZ e438 Ar441 (j := 3) in442 (g := (mkF m 75 #[.val (.long p0), sn, vi p1, vi 2, vi r419, vi r420, vi 58, vi r422, vi r423, un, un, un, un, un, un] [(.int r422), (.int 3), (.ref b426), (.ref b426), (.ref b424), (.ref b424)])) rfl rfl (hb hby at_75)
  have V442 : Arv Z h442 b426 k426 .char 5 [(.int r419), (.int r420), (.int 58), (.int r422), (.int 0)] (.int 0) := by
   have q := Arv.set Ar441 Aq441 As441 An441 Ah441 Ag441 (fits_nar_char _) W442 3 rfl (Nat.le_of_ble_eq_true rfl)
   rw [chr_nar hr422.1] at q; exact q
  have K442 : Keep h0 h442 [] := K438.wr W442 (Or.inr sz426)
  have O442 : Old Z n0 h442 := O438.wr W442 ge426
  have sf443 : Safe Z consts_1 s.vm h442 b424 := (Safe.wr W442 sf440 H438 sf439)
  have sf444 : Safe Z consts_1 s.vm h442 b426 := (Safe.wr W442 sf440 H438 sf440)
  have H442 : CHv Z consts_1 s.vm h442 := H438.wr W442 sf440
  have C442 : CHr Z consts_1 s.vm h0 s.vm h442 := C438.trans (CHr.wr W442 sf440 H438)
  have hk442 := Nat.le_trans hk438 (Nat.le_of_eq W442.size.symm)
  have N442 := Fr.snoc X442 N438 ge426
  refine Go.st st442 ?_
  show Go p.tables e below Kx _ (mkF m 76 _ [(.ref b426), (.ref b424), (.ref b424)])
  refine s_dup (pc' := 77) X442.here hx (hb hby at_76) rfl rfl ?_
  refine s_iconst (pc' := 78) (v := 4) X442.here hx (hb hby at_77) rfl rfl ?_
  refine s_iload (pc' := 80) X442.here hx (hb hby at_78) rfl rfl ?_
  obtain ⟨cl445, Ar445, Aq445, As445, An445, Ah445, Ag445⟩ := id V442
  have in446 := inb_of (j := 4) As445 (by decide)
  obtain ⟨T446, h446, X446, e446, W446, st446⟩ := stC X442 hx hZ e442 Ar445 (j := 4) in446 (g := (mkF m 80 #[.val (.long p0), sn, vi p1, vi 2, vi r419, vi r420, vi 58, vi r422, vi r423, un, un, un, un, un, un] [(.int r423), (.int 4), (.ref b426), (.ref b426), (.ref b424), (.ref b424)])) rfl rfl (hb hby at_80)
  have V446 : Arv Z h446 b426 k426 .char 5 [(.int r419), (.int r420), (.int 58), (.int r422), (.int r423)] (.int 0) := by
   have q := Arv.set Ar445 Aq445 As445 An445 Ah445 Ag445 (fits_nar_char _) W446 4 rfl (Nat.le_of_ble_eq_true rfl)
   rw [chr_nar hr423.1] at q; exact q
  have K446 : Keep h0 h446 [] := K442.wr W446 (Or.inr sz426)
  have O446 : Old Z n0 h446 := O442.wr W446 ge426
  have sf447 : Safe Z consts_1 s.vm h446 b424 := (Safe.wr W446 sf444 H442 sf443)
  have sf448 : Safe Z consts_1 s.vm h446 b426 := (Safe.wr W446 sf444 H442 sf444)
  have H446 : CHv Z consts_1 s.vm h446 := H442.wr W446 sf444
  have C446 : CHr Z consts_1 s.vm h0 s.vm h446 := C442.trans (CHr.wr W446 sf444 H442)
  have hk446 := Nat.le_trans hk442 (Nat.le_of_eq W446.size.symm)
  have N446 := Fr.snoc X446 N442 ge426
  refine Go.st st446 ?_
  show Go p.tables e below Kx _ (mkF m 81 _ [(.ref b426), (.ref b424), (.ref b424)])
  have f449 : Exa Z h446 b424 "java/lang/String" := ((((((A424.ext E426).wr W430).wr W434).wr W438).wr W442).wr W446)
  have f450 : Fld Z h446 b424 "java/lang/String" "value" "[B" .null := ((((((F424_value.ext E426).other W430 (Or.inl (Nat.ne_of_lt (Nat.lt_of_lt_of_le A424.lt (Nat.le_of_eq g426.symm))))).other W434 (Or.inl (Nat.ne_of_lt (Nat.lt_of_lt_of_le A424.lt (Nat.le_of_eq g426.symm))))).other W438 (Or.inl (Nat.ne_of_lt (Nat.lt_of_lt_of_le A424.lt (Nat.le_of_eq g426.symm))))).other W442 (Or.inl (Nat.ne_of_lt (Nat.lt_of_lt_of_le A424.lt (Nat.le_of_eq g426.symm))))).other W446 (Or.inl (Nat.ne_of_lt (Nat.lt_of_lt_of_le A424.lt (Nat.le_of_eq g426.symm)))))
  have f451 : Fld Z h446 b424 "java/lang/String" "coder" "B" (.int 0) := ((((((F424_coder.ext E426).other W430 (Or.inl (Nat.ne_of_lt (Nat.lt_of_lt_of_le A424.lt (Nat.le_of_eq g426.symm))))).other W434 (Or.inl (Nat.ne_of_lt (Nat.lt_of_lt_of_le A424.lt (Nat.le_of_eq g426.symm))))).other W438 (Or.inl (Nat.ne_of_lt (Nat.lt_of_lt_of_le A424.lt (Nat.le_of_eq g426.symm))))).other W442 (Or.inl (Nat.ne_of_lt (Nat.lt_of_lt_of_le A424.lt (Nat.le_of_eq g426.symm))))).other W446 (Or.inl (Nat.ne_of_lt (Nat.lt_of_lt_of_le A424.lt (Nat.le_of_eq g426.symm)))))
  have hp452 : ∀ c ∈ ([r419, r420, (58 : Int32), r422, r423] : List Int32), ¬ c < 0 ∧ ¬ 255 < c := by
   intro c hc
   simp only [List.mem_cons, List.not_mem_nil, or_false] at hc
   rcases hc with rfl | rfl | rfl | rfl | rfl
   ·
    exact hr419.1
   ·
    exact hr420.1
   ·
    exact (by decide)
   ·
    exact hr422.1
   ·
    exact hr423.1
  obtain ⟨_, _, ⟨T453, L453, k453, n453⟩, -, X453, ⟨Lc453, hQ453, l453, y453, z453⟩, st453⟩ := X446.specialBack hx (y := yN21) rfl hown (mvT hZ (hv hw 10 rfl)) (mvT hZ (hv hw 11 rfl)) (mvT hZ (hv hw 12 rfl)) (by decide) (StrChars.Road.backV (W := 1) hZ (hwsV Z a0 hw) (kI := 4) (hv hw 7 rfl) (cs := [r419, r420, (58 : Int32), r422, r423]) (bs := ([r419, r420, (58 : Int32), r422, r423] : List Int32).map (fun c => c.toInt8.toInt32)) (n := 5) ge424 (O446.1 ▸ O446.2.1) f449 f450 f451 V446 (S1.ext O446.2) P1 rfl rfl (by decide) (by decide) hp452 rfl (by decide) (by decide)) (g := (mkF m 81 #[.val (.long p0), sn, vi p1, vi 2, vi r419, vi r420, vi 58, vi r422, vi r423, un, un, un, un, un, un] [(.ref b426), (.ref b424), (.ref b424)])) rfl (by rw [hml]; rfl) (Steps.refl _) (a := b424) (argsL := [(.ref b426)]) (rest := [(.ref b424)]) (lenOf pd_1 rfl) rfl (by exact Nat.le_of_eq rfl) (hb hby at_81) (fun _ _ => ⟨rfl, e446, (by decide : 2 + 1 ≤ _), (by decide : 9 + 5 ≤ _)⟩)
  dsimp only [Pt.U, Pt.locs, Pt.cells, Pt.slots] at X453 l453 y453 z453 st453 hQ453
  rw [l453, y453, z453] at X453
  obtain ⟨rfl, Nq453, Kq453, q1_453, q2_453, t453, kt453, -, -, -, q3_453, q4_453⟩ := hQ453
  have N453 := Fr.app N446 Nq453
  have K453 : Keep h0 T453.heap [] := K446.trans Kq453 (allS (P := fun zz => zz ∈ [] ∨ h0.size ≤ zz) (Or.inr sz424) all0)
  have O453 : Old Z n0 T453.heap := O446.keep Kq453 (allS ge424 all0)
  have sf454 : Safe Z consts_1 s.vm T453.heap b424 := (Safe.keep Kq453 (sfS sf447 sf0) H446 sf447)
  have H453 : CHv Z consts_1 s.vm T453.heap := H446.keep Kq453 (sfS sf447 sf0)
  have C453 : CHr Z consts_1 s.vm h0 s.vm T453.heap := C446.trans (CHr.keep Kq453 (sfS sf447 sf0) H446)
  have hk453 := Nat.le_trans hk446 Kq453.1
  refine Go.tr st453 ?_
  show Go p.tables e below Kx _ (mkF m 84 _ [(.ref b424)])
  have St453 : Str Z T453.heap T453.heap.size b424 [r419, r420, (58 : Int32), r422, r423] := Str.of q1_453 q2_453 q3_453 q4_453 rfl rfl hp452 (Nat.le_of_ble_eq_true rfl)
  refine s_astore (pc' := 86) (Ls' := #[.val (.long p0), sn, vi p1, vi 2, vi r419, vi r420, vi 58, vi r422, vi r423, vr b424, un, un, un, un, un]) X453.here hx (hb hby at_84) rfl rfl rfl ?_
  refine s_iloadN (pc' := 87) X453.here hx (hb hby at_86) rfl rfl ?_
  refine s_iconst (pc' := 88) (v := 1) X453.here hx (hb hby at_87) rfl rfl ?_
  refine s_icmpY (pc' := 111) X453.here hx (hb hby at_88) (feq (by decide)).2 (by decide) (by decide) ?_
  refine s_iloadN (pc' := 112) X453.here hx (hb hby at_111) rfl rfl ?_
  refine s_iconst (pc' := 113) (v := 2) X453.here hx (hb hby at_112) rfl rfl ?_
  refine s_icmpN (pc' := 116) X453.here hx (hb hby at_113) rfl (teq (by decide)).2 ?_
  obtain ⟨T455, h455, X455, e455, E455, A455, D455, -, st455⟩ := newO X453 hx hZ hown (hv hw 6 rfl) (hv hw 7 rfl) (hv hw 8 rfl) rfl (g := (mkF m 116 #[.val (.long p0), sn, vi p1, vi 2, vi r419, vi r420, vi 58, vi r422, vi r423, vr b424, un, un, un, un, un] [])) rfl (hb hby at_116) (by decide) (by decide)
  obtain ⟨b455, g455⟩ : ∃ z, z = T453.heap.size := ⟨_, rfl⟩
  rw [← g455] at A455 D455 st455
  have sz455 : h0.size ≤ b455 := Nat.le_trans K453.1 (Nat.le_of_eq g455.symm)
  have ge455 : n0 ≤ b455 := Nat.le_trans (O453.1 ▸ O453.2.1) (Nat.le_of_eq g455.symm)
  have sn455 : Safe Z consts_1 s.vm T453.heap b455 := Safe.new (Nat.le_of_eq g455.symm)
  have K455 : Keep h0 h455 [] := K453.ext E455
  have O455 : Old Z n0 h455 := O453.ext E455
  have sf456 : Safe Z consts_1 s.vm h455 b455 := (Safe.ext E455 H453 sn455)
  have H455 : CHv Z consts_1 s.vm h455 := H453.ext E455
  have C455 : CHr Z consts_1 s.vm h0 s.vm h455 := C453.trans (CHr.ext E455 H453)
  have hk455 := Nat.le_trans hk453 E455.1
  have F455_coder : Fld Z h455 b455 "java/lang/String" "coder" "B" (.int 0) := D455 (Or.inr (hv hw 33 rfl)) (ty := .byte) (by decide)
  have F455_value : Fld Z h455 b455 "java/lang/String" "value" "[B" .null := D455 (Or.inr (hv hw 35 rfl)) (ty := (.array .byte)) (by decide)
  refine Go.st st455 ?_
  show Go p.tables e below Kx _ (mkF m 119 _ [(.ref b455)])
  refine s_dup (pc' := 120) X455.here hx (hb hby at_119) rfl rfl ?_
  refine s_iconst (pc' := 121) (v := 2) X455.here hx (hb hby at_120) rfl rfl ?_
  obtain ⟨T457, h457, k457, X457, e457, E457, A457, st457⟩ := newP X455 hx hZ (hv hw 9 rfl) e455 (g := (mkF m 121 #[.val (.long p0), sn, vi p1, vi 2, vi r419, vi r420, vi 58, vi r422, vi r423, vr b424, un, un, un, un, un] [(.int 2), (.ref b455), (.ref b455)])) rfl (hb hby at_121) rfl (by decide) (cap := 2) (by decide) (by decide) (by decide) (by decide)
  obtain ⟨b457, g457⟩ : ∃ z, z = h455.size := ⟨_, rfl⟩
  rw [← g457] at A457 st457
  have sz457 : h0.size ≤ b457 := Nat.le_trans K455.1 (Nat.le_of_eq g457.symm)
  have ge457 : n0 ≤ b457 := Nat.le_trans (O455.1 ▸ O455.2.1) (Nat.le_of_eq g457.symm)
  have sn457 : Safe Z consts_1 s.vm h455 b457 := Safe.new (Nat.le_of_eq g457.symm)
  have K457 : Keep h0 h457 [] := K455.ext E457
  have O457 : Old Z n0 h457 := O455.ext E457
  have sf458 : Safe Z consts_1 s.vm h457 b455 := (Safe.ext E457 H455 sf456)
  have sf459 : Safe Z consts_1 s.vm h457 b457 := (Safe.ext E457 H455 sn457)
  have H457 : CHv Z consts_1 s.vm h457 := H455.ext E457
  have C457 : CHr Z consts_1 s.vm h0 s.vm h457 := C455.trans (CHr.ext E457 H455)
  have hk457 := Nat.le_trans hk455 E457.1
  have V457 : Arv Z h457 b457 k457 .char 2 [(.int 0), (.int 0)] (.int 0) := (Arv.new A457 (by decide)).pad (pad_rep [] (.int 0) 2)
  refine Go.st st457 ?_
  show Go p.tables e below Kx _ (mkF m 123 _ [(.ref b457), (.ref b455), (.ref b455)])
  refine s_dup (pc' := 124) X457.here hx (hb hby at_123) rfl rfl ?_
  refine s_iconst (pc' := 125) (v := 0) X457.here hx (hb hby at_124) rfl rfl ?_
  refine s_iload (pc' := 127) X457.here hx (hb hby at_125) rfl rfl ?_
  obtain ⟨cl460, Ar460, Aq460, As460, An460, Ah460, Ag460⟩ := id V457
  have in461 := inb_of (j := 0) As460 (by decide)
  obtain ⟨T461, h461, X461, e461, W461, st461⟩ := stC X457 hx hZ e457 Ar460 (j := 0) in461 (g := (mkF m 127 #[.val (.long p0), sn, vi p1, vi 2, vi r419, vi r420, vi 58, vi r422, vi r423, vr b424, un, un, un, un, un] [(.int r419), (.int 0), (.ref b457), (.ref b457), (.ref b455), (.ref b455)])) rfl rfl (hb hby at_127)
  have V461 : Arv Z h461 b457 k457 .char 2 [(.int r419), (.int 0)] (.int 0) := by
   have q := Arv.set Ar460 Aq460 As460 An460 Ah460 Ag460 (fits_nar_char _) W461 0 rfl (Nat.le_of_ble_eq_true rfl)
   rw [chr_nar hr419.1] at q; exact q
  have K461 : Keep h0 h461 [] := K457.wr W461 (Or.inr sz457)
  have O461 : Old Z n0 h461 := O457.wr W461 ge457
  have sf462 : Safe Z consts_1 s.vm h461 b455 := (Safe.wr W461 sf459 H457 sf458)
  have sf463 : Safe Z consts_1 s.vm h461 b457 := (Safe.wr W461 sf459 H457 sf459)
  have H461 : CHv Z consts_1 s.vm h461 := H457.wr W461 sf459
  have C461 : CHr Z consts_1 s.vm h0 s.vm h461 := C457.trans (CHr.wr W461 sf459 H457)
  have hk461 := Nat.le_trans hk457 (Nat.le_of_eq W461.size.symm)
  have N461 := Fr.snoc X461 N453 ge457
  refine Go.st st461 ?_
  show Go p.tables e below Kx _ (mkF m 128 _ [(.ref b457), (.ref b455), (.ref b455)])
  refine s_dup (pc' := 129) X461.here hx (hb hby at_128) rfl rfl ?_
  refine s_iconst (pc' := 130) (v := 1) X461.here hx (hb hby at_129) rfl rfl ?_
  refine s_iload (pc' := 132) X461.here hx (hb hby at_130) rfl rfl ?_
  obtain ⟨cl464, Ar464, Aq464, As464, An464, Ah464, Ag464⟩ := id V461
  have in465 := inb_of (j := 1) As464 (by decide)
  obtain ⟨T465, h465, X465, e465, W465, st465⟩ := stC X461 hx hZ e461 Ar464 (j := 1) in465 (g := (mkF m 132 #[.val (.long p0), sn, vi p1, vi 2, vi r419, vi r420, vi 58, vi r422, vi r423, vr b424, un, un, un, un, un] [(.int r420), (.int 1), (.ref b457), (.ref b457), (.ref b455), (.ref b455)])) rfl rfl (hb hby at_132)
  have V465 : Arv Z h465 b457 k457 .char 2 [(.int r419), (.int r420)] (.int 0) := by
   have q := Arv.set Ar464 Aq464 As464 An464 Ah464 Ag464 (fits_nar_char _) W465 1 rfl (Nat.le_of_ble_eq_true rfl)
   rw [chr_nar hr420.1] at q; exact q
  have K465 : Keep h0 h465 [] := K461.wr W465 (Or.inr sz457)
  have O465 : Old Z n0 h465 := O461.wr W465 ge457
  have sf466 : Safe Z consts_1 s.vm h465 b455 := (Safe.wr W465 sf463 H461 sf462)
  have sf467 : Safe Z consts_1 s.vm h465 b457 := (Safe.wr W465 sf463 H461 sf463)
  have H465 : CHv Z consts_1 s.vm h465 := H461.wr W465 sf463
  have C465 : CHr Z consts_1 s.vm h0 s.vm h465 := C461.trans (CHr.wr W465 sf463 H461)
  have hk465 := Nat.le_trans hk461 (Nat.le_of_eq W465.size.symm)
  have N465 := Fr.snoc X465 N461 ge457
  refine Go.st st465 ?_
  show Go p.tables e below Kx _ (mkF m 133 _ [(.ref b457), (.ref b455), (.ref b455)])
  have f468 : Exa Z h465 b455 "java/lang/String" := (((A455.ext E457).wr W461).wr W465)
  have f469 : Fld Z h465 b455 "java/lang/String" "value" "[B" .null := (((F455_value.ext E457).other W461 (Or.inl (Nat.ne_of_lt (Nat.lt_of_lt_of_le A455.lt (Nat.le_of_eq g457.symm))))).other W465 (Or.inl (Nat.ne_of_lt (Nat.lt_of_lt_of_le A455.lt (Nat.le_of_eq g457.symm)))))
  have f470 : Fld Z h465 b455 "java/lang/String" "coder" "B" (.int 0) := (((F455_coder.ext E457).other W461 (Or.inl (Nat.ne_of_lt (Nat.lt_of_lt_of_le A455.lt (Nat.le_of_eq g457.symm))))).other W465 (Or.inl (Nat.ne_of_lt (Nat.lt_of_lt_of_le A455.lt (Nat.le_of_eq g457.symm)))))
  have hp471 : ∀ c ∈ ([r419, r420] : List Int32), ¬ c < 0 ∧ ¬ 255 < c := by
   intro c hc
   simp only [List.mem_cons, List.not_mem_nil, or_false] at hc
   rcases hc with rfl | rfl
   ·
    exact hr419.1
   ·
    exact hr420.1
  obtain ⟨_, _, ⟨T472, L472, k472, n472⟩, -, X472, ⟨Lc472, hQ472, l472, y472, z472⟩, st472⟩ := X465.specialBack hx (y := yN21) rfl hown (mvT hZ (hv hw 10 rfl)) (mvT hZ (hv hw 11 rfl)) (mvT hZ (hv hw 12 rfl)) (by decide) (StrChars.Road.backV (W := 1) hZ (hwsV Z a0 hw) (kI := 4) (hv hw 7 rfl) (cs := [r419, r420]) (bs := ([r419, r420] : List Int32).map (fun c => c.toInt8.toInt32)) (n := 2) ge455 (O465.1 ▸ O465.2.1) f468 f469 f470 V465 (S1.ext O465.2) P1 rfl rfl (by decide) (by decide) hp471 rfl (by decide) (by decide)) (g := (mkF m 133 #[.val (.long p0), sn, vi p1, vi 2, vi r419, vi r420, vi 58, vi r422, vi r423, vr b424, un, un, un, un, un] [(.ref b457), (.ref b455), (.ref b455)])) rfl (by rw [hml]; rfl) (Steps.refl _) (a := b455) (argsL := [(.ref b457)]) (rest := [(.ref b455)]) (lenOf pd_1 rfl) rfl (by exact Nat.le_of_eq rfl) (hb hby at_133) (fun _ _ => ⟨rfl, e465, (by decide : 5 + 1 ≤ _), (by decide : 20 + 2 ≤ _)⟩)
  dsimp only [Pt.U, Pt.locs, Pt.cells, Pt.slots] at X472 l472 y472 z472 st472 hQ472
  rw [l472, y472, z472] at X472
  obtain ⟨rfl, Nq472, Kq472, q1_472, q2_472, t472, kt472, -, -, -, q3_472, q4_472⟩ := hQ472
  have N472 := Fr.app N465 Nq472
  have K472 : Keep h0 T472.heap [] := K465.trans Kq472 (allS (P := fun zz => zz ∈ [] ∨ h0.size ≤ zz) (Or.inr sz455) all0)
  have O472 : Old Z n0 T472.heap := O465.keep Kq472 (allS ge455 all0)
  have sf473 : Safe Z consts_1 s.vm T472.heap b455 := (Safe.keep Kq472 (sfS sf466 sf0) H465 sf466)
  have H472 : CHv Z consts_1 s.vm T472.heap := H465.keep Kq472 (sfS sf466 sf0)
  have C472 : CHr Z consts_1 s.vm h0 s.vm T472.heap := C465.trans (CHr.keep Kq472 (sfS sf466 sf0) H465)
  have hk472 := Nat.le_trans hk465 Kq472.1
  refine Go.tr st472 ?_
  show Go p.tables e below Kx _ (mkF m 136 _ [(.ref b455)])
  have St472 : Str Z T472.heap T472.heap.size b455 [r419, r420] := Str.of q1_472 q2_472 q3_472 q4_472 rfl rfl hp471 (Nat.le_of_ble_eq_true rfl)
  refine s_astore (pc' := 138) (Ls' := #[.val (.long p0), sn, vi p1, vi 2, vi r419, vi r420, vi 58, vi r422, vi r423, vr b424, vr b455, un, un, un, un]) X472.here hx (hb hby at_136) rfl rfl rfl ?_
  refine s_goto (pc' := 168) X472.here hx (hb hby at_138) (by decide) (by decide) ?_
  refine s_bipush (pc' := 170) (v := 10) X472.here hx (hb hby at_168) rfl rfl ?_
  obtain ⟨T474, h474, k474, X474, e474, E474, A474, B474, st474⟩ := newPE X472 hx hZ (hv hw 25 rfl) rfl (g := (mkF m 170 #[.val (.long p0), sn, vi p1, vi 2, vi r419, vi r420, vi 58, vi r422, vi r423, vr b424, vr b455, un, un, un, un] [(.int 10)])) rfl (hb hby at_170) rfl (by decide) (cap := 10) (by decide) (by decide) (by decide) (by decide) (ad := "[B") (by decide)
  obtain ⟨b474, g474⟩ : ∃ z, z = T472.heap.size := ⟨_, rfl⟩
  rw [← g474] at A474 B474 st474
  have sz474 : h0.size ≤ b474 := Nat.le_trans K472.1 (Nat.le_of_eq g474.symm)
  have ge474 : n0 ≤ b474 := Nat.le_trans (O472.1 ▸ O472.2.1) (Nat.le_of_eq g474.symm)
  have sn474 : Safe Z consts_1 s.vm T472.heap b474 := Safe.new (Nat.le_of_eq g474.symm)
  have K474 : Keep h0 h474 [] := K472.ext E474
  have O474 : Old Z n0 h474 := O472.ext E474
  have sf475 : Safe Z consts_1 s.vm h474 b474 := (Safe.ext E474 H472 sn474)
  have H474 : CHv Z consts_1 s.vm h474 := H472.ext E474
  have C474 : CHr Z consts_1 s.vm h0 s.vm h474 := C472.trans (CHr.ext E474 H472)
  have hk474 := Nat.le_trans hk472 E474.1
  have V474 : Arv Z h474 b474 k474 .byte 10 [(.int 0), (.int 0), (.int 0), (.int 0), (.int 0), (.int 0), (.int 0), (.int 0), (.int 0), (.int 0)] (.int 0) := (Arv.new A474 (by decide)).pad (pad_rep [] (.int 0) 10)
  refine Go.st st474 ?_
  show Go p.tables e below Kx _ (mkF m 172 _ [(.ref b474)])
  have V476 : Arv Z h474 b474 k474 .byte 10 (pad 10 ([] : List Int32)) (.int 0) := V474
  refine s_astore (pc' := 174) (Ls' := #[.val (.long p0), sn, vi p1, vi 2, vi r419, vi r420, vi 58, vi r422, vi r423, vr b424, vr b455, vr b474, un, un, un]) X474.here hx (hb hby at_172) rfl rfl rfl ?_
  refine s_iconst (pc' := 175) (v := 0) X474.here hx (hb hby at_174) rfl rfl ?_
  refine s_istore (pc' := 177) (Ls' := #[.val (.long p0), sn, vi p1, vi 2, vi r419, vi r420, vi 58, vi r422, vi r423, vr b424, vr b455, vr b474, vi 0, un, un]) X474.here hx (hb hby at_175) rfl  rfl ?_
  refine s_aload (pc' := 179) X474.here hx (hb hby at_177) rfl rfl rfl ?_
  refine s_iload (pc' := 181) X474.here hx (hb hby at_179) rfl rfl ?_
  refine s_iload (pc' := 183) X474.here hx (hb hby at_181) rfl rfl ?_
  have rp : ([] : List Int32).length + 1 < 10 := Nat.lt_of_le_of_lt (Nat.succ_le_succ (Nat.le_refl 0)) (by decide)
  obtain ⟨_, T477, L477, X477, hQ477, st477⟩ := kS X474 hx hZ (y := yN6) hown (hv hw 36 rfl) (hv hw 37 rfl) (hv hw 3 rfl) (hv hw 38 rfl) (by decide) (rmDp l Z a0 hw [] b474 k474 ([] : List Int32) r419 h474 n0 O474 ge474 V476 hr419.1 rp) e474 (W := 0) (g := (mkF m 183 #[.val (.long p0), sn, vi p1, vi 2, vi r419, vi r420, vi 58, vi r422, vi r423, vr b424, vr b455, vr b474, vi 0, un, un] [(.int r419), (.int 0), (.ref b474)])) rfl (by rw [hml]; rfl) (argsL := [(.ref b474), (.int 0), (.int r419)]) (rest := []) (lenOf pd_2 rfl) rfl (by exact Nat.le_of_eq rfl) (hb hby at_183) rfl (nb rfl) (nb rfl) (nb rfl) (nb rfl)
  obtain ⟨X477l, hD477, hl477, rfl, Nq477, Kq477, q1_477⟩ := hQ477
  have N477 := Fr.app N472 Nq477
  have K477 : Keep h0 T477.heap [] := K474.trans Kq477 (allS (P := fun zz => zz ∈ [] ∨ h0.size ≤ zz) (Or.inr sz474) all0)
  have O477 : Old Z n0 T477.heap := O474.keep Kq477 (allS ge474 all0)
  have sf478 : Safe Z consts_1 s.vm T477.heap b474 := (Safe.keep Kq477 (sfS sf475 sf0) H474 sf475)
  have H477 : CHv Z consts_1 s.vm T477.heap := H474.keep Kq477 (sfS sf475 sf0)
  have C477 : CHr Z consts_1 s.vm h0 s.vm T477.heap := C474.trans (CHr.keep Kq477 (sfS sf475 sf0) H474)
  have hk477 := Nat.le_trans hk474 Kq477.1
  refine Go.st st477 ?_
  show Go p.tables e below Kx _ (mkF m 186 _ [(.int (Int32.ofNat X477l.length))])
  have hp477 : X477l.length ≤ 2 := Nat.le_trans hl477 (Nat.add_le_add_right (Nat.le_refl 0) 2)
  refine s_istore (pc' := 188) (Ls' := #[.val (.long p0), sn, vi p1, vi 2, vi r419, vi r420, vi 58, vi r422, vi r423, vr b424, vr b455, vr b474, .val (.int (Int32.ofNat X477l.length)), un, un]) X477.here hx (hb hby at_186) rfl  rfl ?_
  refine s_aload (pc' := 190) X477.here hx (hb hby at_188) rfl rfl rfl ?_
  refine s_iload (pc' := 192) X477.here hx (hb hby at_190) rfl rfl ?_
  refine s_iload (pc' := 194) X477.here hx (hb hby at_192) rfl rfl ?_
  have rp : X477l.length + 1 < 10 := Nat.lt_of_le_of_lt (Nat.succ_le_succ hp477) (by decide)
  obtain ⟨_, T479, L479, X479, hQ479, st479⟩ := kS X477 hx hZ (y := yN6) hown (hv hw 36 rfl) (hv hw 37 rfl) (hv hw 3 rfl) (hv hw 38 rfl) (by decide) (rmDp l Z a0 hw [] b474 k474 X477l r420 T477.heap n0 O477 ge474 q1_477 hr420.1 rp) rfl (W := 0) (g := (mkF m 194 #[.val (.long p0), sn, vi p1, vi 2, vi r419, vi r420, vi 58, vi r422, vi r423, vr b424, vr b455, vr b474, .val (.int (Int32.ofNat X477l.length)), un, un] [(.int r420), (.int (Int32.ofNat X477l.length)), (.ref b474)])) rfl (by rw [hml]; rfl) (argsL := [(.ref b474), (.int (Int32.ofNat X477l.length)), (.int r420)]) (rest := []) (lenOf pd_2 rfl) rfl (by exact Nat.le_of_eq rfl) (hb hby at_194) rfl (nb rfl) (nb rfl) (nb rfl) (nb rfl)
  obtain ⟨X479l, hD479, hl479, rfl, Nq479, Kq479, q1_479⟩ := hQ479
  have N479 := Fr.app N477 Nq479
  have K479 : Keep h0 T479.heap [] := K477.trans Kq479 (allS (P := fun zz => zz ∈ [] ∨ h0.size ≤ zz) (Or.inr sz474) all0)
  have O479 : Old Z n0 T479.heap := O477.keep Kq479 (allS ge474 all0)
  have sf480 : Safe Z consts_1 s.vm T479.heap b474 := (Safe.keep Kq479 (sfS sf478 sf0) H477 sf478)
  have H479 : CHv Z consts_1 s.vm T479.heap := H477.keep Kq479 (sfS sf478 sf0)
  have C479 : CHr Z consts_1 s.vm h0 s.vm T479.heap := C477.trans (CHr.keep Kq479 (sfS sf478 sf0) H477)
  have hk479 := Nat.le_trans hk477 Kq479.1
  refine Go.st st479 ?_
  show Go p.tables e below Kx _ (mkF m 197 _ [(.int (Int32.ofNat X479l.length))])
  have hp479 : X479l.length ≤ 4 := Nat.le_trans hl479 (Nat.add_le_add_right hp477 2)
  refine s_istore (pc' := 199) (Ls' := #[.val (.long p0), sn, vi p1, vi 2, vi r419, vi r420, vi 58, vi r422, vi r423, vr b424, vr b455, vr b474, .val (.int (Int32.ofNat X479l.length)), un, un]) X479.here hx (hb hby at_197) rfl  rfl ?_
  refine s_aload (pc' := 201) X479.here hx (hb hby at_199) rfl rfl rfl ?_
  refine s_iload (pc' := 203) X479.here hx (hb hby at_201) rfl rfl ?_
  refine s_iload (pc' := 205) X479.here hx (hb hby at_203) rfl rfl ?_
  have rp : X479l.length + 1 < 10 := Nat.lt_of_le_of_lt (Nat.succ_le_succ hp479) (by decide)
  obtain ⟨_, T481, L481, X481, hQ481, st481⟩ := kS X479 hx hZ (y := yN6) hown (hv hw 36 rfl) (hv hw 37 rfl) (hv hw 3 rfl) (hv hw 38 rfl) (by decide) (rmDp l Z a0 hw [] b474 k474 X479l 58 T479.heap n0 O479 ge474 q1_479 (by decide) rp) rfl (W := 0) (g := (mkF m 205 #[.val (.long p0), sn, vi p1, vi 2, vi r419, vi r420, vi 58, vi r422, vi r423, vr b424, vr b455, vr b474, .val (.int (Int32.ofNat X479l.length)), un, un] [(.int 58), (.int (Int32.ofNat X479l.length)), (.ref b474)])) rfl (by rw [hml]; rfl) (argsL := [(.ref b474), (.int (Int32.ofNat X479l.length)), (.int 58)]) (rest := []) (lenOf pd_2 rfl) rfl (by exact Nat.le_of_eq rfl) (hb hby at_205) rfl (nb rfl) (nb rfl) (nb rfl) (nb rfl)
  obtain ⟨X481l, hD481, hl481, rfl, Nq481, Kq481, q1_481⟩ := hQ481
  have N481 := Fr.app N479 Nq481
  have K481 : Keep h0 T481.heap [] := K479.trans Kq481 (allS (P := fun zz => zz ∈ [] ∨ h0.size ≤ zz) (Or.inr sz474) all0)
  have O481 : Old Z n0 T481.heap := O479.keep Kq481 (allS ge474 all0)
  have sf482 : Safe Z consts_1 s.vm T481.heap b474 := (Safe.keep Kq481 (sfS sf480 sf0) H479 sf480)
  have H481 : CHv Z consts_1 s.vm T481.heap := H479.keep Kq481 (sfS sf480 sf0)
  have C481 : CHr Z consts_1 s.vm h0 s.vm T481.heap := C479.trans (CHr.keep Kq481 (sfS sf480 sf0) H479)
  have hk481 := Nat.le_trans hk479 Kq481.1
  refine Go.st st481 ?_
  show Go p.tables e below Kx _ (mkF m 208 _ [(.int (Int32.ofNat X481l.length))])
  have hp481 : X481l.length ≤ 6 := Nat.le_trans hl481 (Nat.add_le_add_right hp479 2)
  refine s_istore (pc' := 210) (Ls' := #[.val (.long p0), sn, vi p1, vi 2, vi r419, vi r420, vi 58, vi r422, vi r423, vr b424, vr b455, vr b474, .val (.int (Int32.ofNat X481l.length)), un, un]) X481.here hx (hb hby at_208) rfl  rfl ?_
  refine s_aload (pc' := 212) X481.here hx (hb hby at_210) rfl rfl rfl ?_
  refine s_iload (pc' := 214) X481.here hx (hb hby at_212) rfl rfl ?_
  refine s_iload (pc' := 216) X481.here hx (hb hby at_214) rfl rfl ?_
  have rp : X481l.length + 1 < 10 := Nat.lt_of_le_of_lt (Nat.succ_le_succ hp481) (by decide)
  obtain ⟨_, T483, L483, X483, hQ483, st483⟩ := kS X481 hx hZ (y := yN6) hown (hv hw 36 rfl) (hv hw 37 rfl) (hv hw 3 rfl) (hv hw 38 rfl) (by decide) (rmDp l Z a0 hw [] b474 k474 X481l r422 T481.heap n0 O481 ge474 q1_481 hr422.1 rp) rfl (W := 0) (g := (mkF m 216 #[.val (.long p0), sn, vi p1, vi 2, vi r419, vi r420, vi 58, vi r422, vi r423, vr b424, vr b455, vr b474, .val (.int (Int32.ofNat X481l.length)), un, un] [(.int r422), (.int (Int32.ofNat X481l.length)), (.ref b474)])) rfl (by rw [hml]; rfl) (argsL := [(.ref b474), (.int (Int32.ofNat X481l.length)), (.int r422)]) (rest := []) (lenOf pd_2 rfl) rfl (by exact Nat.le_of_eq rfl) (hb hby at_216) rfl (nb rfl) (nb rfl) (nb rfl) (nb rfl)
  obtain ⟨X483l, hD483, hl483, rfl, Nq483, Kq483, q1_483⟩ := hQ483
  have N483 := Fr.app N481 Nq483
  have K483 : Keep h0 T483.heap [] := K481.trans Kq483 (allS (P := fun zz => zz ∈ [] ∨ h0.size ≤ zz) (Or.inr sz474) all0)
  have O483 : Old Z n0 T483.heap := O481.keep Kq483 (allS ge474 all0)
  have sf484 : Safe Z consts_1 s.vm T483.heap b474 := (Safe.keep Kq483 (sfS sf482 sf0) H481 sf482)
  have H483 : CHv Z consts_1 s.vm T483.heap := H481.keep Kq483 (sfS sf482 sf0)
  have C483 : CHr Z consts_1 s.vm h0 s.vm T483.heap := C481.trans (CHr.keep Kq483 (sfS sf482 sf0) H481)
  have hk483 := Nat.le_trans hk481 Kq483.1
  refine Go.st st483 ?_
  show Go p.tables e below Kx _ (mkF m 219 _ [(.int (Int32.ofNat X483l.length))])
  have hp483 : X483l.length ≤ 8 := Nat.le_trans hl483 (Nat.add_le_add_right hp481 2)
  refine s_istore (pc' := 221) (Ls' := #[.val (.long p0), sn, vi p1, vi 2, vi r419, vi r420, vi 58, vi r422, vi r423, vr b424, vr b455, vr b474, .val (.int (Int32.ofNat X483l.length)), un, un]) X483.here hx (hb hby at_219) rfl  rfl ?_
  refine s_aload (pc' := 223) X483.here hx (hb hby at_221) rfl rfl rfl ?_
  refine s_iload (pc' := 225) X483.here hx (hb hby at_223) rfl rfl ?_
  refine s_iload (pc' := 227) X483.here hx (hb hby at_225) rfl rfl ?_
  have rp : X483l.length + 1 < 10 := Nat.lt_of_le_of_lt (Nat.succ_le_succ hp483) (by decide)
  obtain ⟨_, T485, L485, X485, hQ485, st485⟩ := kS X483 hx hZ (y := yN6) hown (hv hw 36 rfl) (hv hw 37 rfl) (hv hw 3 rfl) (hv hw 38 rfl) (by decide) (rmDp l Z a0 hw [] b474 k474 X483l r423 T483.heap n0 O483 ge474 q1_483 hr423.1 rp) rfl (W := 0) (g := (mkF m 227 #[.val (.long p0), sn, vi p1, vi 2, vi r419, vi r420, vi 58, vi r422, vi r423, vr b424, vr b455, vr b474, .val (.int (Int32.ofNat X483l.length)), un, un] [(.int r423), (.int (Int32.ofNat X483l.length)), (.ref b474)])) rfl (by rw [hml]; rfl) (argsL := [(.ref b474), (.int (Int32.ofNat X483l.length)), (.int r423)]) (rest := []) (lenOf pd_2 rfl) rfl (by exact Nat.le_of_eq rfl) (hb hby at_227) rfl (nb rfl) (nb rfl) (nb rfl) (nb rfl)
  obtain ⟨X485l, hD485, hl485, rfl, Nq485, Kq485, q1_485⟩ := hQ485
  have N485 := Fr.app N483 Nq485
  have K485 : Keep h0 T485.heap [] := K483.trans Kq485 (allS (P := fun zz => zz ∈ [] ∨ h0.size ≤ zz) (Or.inr sz474) all0)
  have O485 : Old Z n0 T485.heap := O483.keep Kq485 (allS ge474 all0)
  have sf486 : Safe Z consts_1 s.vm T485.heap b474 := (Safe.keep Kq485 (sfS sf484 sf0) H483 sf484)
  have H485 : CHv Z consts_1 s.vm T485.heap := H483.keep Kq485 (sfS sf484 sf0)
  have C485 : CHr Z consts_1 s.vm h0 s.vm T485.heap := C483.trans (CHr.keep Kq485 (sfS sf484 sf0) H483)
  have hk485 := Nat.le_trans hk483 Kq485.1
  refine Go.st st485 ?_
  show Go p.tables e below Kx _ (mkF m 230 _ [(.int (Int32.ofNat X485l.length))])
  have hp485 : X485l.length ≤ 10 := Nat.le_trans hl485 (Nat.add_le_add_right hp483 2)
  refine s_istore (pc' := 232) (Ls' := #[.val (.long p0), sn, vi p1, vi 2, vi r419, vi r420, vi 58, vi r422, vi r423, vr b424, vr b455, vr b474, .val (.int (Int32.ofNat X485l.length)), un, un]) X485.here hx (hb hby at_230) rfl  rfl ?_
  refine s_aload (pc' := 234) X485.here hx (hb hby at_232) rfl rfl rfl ?_
  have hn487 : ∀ c ∈ ([r419, r420] : List Int32), ¬ c = 58 := by
   intro c hc
   simp only [List.mem_cons, List.not_mem_nil, or_false] at hc
   rcases hc with rfl | rfl
   ·
    exact (hr419.2.2.2 (by decide))
   ·
    exact (hr420.2.2.2 (by decide))
  have hn488 : ∀ c ∈ ([r419, r420, (58 : Int32), r422, r423] : List Int32), ¬ c = 10 := by
   intro c hc
   simp only [List.mem_cons, List.not_mem_nil, or_false] at hc
   rcases hc with rfl | rfl | rfl | rfl | rfl
   ·
    exact hr419.2.1
   ·
    exact hr420.2.1
   ·
    exact (by decide)
   ·
    exact hr422.2.1
   ·
    exact hr423.2.1
  have hn489 : ∀ c ∈ ([r419, r420, (58 : Int32), r422, r423] : List Int32), ¬ c = 13 := by
   intro c hc
   simp only [List.mem_cons, List.not_mem_nil, or_false] at hc
   rcases hc with rfl | rfl | rfl | rfl | rfl
   ·
    exact hr419.2.2.1
   ·
    exact hr420.2.2.1
   ·
    exact (by decide)
   ·
    exact hr422.2.2.1
   ·
    exact hr423.2.2.1
  have f490 : Str Z T485.heap T453.heap.size b424 [r419, r420, (58 : Int32), r422, r423] := (((((((((((St453.ext E455).ext E457).wr W461 (Nat.le_trans E455.1 (Nat.le_of_eq g457.symm))).wr W465 (Nat.le_trans E455.1 (Nat.le_of_eq g457.symm))).keep Kq472 (allS (Nat.le_of_eq g455.symm) all0)).ext E474).keep Kq477 (allS (Nat.le_trans (Nat.le_trans (Nat.le_trans (Nat.le_trans (Nat.le_trans E455.1 E457.1) (Nat.le_of_eq W461.size.symm)) (Nat.le_of_eq W465.size.symm)) Kq472.1) (Nat.le_of_eq g474.symm)) all0)).keep Kq479 (allS (Nat.le_trans (Nat.le_trans (Nat.le_trans (Nat.le_trans (Nat.le_trans E455.1 E457.1) (Nat.le_of_eq W461.size.symm)) (Nat.le_of_eq W465.size.symm)) Kq472.1) (Nat.le_of_eq g474.symm)) all0)).keep Kq481 (allS (Nat.le_trans (Nat.le_trans (Nat.le_trans (Nat.le_trans (Nat.le_trans E455.1 E457.1) (Nat.le_of_eq W461.size.symm)) (Nat.le_of_eq W465.size.symm)) Kq472.1) (Nat.le_of_eq g474.symm)) all0)).keep Kq483 (allS (Nat.le_trans (Nat.le_trans (Nat.le_trans (Nat.le_trans (Nat.le_trans E455.1 E457.1) (Nat.le_of_eq W461.size.symm)) (Nat.le_of_eq W465.size.symm)) Kq472.1) (Nat.le_of_eq g474.symm)) all0)).keep Kq485 (allS (Nat.le_trans (Nat.le_trans (Nat.le_trans (Nat.le_trans (Nat.le_trans E455.1 E457.1) (Nat.le_of_eq W461.size.symm)) (Nat.le_of_eq W465.size.symm)) Kq472.1) (Nat.le_of_eq g474.symm)) all0))
  obtain ⟨_, _, ⟨T491, L491, k491, n491⟩, -, X491, hS'491, hg'491, ⟨Lc491, hQ491, l491, y491, z491, Cr491⟩, st491⟩ := callSS X485 hx (y := yN3) hown (mvT hZ (hv hw 39 rfl)) (mvT hZ (hv hw 40 rfl)) (mvT hZ (hv hw 41 rfl)) (mvT hZ (hv hw 42 rfl)) (by decide) (backOfSH (W := 0) (rmPp l Z a0 hw [] b424 _ [r419, r420] [r422, r423] T485.heap n0 O485 hEL wS G1 S1 P1 vf hvf SFm f490 hn487 (by simp) (by simp) hn488 hn489 (by simp)) hZ (hv hw 42 rfl) (hv hw 41 rfl) (by decide) (by decide) hEL H485) (g := (mkF m 234 #[.val (.long p0), sn, vi p1, vi 2, vi r419, vi r420, vi 58, vi r422, vi r423, vr b424, vr b455, vr b474, .val (.int (Int32.ofNat X485l.length)), un, un] [(.ref b424)])) rfl (by rw [hml]; rfl) (argsL := [(.ref b424)]) (rest := []) (lenOf pd_21 rfl) rfl (by exact Nat.le_of_eq rfl) (hb hby at_234) (fun _ _ => ⟨rfl, rfl, (by decide : 7 + 11 ≤ _), (by decide : 32 + 162 ≤ _)⟩)
  dsimp only [Pt.U, Pt.locs, Pt.cells, Pt.slots] at X491 l491 y491 z491 st491 hQ491 hS'491 hg'491 Cr491
  rw [l491, y491, z491] at X491
  obtain ⟨d491, yu491, yp491, bu491, bp491, rfl, Nq491, Kq491, q1_491, q2_491, q3_491, q4_491, q5_491⟩ := hQ491
  have N491 := Fr.app N485 Nq491
  have X491 : Stand p l e _ (s.setVm T491.vm) m _ below meth c T491 _ _ _ := X491
  obtain ⟨hZ491, hown491⟩ := wideOn hZ hS'491 hown
  have hS491 : s.Since T491.vm T491.heap.size := hS0.trans hS'491 (Nat.le_trans hk485 hg'491)
  have hk491 := Nat.le_refl T491.heap.size
  have C491 := C485.trans Cr491
  have K491 : Keep h0 T491.heap [] := K485.trans Kq491 all0
  have O491 : Old Z n0 T491.heap := O485.keep Kq491 all0
  refine Go.tr st491 ?_
  show Go p.tables e below Kx _ (mkF m 237 _ [(.ref d491)])
  refine s_astore (pc' := 239) (Ls' := #[.val (.long p0), sn, vi p1, vi 2, vi r419, vi r420, vi 58, vi r422, vi r423, vr b424, vr b455, vr b474, .val (.int (Int32.ofNat X485l.length)), vr d491, un]) X491.here hx (hb hby at_237) rfl rfl rfl ?_
  refine s_aload (pc' := 241) X491.here hx (hb hby at_239) rfl rfl rfl ?_
  obtain ⟨_, T492, L492, X492, hQ492, st492⟩ := kV X491 hx hZ491 (y := yN4) hown491 (hv hw 153 rfl) (hv hw 154 rfl) (notFace_of_selects (args := #[]) (mvT hZ491 (hv hw 156 rfl))) (hv hw 156 rfl) (hv hw 155 rfl) (hv hw 41 rfl) (hv hw 157 rfl) (by decide) (rmDu l Z a0 hw [] d491 yu491 T491.heap n0 O491 q2_491) rfl q1_491 (W := 0) (g := (mkF m 241 #[.val (.long p0), sn, vi p1, vi 2, vi r419, vi r420, vi 58, vi r422, vi r423, vr b424, vr b455, vr b474, .val (.int (Int32.ofNat X485l.length)), vr d491, un] [(.ref d491)])) rfl (by rw [hml]; rfl) (argsL := []) (rest := []) (lenOf pd_22 rfl) rfl (by exact Nat.le_of_eq rfl) (hb hby at_241) rfl (nb rfl) (nb rfl) (nb rfl) (nb rfl)
  obtain ⟨rfl, Nq492, hE492⟩ := hQ492
  have N492 := Fr.app N491 Nq492
  refine Go.tr st492 ?_
  show Go p.tables e below Kx _ (mkF m 244 _ [(.ref yu491)])
  refine s_aload (pc' := 246) X492.here hx (hb hby at_244) rfl rfl rfl ?_
  have f493 : Str Z T491.heap T472.heap.size b455 [r419, r420] := (((((((St472.ext E474).keep Kq477 (allS (Nat.le_of_eq g474.symm) all0)).keep Kq479 (allS (Nat.le_of_eq g474.symm) all0)).keep Kq481 (allS (Nat.le_of_eq g474.symm) all0)).keep Kq483 (allS (Nat.le_of_eq g474.symm) all0)).keep Kq485 (allS (Nat.le_of_eq g474.symm) all0)).keep Kq491 all0)
  obtain ⟨-, sE494, sC494, ⟨st494, sk494, -, sF494, sA494⟩, sp494, sl494⟩ := id q4_491
  obtain ⟨-, sE495, sC495, ⟨st495, sk495, -, sF495, sA495⟩, sp495, sl495⟩ := id f493
  obtain ⟨cq496, kq496, q496a, q496b, q496c⟩ := isOf hZ491 hE492 sE494
  obtain ⟨_, _, ⟨T496, L496, k496, n496⟩, -, X496, ⟨Lc496, hQ496, l496, y496, z496⟩, st496⟩ := X492.virtualBack hx (y := yN26) (z := yN26) hown491 (mvT hZ491 (hv hw 158 rfl)) (mvT hZ491 (hv hw 159 rfl)) (notFace_of_selects (args := #[]) (mvT hZ491 (hv hw 161 rfl))) (mvT hZ491 (hv hw 161 rfl)) (mvT hZ491 (hv hw 160 rfl)) (by decide) (StrChars.Road.eqW (W := 0) (s := (s.setVm T491.vm)) hZ491 (hwsE Z a0 hw) (kI := 4) (hv hw 7 rfl) sE494 sF494 sC494 sA494 (StrChars.Road.codOf rfl (fun c hc => (sp494 c hc).2)) (chr_up sp494) sl494 sE495 sF495 sC495 sA495 (StrChars.Road.codOf rfl (fun c hc => (sp495 c hc).2)) (chr_up sp495) sl495 (S1.ext O491.2) P1 (by decide) (by decide)) q496a q496c (g := (mkF m 246 #[.val (.long p0), sn, vi p1, vi 2, vi r419, vi r420, vi 58, vi r422, vi r423, vr b424, vr b455, vr b474, .val (.int (Int32.ofNat X485l.length)), vr d491, un] [(.ref b455), (.ref yu491)])) rfl (by rw [hml]; rfl) (Steps.refl _) (argsL := [(.ref b455)]) (rest := []) (lenOf pd_23 rfl) rfl (by exact Nat.le_of_eq rfl) (hb hby at_246) (fun _ _ => ⟨rfl, hE492, (by decide : 18 + 0 ≤ _), (by decide : 194 + 0 ≤ _)⟩)
  dsimp only [Pt.U, Pt.locs, Pt.cells, Pt.slots] at X496 l496 y496 z496 st496 hQ496
  rw [l496, y496, z496] at X496
  obtain ⟨hv496, rfl, hE496⟩ := hQ496
  rcases hv496 with ⟨rfl, hs496⟩ | ⟨rfl, hs496⟩
  ·
   have N496 := Fr.app N492 (Fr.nil n0)
   refine Go.tr st496 ?_
   show Go p.tables e below Kx _ (mkF m 249 _ [(.int 1)])
   refine s_ifY (pc' := 254) X496.here hx (hb hby at_249) ((if0 _ _).trans (feq (by decide)).2) (by decide) (by decide) ?_
   refine s_aload (pc' := 256) X496.here hx (hb hby at_254) rfl rfl rfl ?_
   obtain ⟨cq497, kq497, q497a, q497b, q497c⟩ := isOf hZ491 hE496 q1_491
   obtain ⟨_, _, ⟨T497, L497, k497, n497⟩, -, X497, hS'497, hg'497, ⟨Lc497, hQ497, l497, y497, z497, Cr497⟩, st497⟩ := X496.virtualBackS hx (y := yN1) (z := yN1) hown491 (mvT hZ491 (hv hw 167 rfl)) (mvT hZ491 (hv hw 168 rfl)) (notFace_of_selects (args := #[]) (mvT hZ491 (hv hw 170 rfl))) (mvT hZ491 (hv hw 170 rfl)) (mvT hZ491 (hv hw 169 rfl)) (by decide) (backOfSH (W := 0) (rmDa l Z a0 hw [] d491 yu491 yp491 u8 _ _ [r419, r420] [r422, r423] T491.heap n0 O491 hEL wS G1 S1 P1 SU SC q1_491 q2_491 q3_491 q4_491 q5_491 (by simp)) hZ491 (hv hw 171 rfl) (hv hw 41 rfl) (by decide) (by decide) hEL Cr491.1) q497a q497c (g := (mkF m 256 #[.val (.long p0), sn, vi p1, vi 2, vi r419, vi r420, vi 58, vi r422, vi r423, vr b424, vr b455, vr b474, .val (.int (Int32.ofNat X485l.length)), vr d491, un] [(.ref d491)])) rfl (by rw [hml]; rfl) (Steps.refl _) (argsL := []) (rest := []) (lenOf pd_31 rfl) rfl (by exact Nat.le_of_eq rfl) (hb hby at_256) (fun _ _ => ⟨rfl, hE496, (by decide : 18 + 8 ≤ _), (by decide : 194 + 120 ≤ _)⟩)
   dsimp only [Pt.U, Pt.locs, Pt.cells, Pt.slots] at X497 l497 y497 z497 st497 hQ497 hS'497 hg'497 Cr497
   rw [l497, y497, z497] at X497
   obtain ⟨t497, kt497, rfl, Nq497, Kq497, le497, q1_497⟩ := hQ497
   have sz497 : h0.size ≤ t497 := Nat.le_trans K491.1 le497
   have ge497 : n0 ≤ t497 := Nat.le_trans (O491.1 ▸ O491.2.1) le497
   have sn497 : Safe Z consts_1 T491.vm T491.heap t497 := Safe.new le497
   have N497 := Fr.app N496 Nq497
   have X497 : Stand p l e _ (s.setVm T497.vm) m _ below meth c T497 _ _ _ := X497
   obtain ⟨hZ497, hown497⟩ := wideOn hZ491 hS'497 hown491
   have hS497 : s.Since T497.vm T497.heap.size := hS491.trans hS'497 (Nat.le_trans hk491 (by rw [hE496] at hg'497; exact hg'497))
   have hk497 := Nat.le_refl T497.heap.size
   have C497 := C491.trans Cr497
   have K497 : Keep h0 T497.heap [] := K491.trans Kq497 all0
   have O497 : Old Z n0 T497.heap := O491.keep Kq497 all0
   refine Go.tr st497 ?_
   show Go p.tables e below Kx _ (mkF m 259 _ [(.ref t497)])
   have hX497 : enc (((([] : List Int32) ++ (i8s [r419, r420])) ++ [(58 : Int32)]) ++ (i8s [r422, r423])) = X485l := by rw [hD485, hD483, hD481, hD479, hD477]; simp [i8s, enc, encB58, t58]
   rw [hX497] at q1_497
   refine s_astore (pc' := 261) (Ls' := #[.val (.long p0), sn, vi p1, vi 2, vi r419, vi r420, vi 58, vi r422, vi r423, vr b424, vr b455, vr b474, .val (.int (Int32.ofNat X485l.length)), vr d491, vr t497]) X497.here hx (hb hby at_259) rfl rfl rfl ?_
   refine s_aload (pc' := 263) X497.here hx (hb hby at_261) rfl rfl rfl ?_
   obtain ⟨cl498, Ar498, Aq498, As498, An498, Ah498, Ag498⟩ := id q1_497
   refine Go.st (X497.arraylength hx (by  exact Ar498.1) (State.isArrayOf_alike hZ497.alike Ar498.2.1) (g := (mkF m 263 #[.val (.long p0), sn, vi p1, vi 2, vi r419, vi r420, vi 58, vi r422, vi r423, vr b424, vr b455, vr b474, .val (.int (Int32.ofNat X485l.length)), vr d491, vr t497] [(.ref t497)])) rfl rfl (hb hby at_263)) ?_
   rw [len_of As498 An498]
   show Go p.tables e below Kx _ (mkF m 264 _ [(.int (Int32.ofNat X485l.length))])
   refine s_iload (pc' := 266) X497.here hx (hb hby at_264) rfl rfl ?_
   refine s_icmpN (pc' := 269) X497.here hx (hb hby at_266) rfl (teq rfl).2 ?_
   refine s_aload (pc' := 271) X497.here hx (hb hby at_269) rfl rfl rfl ?_
   refine s_aload (pc' := 273) X497.here hx (hb hby at_271) rfl rfl rfl ?_
   refine s_iconst (pc' := 274) (v := 0) X497.here hx (hb hby at_273) rfl rfl ?_
   refine s_iload (pc' := 276) X497.here hx (hb hby at_274) rfl rfl ?_
   have f499 : Arv Z T497.heap b474 k474 .byte 10 (pad 10 X485l) (.int 0) := ((q1_485.keep Kq491 nin0).keep Kq497 nin0)
   obtain ⟨_, T500, L500, X500, hQ500, st500⟩ := kS X497 hx hZ497 (y := yN7) hown497 (hv hw 288 rfl) (hv hw 289 rfl) (hv hw 3 rfl) (hv hw 290 rfl) (by decide) (rmDs l Z a0 hw [] t497 b474 _ _ X485l 0 T497.heap n0 O497 q1_497 f499 (Nat.le_trans hp485 (by decide)) (by decide)) rfl (W := 0) (g := (mkF m 276 #[.val (.long p0), sn, vi p1, vi 2, vi r419, vi r420, vi 58, vi r422, vi r423, vr b424, vr b455, vr b474, .val (.int (Int32.ofNat X485l.length)), vr d491, vr t497] [(.int (Int32.ofNat X485l.length)), (.int 0), (.ref b474), (.ref t497)])) rfl (by rw [hml]; rfl) (argsL := [(.ref t497), (.ref b474), (.int 0), (.int (Int32.ofNat X485l.length))]) (rest := []) (lenOf pd_41 rfl) rfl (by exact Nat.le_of_eq rfl) (hb hby at_276) rfl (nb rfl) (nb rfl) (nb rfl) (nb rfl)
   obtain ⟨rfl, Nq500, hE500⟩ := hQ500
   have N500 := Fr.app N497 Nq500
   refine Go.st st500 ?_
   show Go p.tables e below Kx _ (mkF m 279 _ [(.int 1)])
   refine s_ifN (pc' := 282) X500.here hx (hb hby at_279) rfl ((if0 _ _).trans (feq (by decide)).1) ?_
   refine s_aload (pc' := 284) X500.here hx (hb hby at_282) rfl rfl rfl ?_
   refine s_aload (pc' := 286) X500.here hx (hb hby at_284) rfl rfl rfl ?_
   refine s_iconst (pc' := 287) (v := 1) X500.here hx (hb hby at_286) rfl rfl ?_
   refine s_iload (pc' := 289) X500.here hx (hb hby at_287) rfl rfl ?_
   obtain ⟨_, T501, L501, X501, hQ501, st501⟩ := kS X500 hx hZ497 (y := yN7) hown497 (hv hw 288 rfl) (hv hw 289 rfl) (hv hw 3 rfl) (hv hw 290 rfl) (by decide) (rmDs l Z a0 hw [] t497 b474 _ _ X485l 1 T497.heap n0 O497 q1_497 f499 (Nat.le_trans hp485 (by decide)) (by decide)) hE500 (W := 0) (g := (mkF m 289 #[.val (.long p0), sn, vi p1, vi 2, vi r419, vi r420, vi 58, vi r422, vi r423, vr b424, vr b455, vr b474, .val (.int (Int32.ofNat X485l.length)), vr d491, vr t497] [(.int (Int32.ofNat X485l.length)), (.int 1), (.ref b474), (.ref t497)])) rfl (by rw [hml]; rfl) (argsL := [(.ref t497), (.ref b474), (.int 1), (.int (Int32.ofNat X485l.length))]) (rest := []) (lenOf pd_41 rfl) rfl (by exact Nat.le_of_eq rfl) (hb hby at_289) rfl (nb rfl) (nb rfl) (nb rfl) (nb rfl)
   obtain ⟨rfl, Nq501, hE501⟩ := hQ501
   have N501 := Fr.app N500 Nq501
   refine Go.st st501 ?_
   show Go p.tables e below Kx _ (mkF m 292 _ [(.int 1)])
   refine s_ifN (pc' := 295) X501.here hx (hb hby at_292) rfl ((if0 _ _).trans (feq (by decide)).1) ?_
   refine s_aload (pc' := 297) X501.here hx (hb hby at_295) rfl rfl rfl ?_
   refine s_aload (pc' := 299) X501.here hx (hb hby at_297) rfl rfl rfl ?_
   refine s_iconst (pc' := 300) (v := 2) X501.here hx (hb hby at_299) rfl rfl ?_
   refine s_iload (pc' := 302) X501.here hx (hb hby at_300) rfl rfl ?_
   obtain ⟨_, T502, L502, X502, hQ502, st502⟩ := kS X501 hx hZ497 (y := yN7) hown497 (hv hw 288 rfl) (hv hw 289 rfl) (hv hw 3 rfl) (hv hw 290 rfl) (by decide) (rmDs l Z a0 hw [] t497 b474 _ _ X485l 2 T497.heap n0 O497 q1_497 f499 (Nat.le_trans hp485 (by decide)) (by decide)) hE501 (W := 0) (g := (mkF m 302 #[.val (.long p0), sn, vi p1, vi 2, vi r419, vi r420, vi 58, vi r422, vi r423, vr b424, vr b455, vr b474, .val (.int (Int32.ofNat X485l.length)), vr d491, vr t497] [(.int (Int32.ofNat X485l.length)), (.int 2), (.ref b474), (.ref t497)])) rfl (by rw [hml]; rfl) (argsL := [(.ref t497), (.ref b474), (.int 2), (.int (Int32.ofNat X485l.length))]) (rest := []) (lenOf pd_41 rfl) rfl (by exact Nat.le_of_eq rfl) (hb hby at_302) rfl (nb rfl) (nb rfl) (nb rfl) (nb rfl)
   obtain ⟨rfl, Nq502, hE502⟩ := hQ502
   have N502 := Fr.app N501 Nq502
   refine Go.st st502 ?_
   show Go p.tables e below Kx _ (mkF m 305 _ [(.int 1)])
   refine s_ifN (pc' := 308) X502.here hx (hb hby at_305) rfl ((if0 _ _).trans (feq (by decide)).1) ?_
   refine s_aload (pc' := 310) X502.here hx (hb hby at_308) rfl rfl rfl ?_
   refine s_aload (pc' := 312) X502.here hx (hb hby at_310) rfl rfl rfl ?_
   refine s_iconst (pc' := 313) (v := 3) X502.here hx (hb hby at_312) rfl rfl ?_
   refine s_iload (pc' := 315) X502.here hx (hb hby at_313) rfl rfl ?_
   obtain ⟨_, T503, L503, X503, hQ503, st503⟩ := kS X502 hx hZ497 (y := yN7) hown497 (hv hw 288 rfl) (hv hw 289 rfl) (hv hw 3 rfl) (hv hw 290 rfl) (by decide) (rmDs l Z a0 hw [] t497 b474 _ _ X485l 3 T497.heap n0 O497 q1_497 f499 (Nat.le_trans hp485 (by decide)) (by decide)) hE502 (W := 0) (g := (mkF m 315 #[.val (.long p0), sn, vi p1, vi 2, vi r419, vi r420, vi 58, vi r422, vi r423, vr b424, vr b455, vr b474, .val (.int (Int32.ofNat X485l.length)), vr d491, vr t497] [(.int (Int32.ofNat X485l.length)), (.int 3), (.ref b474), (.ref t497)])) rfl (by rw [hml]; rfl) (argsL := [(.ref t497), (.ref b474), (.int 3), (.int (Int32.ofNat X485l.length))]) (rest := []) (lenOf pd_41 rfl) rfl (by exact Nat.le_of_eq rfl) (hb hby at_315) rfl (nb rfl) (nb rfl) (nb rfl) (nb rfl)
   obtain ⟨rfl, Nq503, hE503⟩ := hQ503
   have N503 := Fr.app N502 Nq503
   refine Go.st st503 ?_
   show Go p.tables e below Kx _ (mkF m 318 _ [(.int 1)])
   refine s_ifN (pc' := 321) X503.here hx (hb hby at_318) rfl ((if0 _ _).trans (feq (by decide)).1) ?_
   refine s_aload (pc' := 323) X503.here hx (hb hby at_321) rfl rfl rfl ?_
   refine s_aload (pc' := 325) X503.here hx (hb hby at_323) rfl rfl rfl ?_
   refine s_iconst (pc' := 326) (v := 4) X503.here hx (hb hby at_325) rfl rfl ?_
   refine s_iload (pc' := 328) X503.here hx (hb hby at_326) rfl rfl ?_
   obtain ⟨_, T504, L504, X504, hQ504, st504⟩ := kS X503 hx hZ497 (y := yN7) hown497 (hv hw 288 rfl) (hv hw 289 rfl) (hv hw 3 rfl) (hv hw 290 rfl) (by decide) (rmDs l Z a0 hw [] t497 b474 _ _ X485l 4 T497.heap n0 O497 q1_497 f499 (Nat.le_trans hp485 (by decide)) (by decide)) hE503 (W := 0) (g := (mkF m 328 #[.val (.long p0), sn, vi p1, vi 2, vi r419, vi r420, vi 58, vi r422, vi r423, vr b424, vr b455, vr b474, .val (.int (Int32.ofNat X485l.length)), vr d491, vr t497] [(.int (Int32.ofNat X485l.length)), (.int 4), (.ref b474), (.ref t497)])) rfl (by rw [hml]; rfl) (argsL := [(.ref t497), (.ref b474), (.int 4), (.int (Int32.ofNat X485l.length))]) (rest := []) (lenOf pd_41 rfl) rfl (by exact Nat.le_of_eq rfl) (hb hby at_328) rfl (nb rfl) (nb rfl) (nb rfl) (nb rfl)
   obtain ⟨rfl, Nq504, hE504⟩ := hQ504
   have N504 := Fr.app N503 Nq504
   refine Go.st st504 ?_
   show Go p.tables e below Kx _ (mkF m 331 _ [(.int 1)])
   refine s_ifN (pc' := 334) X504.here hx (hb hby at_331) rfl ((if0 _ _).trans (feq (by decide)).1) ?_
   refine s_aload (pc' := 336) X504.here hx (hb hby at_334) rfl rfl rfl ?_
   refine s_aload (pc' := 338) X504.here hx (hb hby at_336) rfl rfl rfl ?_
   refine s_iconst (pc' := 339) (v := 5) X504.here hx (hb hby at_338) rfl rfl ?_
   refine s_iload (pc' := 341) X504.here hx (hb hby at_339) rfl rfl ?_
   obtain ⟨_, T505, L505, X505, hQ505, st505⟩ := kS X504 hx hZ497 (y := yN7) hown497 (hv hw 288 rfl) (hv hw 289 rfl) (hv hw 3 rfl) (hv hw 290 rfl) (by decide) (rmDs l Z a0 hw [] t497 b474 _ _ X485l 5 T497.heap n0 O497 q1_497 f499 (Nat.le_trans hp485 (by decide)) (by decide)) hE504 (W := 0) (g := (mkF m 341 #[.val (.long p0), sn, vi p1, vi 2, vi r419, vi r420, vi 58, vi r422, vi r423, vr b424, vr b455, vr b474, .val (.int (Int32.ofNat X485l.length)), vr d491, vr t497] [(.int (Int32.ofNat X485l.length)), (.int 5), (.ref b474), (.ref t497)])) rfl (by rw [hml]; rfl) (argsL := [(.ref t497), (.ref b474), (.int 5), (.int (Int32.ofNat X485l.length))]) (rest := []) (lenOf pd_41 rfl) rfl (by exact Nat.le_of_eq rfl) (hb hby at_341) rfl (nb rfl) (nb rfl) (nb rfl) (nb rfl)
   obtain ⟨rfl, Nq505, hE505⟩ := hQ505
   have N505 := Fr.app N504 Nq505
   refine Go.st st505 ?_
   show Go p.tables e below Kx _ (mkF m 344 _ [(.int 1)])
   refine s_ifN (pc' := 347) X505.here hx (hb hby at_344) rfl ((if0 _ _).trans (feq (by decide)).1) ?_
   refine s_aload (pc' := 349) X505.here hx (hb hby at_347) rfl rfl rfl ?_
   refine s_aload (pc' := 351) X505.here hx (hb hby at_349) rfl rfl rfl ?_
   refine s_bipush (pc' := 353) (v := 6) X505.here hx (hb hby at_351) rfl rfl ?_
   refine s_iload (pc' := 355) X505.here hx (hb hby at_353) rfl rfl ?_
   obtain ⟨_, T506, L506, X506, hQ506, st506⟩ := kS X505 hx hZ497 (y := yN7) hown497 (hv hw 288 rfl) (hv hw 289 rfl) (hv hw 3 rfl) (hv hw 290 rfl) (by decide) (rmDs l Z a0 hw [] t497 b474 _ _ X485l 6 T497.heap n0 O497 q1_497 f499 (Nat.le_trans hp485 (by decide)) (by decide)) hE505 (W := 0) (g := (mkF m 355 #[.val (.long p0), sn, vi p1, vi 2, vi r419, vi r420, vi 58, vi r422, vi r423, vr b424, vr b455, vr b474, .val (.int (Int32.ofNat X485l.length)), vr d491, vr t497] [(.int (Int32.ofNat X485l.length)), (.int 6), (.ref b474), (.ref t497)])) rfl (by rw [hml]; rfl) (argsL := [(.ref t497), (.ref b474), (.int 6), (.int (Int32.ofNat X485l.length))]) (rest := []) (lenOf pd_41 rfl) rfl (by exact Nat.le_of_eq rfl) (hb hby at_355) rfl (nb rfl) (nb rfl) (nb rfl) (nb rfl)
   obtain ⟨rfl, Nq506, hE506⟩ := hQ506
   have N506 := Fr.app N505 Nq506
   refine Go.st st506 ?_
   show Go p.tables e below Kx _ (mkF m 358 _ [(.int 1)])
   refine s_ifN (pc' := 361) X506.here hx (hb hby at_358) rfl ((if0 _ _).trans (feq (by decide)).1) ?_
   refine s_aload (pc' := 363) X506.here hx (hb hby at_361) rfl rfl rfl ?_
   refine s_aload (pc' := 365) X506.here hx (hb hby at_363) rfl rfl rfl ?_
   refine s_bipush (pc' := 367) (v := 7) X506.here hx (hb hby at_365) rfl rfl ?_
   refine s_iload (pc' := 369) X506.here hx (hb hby at_367) rfl rfl ?_
   obtain ⟨_, T507, L507, X507, hQ507, st507⟩ := kS X506 hx hZ497 (y := yN7) hown497 (hv hw 288 rfl) (hv hw 289 rfl) (hv hw 3 rfl) (hv hw 290 rfl) (by decide) (rmDs l Z a0 hw [] t497 b474 _ _ X485l 7 T497.heap n0 O497 q1_497 f499 (Nat.le_trans hp485 (by decide)) (by decide)) hE506 (W := 0) (g := (mkF m 369 #[.val (.long p0), sn, vi p1, vi 2, vi r419, vi r420, vi 58, vi r422, vi r423, vr b424, vr b455, vr b474, .val (.int (Int32.ofNat X485l.length)), vr d491, vr t497] [(.int (Int32.ofNat X485l.length)), (.int 7), (.ref b474), (.ref t497)])) rfl (by rw [hml]; rfl) (argsL := [(.ref t497), (.ref b474), (.int 7), (.int (Int32.ofNat X485l.length))]) (rest := []) (lenOf pd_41 rfl) rfl (by exact Nat.le_of_eq rfl) (hb hby at_369) rfl (nb rfl) (nb rfl) (nb rfl) (nb rfl)
   obtain ⟨rfl, Nq507, hE507⟩ := hQ507
   have N507 := Fr.app N506 Nq507
   refine Go.st st507 ?_
   show Go p.tables e below Kx _ (mkF m 372 _ [(.int 1)])
   refine s_ifN (pc' := 375) X507.here hx (hb hby at_372) rfl ((if0 _ _).trans (feq (by decide)).1) ?_
   refine s_aload (pc' := 377) X507.here hx (hb hby at_375) rfl rfl rfl ?_
   refine s_aload (pc' := 379) X507.here hx (hb hby at_377) rfl rfl rfl ?_
   refine s_bipush (pc' := 381) (v := 8) X507.here hx (hb hby at_379) rfl rfl ?_
   refine s_iload (pc' := 383) X507.here hx (hb hby at_381) rfl rfl ?_
   obtain ⟨_, T508, L508, X508, hQ508, st508⟩ := kS X507 hx hZ497 (y := yN7) hown497 (hv hw 288 rfl) (hv hw 289 rfl) (hv hw 3 rfl) (hv hw 290 rfl) (by decide) (rmDs l Z a0 hw [] t497 b474 _ _ X485l 8 T497.heap n0 O497 q1_497 f499 (Nat.le_trans hp485 (by decide)) (by decide)) hE507 (W := 0) (g := (mkF m 383 #[.val (.long p0), sn, vi p1, vi 2, vi r419, vi r420, vi 58, vi r422, vi r423, vr b424, vr b455, vr b474, .val (.int (Int32.ofNat X485l.length)), vr d491, vr t497] [(.int (Int32.ofNat X485l.length)), (.int 8), (.ref b474), (.ref t497)])) rfl (by rw [hml]; rfl) (argsL := [(.ref t497), (.ref b474), (.int 8), (.int (Int32.ofNat X485l.length))]) (rest := []) (lenOf pd_41 rfl) rfl (by exact Nat.le_of_eq rfl) (hb hby at_383) rfl (nb rfl) (nb rfl) (nb rfl) (nb rfl)
   obtain ⟨rfl, Nq508, hE508⟩ := hQ508
   have N508 := Fr.app N507 Nq508
   refine Go.st st508 ?_
   show Go p.tables e below Kx _ (mkF m 386 _ [(.int 1)])
   refine s_ifN (pc' := 389) X508.here hx (hb hby at_386) rfl ((if0 _ _).trans (feq (by decide)).1) ?_
   refine s_aload (pc' := 391) X508.here hx (hb hby at_389) rfl rfl rfl ?_
   refine s_aload (pc' := 393) X508.here hx (hb hby at_391) rfl rfl rfl ?_
   refine s_bipush (pc' := 395) (v := 9) X508.here hx (hb hby at_393) rfl rfl ?_
   refine s_iload (pc' := 397) X508.here hx (hb hby at_395) rfl rfl ?_
   obtain ⟨_, T509, L509, X509, hQ509, st509⟩ := kS X508 hx hZ497 (y := yN7) hown497 (hv hw 288 rfl) (hv hw 289 rfl) (hv hw 3 rfl) (hv hw 290 rfl) (by decide) (rmDs l Z a0 hw [] t497 b474 _ _ X485l 9 T497.heap n0 O497 q1_497 f499 (Nat.le_trans hp485 (by decide)) (by decide)) hE508 (W := 0) (g := (mkF m 397 #[.val (.long p0), sn, vi p1, vi 2, vi r419, vi r420, vi 58, vi r422, vi r423, vr b424, vr b455, vr b474, .val (.int (Int32.ofNat X485l.length)), vr d491, vr t497] [(.int (Int32.ofNat X485l.length)), (.int 9), (.ref b474), (.ref t497)])) rfl (by rw [hml]; rfl) (argsL := [(.ref t497), (.ref b474), (.int 9), (.int (Int32.ofNat X485l.length))]) (rest := []) (lenOf pd_41 rfl) rfl (by exact Nat.le_of_eq rfl) (hb hby at_397) rfl (nb rfl) (nb rfl) (nb rfl) (nb rfl)
   obtain ⟨rfl, Nq509, hE509⟩ := hQ509
   have N509 := Fr.app N508 Nq509
   refine Go.st st509 ?_
   show Go p.tables e below Kx _ (mkF m 400 _ [(.int 1)])
   refine s_ifN (pc' := 403) X509.here hx (hb hby at_400) rfl ((if0 _ _).trans (feq (by decide)).1) ?_
   refine s_iconst (pc' := 404) (v := 1) X509.here hx (hb hby at_403) rfl rfl ?_
   refine s_goto (pc' := 408) X509.here hx (hb hby at_404) (by decide) (by decide) ?_
   obtain ⟨fs, hr, hrun, hended, hRW⟩ := X509.leaveW hS497 (by rw [hE509]; exact hk497) (v := (some (.int 1))) (fun h => by rw [Bd.returns] at h; cases h)
   have hCx := C497.trans (CHv.at X509 hZ497 hEL Cr497.1)
   refine Go.fin (retN X509 hx (t := .boolean) Bd.returns (by simp) (hb hby at_408) hr) (hF _ _ hrun hended ⟨_, _, rfl, ?_, ?_, hRW.1, hRW.2.1, hRW.2.2.1, hRW.2.2.2.mono (by decide) (by decide)⟩)
   ·
    show QL Z p0 p1 u8 h0 n0 ((some (.int 1)) : Option Value) T509.heap _
    rw [hE509]
    exact ⟨rfl, N509⟩
   ·
    show CHr Z consts_1 s.vm s.heap T509.vm T509.heap
    rw [hE509, hh]; exact hCx
  ·
   have N496 := Fr.app N492 (Fr.nil n0)
   refine Go.tr st496 ?_
   show Go p.tables e below Kx _ (mkF m 249 _ [(.int 0)])
   exact absurd rfl hs496
 ·
  rw [hpp7]
  show Go p.tables e below Kx _ (mkF m 8 _ [(.int 3)])
  refine s_istoreN (pc' := 9) (Ls' := #[.val (.long p0), sn, vi p1, vi 3, un, un, un, un, un, un, un, un, un, un, un]) X0.here hx (hb hby at_8) rfl  rfl ?_
  refine s_lloadN (pc' := 10) X0.here hx (hb hby at_9) rfl rfl ?_
  refine s_iconst (pc' := 11) (v := 0) X0.here hx (hb hby at_10) rfl rfl ?_
  refine s_iloadN (pc' := 12) X0.here hx (hb hby at_11) rfl rfl ?_
  obtain ⟨_, T510, L510, X510, hQ510, st510⟩ := kS X0 hx hZ (y := yN5) hown (hv hw 1 rfl) (hv hw 2 rfl) (hv hw 3 rfl) (hv hw 4 rfl) (by decide) (rmCn l Z a0 hw [] p0 0 3 h0 n0 X00 (by decide)) e0 (W := 0) (g := (mkF m 12 #[.val (.long p0), sn, vi p1, vi 3, un, un, un, un, un, un, un, un, un, un, un] [(.int 3), (.int 0), (.long p0)])) rfl (by rw [hml]; rfl) (argsL := [(.long p0), (.int 0), (.int 3)]) (rest := []) (lenOf pd_0 rfl) rfl (by exact Nat.le_of_eq rfl) (hb hby at_12) rfl (nb rfl) (nb rfl) (nb rfl) (nb rfl)
  obtain ⟨⟨r510, rfl, hr510⟩, Nq510, hE510⟩ := hQ510
  have N510 := Fr.app N0 Nq510
  refine Go.st st510 ?_
  show Go p.tables e below Kx _ (mkF m 15 _ [(.int r510)])
  refine s_istore (pc' := 17) (Ls' := #[.val (.long p0), sn, vi p1, vi 3, vi r510, un, un, un, un, un, un, un, un, un, un]) X510.here hx (hb hby at_15) rfl  rfl ?_
  refine s_lloadN (pc' := 18) X510.here hx (hb hby at_17) rfl rfl ?_
  refine s_iconst (pc' := 19) (v := 1) X510.here hx (hb hby at_18) rfl rfl ?_
  refine s_iloadN (pc' := 20) X510.here hx (hb hby at_19) rfl rfl ?_
  obtain ⟨_, T511, L511, X511, hQ511, st511⟩ := kS X510 hx hZ (y := yN5) hown (hv hw 1 rfl) (hv hw 2 rfl) (hv hw 3 rfl) (hv hw 4 rfl) (by decide) (rmCn l Z a0 hw [] p0 1 3 h0 n0 X00 (by decide)) hE510 (W := 0) (g := (mkF m 20 #[.val (.long p0), sn, vi p1, vi 3, vi r510, un, un, un, un, un, un, un, un, un, un] [(.int 3), (.int 1), (.long p0)])) rfl (by rw [hml]; rfl) (argsL := [(.long p0), (.int 1), (.int 3)]) (rest := []) (lenOf pd_0 rfl) rfl (by exact Nat.le_of_eq rfl) (hb hby at_20) rfl (nb rfl) (nb rfl) (nb rfl) (nb rfl)
  obtain ⟨⟨r511, rfl, hr511⟩, Nq511, hE511⟩ := hQ511
  have N511 := Fr.app N510 Nq511
  refine Go.st st511 ?_
  show Go p.tables e below Kx _ (mkF m 23 _ [(.int r511)])
  refine s_istore (pc' := 25) (Ls' := #[.val (.long p0), sn, vi p1, vi 3, vi r510, vi r511, un, un, un, un, un, un, un, un, un]) X511.here hx (hb hby at_23) rfl  rfl ?_
  refine s_lloadN (pc' := 26) X511.here hx (hb hby at_25) rfl rfl ?_
  refine s_iconst (pc' := 27) (v := 2) X511.here hx (hb hby at_26) rfl rfl ?_
  refine s_iloadN (pc' := 28) X511.here hx (hb hby at_27) rfl rfl ?_
  obtain ⟨_, T512, L512, X512, hQ512, st512⟩ := kS X511 hx hZ (y := yN5) hown (hv hw 1 rfl) (hv hw 2 rfl) (hv hw 3 rfl) (hv hw 4 rfl) (by decide) (rmCn l Z a0 hw [] p0 2 3 h0 n0 X00 (by decide)) hE511 (W := 0) (g := (mkF m 28 #[.val (.long p0), sn, vi p1, vi 3, vi r510, vi r511, un, un, un, un, un, un, un, un, un] [(.int 3), (.int 2), (.long p0)])) rfl (by rw [hml]; rfl) (argsL := [(.long p0), (.int 2), (.int 3)]) (rest := []) (lenOf pd_0 rfl) rfl (by exact Nat.le_of_eq rfl) (hb hby at_28) rfl (nb rfl) (nb rfl) (nb rfl) (nb rfl)
  obtain ⟨⟨r512, rfl, hr512⟩, Nq512, hE512⟩ := hQ512
  have N512 := Fr.app N511 Nq512
  refine Go.st st512 ?_
  show Go p.tables e below Kx _ (mkF m 31 _ [(.int r512)])
  refine s_istore (pc' := 33) (Ls' := #[.val (.long p0), sn, vi p1, vi 3, vi r510, vi r511, vi r512, un, un, un, un, un, un, un, un]) X512.here hx (hb hby at_31) rfl  rfl ?_
  refine s_lloadN (pc' := 34) X512.here hx (hb hby at_33) rfl rfl ?_
  refine s_iconst (pc' := 35) (v := 3) X512.here hx (hb hby at_34) rfl rfl ?_
  refine s_iloadN (pc' := 36) X512.here hx (hb hby at_35) rfl rfl ?_
  obtain ⟨_, T513, L513, X513, hQ513, st513⟩ := kS X512 hx hZ (y := yN5) hown (hv hw 1 rfl) (hv hw 2 rfl) (hv hw 3 rfl) (hv hw 4 rfl) (by decide) (rmCe l Z a0 hw [] p0 3 h0 n0 X00 ) hE512 (W := 0) (g := (mkF m 36 #[.val (.long p0), sn, vi p1, vi 3, vi r510, vi r511, vi r512, un, un, un, un, un, un, un, un] [(.int 3), (.int 3), (.long p0)])) rfl (by rw [hml]; rfl) (argsL := [(.long p0), (.int 3), (.int 3)]) (rest := []) (lenOf pd_0 rfl) rfl (by exact Nat.le_of_eq rfl) (hb hby at_36) rfl (nb rfl) (nb rfl) (nb rfl) (nb rfl)
  obtain ⟨rfl, Nq513, hE513⟩ := hQ513
  have N513 := Fr.app N512 Nq513
  refine Go.st st513 ?_
  show Go p.tables e below Kx _ (mkF m 39 _ [(.int 58)])
  refine s_istore (pc' := 41) (Ls' := #[.val (.long p0), sn, vi p1, vi 3, vi r510, vi r511, vi r512, vi 58, un, un, un, un, un, un, un]) X513.here hx (hb hby at_39) rfl  rfl ?_
  refine s_lloadN (pc' := 42) X513.here hx (hb hby at_41) rfl rfl ?_
  refine s_iconst (pc' := 43) (v := 4) X513.here hx (hb hby at_42) rfl rfl ?_
  refine s_iloadN (pc' := 44) X513.here hx (hb hby at_43) rfl rfl ?_
  obtain ⟨_, T514, L514, X514, hQ514, st514⟩ := kS X513 hx hZ (y := yN5) hown (hv hw 1 rfl) (hv hw 2 rfl) (hv hw 3 rfl) (hv hw 4 rfl) (by decide) (rmCn l Z a0 hw [] p0 4 3 h0 n0 X00 (by decide)) hE513 (W := 0) (g := (mkF m 44 #[.val (.long p0), sn, vi p1, vi 3, vi r510, vi r511, vi r512, vi 58, un, un, un, un, un, un, un] [(.int 3), (.int 4), (.long p0)])) rfl (by rw [hml]; rfl) (argsL := [(.long p0), (.int 4), (.int 3)]) (rest := []) (lenOf pd_0 rfl) rfl (by exact Nat.le_of_eq rfl) (hb hby at_44) rfl (nb rfl) (nb rfl) (nb rfl) (nb rfl)
  obtain ⟨⟨r514, rfl, hr514⟩, Nq514, hE514⟩ := hQ514
  have N514 := Fr.app N513 Nq514
  refine Go.st st514 ?_
  show Go p.tables e below Kx _ (mkF m 47 _ [(.int r514)])
  refine s_istore (pc' := 49) (Ls' := #[.val (.long p0), sn, vi p1, vi 3, vi r510, vi r511, vi r512, vi 58, vi r514, un, un, un, un, un, un]) X514.here hx (hb hby at_47) rfl  rfl ?_
  obtain ⟨T515, h515, X515, e515, E515, A515, D515, -, st515⟩ := newO X514 hx hZ hown (hv hw 6 rfl) (hv hw 7 rfl) (hv hw 8 rfl) hE514 (g := (mkF m 49 #[.val (.long p0), sn, vi p1, vi 3, vi r510, vi r511, vi r512, vi 58, vi r514, un, un, un, un, un, un] [])) rfl (hb hby at_49) (by decide) (by decide)
  obtain ⟨b515, g515⟩ : ∃ z, z = h0.size := ⟨_, rfl⟩
  rw [← g515] at A515 D515 st515
  have sz515 : h0.size ≤ b515 := Nat.le_trans K0.1 (Nat.le_of_eq g515.symm)
  have ge515 : n0 ≤ b515 := Nat.le_trans (X00.1 ▸ X00.2.1) (Nat.le_of_eq g515.symm)
  have sn515 : Safe Z consts_1 s.vm h0 b515 := Safe.new (Nat.le_of_eq g515.symm)
  have K515 : Keep h0 h515 [] := K0.ext E515
  have O515 : Old Z n0 h515 := X00.ext E515
  have sf516 : Safe Z consts_1 s.vm h515 b515 := (Safe.ext E515 H0 sn515)
  have H515 : CHv Z consts_1 s.vm h515 := H0.ext E515
  have C515 : CHr Z consts_1 s.vm h0 s.vm h515 := C0.trans (CHr.ext E515 H0)
  have hk515 := Nat.le_trans hk0 E515.1
  have F515_coder : Fld Z h515 b515 "java/lang/String" "coder" "B" (.int 0) := D515 (Or.inr (hv hw 33 rfl)) (ty := .byte) (by decide)
  have F515_value : Fld Z h515 b515 "java/lang/String" "value" "[B" .null := D515 (Or.inr (hv hw 35 rfl)) (ty := (.array .byte)) (by decide)
  refine Go.st st515 ?_
  show Go p.tables e below Kx _ (mkF m 52 _ [(.ref b515)])
  refine s_dup (pc' := 53) X515.here hx (hb hby at_52) rfl rfl ?_
  refine s_iconst (pc' := 54) (v := 5) X515.here hx (hb hby at_53) rfl rfl ?_
  obtain ⟨T517, h517, k517, X517, e517, E517, A517, st517⟩ := newP X515 hx hZ (hv hw 9 rfl) e515 (g := (mkF m 54 #[.val (.long p0), sn, vi p1, vi 3, vi r510, vi r511, vi r512, vi 58, vi r514, un, un, un, un, un, un] [(.int 5), (.ref b515), (.ref b515)])) rfl (hb hby at_54) rfl (by decide) (cap := 5) (by decide) (by decide) (by decide) (by decide)
  obtain ⟨b517, g517⟩ : ∃ z, z = h515.size := ⟨_, rfl⟩
  rw [← g517] at A517 st517
  have sz517 : h0.size ≤ b517 := Nat.le_trans K515.1 (Nat.le_of_eq g517.symm)
  have ge517 : n0 ≤ b517 := Nat.le_trans (O515.1 ▸ O515.2.1) (Nat.le_of_eq g517.symm)
  have sn517 : Safe Z consts_1 s.vm h515 b517 := Safe.new (Nat.le_of_eq g517.symm)
  have K517 : Keep h0 h517 [] := K515.ext E517
  have O517 : Old Z n0 h517 := O515.ext E517
  have sf518 : Safe Z consts_1 s.vm h517 b515 := (Safe.ext E517 H515 sf516)
  have sf519 : Safe Z consts_1 s.vm h517 b517 := (Safe.ext E517 H515 sn517)
  have H517 : CHv Z consts_1 s.vm h517 := H515.ext E517
  have C517 : CHr Z consts_1 s.vm h0 s.vm h517 := C515.trans (CHr.ext E517 H515)
  have hk517 := Nat.le_trans hk515 E517.1
  have V517 : Arv Z h517 b517 k517 .char 5 [(.int 0), (.int 0), (.int 0), (.int 0), (.int 0)] (.int 0) := (Arv.new A517 (by decide)).pad (pad_rep [] (.int 0) 5)
  refine Go.st st517 ?_
  show Go p.tables e below Kx _ (mkF m 56 _ [(.ref b517), (.ref b515), (.ref b515)])
  refine s_dup (pc' := 57) X517.here hx (hb hby at_56) rfl rfl ?_
  refine s_iconst (pc' := 58) (v := 0) X517.here hx (hb hby at_57) rfl rfl ?_
  refine s_iload (pc' := 60) X517.here hx (hb hby at_58) rfl rfl ?_
  obtain ⟨cl520, Ar520, Aq520, As520, An520, Ah520, Ag520⟩ := id V517
  have in521 := inb_of (j := 0) As520 (by decide)
  obtain ⟨T521, h521, X521, e521, W521, st521⟩ := stC X517 hx hZ e517 Ar520 (j := 0) in521 (g := (mkF m 60 #[.val (.long p0), sn, vi p1, vi 3, vi r510, vi r511, vi r512, vi 58, vi r514, un, un, un, un, un, un] [(.int r510), (.int 0), (.ref b517), (.ref b517), (.ref b515), (.ref b515)])) rfl rfl (hb hby at_60)
  have V521 : Arv Z h521 b517 k517 .char 5 [(.int r510), (.int 0), (.int 0), (.int 0), (.int 0)] (.int 0) := by
   have q := Arv.set Ar520 Aq520 As520 An520 Ah520 Ag520 (fits_nar_char _) W521 0 rfl (Nat.le_of_ble_eq_true rfl)
   rw [chr_nar hr510.1] at q; exact q
  have K521 : Keep h0 h521 [] := K517.wr W521 (Or.inr sz517)
  have O521 : Old Z n0 h521 := O517.wr W521 ge517
  have sf522 : Safe Z consts_1 s.vm h521 b515 := (Safe.wr W521 sf519 H517 sf518)
  have sf523 : Safe Z consts_1 s.vm h521 b517 := (Safe.wr W521 sf519 H517 sf519)
  have H521 : CHv Z consts_1 s.vm h521 := H517.wr W521 sf519
  have C521 : CHr Z consts_1 s.vm h0 s.vm h521 := C517.trans (CHr.wr W521 sf519 H517)
  have hk521 := Nat.le_trans hk517 (Nat.le_of_eq W521.size.symm)
  have N521 := Fr.snoc X521 N514 ge517
  refine Go.st st521 ?_
  show Go p.tables e below Kx _ (mkF m 61 _ [(.ref b517), (.ref b515), (.ref b515)])
  refine s_dup (pc' := 62) X521.here hx (hb hby at_61) rfl rfl ?_
  refine s_iconst (pc' := 63) (v := 1) X521.here hx (hb hby at_62) rfl rfl ?_
  refine s_iload (pc' := 65) X521.here hx (hb hby at_63) rfl rfl ?_
  obtain ⟨cl524, Ar524, Aq524, As524, An524, Ah524, Ag524⟩ := id V521
  have in525 := inb_of (j := 1) As524 (by decide)
  obtain ⟨T525, h525, X525, e525, W525, st525⟩ := stC X521 hx hZ e521 Ar524 (j := 1) in525 (g := (mkF m 65 #[.val (.long p0), sn, vi p1, vi 3, vi r510, vi r511, vi r512, vi 58, vi r514, un, un, un, un, un, un] [(.int r511), (.int 1), (.ref b517), (.ref b517), (.ref b515), (.ref b515)])) rfl rfl (hb hby at_65)
  have V525 : Arv Z h525 b517 k517 .char 5 [(.int r510), (.int r511), (.int 0), (.int 0), (.int 0)] (.int 0) := by
   have q := Arv.set Ar524 Aq524 As524 An524 Ah524 Ag524 (fits_nar_char _) W525 1 rfl (Nat.le_of_ble_eq_true rfl)
   rw [chr_nar hr511.1] at q; exact q
  have K525 : Keep h0 h525 [] := K521.wr W525 (Or.inr sz517)
  have O525 : Old Z n0 h525 := O521.wr W525 ge517
  have sf526 : Safe Z consts_1 s.vm h525 b515 := (Safe.wr W525 sf523 H521 sf522)
  have sf527 : Safe Z consts_1 s.vm h525 b517 := (Safe.wr W525 sf523 H521 sf523)
  have H525 : CHv Z consts_1 s.vm h525 := H521.wr W525 sf523
  have C525 : CHr Z consts_1 s.vm h0 s.vm h525 := C521.trans (CHr.wr W525 sf523 H521)
  have hk525 := Nat.le_trans hk521 (Nat.le_of_eq W525.size.symm)
  have N525 := Fr.snoc X525 N521 ge517
  refine Go.st st525 ?_
  show Go p.tables e below Kx _ (mkF m 66 _ [(.ref b517), (.ref b515), (.ref b515)])
  refine s_dup (pc' := 67) X525.here hx (hb hby at_66) rfl rfl ?_
  refine s_iconst (pc' := 68) (v := 2) X525.here hx (hb hby at_67) rfl rfl ?_
  refine s_iload (pc' := 70) X525.here hx (hb hby at_68) rfl rfl ?_
  obtain ⟨cl528, Ar528, Aq528, As528, An528, Ah528, Ag528⟩ := id V525
  have in529 := inb_of (j := 2) As528 (by decide)
  obtain ⟨T529, h529, X529, e529, W529, st529⟩ := stC X525 hx hZ e525 Ar528 (j := 2) in529 (g := (mkF m 70 #[.val (.long p0), sn, vi p1, vi 3, vi r510, vi r511, vi r512, vi 58, vi r514, un, un, un, un, un, un] [(.int r512), (.int 2), (.ref b517), (.ref b517), (.ref b515), (.ref b515)])) rfl rfl (hb hby at_70)
  have V529 : Arv Z h529 b517 k517 .char 5 [(.int r510), (.int r511), (.int r512), (.int 0), (.int 0)] (.int 0) := by
   have q := Arv.set Ar528 Aq528 As528 An528 Ah528 Ag528 (fits_nar_char _) W529 2 rfl (Nat.le_of_ble_eq_true rfl)
   rw [chr_nar hr512.1] at q; exact q
  have K529 : Keep h0 h529 [] := K525.wr W529 (Or.inr sz517)
  have O529 : Old Z n0 h529 := O525.wr W529 ge517
  have sf530 : Safe Z consts_1 s.vm h529 b515 := (Safe.wr W529 sf527 H525 sf526)
  have sf531 : Safe Z consts_1 s.vm h529 b517 := (Safe.wr W529 sf527 H525 sf527)
  have H529 : CHv Z consts_1 s.vm h529 := H525.wr W529 sf527
  have C529 : CHr Z consts_1 s.vm h0 s.vm h529 := C525.trans (CHr.wr W529 sf527 H525)
  have hk529 := Nat.le_trans hk525 (Nat.le_of_eq W529.size.symm)
  have N529 := Fr.snoc X529 N525 ge517
  refine Go.st st529 ?_
  show Go p.tables e below Kx _ (mkF m 71 _ [(.ref b517), (.ref b515), (.ref b515)])
  refine s_dup (pc' := 72) X529.here hx (hb hby at_71) rfl rfl ?_
  refine s_iconst (pc' := 73) (v := 3) X529.here hx (hb hby at_72) rfl rfl ?_
  refine s_iload (pc' := 75) X529.here hx (hb hby at_73) rfl rfl ?_
  obtain ⟨cl532, Ar532, Aq532, As532, An532, Ah532, Ag532⟩ := id V529
  have in533 := inb_of (j := 3) As532 (by decide)
  obtain ⟨T533, h533, X533, e533, W533, st533⟩ := stC X529 hx hZ e529 Ar532 (j := 3) in533 (g := (mkF m 75 #[.val (.long p0), sn, vi p1, vi 3, vi r510, vi r511, vi r512, vi 58, vi r514, un, un, un, un, un, un] [(.int 58), (.int 3), (.ref b517), (.ref b517), (.ref b515), (.ref b515)])) rfl rfl (hb hby at_75)
  have V533 : Arv Z h533 b517 k517 .char 5 [(.int r510), (.int r511), (.int r512), (.int 58), (.int 0)] (.int 0) := by
   have q := Arv.set Ar532 Aq532 As532 An532 Ah532 Ag532 (fits_nar_char _) W533 3 rfl (Nat.le_of_ble_eq_true rfl)
   rw [chr_nar (by decide)] at q; exact q
  have K533 : Keep h0 h533 [] := K529.wr W533 (Or.inr sz517)
  have O533 : Old Z n0 h533 := O529.wr W533 ge517
  have sf534 : Safe Z consts_1 s.vm h533 b515 := (Safe.wr W533 sf531 H529 sf530)
  have sf535 : Safe Z consts_1 s.vm h533 b517 := (Safe.wr W533 sf531 H529 sf531)
  have H533 : CHv Z consts_1 s.vm h533 := H529.wr W533 sf531
  have C533 : CHr Z consts_1 s.vm h0 s.vm h533 := C529.trans (CHr.wr W533 sf531 H529)
  have hk533 := Nat.le_trans hk529 (Nat.le_of_eq W533.size.symm)
  have N533 := Fr.snoc X533 N529 ge517
  refine Go.st st533 ?_
  show Go p.tables e below Kx _ (mkF m 76 _ [(.ref b517), (.ref b515), (.ref b515)])
  refine s_dup (pc' := 77) X533.here hx (hb hby at_76) rfl rfl ?_
  refine s_iconst (pc' := 78) (v := 4) X533.here hx (hb hby at_77) rfl rfl ?_
  refine s_iload (pc' := 80) X533.here hx (hb hby at_78) rfl rfl ?_
  obtain ⟨cl536, Ar536, Aq536, As536, An536, Ah536, Ag536⟩ := id V533
  have in537 := inb_of (j := 4) As536 (by decide)
  obtain ⟨T537, h537, X537, e537, W537, st537⟩ := stC X533 hx hZ e533 Ar536 (j := 4) in537 (g := (mkF m 80 #[.val (.long p0), sn, vi p1, vi 3, vi r510, vi r511, vi r512, vi 58, vi r514, un, un, un, un, un, un] [(.int r514), (.int 4), (.ref b517), (.ref b517), (.ref b515), (.ref b515)])) rfl rfl (hb hby at_80)
  have V537 : Arv Z h537 b517 k517 .char 5 [(.int r510), (.int r511), (.int r512), (.int 58), (.int r514)] (.int 0) := by
   have q := Arv.set Ar536 Aq536 As536 An536 Ah536 Ag536 (fits_nar_char _) W537 4 rfl (Nat.le_of_ble_eq_true rfl)
   rw [chr_nar hr514.1] at q; exact q
  have K537 : Keep h0 h537 [] := K533.wr W537 (Or.inr sz517)
  have O537 : Old Z n0 h537 := O533.wr W537 ge517
  have sf538 : Safe Z consts_1 s.vm h537 b515 := (Safe.wr W537 sf535 H533 sf534)
  have sf539 : Safe Z consts_1 s.vm h537 b517 := (Safe.wr W537 sf535 H533 sf535)
  have H537 : CHv Z consts_1 s.vm h537 := H533.wr W537 sf535
  have C537 : CHr Z consts_1 s.vm h0 s.vm h537 := C533.trans (CHr.wr W537 sf535 H533)
  have hk537 := Nat.le_trans hk533 (Nat.le_of_eq W537.size.symm)
  have N537 := Fr.snoc X537 N533 ge517
  refine Go.st st537 ?_
  show Go p.tables e below Kx _ (mkF m 81 _ [(.ref b517), (.ref b515), (.ref b515)])
  have f540 : Exa Z h537 b515 "java/lang/String" := ((((((A515.ext E517).wr W521).wr W525).wr W529).wr W533).wr W537)
  have f541 : Fld Z h537 b515 "java/lang/String" "value" "[B" .null := ((((((F515_value.ext E517).other W521 (Or.inl (Nat.ne_of_lt (Nat.lt_of_lt_of_le A515.lt (Nat.le_of_eq g517.symm))))).other W525 (Or.inl (Nat.ne_of_lt (Nat.lt_of_lt_of_le A515.lt (Nat.le_of_eq g517.symm))))).other W529 (Or.inl (Nat.ne_of_lt (Nat.lt_of_lt_of_le A515.lt (Nat.le_of_eq g517.symm))))).other W533 (Or.inl (Nat.ne_of_lt (Nat.lt_of_lt_of_le A515.lt (Nat.le_of_eq g517.symm))))).other W537 (Or.inl (Nat.ne_of_lt (Nat.lt_of_lt_of_le A515.lt (Nat.le_of_eq g517.symm)))))
  have f542 : Fld Z h537 b515 "java/lang/String" "coder" "B" (.int 0) := ((((((F515_coder.ext E517).other W521 (Or.inl (Nat.ne_of_lt (Nat.lt_of_lt_of_le A515.lt (Nat.le_of_eq g517.symm))))).other W525 (Or.inl (Nat.ne_of_lt (Nat.lt_of_lt_of_le A515.lt (Nat.le_of_eq g517.symm))))).other W529 (Or.inl (Nat.ne_of_lt (Nat.lt_of_lt_of_le A515.lt (Nat.le_of_eq g517.symm))))).other W533 (Or.inl (Nat.ne_of_lt (Nat.lt_of_lt_of_le A515.lt (Nat.le_of_eq g517.symm))))).other W537 (Or.inl (Nat.ne_of_lt (Nat.lt_of_lt_of_le A515.lt (Nat.le_of_eq g517.symm)))))
  have hp543 : ∀ c ∈ ([r510, r511, r512, (58 : Int32), r514] : List Int32), ¬ c < 0 ∧ ¬ 255 < c := by
   intro c hc
   simp only [List.mem_cons, List.not_mem_nil, or_false] at hc
   rcases hc with rfl | rfl | rfl | rfl | rfl
   ·
    exact hr510.1
   ·
    exact hr511.1
   ·
    exact hr512.1
   ·
    exact (by decide)
   ·
    exact hr514.1
  obtain ⟨_, _, ⟨T544, L544, k544, n544⟩, -, X544, ⟨Lc544, hQ544, l544, y544, z544⟩, st544⟩ := X537.specialBack hx (y := yN21) rfl hown (mvT hZ (hv hw 10 rfl)) (mvT hZ (hv hw 11 rfl)) (mvT hZ (hv hw 12 rfl)) (by decide) (StrChars.Road.backV (W := 1) hZ (hwsV Z a0 hw) (kI := 4) (hv hw 7 rfl) (cs := [r510, r511, r512, (58 : Int32), r514]) (bs := ([r510, r511, r512, (58 : Int32), r514] : List Int32).map (fun c => c.toInt8.toInt32)) (n := 5) ge515 (O537.1 ▸ O537.2.1) f540 f541 f542 V537 (S1.ext O537.2) P1 rfl rfl (by decide) (by decide) hp543 rfl (by decide) (by decide)) (g := (mkF m 81 #[.val (.long p0), sn, vi p1, vi 3, vi r510, vi r511, vi r512, vi 58, vi r514, un, un, un, un, un, un] [(.ref b517), (.ref b515), (.ref b515)])) rfl (by rw [hml]; rfl) (Steps.refl _) (a := b515) (argsL := [(.ref b517)]) (rest := [(.ref b515)]) (lenOf pd_1 rfl) rfl (by exact Nat.le_of_eq rfl) (hb hby at_81) (fun _ _ => ⟨rfl, e537, (by decide : 2 + 1 ≤ _), (by decide : 9 + 5 ≤ _)⟩)
  dsimp only [Pt.U, Pt.locs, Pt.cells, Pt.slots] at X544 l544 y544 z544 st544 hQ544
  rw [l544, y544, z544] at X544
  obtain ⟨rfl, Nq544, Kq544, q1_544, q2_544, t544, kt544, -, -, -, q3_544, q4_544⟩ := hQ544
  have N544 := Fr.app N537 Nq544
  have K544 : Keep h0 T544.heap [] := K537.trans Kq544 (allS (P := fun zz => zz ∈ [] ∨ h0.size ≤ zz) (Or.inr sz515) all0)
  have O544 : Old Z n0 T544.heap := O537.keep Kq544 (allS ge515 all0)
  have sf545 : Safe Z consts_1 s.vm T544.heap b515 := (Safe.keep Kq544 (sfS sf538 sf0) H537 sf538)
  have H544 : CHv Z consts_1 s.vm T544.heap := H537.keep Kq544 (sfS sf538 sf0)
  have C544 : CHr Z consts_1 s.vm h0 s.vm T544.heap := C537.trans (CHr.keep Kq544 (sfS sf538 sf0) H537)
  have hk544 := Nat.le_trans hk537 Kq544.1
  refine Go.tr st544 ?_
  show Go p.tables e below Kx _ (mkF m 84 _ [(.ref b515)])
  have St544 : Str Z T544.heap T544.heap.size b515 [r510, r511, r512, (58 : Int32), r514] := Str.of q1_544 q2_544 q3_544 q4_544 rfl rfl hp543 (Nat.le_of_ble_eq_true rfl)
  refine s_astore (pc' := 86) (Ls' := #[.val (.long p0), sn, vi p1, vi 3, vi r510, vi r511, vi r512, vi 58, vi r514, vr b515, un, un, un, un, un]) X544.here hx (hb hby at_84) rfl rfl rfl ?_
  refine s_iloadN (pc' := 87) X544.here hx (hb hby at_86) rfl rfl ?_
  refine s_iconst (pc' := 88) (v := 1) X544.here hx (hb hby at_87) rfl rfl ?_
  refine s_icmpY (pc' := 111) X544.here hx (hb hby at_88) (feq (by decide)).2 (by decide) (by decide) ?_
  refine s_iloadN (pc' := 112) X544.here hx (hb hby at_111) rfl rfl ?_
  refine s_iconst (pc' := 113) (v := 2) X544.here hx (hb hby at_112) rfl rfl ?_
  refine s_icmpY (pc' := 141) X544.here hx (hb hby at_113) (feq (by decide)).2 (by decide) (by decide) ?_
  obtain ⟨T546, h546, X546, e546, E546, A546, D546, -, st546⟩ := newO X544 hx hZ hown (hv hw 6 rfl) (hv hw 7 rfl) (hv hw 8 rfl) rfl (g := (mkF m 141 #[.val (.long p0), sn, vi p1, vi 3, vi r510, vi r511, vi r512, vi 58, vi r514, vr b515, un, un, un, un, un] [])) rfl (hb hby at_141) (by decide) (by decide)
  obtain ⟨b546, g546⟩ : ∃ z, z = T544.heap.size := ⟨_, rfl⟩
  rw [← g546] at A546 D546 st546
  have sz546 : h0.size ≤ b546 := Nat.le_trans K544.1 (Nat.le_of_eq g546.symm)
  have ge546 : n0 ≤ b546 := Nat.le_trans (O544.1 ▸ O544.2.1) (Nat.le_of_eq g546.symm)
  have sn546 : Safe Z consts_1 s.vm T544.heap b546 := Safe.new (Nat.le_of_eq g546.symm)
  have K546 : Keep h0 h546 [] := K544.ext E546
  have O546 : Old Z n0 h546 := O544.ext E546
  have sf547 : Safe Z consts_1 s.vm h546 b546 := (Safe.ext E546 H544 sn546)
  have H546 : CHv Z consts_1 s.vm h546 := H544.ext E546
  have C546 : CHr Z consts_1 s.vm h0 s.vm h546 := C544.trans (CHr.ext E546 H544)
  have hk546 := Nat.le_trans hk544 E546.1
  have F546_coder : Fld Z h546 b546 "java/lang/String" "coder" "B" (.int 0) := D546 (Or.inr (hv hw 33 rfl)) (ty := .byte) (by decide)
  have F546_value : Fld Z h546 b546 "java/lang/String" "value" "[B" .null := D546 (Or.inr (hv hw 35 rfl)) (ty := (.array .byte)) (by decide)
  refine Go.st st546 ?_
  show Go p.tables e below Kx _ (mkF m 144 _ [(.ref b546)])
  refine s_dup (pc' := 145) X546.here hx (hb hby at_144) rfl rfl ?_
  refine s_iconst (pc' := 146) (v := 3) X546.here hx (hb hby at_145) rfl rfl ?_
  obtain ⟨T548, h548, k548, X548, e548, E548, A548, st548⟩ := newP X546 hx hZ (hv hw 9 rfl) e546 (g := (mkF m 146 #[.val (.long p0), sn, vi p1, vi 3, vi r510, vi r511, vi r512, vi 58, vi r514, vr b515, un, un, un, un, un] [(.int 3), (.ref b546), (.ref b546)])) rfl (hb hby at_146) rfl (by decide) (cap := 3) (by decide) (by decide) (by decide) (by decide)
  obtain ⟨b548, g548⟩ : ∃ z, z = h546.size := ⟨_, rfl⟩
  rw [← g548] at A548 st548
  have sz548 : h0.size ≤ b548 := Nat.le_trans K546.1 (Nat.le_of_eq g548.symm)
  have ge548 : n0 ≤ b548 := Nat.le_trans (O546.1 ▸ O546.2.1) (Nat.le_of_eq g548.symm)
  have sn548 : Safe Z consts_1 s.vm h546 b548 := Safe.new (Nat.le_of_eq g548.symm)
  have K548 : Keep h0 h548 [] := K546.ext E548
  have O548 : Old Z n0 h548 := O546.ext E548
  have sf549 : Safe Z consts_1 s.vm h548 b546 := (Safe.ext E548 H546 sf547)
  have sf550 : Safe Z consts_1 s.vm h548 b548 := (Safe.ext E548 H546 sn548)
  have H548 : CHv Z consts_1 s.vm h548 := H546.ext E548
  have C548 : CHr Z consts_1 s.vm h0 s.vm h548 := C546.trans (CHr.ext E548 H546)
  have hk548 := Nat.le_trans hk546 E548.1
  have V548 : Arv Z h548 b548 k548 .char 3 [(.int 0), (.int 0), (.int 0)] (.int 0) := (Arv.new A548 (by decide)).pad (pad_rep [] (.int 0) 3)
  refine Go.st st548 ?_
  show Go p.tables e below Kx _ (mkF m 148 _ [(.ref b548), (.ref b546), (.ref b546)])
  refine s_dup (pc' := 149) X548.here hx (hb hby at_148) rfl rfl ?_
  refine s_iconst (pc' := 150) (v := 0) X548.here hx (hb hby at_149) rfl rfl ?_
  refine s_iload (pc' := 152) X548.here hx (hb hby at_150) rfl rfl ?_
  obtain ⟨cl551, Ar551, Aq551, As551, An551, Ah551, Ag551⟩ := id V548
  have in552 := inb_of (j := 0) As551 (by decide)
  obtain ⟨T552, h552, X552, e552, W552, st552⟩ := stC X548 hx hZ e548 Ar551 (j := 0) in552 (g := (mkF m 152 #[.val (.long p0), sn, vi p1, vi 3, vi r510, vi r511, vi r512, vi 58, vi r514, vr b515, un, un, un, un, un] [(.int r510), (.int 0), (.ref b548), (.ref b548), (.ref b546), (.ref b546)])) rfl rfl (hb hby at_152)
  have V552 : Arv Z h552 b548 k548 .char 3 [(.int r510), (.int 0), (.int 0)] (.int 0) := by
   have q := Arv.set Ar551 Aq551 As551 An551 Ah551 Ag551 (fits_nar_char _) W552 0 rfl (Nat.le_of_ble_eq_true rfl)
   rw [chr_nar hr510.1] at q; exact q
  have K552 : Keep h0 h552 [] := K548.wr W552 (Or.inr sz548)
  have O552 : Old Z n0 h552 := O548.wr W552 ge548
  have sf553 : Safe Z consts_1 s.vm h552 b546 := (Safe.wr W552 sf550 H548 sf549)
  have sf554 : Safe Z consts_1 s.vm h552 b548 := (Safe.wr W552 sf550 H548 sf550)
  have H552 : CHv Z consts_1 s.vm h552 := H548.wr W552 sf550
  have C552 : CHr Z consts_1 s.vm h0 s.vm h552 := C548.trans (CHr.wr W552 sf550 H548)
  have hk552 := Nat.le_trans hk548 (Nat.le_of_eq W552.size.symm)
  have N552 := Fr.snoc X552 N544 ge548
  refine Go.st st552 ?_
  show Go p.tables e below Kx _ (mkF m 153 _ [(.ref b548), (.ref b546), (.ref b546)])
  refine s_dup (pc' := 154) X552.here hx (hb hby at_153) rfl rfl ?_
  refine s_iconst (pc' := 155) (v := 1) X552.here hx (hb hby at_154) rfl rfl ?_
  refine s_iload (pc' := 157) X552.here hx (hb hby at_155) rfl rfl ?_
  obtain ⟨cl555, Ar555, Aq555, As555, An555, Ah555, Ag555⟩ := id V552
  have in556 := inb_of (j := 1) As555 (by decide)
  obtain ⟨T556, h556, X556, e556, W556, st556⟩ := stC X552 hx hZ e552 Ar555 (j := 1) in556 (g := (mkF m 157 #[.val (.long p0), sn, vi p1, vi 3, vi r510, vi r511, vi r512, vi 58, vi r514, vr b515, un, un, un, un, un] [(.int r511), (.int 1), (.ref b548), (.ref b548), (.ref b546), (.ref b546)])) rfl rfl (hb hby at_157)
  have V556 : Arv Z h556 b548 k548 .char 3 [(.int r510), (.int r511), (.int 0)] (.int 0) := by
   have q := Arv.set Ar555 Aq555 As555 An555 Ah555 Ag555 (fits_nar_char _) W556 1 rfl (Nat.le_of_ble_eq_true rfl)
   rw [chr_nar hr511.1] at q; exact q
  have K556 : Keep h0 h556 [] := K552.wr W556 (Or.inr sz548)
  have O556 : Old Z n0 h556 := O552.wr W556 ge548
  have sf557 : Safe Z consts_1 s.vm h556 b546 := (Safe.wr W556 sf554 H552 sf553)
  have sf558 : Safe Z consts_1 s.vm h556 b548 := (Safe.wr W556 sf554 H552 sf554)
  have H556 : CHv Z consts_1 s.vm h556 := H552.wr W556 sf554
  have C556 : CHr Z consts_1 s.vm h0 s.vm h556 := C552.trans (CHr.wr W556 sf554 H552)
  have hk556 := Nat.le_trans hk552 (Nat.le_of_eq W556.size.symm)
  have N556 := Fr.snoc X556 N552 ge548
  refine Go.st st556 ?_
  show Go p.tables e below Kx _ (mkF m 158 _ [(.ref b548), (.ref b546), (.ref b546)])
  refine s_dup (pc' := 159) X556.here hx (hb hby at_158) rfl rfl ?_
  refine s_iconst (pc' := 160) (v := 2) X556.here hx (hb hby at_159) rfl rfl ?_
  refine s_iload (pc' := 162) X556.here hx (hb hby at_160) rfl rfl ?_
  obtain ⟨cl559, Ar559, Aq559, As559, An559, Ah559, Ag559⟩ := id V556
  have in560 := inb_of (j := 2) As559 (by decide)
  obtain ⟨T560, h560, X560, e560, W560, st560⟩ := stC X556 hx hZ e556 Ar559 (j := 2) in560 (g := (mkF m 162 #[.val (.long p0), sn, vi p1, vi 3, vi r510, vi r511, vi r512, vi 58, vi r514, vr b515, un, un, un, un, un] [(.int r512), (.int 2), (.ref b548), (.ref b548), (.ref b546), (.ref b546)])) rfl rfl (hb hby at_162)
  have V560 : Arv Z h560 b548 k548 .char 3 [(.int r510), (.int r511), (.int r512)] (.int 0) := by
   have q := Arv.set Ar559 Aq559 As559 An559 Ah559 Ag559 (fits_nar_char _) W560 2 rfl (Nat.le_of_ble_eq_true rfl)
   rw [chr_nar hr512.1] at q; exact q
  have K560 : Keep h0 h560 [] := K556.wr W560 (Or.inr sz548)
  have O560 : Old Z n0 h560 := O556.wr W560 ge548
  have sf561 : Safe Z consts_1 s.vm h560 b546 := (Safe.wr W560 sf558 H556 sf557)
  have sf562 : Safe Z consts_1 s.vm h560 b548 := (Safe.wr W560 sf558 H556 sf558)
  have H560 : CHv Z consts_1 s.vm h560 := H556.wr W560 sf558
  have C560 : CHr Z consts_1 s.vm h0 s.vm h560 := C556.trans (CHr.wr W560 sf558 H556)
  have hk560 := Nat.le_trans hk556 (Nat.le_of_eq W560.size.symm)
  have N560 := Fr.snoc X560 N556 ge548
  refine Go.st st560 ?_
  show Go p.tables e below Kx _ (mkF m 163 _ [(.ref b548), (.ref b546), (.ref b546)])
  have f563 : Exa Z h560 b546 "java/lang/String" := ((((A546.ext E548).wr W552).wr W556).wr W560)
  have f564 : Fld Z h560 b546 "java/lang/String" "value" "[B" .null := ((((F546_value.ext E548).other W552 (Or.inl (Nat.ne_of_lt (Nat.lt_of_lt_of_le A546.lt (Nat.le_of_eq g548.symm))))).other W556 (Or.inl (Nat.ne_of_lt (Nat.lt_of_lt_of_le A546.lt (Nat.le_of_eq g548.symm))))).other W560 (Or.inl (Nat.ne_of_lt (Nat.lt_of_lt_of_le A546.lt (Nat.le_of_eq g548.symm)))))
  have f565 : Fld Z h560 b546 "java/lang/String" "coder" "B" (.int 0) := ((((F546_coder.ext E548).other W552 (Or.inl (Nat.ne_of_lt (Nat.lt_of_lt_of_le A546.lt (Nat.le_of_eq g548.symm))))).other W556 (Or.inl (Nat.ne_of_lt (Nat.lt_of_lt_of_le A546.lt (Nat.le_of_eq g548.symm))))).other W560 (Or.inl (Nat.ne_of_lt (Nat.lt_of_lt_of_le A546.lt (Nat.le_of_eq g548.symm)))))
  have hp566 : ∀ c ∈ ([r510, r511, r512] : List Int32), ¬ c < 0 ∧ ¬ 255 < c := by
   intro c hc
   simp only [List.mem_cons, List.not_mem_nil, or_false] at hc
   rcases hc with rfl | rfl | rfl
   ·
    exact hr510.1
   ·
    exact hr511.1
   ·
    exact hr512.1
  obtain ⟨_, _, ⟨T567, L567, k567, n567⟩, -, X567, ⟨Lc567, hQ567, l567, y567, z567⟩, st567⟩ := X560.specialBack hx (y := yN21) rfl hown (mvT hZ (hv hw 10 rfl)) (mvT hZ (hv hw 11 rfl)) (mvT hZ (hv hw 12 rfl)) (by decide) (StrChars.Road.backV (W := 1) hZ (hwsV Z a0 hw) (kI := 4) (hv hw 7 rfl) (cs := [r510, r511, r512]) (bs := ([r510, r511, r512] : List Int32).map (fun c => c.toInt8.toInt32)) (n := 3) ge546 (O560.1 ▸ O560.2.1) f563 f564 f565 V560 (S1.ext O560.2) P1 rfl rfl (by decide) (by decide) hp566 rfl (by decide) (by decide)) (g := (mkF m 163 #[.val (.long p0), sn, vi p1, vi 3, vi r510, vi r511, vi r512, vi 58, vi r514, vr b515, un, un, un, un, un] [(.ref b548), (.ref b546), (.ref b546)])) rfl (by rw [hml]; rfl) (Steps.refl _) (a := b546) (argsL := [(.ref b548)]) (rest := [(.ref b546)]) (lenOf pd_1 rfl) rfl (by exact Nat.le_of_eq rfl) (hb hby at_163) (fun _ _ => ⟨rfl, e560, (by decide : 5 + 1 ≤ _), (by decide : 21 + 3 ≤ _)⟩)
  dsimp only [Pt.U, Pt.locs, Pt.cells, Pt.slots] at X567 l567 y567 z567 st567 hQ567
  rw [l567, y567, z567] at X567
  obtain ⟨rfl, Nq567, Kq567, q1_567, q2_567, t567, kt567, -, -, -, q3_567, q4_567⟩ := hQ567
  have N567 := Fr.app N560 Nq567
  have K567 : Keep h0 T567.heap [] := K560.trans Kq567 (allS (P := fun zz => zz ∈ [] ∨ h0.size ≤ zz) (Or.inr sz546) all0)
  have O567 : Old Z n0 T567.heap := O560.keep Kq567 (allS ge546 all0)
  have sf568 : Safe Z consts_1 s.vm T567.heap b546 := (Safe.keep Kq567 (sfS sf561 sf0) H560 sf561)
  have H567 : CHv Z consts_1 s.vm T567.heap := H560.keep Kq567 (sfS sf561 sf0)
  have C567 : CHr Z consts_1 s.vm h0 s.vm T567.heap := C560.trans (CHr.keep Kq567 (sfS sf561 sf0) H560)
  have hk567 := Nat.le_trans hk560 Kq567.1
  refine Go.tr st567 ?_
  show Go p.tables e below Kx _ (mkF m 166 _ [(.ref b546)])
  have St567 : Str Z T567.heap T567.heap.size b546 [r510, r511, r512] := Str.of q1_567 q2_567 q3_567 q4_567 rfl rfl hp566 (Nat.le_of_ble_eq_true rfl)
  refine s_astore (pc' := 168) (Ls' := #[.val (.long p0), sn, vi p1, vi 3, vi r510, vi r511, vi r512, vi 58, vi r514, vr b515, vr b546, un, un, un, un]) X567.here hx (hb hby at_166) rfl rfl rfl ?_
  refine s_bipush (pc' := 170) (v := 10) X567.here hx (hb hby at_168) rfl rfl ?_
  obtain ⟨T569, h569, k569, X569, e569, E569, A569, B569, st569⟩ := newPE X567 hx hZ (hv hw 25 rfl) rfl (g := (mkF m 170 #[.val (.long p0), sn, vi p1, vi 3, vi r510, vi r511, vi r512, vi 58, vi r514, vr b515, vr b546, un, un, un, un] [(.int 10)])) rfl (hb hby at_170) rfl (by decide) (cap := 10) (by decide) (by decide) (by decide) (by decide) (ad := "[B") (by decide)
  obtain ⟨b569, g569⟩ : ∃ z, z = T567.heap.size := ⟨_, rfl⟩
  rw [← g569] at A569 B569 st569
  have sz569 : h0.size ≤ b569 := Nat.le_trans K567.1 (Nat.le_of_eq g569.symm)
  have ge569 : n0 ≤ b569 := Nat.le_trans (O567.1 ▸ O567.2.1) (Nat.le_of_eq g569.symm)
  have sn569 : Safe Z consts_1 s.vm T567.heap b569 := Safe.new (Nat.le_of_eq g569.symm)
  have K569 : Keep h0 h569 [] := K567.ext E569
  have O569 : Old Z n0 h569 := O567.ext E569
  have sf570 : Safe Z consts_1 s.vm h569 b569 := (Safe.ext E569 H567 sn569)
  have H569 : CHv Z consts_1 s.vm h569 := H567.ext E569
  have C569 : CHr Z consts_1 s.vm h0 s.vm h569 := C567.trans (CHr.ext E569 H567)
  have hk569 := Nat.le_trans hk567 E569.1
  have V569 : Arv Z h569 b569 k569 .byte 10 [(.int 0), (.int 0), (.int 0), (.int 0), (.int 0), (.int 0), (.int 0), (.int 0), (.int 0), (.int 0)] (.int 0) := (Arv.new A569 (by decide)).pad (pad_rep [] (.int 0) 10)
  refine Go.st st569 ?_
  show Go p.tables e below Kx _ (mkF m 172 _ [(.ref b569)])
  have V571 : Arv Z h569 b569 k569 .byte 10 (pad 10 ([] : List Int32)) (.int 0) := V569
  refine s_astore (pc' := 174) (Ls' := #[.val (.long p0), sn, vi p1, vi 3, vi r510, vi r511, vi r512, vi 58, vi r514, vr b515, vr b546, vr b569, un, un, un]) X569.here hx (hb hby at_172) rfl rfl rfl ?_
  refine s_iconst (pc' := 175) (v := 0) X569.here hx (hb hby at_174) rfl rfl ?_
  refine s_istore (pc' := 177) (Ls' := #[.val (.long p0), sn, vi p1, vi 3, vi r510, vi r511, vi r512, vi 58, vi r514, vr b515, vr b546, vr b569, vi 0, un, un]) X569.here hx (hb hby at_175) rfl  rfl ?_
  refine s_aload (pc' := 179) X569.here hx (hb hby at_177) rfl rfl rfl ?_
  refine s_iload (pc' := 181) X569.here hx (hb hby at_179) rfl rfl ?_
  refine s_iload (pc' := 183) X569.here hx (hb hby at_181) rfl rfl ?_
  have rp : ([] : List Int32).length + 1 < 10 := Nat.lt_of_le_of_lt (Nat.succ_le_succ (Nat.le_refl 0)) (by decide)
  obtain ⟨_, T572, L572, X572, hQ572, st572⟩ := kS X569 hx hZ (y := yN6) hown (hv hw 36 rfl) (hv hw 37 rfl) (hv hw 3 rfl) (hv hw 38 rfl) (by decide) (rmDp l Z a0 hw [] b569 k569 ([] : List Int32) r510 h569 n0 O569 ge569 V571 hr510.1 rp) e569 (W := 0) (g := (mkF m 183 #[.val (.long p0), sn, vi p1, vi 3, vi r510, vi r511, vi r512, vi 58, vi r514, vr b515, vr b546, vr b569, vi 0, un, un] [(.int r510), (.int 0), (.ref b569)])) rfl (by rw [hml]; rfl) (argsL := [(.ref b569), (.int 0), (.int r510)]) (rest := []) (lenOf pd_2 rfl) rfl (by exact Nat.le_of_eq rfl) (hb hby at_183) rfl (nb rfl) (nb rfl) (nb rfl) (nb rfl)
  obtain ⟨X572l, hD572, hl572, rfl, Nq572, Kq572, q1_572⟩ := hQ572
  have N572 := Fr.app N567 Nq572
  have K572 : Keep h0 T572.heap [] := K569.trans Kq572 (allS (P := fun zz => zz ∈ [] ∨ h0.size ≤ zz) (Or.inr sz569) all0)
  have O572 : Old Z n0 T572.heap := O569.keep Kq572 (allS ge569 all0)
  have sf573 : Safe Z consts_1 s.vm T572.heap b569 := (Safe.keep Kq572 (sfS sf570 sf0) H569 sf570)
  have H572 : CHv Z consts_1 s.vm T572.heap := H569.keep Kq572 (sfS sf570 sf0)
  have C572 : CHr Z consts_1 s.vm h0 s.vm T572.heap := C569.trans (CHr.keep Kq572 (sfS sf570 sf0) H569)
  have hk572 := Nat.le_trans hk569 Kq572.1
  refine Go.st st572 ?_
  show Go p.tables e below Kx _ (mkF m 186 _ [(.int (Int32.ofNat X572l.length))])
  have hp572 : X572l.length ≤ 2 := Nat.le_trans hl572 (Nat.add_le_add_right (Nat.le_refl 0) 2)
  refine s_istore (pc' := 188) (Ls' := #[.val (.long p0), sn, vi p1, vi 3, vi r510, vi r511, vi r512, vi 58, vi r514, vr b515, vr b546, vr b569, .val (.int (Int32.ofNat X572l.length)), un, un]) X572.here hx (hb hby at_186) rfl  rfl ?_
  refine s_aload (pc' := 190) X572.here hx (hb hby at_188) rfl rfl rfl ?_
  refine s_iload (pc' := 192) X572.here hx (hb hby at_190) rfl rfl ?_
  refine s_iload (pc' := 194) X572.here hx (hb hby at_192) rfl rfl ?_
  have rp : X572l.length + 1 < 10 := Nat.lt_of_le_of_lt (Nat.succ_le_succ hp572) (by decide)
  obtain ⟨_, T574, L574, X574, hQ574, st574⟩ := kS X572 hx hZ (y := yN6) hown (hv hw 36 rfl) (hv hw 37 rfl) (hv hw 3 rfl) (hv hw 38 rfl) (by decide) (rmDp l Z a0 hw [] b569 k569 X572l r511 T572.heap n0 O572 ge569 q1_572 hr511.1 rp) rfl (W := 0) (g := (mkF m 194 #[.val (.long p0), sn, vi p1, vi 3, vi r510, vi r511, vi r512, vi 58, vi r514, vr b515, vr b546, vr b569, .val (.int (Int32.ofNat X572l.length)), un, un] [(.int r511), (.int (Int32.ofNat X572l.length)), (.ref b569)])) rfl (by rw [hml]; rfl) (argsL := [(.ref b569), (.int (Int32.ofNat X572l.length)), (.int r511)]) (rest := []) (lenOf pd_2 rfl) rfl (by exact Nat.le_of_eq rfl) (hb hby at_194) rfl (nb rfl) (nb rfl) (nb rfl) (nb rfl)
  obtain ⟨X574l, hD574, hl574, rfl, Nq574, Kq574, q1_574⟩ := hQ574
  have N574 := Fr.app N572 Nq574
  have K574 : Keep h0 T574.heap [] := K572.trans Kq574 (allS (P := fun zz => zz ∈ [] ∨ h0.size ≤ zz) (Or.inr sz569) all0)
  have O574 : Old Z n0 T574.heap := O572.keep Kq574 (allS ge569 all0)
  have sf575 : Safe Z consts_1 s.vm T574.heap b569 := (Safe.keep Kq574 (sfS sf573 sf0) H572 sf573)
  have H574 : CHv Z consts_1 s.vm T574.heap := H572.keep Kq574 (sfS sf573 sf0)
  have C574 : CHr Z consts_1 s.vm h0 s.vm T574.heap := C572.trans (CHr.keep Kq574 (sfS sf573 sf0) H572)
  have hk574 := Nat.le_trans hk572 Kq574.1
  refine Go.st st574 ?_
  show Go p.tables e below Kx _ (mkF m 197 _ [(.int (Int32.ofNat X574l.length))])
  have hp574 : X574l.length ≤ 4 := Nat.le_trans hl574 (Nat.add_le_add_right hp572 2)
  refine s_istore (pc' := 199) (Ls' := #[.val (.long p0), sn, vi p1, vi 3, vi r510, vi r511, vi r512, vi 58, vi r514, vr b515, vr b546, vr b569, .val (.int (Int32.ofNat X574l.length)), un, un]) X574.here hx (hb hby at_197) rfl  rfl ?_
  refine s_aload (pc' := 201) X574.here hx (hb hby at_199) rfl rfl rfl ?_
  refine s_iload (pc' := 203) X574.here hx (hb hby at_201) rfl rfl ?_
  refine s_iload (pc' := 205) X574.here hx (hb hby at_203) rfl rfl ?_
  have rp : X574l.length + 1 < 10 := Nat.lt_of_le_of_lt (Nat.succ_le_succ hp574) (by decide)
  obtain ⟨_, T576, L576, X576, hQ576, st576⟩ := kS X574 hx hZ (y := yN6) hown (hv hw 36 rfl) (hv hw 37 rfl) (hv hw 3 rfl) (hv hw 38 rfl) (by decide) (rmDp l Z a0 hw [] b569 k569 X574l r512 T574.heap n0 O574 ge569 q1_574 hr512.1 rp) rfl (W := 0) (g := (mkF m 205 #[.val (.long p0), sn, vi p1, vi 3, vi r510, vi r511, vi r512, vi 58, vi r514, vr b515, vr b546, vr b569, .val (.int (Int32.ofNat X574l.length)), un, un] [(.int r512), (.int (Int32.ofNat X574l.length)), (.ref b569)])) rfl (by rw [hml]; rfl) (argsL := [(.ref b569), (.int (Int32.ofNat X574l.length)), (.int r512)]) (rest := []) (lenOf pd_2 rfl) rfl (by exact Nat.le_of_eq rfl) (hb hby at_205) rfl (nb rfl) (nb rfl) (nb rfl) (nb rfl)
  obtain ⟨X576l, hD576, hl576, rfl, Nq576, Kq576, q1_576⟩ := hQ576
  have N576 := Fr.app N574 Nq576
  have K576 : Keep h0 T576.heap [] := K574.trans Kq576 (allS (P := fun zz => zz ∈ [] ∨ h0.size ≤ zz) (Or.inr sz569) all0)
  have O576 : Old Z n0 T576.heap := O574.keep Kq576 (allS ge569 all0)
  have sf577 : Safe Z consts_1 s.vm T576.heap b569 := (Safe.keep Kq576 (sfS sf575 sf0) H574 sf575)
  have H576 : CHv Z consts_1 s.vm T576.heap := H574.keep Kq576 (sfS sf575 sf0)
  have C576 : CHr Z consts_1 s.vm h0 s.vm T576.heap := C574.trans (CHr.keep Kq576 (sfS sf575 sf0) H574)
  have hk576 := Nat.le_trans hk574 Kq576.1
  refine Go.st st576 ?_
  show Go p.tables e below Kx _ (mkF m 208 _ [(.int (Int32.ofNat X576l.length))])
  have hp576 : X576l.length ≤ 6 := Nat.le_trans hl576 (Nat.add_le_add_right hp574 2)
  refine s_istore (pc' := 210) (Ls' := #[.val (.long p0), sn, vi p1, vi 3, vi r510, vi r511, vi r512, vi 58, vi r514, vr b515, vr b546, vr b569, .val (.int (Int32.ofNat X576l.length)), un, un]) X576.here hx (hb hby at_208) rfl  rfl ?_
  refine s_aload (pc' := 212) X576.here hx (hb hby at_210) rfl rfl rfl ?_
  refine s_iload (pc' := 214) X576.here hx (hb hby at_212) rfl rfl ?_
  refine s_iload (pc' := 216) X576.here hx (hb hby at_214) rfl rfl ?_
  have rp : X576l.length + 1 < 10 := Nat.lt_of_le_of_lt (Nat.succ_le_succ hp576) (by decide)
  obtain ⟨_, T578, L578, X578, hQ578, st578⟩ := kS X576 hx hZ (y := yN6) hown (hv hw 36 rfl) (hv hw 37 rfl) (hv hw 3 rfl) (hv hw 38 rfl) (by decide) (rmDp l Z a0 hw [] b569 k569 X576l 58 T576.heap n0 O576 ge569 q1_576 (by decide) rp) rfl (W := 0) (g := (mkF m 216 #[.val (.long p0), sn, vi p1, vi 3, vi r510, vi r511, vi r512, vi 58, vi r514, vr b515, vr b546, vr b569, .val (.int (Int32.ofNat X576l.length)), un, un] [(.int 58), (.int (Int32.ofNat X576l.length)), (.ref b569)])) rfl (by rw [hml]; rfl) (argsL := [(.ref b569), (.int (Int32.ofNat X576l.length)), (.int 58)]) (rest := []) (lenOf pd_2 rfl) rfl (by exact Nat.le_of_eq rfl) (hb hby at_216) rfl (nb rfl) (nb rfl) (nb rfl) (nb rfl)
  obtain ⟨X578l, hD578, hl578, rfl, Nq578, Kq578, q1_578⟩ := hQ578
  have N578 := Fr.app N576 Nq578
  have K578 : Keep h0 T578.heap [] := K576.trans Kq578 (allS (P := fun zz => zz ∈ [] ∨ h0.size ≤ zz) (Or.inr sz569) all0)
  have O578 : Old Z n0 T578.heap := O576.keep Kq578 (allS ge569 all0)
  have sf579 : Safe Z consts_1 s.vm T578.heap b569 := (Safe.keep Kq578 (sfS sf577 sf0) H576 sf577)
  have H578 : CHv Z consts_1 s.vm T578.heap := H576.keep Kq578 (sfS sf577 sf0)
  have C578 : CHr Z consts_1 s.vm h0 s.vm T578.heap := C576.trans (CHr.keep Kq578 (sfS sf577 sf0) H576)
  have hk578 := Nat.le_trans hk576 Kq578.1
  refine Go.st st578 ?_
  show Go p.tables e below Kx _ (mkF m 219 _ [(.int (Int32.ofNat X578l.length))])
  have hp578 : X578l.length ≤ 8 := Nat.le_trans hl578 (Nat.add_le_add_right hp576 2)
  refine s_istore (pc' := 221) (Ls' := #[.val (.long p0), sn, vi p1, vi 3, vi r510, vi r511, vi r512, vi 58, vi r514, vr b515, vr b546, vr b569, .val (.int (Int32.ofNat X578l.length)), un, un]) X578.here hx (hb hby at_219) rfl  rfl ?_
  refine s_aload (pc' := 223) X578.here hx (hb hby at_221) rfl rfl rfl ?_
  refine s_iload (pc' := 225) X578.here hx (hb hby at_223) rfl rfl ?_
  refine s_iload (pc' := 227) X578.here hx (hb hby at_225) rfl rfl ?_
  have rp : X578l.length + 1 < 10 := Nat.lt_of_le_of_lt (Nat.succ_le_succ hp578) (by decide)
  obtain ⟨_, T580, L580, X580, hQ580, st580⟩ := kS X578 hx hZ (y := yN6) hown (hv hw 36 rfl) (hv hw 37 rfl) (hv hw 3 rfl) (hv hw 38 rfl) (by decide) (rmDp l Z a0 hw [] b569 k569 X578l r514 T578.heap n0 O578 ge569 q1_578 hr514.1 rp) rfl (W := 0) (g := (mkF m 227 #[.val (.long p0), sn, vi p1, vi 3, vi r510, vi r511, vi r512, vi 58, vi r514, vr b515, vr b546, vr b569, .val (.int (Int32.ofNat X578l.length)), un, un] [(.int r514), (.int (Int32.ofNat X578l.length)), (.ref b569)])) rfl (by rw [hml]; rfl) (argsL := [(.ref b569), (.int (Int32.ofNat X578l.length)), (.int r514)]) (rest := []) (lenOf pd_2 rfl) rfl (by exact Nat.le_of_eq rfl) (hb hby at_227) rfl (nb rfl) (nb rfl) (nb rfl) (nb rfl)
  obtain ⟨X580l, hD580, hl580, rfl, Nq580, Kq580, q1_580⟩ := hQ580
  have N580 := Fr.app N578 Nq580
  have K580 : Keep h0 T580.heap [] := K578.trans Kq580 (allS (P := fun zz => zz ∈ [] ∨ h0.size ≤ zz) (Or.inr sz569) all0)
  have O580 : Old Z n0 T580.heap := O578.keep Kq580 (allS ge569 all0)
  have sf581 : Safe Z consts_1 s.vm T580.heap b569 := (Safe.keep Kq580 (sfS sf579 sf0) H578 sf579)
  have H580 : CHv Z consts_1 s.vm T580.heap := H578.keep Kq580 (sfS sf579 sf0)
  have C580 : CHr Z consts_1 s.vm h0 s.vm T580.heap := C578.trans (CHr.keep Kq580 (sfS sf579 sf0) H578)
  have hk580 := Nat.le_trans hk578 Kq580.1
  refine Go.st st580 ?_
  show Go p.tables e below Kx _ (mkF m 230 _ [(.int (Int32.ofNat X580l.length))])
  have hp580 : X580l.length ≤ 10 := Nat.le_trans hl580 (Nat.add_le_add_right hp578 2)
  refine s_istore (pc' := 232) (Ls' := #[.val (.long p0), sn, vi p1, vi 3, vi r510, vi r511, vi r512, vi 58, vi r514, vr b515, vr b546, vr b569, .val (.int (Int32.ofNat X580l.length)), un, un]) X580.here hx (hb hby at_230) rfl  rfl ?_
  refine s_aload (pc' := 234) X580.here hx (hb hby at_232) rfl rfl rfl ?_
  have hn582 : ∀ c ∈ ([r510, r511, r512] : List Int32), ¬ c = 58 := by
   intro c hc
   simp only [List.mem_cons, List.not_mem_nil, or_false] at hc
   rcases hc with rfl | rfl | rfl
   ·
    exact (hr510.2.2.2 (by decide))
   ·
    exact (hr511.2.2.2 (by decide))
   ·
    exact (hr512.2.2.2 (by decide))
  have hn583 : ∀ c ∈ ([r510, r511, r512, (58 : Int32), r514] : List Int32), ¬ c = 10 := by
   intro c hc
   simp only [List.mem_cons, List.not_mem_nil, or_false] at hc
   rcases hc with rfl | rfl | rfl | rfl | rfl
   ·
    exact hr510.2.1
   ·
    exact hr511.2.1
   ·
    exact hr512.2.1
   ·
    exact (by decide)
   ·
    exact hr514.2.1
  have hn584 : ∀ c ∈ ([r510, r511, r512, (58 : Int32), r514] : List Int32), ¬ c = 13 := by
   intro c hc
   simp only [List.mem_cons, List.not_mem_nil, or_false] at hc
   rcases hc with rfl | rfl | rfl | rfl | rfl
   ·
    exact hr510.2.2.1
   ·
    exact hr511.2.2.1
   ·
    exact hr512.2.2.1
   ·
    exact (by decide)
   ·
    exact hr514.2.2.1
  have f585 : Str Z T580.heap T544.heap.size b515 [r510, r511, r512, (58 : Int32), r514] := ((((((((((((St544.ext E546).ext E548).wr W552 (Nat.le_trans E546.1 (Nat.le_of_eq g548.symm))).wr W556 (Nat.le_trans E546.1 (Nat.le_of_eq g548.symm))).wr W560 (Nat.le_trans E546.1 (Nat.le_of_eq g548.symm))).keep Kq567 (allS (Nat.le_of_eq g546.symm) all0)).ext E569).keep Kq572 (allS (Nat.le_trans (Nat.le_trans (Nat.le_trans (Nat.le_trans (Nat.le_trans (Nat.le_trans E546.1 E548.1) (Nat.le_of_eq W552.size.symm)) (Nat.le_of_eq W556.size.symm)) (Nat.le_of_eq W560.size.symm)) Kq567.1) (Nat.le_of_eq g569.symm)) all0)).keep Kq574 (allS (Nat.le_trans (Nat.le_trans (Nat.le_trans (Nat.le_trans (Nat.le_trans (Nat.le_trans E546.1 E548.1) (Nat.le_of_eq W552.size.symm)) (Nat.le_of_eq W556.size.symm)) (Nat.le_of_eq W560.size.symm)) Kq567.1) (Nat.le_of_eq g569.symm)) all0)).keep Kq576 (allS (Nat.le_trans (Nat.le_trans (Nat.le_trans (Nat.le_trans (Nat.le_trans (Nat.le_trans E546.1 E548.1) (Nat.le_of_eq W552.size.symm)) (Nat.le_of_eq W556.size.symm)) (Nat.le_of_eq W560.size.symm)) Kq567.1) (Nat.le_of_eq g569.symm)) all0)).keep Kq578 (allS (Nat.le_trans (Nat.le_trans (Nat.le_trans (Nat.le_trans (Nat.le_trans (Nat.le_trans E546.1 E548.1) (Nat.le_of_eq W552.size.symm)) (Nat.le_of_eq W556.size.symm)) (Nat.le_of_eq W560.size.symm)) Kq567.1) (Nat.le_of_eq g569.symm)) all0)).keep Kq580 (allS (Nat.le_trans (Nat.le_trans (Nat.le_trans (Nat.le_trans (Nat.le_trans (Nat.le_trans E546.1 E548.1) (Nat.le_of_eq W552.size.symm)) (Nat.le_of_eq W556.size.symm)) (Nat.le_of_eq W560.size.symm)) Kq567.1) (Nat.le_of_eq g569.symm)) all0))
  obtain ⟨_, _, ⟨T586, L586, k586, n586⟩, -, X586, hS'586, hg'586, ⟨Lc586, hQ586, l586, y586, z586, Cr586⟩, st586⟩ := callSS X580 hx (y := yN3) hown (mvT hZ (hv hw 39 rfl)) (mvT hZ (hv hw 40 rfl)) (mvT hZ (hv hw 41 rfl)) (mvT hZ (hv hw 42 rfl)) (by decide) (backOfSH (W := 0) (rmPp l Z a0 hw [] b515 _ [r510, r511, r512] [r514] T580.heap n0 O580 hEL wS G1 S1 P1 vf hvf SFm f585 hn582 (by simp) (by simp) hn583 hn584 (by simp)) hZ (hv hw 42 rfl) (hv hw 41 rfl) (by decide) (by decide) hEL H580) (g := (mkF m 234 #[.val (.long p0), sn, vi p1, vi 3, vi r510, vi r511, vi r512, vi 58, vi r514, vr b515, vr b546, vr b569, .val (.int (Int32.ofNat X580l.length)), un, un] [(.ref b515)])) rfl (by rw [hml]; rfl) (argsL := [(.ref b515)]) (rest := []) (lenOf pd_21 rfl) rfl (by exact Nat.le_of_eq rfl) (hb hby at_234) (fun _ _ => ⟨rfl, rfl, (by decide : 7 + 11 ≤ _), (by decide : 34 + 162 ≤ _)⟩)
  dsimp only [Pt.U, Pt.locs, Pt.cells, Pt.slots] at X586 l586 y586 z586 st586 hQ586 hS'586 hg'586 Cr586
  rw [l586, y586, z586] at X586
  obtain ⟨d586, yu586, yp586, bu586, bp586, rfl, Nq586, Kq586, q1_586, q2_586, q3_586, q4_586, q5_586⟩ := hQ586
  have N586 := Fr.app N580 Nq586
  have X586 : Stand p l e _ (s.setVm T586.vm) m _ below meth c T586 _ _ _ := X586
  obtain ⟨hZ586, hown586⟩ := wideOn hZ hS'586 hown
  have hS586 : s.Since T586.vm T586.heap.size := hS0.trans hS'586 (Nat.le_trans hk580 hg'586)
  have hk586 := Nat.le_refl T586.heap.size
  have C586 := C580.trans Cr586
  have K586 : Keep h0 T586.heap [] := K580.trans Kq586 all0
  have O586 : Old Z n0 T586.heap := O580.keep Kq586 all0
  refine Go.tr st586 ?_
  show Go p.tables e below Kx _ (mkF m 237 _ [(.ref d586)])
  refine s_astore (pc' := 239) (Ls' := #[.val (.long p0), sn, vi p1, vi 3, vi r510, vi r511, vi r512, vi 58, vi r514, vr b515, vr b546, vr b569, .val (.int (Int32.ofNat X580l.length)), vr d586, un]) X586.here hx (hb hby at_237) rfl rfl rfl ?_
  refine s_aload (pc' := 241) X586.here hx (hb hby at_239) rfl rfl rfl ?_
  obtain ⟨_, T587, L587, X587, hQ587, st587⟩ := kV X586 hx hZ586 (y := yN4) hown586 (hv hw 153 rfl) (hv hw 154 rfl) (notFace_of_selects (args := #[]) (mvT hZ586 (hv hw 156 rfl))) (hv hw 156 rfl) (hv hw 155 rfl) (hv hw 41 rfl) (hv hw 157 rfl) (by decide) (rmDu l Z a0 hw [] d586 yu586 T586.heap n0 O586 q2_586) rfl q1_586 (W := 0) (g := (mkF m 241 #[.val (.long p0), sn, vi p1, vi 3, vi r510, vi r511, vi r512, vi 58, vi r514, vr b515, vr b546, vr b569, .val (.int (Int32.ofNat X580l.length)), vr d586, un] [(.ref d586)])) rfl (by rw [hml]; rfl) (argsL := []) (rest := []) (lenOf pd_22 rfl) rfl (by exact Nat.le_of_eq rfl) (hb hby at_241) rfl (nb rfl) (nb rfl) (nb rfl) (nb rfl)
  obtain ⟨rfl, Nq587, hE587⟩ := hQ587
  have N587 := Fr.app N586 Nq587
  refine Go.tr st587 ?_
  show Go p.tables e below Kx _ (mkF m 244 _ [(.ref yu586)])
  refine s_aload (pc' := 246) X587.here hx (hb hby at_244) rfl rfl rfl ?_
  have f588 : Str Z T586.heap T567.heap.size b546 [r510, r511, r512] := (((((((St567.ext E569).keep Kq572 (allS (Nat.le_of_eq g569.symm) all0)).keep Kq574 (allS (Nat.le_of_eq g569.symm) all0)).keep Kq576 (allS (Nat.le_of_eq g569.symm) all0)).keep Kq578 (allS (Nat.le_of_eq g569.symm) all0)).keep Kq580 (allS (Nat.le_of_eq g569.symm) all0)).keep Kq586 all0)
  obtain ⟨-, sE589, sC589, ⟨st589, sk589, -, sF589, sA589⟩, sp589, sl589⟩ := id q4_586
  obtain ⟨-, sE590, sC590, ⟨st590, sk590, -, sF590, sA590⟩, sp590, sl590⟩ := id f588
  obtain ⟨cq591, kq591, q591a, q591b, q591c⟩ := isOf hZ586 hE587 sE589
  obtain ⟨_, _, ⟨T591, L591, k591, n591⟩, -, X591, ⟨Lc591, hQ591, l591, y591, z591⟩, st591⟩ := X587.virtualBack hx (y := yN26) (z := yN26) hown586 (mvT hZ586 (hv hw 158 rfl)) (mvT hZ586 (hv hw 159 rfl)) (notFace_of_selects (args := #[]) (mvT hZ586 (hv hw 161 rfl))) (mvT hZ586 (hv hw 161 rfl)) (mvT hZ586 (hv hw 160 rfl)) (by decide) (StrChars.Road.eqW (W := 0) (s := (s.setVm T586.vm)) hZ586 (hwsE Z a0 hw) (kI := 4) (hv hw 7 rfl) sE589 sF589 sC589 sA589 (StrChars.Road.codOf rfl (fun c hc => (sp589 c hc).2)) (chr_up sp589) sl589 sE590 sF590 sC590 sA590 (StrChars.Road.codOf rfl (fun c hc => (sp590 c hc).2)) (chr_up sp590) sl590 (S1.ext O586.2) P1 (by decide) (by decide)) q591a q591c (g := (mkF m 246 #[.val (.long p0), sn, vi p1, vi 3, vi r510, vi r511, vi r512, vi 58, vi r514, vr b515, vr b546, vr b569, .val (.int (Int32.ofNat X580l.length)), vr d586, un] [(.ref b546), (.ref yu586)])) rfl (by rw [hml]; rfl) (Steps.refl _) (argsL := [(.ref b546)]) (rest := []) (lenOf pd_23 rfl) rfl (by exact Nat.le_of_eq rfl) (hb hby at_246) (fun _ _ => ⟨rfl, hE587, (by decide : 18 + 0 ≤ _), (by decide : 196 + 0 ≤ _)⟩)
  dsimp only [Pt.U, Pt.locs, Pt.cells, Pt.slots] at X591 l591 y591 z591 st591 hQ591
  rw [l591, y591, z591] at X591
  obtain ⟨hv591, rfl, hE591⟩ := hQ591
  rcases hv591 with ⟨rfl, hs591⟩ | ⟨rfl, hs591⟩
  ·
   have N591 := Fr.app N587 (Fr.nil n0)
   refine Go.tr st591 ?_
   show Go p.tables e below Kx _ (mkF m 249 _ [(.int 1)])
   refine s_ifY (pc' := 254) X591.here hx (hb hby at_249) ((if0 _ _).trans (feq (by decide)).2) (by decide) (by decide) ?_
   refine s_aload (pc' := 256) X591.here hx (hb hby at_254) rfl rfl rfl ?_
   obtain ⟨cq592, kq592, q592a, q592b, q592c⟩ := isOf hZ586 hE591 q1_586
   obtain ⟨_, _, ⟨T592, L592, k592, n592⟩, -, X592, hS'592, hg'592, ⟨Lc592, hQ592, l592, y592, z592, Cr592⟩, st592⟩ := X591.virtualBackS hx (y := yN1) (z := yN1) hown586 (mvT hZ586 (hv hw 167 rfl)) (mvT hZ586 (hv hw 168 rfl)) (notFace_of_selects (args := #[]) (mvT hZ586 (hv hw 170 rfl))) (mvT hZ586 (hv hw 170 rfl)) (mvT hZ586 (hv hw 169 rfl)) (by decide) (backOfSH (W := 0) (rmDa l Z a0 hw [] d586 yu586 yp586 u8 _ _ [r510, r511, r512] [r514] T586.heap n0 O586 hEL wS G1 S1 P1 SU SC q1_586 q2_586 q3_586 q4_586 q5_586 (by simp)) hZ586 (hv hw 171 rfl) (hv hw 41 rfl) (by decide) (by decide) hEL Cr586.1) q592a q592c (g := (mkF m 256 #[.val (.long p0), sn, vi p1, vi 3, vi r510, vi r511, vi r512, vi 58, vi r514, vr b515, vr b546, vr b569, .val (.int (Int32.ofNat X580l.length)), vr d586, un] [(.ref d586)])) rfl (by rw [hml]; rfl) (Steps.refl _) (argsL := []) (rest := []) (lenOf pd_31 rfl) rfl (by exact Nat.le_of_eq rfl) (hb hby at_256) (fun _ _ => ⟨rfl, hE591, (by decide : 18 + 8 ≤ _), (by decide : 196 + 120 ≤ _)⟩)
   dsimp only [Pt.U, Pt.locs, Pt.cells, Pt.slots] at X592 l592 y592 z592 st592 hQ592 hS'592 hg'592 Cr592
   rw [l592, y592, z592] at X592
   obtain ⟨t592, kt592, rfl, Nq592, Kq592, le592, q1_592⟩ := hQ592
   have sz592 : h0.size ≤ t592 := Nat.le_trans K586.1 le592
   have ge592 : n0 ≤ t592 := Nat.le_trans (O586.1 ▸ O586.2.1) le592
   have sn592 : Safe Z consts_1 T586.vm T586.heap t592 := Safe.new le592
   have N592 := Fr.app N591 Nq592
   have X592 : Stand p l e _ (s.setVm T592.vm) m _ below meth c T592 _ _ _ := X592
   obtain ⟨hZ592, hown592⟩ := wideOn hZ586 hS'592 hown586
   have hS592 : s.Since T592.vm T592.heap.size := hS586.trans hS'592 (Nat.le_trans hk586 (by rw [hE591] at hg'592; exact hg'592))
   have hk592 := Nat.le_refl T592.heap.size
   have C592 := C586.trans Cr592
   have K592 : Keep h0 T592.heap [] := K586.trans Kq592 all0
   have O592 : Old Z n0 T592.heap := O586.keep Kq592 all0
   refine Go.tr st592 ?_
   show Go p.tables e below Kx _ (mkF m 259 _ [(.ref t592)])
   have hX592 : enc (((([] : List Int32) ++ (i8s [r510, r511, r512])) ++ [(58 : Int32)]) ++ (i8s [r514])) = X580l := by rw [hD580, hD578, hD576, hD574, hD572]; simp [i8s, enc, encB58, t58]
   rw [hX592] at q1_592
   refine s_astore (pc' := 261) (Ls' := #[.val (.long p0), sn, vi p1, vi 3, vi r510, vi r511, vi r512, vi 58, vi r514, vr b515, vr b546, vr b569, .val (.int (Int32.ofNat X580l.length)), vr d586, vr t592]) X592.here hx (hb hby at_259) rfl rfl rfl ?_
   refine s_aload (pc' := 263) X592.here hx (hb hby at_261) rfl rfl rfl ?_
   obtain ⟨cl593, Ar593, Aq593, As593, An593, Ah593, Ag593⟩ := id q1_592
   refine Go.st (X592.arraylength hx (by  exact Ar593.1) (State.isArrayOf_alike hZ592.alike Ar593.2.1) (g := (mkF m 263 #[.val (.long p0), sn, vi p1, vi 3, vi r510, vi r511, vi r512, vi 58, vi r514, vr b515, vr b546, vr b569, .val (.int (Int32.ofNat X580l.length)), vr d586, vr t592] [(.ref t592)])) rfl rfl (hb hby at_263)) ?_
   rw [len_of As593 An593]
   show Go p.tables e below Kx _ (mkF m 264 _ [(.int (Int32.ofNat X580l.length))])
   refine s_iload (pc' := 266) X592.here hx (hb hby at_264) rfl rfl ?_
   refine s_icmpN (pc' := 269) X592.here hx (hb hby at_266) rfl (teq rfl).2 ?_
   refine s_aload (pc' := 271) X592.here hx (hb hby at_269) rfl rfl rfl ?_
   refine s_aload (pc' := 273) X592.here hx (hb hby at_271) rfl rfl rfl ?_
   refine s_iconst (pc' := 274) (v := 0) X592.here hx (hb hby at_273) rfl rfl ?_
   refine s_iload (pc' := 276) X592.here hx (hb hby at_274) rfl rfl ?_
   have f594 : Arv Z T592.heap b569 k569 .byte 10 (pad 10 X580l) (.int 0) := ((q1_580.keep Kq586 nin0).keep Kq592 nin0)
   obtain ⟨_, T595, L595, X595, hQ595, st595⟩ := kS X592 hx hZ592 (y := yN7) hown592 (hv hw 288 rfl) (hv hw 289 rfl) (hv hw 3 rfl) (hv hw 290 rfl) (by decide) (rmDs l Z a0 hw [] t592 b569 _ _ X580l 0 T592.heap n0 O592 q1_592 f594 (Nat.le_trans hp580 (by decide)) (by decide)) rfl (W := 0) (g := (mkF m 276 #[.val (.long p0), sn, vi p1, vi 3, vi r510, vi r511, vi r512, vi 58, vi r514, vr b515, vr b546, vr b569, .val (.int (Int32.ofNat X580l.length)), vr d586, vr t592] [(.int (Int32.ofNat X580l.length)), (.int 0), (.ref b569), (.ref t592)])) rfl (by rw [hml]; rfl) (argsL := [(.ref t592), (.ref b569), (.int 0), (.int (Int32.ofNat X580l.length))]) (rest := []) (lenOf pd_41 rfl) rfl (by exact Nat.le_of_eq rfl) (hb hby at_276) rfl (nb rfl) (nb rfl) (nb rfl) (nb rfl)
   obtain ⟨rfl, Nq595, hE595⟩ := hQ595
   have N595 := Fr.app N592 Nq595
   refine Go.st st595 ?_
   show Go p.tables e below Kx _ (mkF m 279 _ [(.int 1)])
   refine s_ifN (pc' := 282) X595.here hx (hb hby at_279) rfl ((if0 _ _).trans (feq (by decide)).1) ?_
   refine s_aload (pc' := 284) X595.here hx (hb hby at_282) rfl rfl rfl ?_
   refine s_aload (pc' := 286) X595.here hx (hb hby at_284) rfl rfl rfl ?_
   refine s_iconst (pc' := 287) (v := 1) X595.here hx (hb hby at_286) rfl rfl ?_
   refine s_iload (pc' := 289) X595.here hx (hb hby at_287) rfl rfl ?_
   obtain ⟨_, T596, L596, X596, hQ596, st596⟩ := kS X595 hx hZ592 (y := yN7) hown592 (hv hw 288 rfl) (hv hw 289 rfl) (hv hw 3 rfl) (hv hw 290 rfl) (by decide) (rmDs l Z a0 hw [] t592 b569 _ _ X580l 1 T592.heap n0 O592 q1_592 f594 (Nat.le_trans hp580 (by decide)) (by decide)) hE595 (W := 0) (g := (mkF m 289 #[.val (.long p0), sn, vi p1, vi 3, vi r510, vi r511, vi r512, vi 58, vi r514, vr b515, vr b546, vr b569, .val (.int (Int32.ofNat X580l.length)), vr d586, vr t592] [(.int (Int32.ofNat X580l.length)), (.int 1), (.ref b569), (.ref t592)])) rfl (by rw [hml]; rfl) (argsL := [(.ref t592), (.ref b569), (.int 1), (.int (Int32.ofNat X580l.length))]) (rest := []) (lenOf pd_41 rfl) rfl (by exact Nat.le_of_eq rfl) (hb hby at_289) rfl (nb rfl) (nb rfl) (nb rfl) (nb rfl)
   obtain ⟨rfl, Nq596, hE596⟩ := hQ596
   have N596 := Fr.app N595 Nq596
   refine Go.st st596 ?_
   show Go p.tables e below Kx _ (mkF m 292 _ [(.int 1)])
   refine s_ifN (pc' := 295) X596.here hx (hb hby at_292) rfl ((if0 _ _).trans (feq (by decide)).1) ?_
   refine s_aload (pc' := 297) X596.here hx (hb hby at_295) rfl rfl rfl ?_
   refine s_aload (pc' := 299) X596.here hx (hb hby at_297) rfl rfl rfl ?_
   refine s_iconst (pc' := 300) (v := 2) X596.here hx (hb hby at_299) rfl rfl ?_
   refine s_iload (pc' := 302) X596.here hx (hb hby at_300) rfl rfl ?_
   obtain ⟨_, T597, L597, X597, hQ597, st597⟩ := kS X596 hx hZ592 (y := yN7) hown592 (hv hw 288 rfl) (hv hw 289 rfl) (hv hw 3 rfl) (hv hw 290 rfl) (by decide) (rmDs l Z a0 hw [] t592 b569 _ _ X580l 2 T592.heap n0 O592 q1_592 f594 (Nat.le_trans hp580 (by decide)) (by decide)) hE596 (W := 0) (g := (mkF m 302 #[.val (.long p0), sn, vi p1, vi 3, vi r510, vi r511, vi r512, vi 58, vi r514, vr b515, vr b546, vr b569, .val (.int (Int32.ofNat X580l.length)), vr d586, vr t592] [(.int (Int32.ofNat X580l.length)), (.int 2), (.ref b569), (.ref t592)])) rfl (by rw [hml]; rfl) (argsL := [(.ref t592), (.ref b569), (.int 2), (.int (Int32.ofNat X580l.length))]) (rest := []) (lenOf pd_41 rfl) rfl (by exact Nat.le_of_eq rfl) (hb hby at_302) rfl (nb rfl) (nb rfl) (nb rfl) (nb rfl)
   obtain ⟨rfl, Nq597, hE597⟩ := hQ597
   have N597 := Fr.app N596 Nq597
   refine Go.st st597 ?_
   show Go p.tables e below Kx _ (mkF m 305 _ [(.int 1)])
   refine s_ifN (pc' := 308) X597.here hx (hb hby at_305) rfl ((if0 _ _).trans (feq (by decide)).1) ?_
   refine s_aload (pc' := 310) X597.here hx (hb hby at_308) rfl rfl rfl ?_
   refine s_aload (pc' := 312) X597.here hx (hb hby at_310) rfl rfl rfl ?_
   refine s_iconst (pc' := 313) (v := 3) X597.here hx (hb hby at_312) rfl rfl ?_
   refine s_iload (pc' := 315) X597.here hx (hb hby at_313) rfl rfl ?_
   obtain ⟨_, T598, L598, X598, hQ598, st598⟩ := kS X597 hx hZ592 (y := yN7) hown592 (hv hw 288 rfl) (hv hw 289 rfl) (hv hw 3 rfl) (hv hw 290 rfl) (by decide) (rmDs l Z a0 hw [] t592 b569 _ _ X580l 3 T592.heap n0 O592 q1_592 f594 (Nat.le_trans hp580 (by decide)) (by decide)) hE597 (W := 0) (g := (mkF m 315 #[.val (.long p0), sn, vi p1, vi 3, vi r510, vi r511, vi r512, vi 58, vi r514, vr b515, vr b546, vr b569, .val (.int (Int32.ofNat X580l.length)), vr d586, vr t592] [(.int (Int32.ofNat X580l.length)), (.int 3), (.ref b569), (.ref t592)])) rfl (by rw [hml]; rfl) (argsL := [(.ref t592), (.ref b569), (.int 3), (.int (Int32.ofNat X580l.length))]) (rest := []) (lenOf pd_41 rfl) rfl (by exact Nat.le_of_eq rfl) (hb hby at_315) rfl (nb rfl) (nb rfl) (nb rfl) (nb rfl)
   obtain ⟨rfl, Nq598, hE598⟩ := hQ598
   have N598 := Fr.app N597 Nq598
   refine Go.st st598 ?_
   show Go p.tables e below Kx _ (mkF m 318 _ [(.int 1)])
   refine s_ifN (pc' := 321) X598.here hx (hb hby at_318) rfl ((if0 _ _).trans (feq (by decide)).1) ?_
   refine s_aload (pc' := 323) X598.here hx (hb hby at_321) rfl rfl rfl ?_
   refine s_aload (pc' := 325) X598.here hx (hb hby at_323) rfl rfl rfl ?_
   refine s_iconst (pc' := 326) (v := 4) X598.here hx (hb hby at_325) rfl rfl ?_
   refine s_iload (pc' := 328) X598.here hx (hb hby at_326) rfl rfl ?_
   obtain ⟨_, T599, L599, X599, hQ599, st599⟩ := kS X598 hx hZ592 (y := yN7) hown592 (hv hw 288 rfl) (hv hw 289 rfl) (hv hw 3 rfl) (hv hw 290 rfl) (by decide) (rmDs l Z a0 hw [] t592 b569 _ _ X580l 4 T592.heap n0 O592 q1_592 f594 (Nat.le_trans hp580 (by decide)) (by decide)) hE598 (W := 0) (g := (mkF m 328 #[.val (.long p0), sn, vi p1, vi 3, vi r510, vi r511, vi r512, vi 58, vi r514, vr b515, vr b546, vr b569, .val (.int (Int32.ofNat X580l.length)), vr d586, vr t592] [(.int (Int32.ofNat X580l.length)), (.int 4), (.ref b569), (.ref t592)])) rfl (by rw [hml]; rfl) (argsL := [(.ref t592), (.ref b569), (.int 4), (.int (Int32.ofNat X580l.length))]) (rest := []) (lenOf pd_41 rfl) rfl (by exact Nat.le_of_eq rfl) (hb hby at_328) rfl (nb rfl) (nb rfl) (nb rfl) (nb rfl)
   obtain ⟨rfl, Nq599, hE599⟩ := hQ599
   have N599 := Fr.app N598 Nq599
   refine Go.st st599 ?_
   show Go p.tables e below Kx _ (mkF m 331 _ [(.int 1)])
   refine s_ifN (pc' := 334) X599.here hx (hb hby at_331) rfl ((if0 _ _).trans (feq (by decide)).1) ?_
   refine s_aload (pc' := 336) X599.here hx (hb hby at_334) rfl rfl rfl ?_
   refine s_aload (pc' := 338) X599.here hx (hb hby at_336) rfl rfl rfl ?_
   refine s_iconst (pc' := 339) (v := 5) X599.here hx (hb hby at_338) rfl rfl ?_
   refine s_iload (pc' := 341) X599.here hx (hb hby at_339) rfl rfl ?_
   obtain ⟨_, T600, L600, X600, hQ600, st600⟩ := kS X599 hx hZ592 (y := yN7) hown592 (hv hw 288 rfl) (hv hw 289 rfl) (hv hw 3 rfl) (hv hw 290 rfl) (by decide) (rmDs l Z a0 hw [] t592 b569 _ _ X580l 5 T592.heap n0 O592 q1_592 f594 (Nat.le_trans hp580 (by decide)) (by decide)) hE599 (W := 0) (g := (mkF m 341 #[.val (.long p0), sn, vi p1, vi 3, vi r510, vi r511, vi r512, vi 58, vi r514, vr b515, vr b546, vr b569, .val (.int (Int32.ofNat X580l.length)), vr d586, vr t592] [(.int (Int32.ofNat X580l.length)), (.int 5), (.ref b569), (.ref t592)])) rfl (by rw [hml]; rfl) (argsL := [(.ref t592), (.ref b569), (.int 5), (.int (Int32.ofNat X580l.length))]) (rest := []) (lenOf pd_41 rfl) rfl (by exact Nat.le_of_eq rfl) (hb hby at_341) rfl (nb rfl) (nb rfl) (nb rfl) (nb rfl)
   obtain ⟨rfl, Nq600, hE600⟩ := hQ600
   have N600 := Fr.app N599 Nq600
   refine Go.st st600 ?_
   show Go p.tables e below Kx _ (mkF m 344 _ [(.int 1)])
   refine s_ifN (pc' := 347) X600.here hx (hb hby at_344) rfl ((if0 _ _).trans (feq (by decide)).1) ?_
   refine s_aload (pc' := 349) X600.here hx (hb hby at_347) rfl rfl rfl ?_
   refine s_aload (pc' := 351) X600.here hx (hb hby at_349) rfl rfl rfl ?_
   refine s_bipush (pc' := 353) (v := 6) X600.here hx (hb hby at_351) rfl rfl ?_
   refine s_iload (pc' := 355) X600.here hx (hb hby at_353) rfl rfl ?_
   obtain ⟨_, T601, L601, X601, hQ601, st601⟩ := kS X600 hx hZ592 (y := yN7) hown592 (hv hw 288 rfl) (hv hw 289 rfl) (hv hw 3 rfl) (hv hw 290 rfl) (by decide) (rmDs l Z a0 hw [] t592 b569 _ _ X580l 6 T592.heap n0 O592 q1_592 f594 (Nat.le_trans hp580 (by decide)) (by decide)) hE600 (W := 0) (g := (mkF m 355 #[.val (.long p0), sn, vi p1, vi 3, vi r510, vi r511, vi r512, vi 58, vi r514, vr b515, vr b546, vr b569, .val (.int (Int32.ofNat X580l.length)), vr d586, vr t592] [(.int (Int32.ofNat X580l.length)), (.int 6), (.ref b569), (.ref t592)])) rfl (by rw [hml]; rfl) (argsL := [(.ref t592), (.ref b569), (.int 6), (.int (Int32.ofNat X580l.length))]) (rest := []) (lenOf pd_41 rfl) rfl (by exact Nat.le_of_eq rfl) (hb hby at_355) rfl (nb rfl) (nb rfl) (nb rfl) (nb rfl)
   obtain ⟨rfl, Nq601, hE601⟩ := hQ601
   have N601 := Fr.app N600 Nq601
   refine Go.st st601 ?_
   show Go p.tables e below Kx _ (mkF m 358 _ [(.int 1)])
   refine s_ifN (pc' := 361) X601.here hx (hb hby at_358) rfl ((if0 _ _).trans (feq (by decide)).1) ?_
   refine s_aload (pc' := 363) X601.here hx (hb hby at_361) rfl rfl rfl ?_
   refine s_aload (pc' := 365) X601.here hx (hb hby at_363) rfl rfl rfl ?_
   refine s_bipush (pc' := 367) (v := 7) X601.here hx (hb hby at_365) rfl rfl ?_
   refine s_iload (pc' := 369) X601.here hx (hb hby at_367) rfl rfl ?_
   obtain ⟨_, T602, L602, X602, hQ602, st602⟩ := kS X601 hx hZ592 (y := yN7) hown592 (hv hw 288 rfl) (hv hw 289 rfl) (hv hw 3 rfl) (hv hw 290 rfl) (by decide) (rmDs l Z a0 hw [] t592 b569 _ _ X580l 7 T592.heap n0 O592 q1_592 f594 (Nat.le_trans hp580 (by decide)) (by decide)) hE601 (W := 0) (g := (mkF m 369 #[.val (.long p0), sn, vi p1, vi 3, vi r510, vi r511, vi r512, vi 58, vi r514, vr b515, vr b546, vr b569, .val (.int (Int32.ofNat X580l.length)), vr d586, vr t592] [(.int (Int32.ofNat X580l.length)), (.int 7), (.ref b569), (.ref t592)])) rfl (by rw [hml]; rfl) (argsL := [(.ref t592), (.ref b569), (.int 7), (.int (Int32.ofNat X580l.length))]) (rest := []) (lenOf pd_41 rfl) rfl (by exact Nat.le_of_eq rfl) (hb hby at_369) rfl (nb rfl) (nb rfl) (nb rfl) (nb rfl)
   obtain ⟨rfl, Nq602, hE602⟩ := hQ602
   have N602 := Fr.app N601 Nq602
   refine Go.st st602 ?_
   show Go p.tables e below Kx _ (mkF m 372 _ [(.int 1)])
   refine s_ifN (pc' := 375) X602.here hx (hb hby at_372) rfl ((if0 _ _).trans (feq (by decide)).1) ?_
   refine s_aload (pc' := 377) X602.here hx (hb hby at_375) rfl rfl rfl ?_
   refine s_aload (pc' := 379) X602.here hx (hb hby at_377) rfl rfl rfl ?_
   refine s_bipush (pc' := 381) (v := 8) X602.here hx (hb hby at_379) rfl rfl ?_
   refine s_iload (pc' := 383) X602.here hx (hb hby at_381) rfl rfl ?_
   obtain ⟨_, T603, L603, X603, hQ603, st603⟩ := kS X602 hx hZ592 (y := yN7) hown592 (hv hw 288 rfl) (hv hw 289 rfl) (hv hw 3 rfl) (hv hw 290 rfl) (by decide) (rmDs l Z a0 hw [] t592 b569 _ _ X580l 8 T592.heap n0 O592 q1_592 f594 (Nat.le_trans hp580 (by decide)) (by decide)) hE602 (W := 0) (g := (mkF m 383 #[.val (.long p0), sn, vi p1, vi 3, vi r510, vi r511, vi r512, vi 58, vi r514, vr b515, vr b546, vr b569, .val (.int (Int32.ofNat X580l.length)), vr d586, vr t592] [(.int (Int32.ofNat X580l.length)), (.int 8), (.ref b569), (.ref t592)])) rfl (by rw [hml]; rfl) (argsL := [(.ref t592), (.ref b569), (.int 8), (.int (Int32.ofNat X580l.length))]) (rest := []) (lenOf pd_41 rfl) rfl (by exact Nat.le_of_eq rfl) (hb hby at_383) rfl (nb rfl) (nb rfl) (nb rfl) (nb rfl)
   obtain ⟨rfl, Nq603, hE603⟩ := hQ603
   have N603 := Fr.app N602 Nq603
   refine Go.st st603 ?_
   show Go p.tables e below Kx _ (mkF m 386 _ [(.int 1)])
   refine s_ifN (pc' := 389) X603.here hx (hb hby at_386) rfl ((if0 _ _).trans (feq (by decide)).1) ?_
   refine s_aload (pc' := 391) X603.here hx (hb hby at_389) rfl rfl rfl ?_
   refine s_aload (pc' := 393) X603.here hx (hb hby at_391) rfl rfl rfl ?_
   refine s_bipush (pc' := 395) (v := 9) X603.here hx (hb hby at_393) rfl rfl ?_
   refine s_iload (pc' := 397) X603.here hx (hb hby at_395) rfl rfl ?_
   obtain ⟨_, T604, L604, X604, hQ604, st604⟩ := kS X603 hx hZ592 (y := yN7) hown592 (hv hw 288 rfl) (hv hw 289 rfl) (hv hw 3 rfl) (hv hw 290 rfl) (by decide) (rmDs l Z a0 hw [] t592 b569 _ _ X580l 9 T592.heap n0 O592 q1_592 f594 (Nat.le_trans hp580 (by decide)) (by decide)) hE603 (W := 0) (g := (mkF m 397 #[.val (.long p0), sn, vi p1, vi 3, vi r510, vi r511, vi r512, vi 58, vi r514, vr b515, vr b546, vr b569, .val (.int (Int32.ofNat X580l.length)), vr d586, vr t592] [(.int (Int32.ofNat X580l.length)), (.int 9), (.ref b569), (.ref t592)])) rfl (by rw [hml]; rfl) (argsL := [(.ref t592), (.ref b569), (.int 9), (.int (Int32.ofNat X580l.length))]) (rest := []) (lenOf pd_41 rfl) rfl (by exact Nat.le_of_eq rfl) (hb hby at_397) rfl (nb rfl) (nb rfl) (nb rfl) (nb rfl)
   obtain ⟨rfl, Nq604, hE604⟩ := hQ604
   have N604 := Fr.app N603 Nq604
   refine Go.st st604 ?_
   show Go p.tables e below Kx _ (mkF m 400 _ [(.int 1)])
   refine s_ifN (pc' := 403) X604.here hx (hb hby at_400) rfl ((if0 _ _).trans (feq (by decide)).1) ?_
   refine s_iconst (pc' := 404) (v := 1) X604.here hx (hb hby at_403) rfl rfl ?_
   refine s_goto (pc' := 408) X604.here hx (hb hby at_404) (by decide) (by decide) ?_
   obtain ⟨fs, hr, hrun, hended, hRW⟩ := X604.leaveW hS592 (by rw [hE604]; exact hk592) (v := (some (.int 1))) (fun h => by rw [Bd.returns] at h; cases h)
   have hCx := C592.trans (CHv.at X604 hZ592 hEL Cr592.1)
   refine Go.fin (retN X604 hx (t := .boolean) Bd.returns (by simp) (hb hby at_408) hr) (hF _ _ hrun hended ⟨_, _, rfl, ?_, ?_, hRW.1, hRW.2.1, hRW.2.2.1, hRW.2.2.2.mono (by decide) (by decide)⟩)
   ·
    show QL Z p0 p1 u8 h0 n0 ((some (.int 1)) : Option Value) T604.heap _
    rw [hE604]
    exact ⟨rfl, N604⟩
   ·
    show CHr Z consts_1 s.vm s.heap T604.vm T604.heap
    rw [hE604, hh]; exact hCx
  ·
   have N591 := Fr.app N587 (Fr.nil n0)
   refine Go.tr st591 ?_
   show Go p.tables e below Kx _ (mkF m 249 _ [(.int 0)])
   exact absurd rfl hs591
theorem eqR_v {args : Array Value} {s : State} {t u : Term} {y : Addr} (hu : u.eval args s none [] s = some (.ref y)) (h : (Cond.eq t u).value args s none s [] = some true) : t.eval args s none [] s = some (.ref y) := by
  cases ht : t.eval args s none [] s with
  | none => simp [Cond.value, ht] at h
  | some z => cases z <;> simp [Cond.value, ht, hu] at h ⊢ <;> exact h
theorem comes_1 {Post : Tables → Env → Array Value → State → Outcome → State → Prop} (hpost : ∀ tb e args s v u, (limb_1_1.after args s (.returned v) u = true ∧ limb_1_2.after args s (.returned v) u = true ∧ True) → ReturnedEndW s (.returned v) u (Jvm.fieldLocs frame_1_writes args s ++ Jvm.arrayLocs frame_1_arrays args s ++ Jvm.staticLocs frame_1_statics s) 56 4416 → Post tb e args s (.returned v) u) :
    ArmFor flags0 classFile x code maxLocals ret World_1 tables_1 room_1 Calls_1 rest_1 Pre_1 Post := by
  intro l hfl _ _ p e ha hc hk s m args below hf hA hF happ hP
  obtain ⟨hcalls, hrest, hpre⟩ := hP
  obtain ⟨-, -, -, hnamed, -, -, -, hat⟩ := (Spec.applies_iff hf).mp happ
  obtain ⟨hg, hn⟩ := and_e (Cond.before_iff.mp (show (Jvm.Cond.and given_1 narrow_1).before args s = true from hpre))
  obtain ⟨hcount, hgs⟩ := and_e hg
  obtain ⟨hi0, hgs'⟩ := and_e hgs
  have hi1 := hgs'
  obtain ⟨w0, w1, rfl⟩ : ∃ w0 w1 : Value, args = #[w0, w1] := by
    have hs : args.size = 2 := by simpa [Cond.value, given_1] using hcount
    obtain ⟨L⟩ := args
    match L, hs with
    | [w0, w1], _ => exact ⟨w0, w1, rfl⟩
  have hw := fun d (hd : d ∈ tables_1) => atoms_spec (ws := Jvm.Cond.code x code maxLocals ret :: tables_1) hat d (List.mem_cons_of_mem _ hd)
  have hfit : Fit s := fun {y c} hc i hi => by
    obtain ⟨ha, rfl⟩ := Array.getElem?_eq_some_iff.mp hc
    have q := List.all_eq_true.mp ((Array.all_eq_true_iff_forall_mem.mp hF) _ (Array.getElem_mem ha)) i (List.mem_range.mpr hi)
    simpa [Array.getElem?_eq_getElem hi] using q
  obtain ⟨hsets, hown0⟩ := atoms_of _ (rest_1_c_eq ▸ (show rest_1_c.before _ s = true from hrest))
  obtain ⟨i0, ei0⟩ := isL_v hi0
  obtain rfl : w0 = (.long i0) := Option.some.inj ei0
  obtain ⟨i1, ei1⟩ := is_v hi1
  obtain rfl : w1 = (.int i1) := Option.some.inj ei1
  obtain ⟨G1, eG1⟩ := is_v (Cond.before_iff.mp (hsets _ (List.mem_of_getElem? (i := 1) rfl)))
  have S1 : Sta s s.heap "java/lang/String" "COMPACT_STRINGS" "Z" (.int G1) := Sta.start eG1 (Or.inl (hsets _ (List.mem_of_getElem? (i := 0) rfl)))
  have P1 : ¬ (G1 = 0) := gotF (Cond.eq_ints eG1 (Term.int_eval (0))) (not_v (Cond.before_iff.mp (hsets _ (List.mem_of_getElem? (i := 2) rfl))))
  have wS : ∀ a ∈ Bundle.stringAtoms, a.before #[(.long i0), (.int i1)] s = true := fun d hd => hw d ((by decide +kernel : ∀ d ∈ Bundle.stringAtoms, d ∈ tables_1) d hd)
  have hEL : EW s #[(.long i0), (.int i1)] consts_1 := (EW.cons (hv hw 136 rfl) (by decide) (EW.cons (hv hw 137 rfl) (by decide) (EW.cons (hv hw 43 rfl) (by decide) (EW.cons (hv hw 225 rfl) (by decide) EW.nil))))
  have hCH : CHv s consts_1 s.vm s.heap := CHv.start hEL hcalls.1 (hsets _ (List.mem_of_getElem? (i := 2) rfl)) (wS _ (by simp [Bundle.stringAtoms])) (wS _ (by simp [Bundle.stringAtoms, Bundle.sN]))
  obtain ⟨u8, eU⟩ := exa_v (Cond.before_iff.mp (hsets _ (List.mem_of_getElem? (i := 17) rfl)))
  have SU := Sta.start eU (Or.inl (hsets _ (List.mem_of_getElem? (i := 12) rfl)))
  have SC := Sta.start (eqR_v eU (Cond.before_iff.mp (hsets _ (List.mem_of_getElem? (i := 13) rfl)))) (Or.inl (hsets _ (List.mem_of_getElem? (i := 10) rfl)))
  obtain ⟨vf, eF, hvf⟩ := isR_v (Cond.before_iff.mp (hsets _ (List.mem_of_getElem? (i := 8) rfl)))
  have SFm := Sta.start eF (Or.inl (hsets _ (List.mem_of_getElem? (i := 7) rfl)))
  obtain ⟨n, o, h1, h2, h3, _, L, rfl, ⟨rfl, N⟩, hq⟩ := rmL l s _ hw tables_1 i0 i1 u8 s.heap s.heap.size (Old.start s) hEL wS G1 S1 P1 vf hvf SFm SU SC p e ha hc hk s m _ below hf ((Spec.applies_iff_loose hf).mp happ).1 ⟨rfl, State.Warmed39.refl s, rfl, hCH⟩ trivial
  refine ⟨n, _, h1, h2, h3, hpost _ _ _ _ _ _ ⟨Cond.after_iff.mpr rfl, Cond.after_iff.mpr (eq_i res_at (Term.int_eval (1)) rfl), trivial⟩ ⟨hq.2.1, hq.2.2.1, hq.2.2.2.1, (hq.2.2.2.2.sift fun y hy => Or.inr (N y hy)).mono (by decide) (by decide)⟩⟩
theorem main_1_1 : Claimed_1_1 := comes_1 fun _ _ _ _ _ _ h hF => ⟨h.1, hF⟩
theorem main_1_2 : Claimed_1_2 := comes_1 fun _ _ _ _ _ _ h hF => ⟨h.2.1, hF⟩
end Jvm.Pilot.@@N@@
namespace Jvm.Pilot.@@N@@
open Jvm Jvm.ClassFile Sem Op Lib Jvm.Free Jvm.Stand Jvm.Pilot.@@N@@.Jvm.D
/-! MADE BY PROGRAM (witnessworld.py) out of the Statement's table words and the real class files: 33 classes; the members and pool entries that the words name. The judged class is class 1, her method 4. -/
namespace start1
open Jvm.ClassFile
def u (s : String) : CpInfo := .utf8 (stringToUtf16 s)
/-- a pool by its gaps: so many unusable entries, then the entry; so many at the end -/
def gap : Nat → List CpInfo → List CpInfo
  | 0, r => r
  | n + 1, r => .unusable :: gap n r
def poolList (es : List (Nat × CpInfo)) (last : Nat) : List CpInfo := es.foldr (fun e r => gap e.1 (e.2 :: r)) (gap last [])
def pool (es : List (Nat × CpInfo)) (last : Nat) : Array CpInfo := ⟨poolList es last⟩
def fileOf (pool : Array CpInfo) (this : Nat) (attrs : Array Attribute := #[]) (ms : Array MethodInfo := #[]) (fl : Nat := 33) (sup : Nat := 0) (ifs : Array Nat := #[]) (fds : Array FieldInfo := #[]) : ClassFile where
  minorVersion := 0
  majorVersion := 65
  constantPool := pool
  accessFlags := fl
  thisClass := this
  superClass := sup
  interfaces := ifs
  fields := fds
  methods := ms
  attributes := attrs
def plain (name : String) (sup : Option ClassId) : Class where
  name := name
  kind := .ordinary
  loader := none
  accessFlags := 33
  super := sup
  interfaces := #[]
  cf := none
  fields := #[]
  methods := #[]
  instanceTypes := #[]
  staticTypes := #[]
  resolved := #[]
  callSites := []
  init := .initialized
  statics := none
  mirror := none

def pool0 : Array CpInfo := pool [(5, u "<init>"), (0, u "()V"), (1, .class_ 10), (1, u "java/lang/Object"), (85, u "clone"), (0, u "()Ljava/lang/Object;")] 26

def k0c0 : Code := { maxStack := 0, maxLocals := 1, code := object_method_1_code, exceptionTable := #[], attributes := #[] }
def k0m0 : Method := { name := "<init>", desc := "()V", sig := { parameters := [], returnType := none }, accessFlags := 1, code := some k0c0 }
def k0m1 : Method := { name := "clone", desc := "()Ljava/lang/Object;", sig := { parameters := [], returnType := some (.object "java/lang/Object") }, accessFlags := 260, code := none }
/-- java/lang/Object -/
def k0 : Class := { plain "java/lang/Object" none with
  accessFlags := 33
  interfaces := #[]
  cf := some (fileOf pool0 8 #[] #[{ accessFlags := 1, nameIndex := 5, descriptorIndex := 6, attributes := #[] }, { accessFlags := 260, nameIndex := 96, descriptorIndex := 97, attributes := #[] }] 33 0 #[] #[])
  fields := #[]
  methods := #[k0m0, k0m1]
  instanceTypes := #[]
  staticTypes := #[]
  resolved := Array.replicate 124 none
  statics := none }

def pool1 : Array CpInfo := pool [(2, .class_ 4), (1, u "java/lang/Object"), (0, u "<init>"), (0, u "()V"), (0, .long 255), (1, .integer 2147483647), (0, .methodref 11 12), (0, .class_ 13), (0, .nameAndType 14 15), (0, u "com/example/turnlock/turnlock/session/DigestCredentialsParsePinLaw"), (0, u "ch"), (0, u "(JII)C"), (0, .class_ 17), (0, u "java/lang/String"), (0, .methodref 16 19), (0, .nameAndType 5 20), (0, u "([C)V"), (0, .methodref 11 22), (0, .nameAndType 23 24), (0, u "put"), (0, u "([BIC)I"), (0, .methodref 26 27), (0, .class_ 28), (0, .nameAndType 29 30), (0, u "com/example/turnlock/turnlock/session/DigestCredentials"), (0, u "parse"), (0, u "(Ljava/lang/String;)Lcom/example/turnlock/turnlock/session/DigestCredentials;"), (0, .methodref 26 32), (0, .nameAndType 33 34), (0, u "user"), (0, u "()Ljava/lang/String;"), (0, .methodref 16 36), (0, .nameAndType 37 38), (0, u "equals"), (0, u "(Ljava/lang/Object;)Z"), (0, .methodref 26 40), (0, .nameAndType 41 42), (0, u "authData"), (0, u "()[B"), (0, .methodref 11 44), (0, .nameAndType 45 46), (0, u "same"), (0, u "([B[BII)Z"), (3, u "law"), (0, u "(JI)Z")] 4

def k1m0 : Method := { name := "<init>", desc := "()V", sig := { parameters := [], returnType := none }, accessFlags := 1, code := none }
def k1c1 : Code := { maxStack := 4, maxLocals := 5, code := method_2_code, exceptionTable := #[], attributes := #[] }
def k1m1 : Method := { name := "ch", desc := "(JII)C", sig := { parameters := [.long, .int, .int], returnType := some .char }, accessFlags := 10, code := some k1c1 }
def k1c2 : Code := { maxStack := 5, maxLocals := 3, code := method_3_code, exceptionTable := #[], attributes := #[] }
def k1m2 : Method := { name := "put", desc := "([BIC)I", sig := { parameters := [(.array .byte), .int, .char], returnType := some .int }, accessFlags := 10, code := some k1c2 }
def k1c3 : Code := { maxStack := 3, maxLocals := 4, code := method_4_code, exceptionTable := #[], attributes := #[] }
def k1m3 : Method := { name := "same", desc := "([B[BII)Z", sig := { parameters := [(.array .byte), (.array .byte), .int, .int], returnType := some .boolean }, accessFlags := 10, code := some k1c3 }
def k1c4 : Code := { maxStack := 6, maxLocals := 15, code := code, exceptionTable := #[], attributes := #[] }
def k1m4 : Method := { name := "law", desc := "(JI)Z", sig := { parameters := [.long, .int], returnType := some .boolean }, accessFlags := 9, code := some k1c4 }
/-- com/example/turnlock/turnlock/session/DigestCredentialsParsePinLaw -/
def k1 : Class := { plain "com/example/turnlock/turnlock/session/DigestCredentialsParsePinLaw" (some 0) with
  accessFlags := 49
  interfaces := #[]
  cf := some (fileOf pool1 11 #[] #[{ accessFlags := 1, nameIndex := 5, descriptorIndex := 6, attributes := #[] }, { accessFlags := 10, nameIndex := 14, descriptorIndex := 15, attributes := #[] }, { accessFlags := 10, nameIndex := 23, descriptorIndex := 24, attributes := #[] }, { accessFlags := 10, nameIndex := 45, descriptorIndex := 46, attributes := #[] }, { accessFlags := 9, nameIndex := 50, descriptorIndex := 51, attributes := #[] }] 49 2 #[] #[])
  fields := #[]
  methods := #[k1m0, k1m1, k1m2, k1m3, k1m4]
  instanceTypes := #[]
  staticTypes := #[]
  resolved := Array.replicate 56 none
  statics := none }

def pool2 : Array CpInfo := pool [(1, .class_ 2), (0, u "java/io/Serializable"), (0, .class_ 4), (0, u "java/lang/Object")] 2

/-- java/io/Serializable -/
def k2 : Class := { plain "java/io/Serializable" (some 0) with
  accessFlags := 1537
  interfaces := #[]
  cf := some (fileOf pool2 1 #[] #[] 1537 3 #[] #[])
  fields := #[]
  methods := #[]
  instanceTypes := #[]
  staticTypes := #[]
  resolved := Array.replicate 7 none
  statics := none }

def pool3 : Array CpInfo := pool [(1, .class_ 2), (0, u "java/lang/Comparable"), (0, .class_ 4), (0, u "java/lang/Object")] 7

/-- java/lang/Comparable -/
def k3 : Class := { plain "java/lang/Comparable" (some 0) with
  accessFlags := 1537
  interfaces := #[]
  cf := some (fileOf pool3 1 #[] #[] 1537 3 #[] #[])
  fields := #[]
  methods := #[]
  instanceTypes := #[]
  staticTypes := #[]
  resolved := Array.replicate 12 none
  statics := none }

def pool4 : Array CpInfo := pool [(2, .class_ 4), (1, u "java/lang/CharSequence"), (42, .class_ 48), (0, u "java/lang/CharSequence$1CodePointIterator"), (10, .class_ 60), (0, u "java/lang/CharSequence$1CharIterator"), (5, .class_ 67), (0, u "java/lang/Object")] 63

/-- java/lang/CharSequence -/
def k4 : Class := { plain "java/lang/CharSequence" (some 0) with
  accessFlags := 1537
  interfaces := #[]
  cf := some (fileOf pool4 2 #[.nestMembers #[47, 59]] #[] 1537 66 #[] #[])
  fields := #[]
  methods := #[]
  instanceTypes := #[]
  staticTypes := #[]
  resolved := Array.replicate 131 none
  statics := none }

def pool5 : Array CpInfo := pool [(1, .class_ 2), (0, u "java/lang/constant/Constable"), (0, .class_ 4), (0, u "java/lang/Object")] 6

/-- java/lang/constant/Constable -/
def k5 : Class := { plain "java/lang/constant/Constable" (some 0) with
  accessFlags := 1537
  interfaces := #[]
  cf := some (fileOf pool5 1 #[] #[] 1537 3 #[] #[])
  fields := #[]
  methods := #[]
  instanceTypes := #[]
  staticTypes := #[]
  resolved := Array.replicate 11 none
  statics := none }

def pool6 : Array CpInfo := pool [(1, .class_ 2), (0, u "java/lang/constant/ConstantDesc"), (0, .class_ 4), (0, u "java/lang/Object")] 32

/-- java/lang/constant/ConstantDesc -/
def k6 : Class := { plain "java/lang/constant/ConstantDesc" (some 0) with
  accessFlags := 1537
  interfaces := #[]
  cf := some (fileOf pool6 1 #[] #[] 1537 3 #[] #[])
  fields := #[]
  methods := #[]
  instanceTypes := #[]
  staticTypes := #[]
  resolved := Array.replicate 37 none
  statics := none }

def pool7 : Array CpInfo := pool [(1, .methodref 2 3), (0, .class_ 4), (0, .nameAndType 5 6), (0, u "java/lang/Object"), (0, u "<init>"), (0, u "()V"), (2, .fieldref 10 11), (0, .class_ 12), (0, .nameAndType 13 14), (0, u "java/lang/String"), (0, u "value"), (0, u "[B"), (0, .fieldref 10 16), (0, .nameAndType 17 18), (0, u "coder"), (0, u "B"), (2, u "hash"), (0, u "I"), (2, u "hashIsZero"), (0, u "Z"), (0, .methodref 10 28), (0, .nameAndType 5 29), (0, u "([CIILjava/lang/Void;)V"), (8, .fieldref 10 39), (0, .nameAndType 40 26), (0, u "COMPACT_STRINGS"), (1, .class_ 44), (1, u "java/lang/StringUTF16"), (0, u "compress"), (1, .methodref 42 48), (0, .nameAndType 49 50), (0, u "coderFromArrayLen"), (0, u "([BI)B"), (3, .methodref 55 56), (0, .class_ 57), (0, .nameAndType 58 59), (0, u "java/util/Arrays"), (0, u "copyOfRange"), (0, u "([BII)[B"), (0, .methodref 42 61), (0, .nameAndType 62 63), (0, u "newBytesFor"), (0, u "(I)[B"), (22, .fieldref 87 88), (0, .class_ 89), (0, .nameAndType 90 91), (0, u "sun/nio/cs/UTF_8"), (0, u "INSTANCE"), (0, u "Lsun/nio/cs/UTF_8;"), (1, .class_ 95), (1, u "java/lang/StringCoding"), (6, .methodref 55 103), (0, .nameAndType 104 105), (0, u "copyOf"), (0, u "([BI)[B"), (1, .class_ 109), (1, u "java/lang/StringLatin1"), (18, .methodref 93 129), (0, .nameAndType 130 131), (0, u "hasNegatives"), (0, u "([BII)Z"), (10, u "()Z"), (34, .methodref 42 178), (0, .nameAndType 45 179), (0, u "([CII)[B"), (13, .class_ 195), (1, u "java/lang/System"), (15, u "([BB)V"), (0, .methodref 193 213), (0, .nameAndType 214 215), (0, u "arraycopy"), (0, u "(Ljava/lang/Object;ILjava/lang/Object;II)V"), (36, .methodref 10 253), (0, .nameAndType 254 255), (0, u "encodeUTF8"), (0, u "(B[BZ)[B"), (23, .methodref 280 281), (0, .class_ 14), (0, .nameAndType 282 283), (0, u "clone"), (0, u "()Ljava/lang/Object;"), (33, u "encode"), (16, u "()I"), (0, .methodref 10 336), (0, .nameAndType 17 337), (0, u "()B"), (2, u "()[B"), (148, .methodref 10 490), (0, .nameAndType 5 491), (0, u "(Ljava/lang/AbstractStringBuilder;Ljava/lang/Void;)V"), (0, .methodref 10 493), (0, .nameAndType 494 142), (0, u "isLatin1"), (10, .methodref 10 506), (0, .nameAndType 507 334), (0, u "length"), (5, u "checkFromToIndex"), (7, .methodref 10 522), (0, .nameAndType 523 524), (0, u "checkBoundsBeginEnd"), (0, u "(III)V"), (7, u "getBytes"), (2, .methodref 10 536), (0, .nameAndType 317 537), (0, u "(Ljava/nio/charset/Charset;B[B)[B"), (3, .methodref 107 542), (0, .nameAndType 543 544), (0, u "equals"), (0, u "([B[B)Z"), (4, .methodref 550 506), (0, .class_ 551), (0, u "java/lang/AbstractStringBuilder"), (0, .methodref 550 553), (0, .nameAndType 554 340), (0, u "getValue"), (18, u "(Ljava/lang/Object;)Z"), (1, .class_ 576), (0, u "java/lang/CharSequence"), (22, u "CASE_INSENSITIVE_ORDER"), (0, u "Ljava/util/Comparator;"), (32, .methodref 10 634), (0, .nameAndType 635 636), (0, u "indexOf"), (0, u "(II)I"), (0, .methodref 107 638), (0, .nameAndType 635 639), (0, u "([BIII)I"), (41, .methodref 10 682), (0, .nameAndType 683 684), (0, u "substring"), (0, u "(II)Ljava/lang/String;"), (0, .methodref 107 686), (0, .nameAndType 687 688), (0, u "newString"), (0, u "([BII)Ljava/lang/String;"), (3, u "isEmpty"), (72, u "(I)I"), (55, u "([BIB)V"), (70, u "(I)Ljava/lang/String;"), (117, u "([C)V"), (36, .methodref 550 493), (5, .fieldref 1054 1055), (0, .class_ 1056), (0, .nameAndType 1057 1058), (0, u "jdk/internal/util/Preconditions"), (0, u "SIOOBE_FORMATTER"), (0, u "Ljava/util/function/BiFunction;"), (3, .methodref 1054 1063), (0, .nameAndType 513 1064), (0, u "(IIILjava/util/function/BiFunction;)I"), (36, u "serialPersistentFields"), (0, u "[Ljava/io/ObjectStreamField;"), (0, .class_ 1104), (0, u "java/lang/String$CaseInsensitiveComparator"), (1, .class_ 1107), (0, u "java/io/Serializable"), (0, .class_ 1109), (0, u "java/lang/Comparable"), (0, .class_ 1111), (0, u "java/lang/constant/Constable"), (0, .class_ 1113), (0, u "java/lang/constant/ConstantDesc"), (2, u "serialVersionUID"), (0, u "J"), (3, u "REPL"), (0, u "C"), (2, u "LATIN1"), (1, u "UTF16"), (105, u "(Ljava/lang/StringBuilder;)V"), (11, u "(Ljava/nio/charset/Charset;)[B")] 205

def k7m0 : Method := { name := "<init>", desc := "()V", sig := { parameters := [], returnType := none }, accessFlags := 1, code := none }
def k7c1 : Code := { maxStack := 5, maxLocals := 2, code := jdk_42_method_3_code, exceptionTable := #[], attributes := #[] }
def k7m1 : Method := { name := "<init>", desc := "([C)V", sig := { parameters := [(.array .char)], returnType := none }, accessFlags := 1, code := some k7c1 }
def k7c2 : Code := { maxStack := 4, maxLocals := 3, code := jdk_42_method_18_code, exceptionTable := #[], attributes := #[] }
def k7m2 : Method := { name := "encode", desc := "(Ljava/nio/charset/Charset;B[B)[B", sig := { parameters := [(.object "java/nio/charset/Charset"), .byte, (.array .byte)], returnType := some (.array .byte) }, accessFlags := 10, code := some k7c2 }
def k7c3 : Code := { maxStack := 5, maxLocals := 9, code := jdk_42_method_46_code, exceptionTable := #[], attributes := #[] }
def k7m3 : Method := { name := "encodeUTF8", desc := "(B[BZ)[B", sig := { parameters := [.byte, (.array .byte), .boolean], returnType := some (.array .byte) }, accessFlags := 10, code := some k7c3 }
def k7c4 : Code := { maxStack := 3, maxLocals := 2, code := jdk_42_method_53_code, exceptionTable := #[], attributes := #[] }
def k7m4 : Method := { name := "<init>", desc := "(Ljava/lang/StringBuilder;)V", sig := { parameters := [(.object "java/lang/StringBuilder")], returnType := none }, accessFlags := 1, code := some k7c4 }
def k7c5 : Code := { maxStack := 2, maxLocals := 1, code := jdk_42_method_54_code, exceptionTable := #[], attributes := #[] }
def k7m5 : Method := { name := "length", desc := "()I", sig := { parameters := [], returnType := some .int }, accessFlags := 1, code := some k7c5 }
def k7c6 : Code := { maxStack := 1, maxLocals := 1, code := jdk_42_method_55_code, exceptionTable := #[], attributes := #[] }
def k7m6 : Method := { name := "isEmpty", desc := "()Z", sig := { parameters := [], returnType := some .boolean }, accessFlags := 1, code := some k7c6 }
def k7c7 : Code := { maxStack := 3, maxLocals := 2, code := jdk_42_method_64_code, exceptionTable := #[], attributes := #[] }
def k7m7 : Method := { name := "getBytes", desc := "(Ljava/nio/charset/Charset;)[B", sig := { parameters := [(.object "java/nio/charset/Charset")], returnType := some (.array .byte) }, accessFlags := 1, code := some k7c7 }
def k7c8 : Code := { maxStack := 2, maxLocals := 3, code := jdk_42_method_66_code, exceptionTable := #[], attributes := #[] }
def k7m8 : Method := { name := "equals", desc := "(Ljava/lang/Object;)Z", sig := { parameters := [(.object "java/lang/Object")], returnType := some .boolean }, accessFlags := 1, code := some k7c8 }
def k7c9 : Code := { maxStack := 3, maxLocals := 2, code := jdk_42_method_79_code, exceptionTable := #[], attributes := #[] }
def k7m9 : Method := { name := "indexOf", desc := "(I)I", sig := { parameters := [.int], returnType := some .int }, accessFlags := 1, code := some k7c9 }
def k7c10 : Code := { maxStack := 4, maxLocals := 3, code := jdk_42_method_80_code, exceptionTable := #[], attributes := #[] }
def k7m10 : Method := { name := "indexOf", desc := "(II)I", sig := { parameters := [.int, .int], returnType := some .int }, accessFlags := 1, code := some k7c10 }
def k7c11 : Code := { maxStack := 3, maxLocals := 2, code := jdk_42_method_91_code, exceptionTable := #[], attributes := #[] }
def k7m11 : Method := { name := "substring", desc := "(I)Ljava/lang/String;", sig := { parameters := [.int], returnType := some (.object "java/lang/String") }, accessFlags := 1, code := some k7c11 }
def k7c12 : Code := { maxStack := 3, maxLocals := 5, code := jdk_42_method_92_code, exceptionTable := #[], attributes := #[] }
def k7m12 : Method := { name := "substring", desc := "(II)Ljava/lang/String;", sig := { parameters := [.int, .int], returnType := some (.object "java/lang/String") }, accessFlags := 1, code := some k7c12 }
def k7c13 : Code := { maxStack := 5, maxLocals := 4, code := jdk_42_method_147_code, exceptionTable := #[], attributes := #[] }
def k7m13 : Method := { name := "getBytes", desc := "([BIB)V", sig := { parameters := [(.array .byte), .int, .byte], returnType := none }, accessFlags := 0, code := some k7c13 }
def k7c14 : Code := { maxStack := 4, maxLocals := 6, code := jdk_42_method_149_code, exceptionTable := #[], attributes := #[] }
def k7m14 : Method := { name := "<init>", desc := "([CIILjava/lang/Void;)V", sig := { parameters := [(.array .char), .int, .int, (.object "java/lang/Void")], returnType := none }, accessFlags := 2, code := some k7c14 }
def k7c15 : Code := { maxStack := 5, maxLocals := 5, code := jdk_42_method_150_code, exceptionTable := #[], attributes := #[] }
def k7m15 : Method := { name := "<init>", desc := "(Ljava/lang/AbstractStringBuilder;Ljava/lang/Void;)V", sig := { parameters := [(.object "java/lang/AbstractStringBuilder"), (.object "java/lang/Void")], returnType := none }, accessFlags := 0, code := some k7c15 }
def k7c16 : Code := { maxStack := 2, maxLocals := 3, code := jdk_42_method_151_code, exceptionTable := #[], attributes := #[] }
def k7m16 : Method := { name := "<init>", desc := "([BB)V", sig := { parameters := [(.array .byte), .byte], returnType := none }, accessFlags := 0, code := some k7c16 }
def k7c17 : Code := { maxStack := 1, maxLocals := 1, code := jdk_42_method_152_code, exceptionTable := #[], attributes := #[] }
def k7m17 : Method := { name := "coder", desc := "()B", sig := { parameters := [], returnType := some .byte }, accessFlags := 0, code := some k7c17 }
def k7c18 : Code := { maxStack := 1, maxLocals := 1, code := jdk_42_method_154_code, exceptionTable := #[], attributes := #[] }
def k7m18 : Method := { name := "isLatin1", desc := "()Z", sig := { parameters := [], returnType := some .boolean }, accessFlags := 0, code := some k7c18 }
def k7c19 : Code := { maxStack := 4, maxLocals := 3, code := jdk_42_method_158_code, exceptionTable := #[], attributes := #[] }
def k7m19 : Method := { name := "checkBoundsBeginEnd", desc := "(III)V", sig := { parameters := [.int, .int, .int], returnType := none }, accessFlags := 8, code := some k7c19 }
/-- java/lang/String -/
def k7 : Class := { plain "java/lang/String" (some 0) with
  accessFlags := 49
  interfaces := #[2, 3, 4, 5, 6]
  cf := some (fileOf pool7 10 #[.nestMembers #[1103]] #[{ accessFlags := 1, nameIndex := 5, descriptorIndex := 6, attributes := #[] }, { accessFlags := 1, nameIndex := 5, descriptorIndex := 1010, attributes := #[] }, { accessFlags := 10, nameIndex := 317, descriptorIndex := 537, attributes := #[] }, { accessFlags := 10, nameIndex := 254, descriptorIndex := 255, attributes := #[] }, { accessFlags := 1, nameIndex := 5, descriptorIndex := 1233, attributes := #[] }, { accessFlags := 1, nameIndex := 507, descriptorIndex := 334, attributes := #[] }, { accessFlags := 1, nameIndex := 692, descriptorIndex := 142, attributes := #[] }, { accessFlags := 1, nameIndex := 532, descriptorIndex := 1245, attributes := #[] }, { accessFlags := 1, nameIndex := 543, descriptorIndex := 573, attributes := #[] }, { accessFlags := 1, nameIndex := 635, descriptorIndex := 765, attributes := #[] }, { accessFlags := 1, nameIndex := 635, descriptorIndex := 636, attributes := #[] }, { accessFlags := 1, nameIndex := 683, descriptorIndex := 892, attributes := #[] }, { accessFlags := 1, nameIndex := 683, descriptorIndex := 684, attributes := #[] }, { accessFlags := 0, nameIndex := 532, descriptorIndex := 821, attributes := #[] }, { accessFlags := 2, nameIndex := 5, descriptorIndex := 29, attributes := #[] }, { accessFlags := 0, nameIndex := 5, descriptorIndex := 491, attributes := #[] }, { accessFlags := 0, nameIndex := 5, descriptorIndex := 211, attributes := #[] }, { accessFlags := 0, nameIndex := 17, descriptorIndex := 337, attributes := #[] }, { accessFlags := 0, nameIndex := 494, descriptorIndex := 142, attributes := #[] }, { accessFlags := 8, nameIndex := 523, descriptorIndex := 524, attributes := #[] }] 49 2 #[1106, 1108, 575, 1110, 1112] #[{ accessFlags := 18, nameIndex := 13, descriptorIndex := 14, attributes := #[] }, { accessFlags := 18, nameIndex := 17, descriptorIndex := 18, attributes := #[] }, { accessFlags := 2, nameIndex := 21, descriptorIndex := 22, attributes := #[] }, { accessFlags := 2, nameIndex := 25, descriptorIndex := 26, attributes := #[] }, { accessFlags := 26, nameIndex := 1116, descriptorIndex := 1117, attributes := #[] }, { accessFlags := 24, nameIndex := 40, descriptorIndex := 26, attributes := #[] }, { accessFlags := 26, nameIndex := 1101, descriptorIndex := 1102, attributes := #[] }, { accessFlags := 26, nameIndex := 1121, descriptorIndex := 1122, attributes := #[] }, { accessFlags := 25, nameIndex := 599, descriptorIndex := 600, attributes := #[] }, { accessFlags := 24, nameIndex := 1125, descriptorIndex := 18, attributes := #[] }, { accessFlags := 24, nameIndex := 1127, descriptorIndex := 18, attributes := #[] }])
  fields := #[{ name := "value", type := (.array .byte), accessFlags := 18, slot := 0, constantValue := 0 }, { name := "coder", type := .byte, accessFlags := 18, slot := 1, constantValue := 0 }, { name := "hash", type := .int, accessFlags := 2, slot := 2, constantValue := 0 }, { name := "hashIsZero", type := .boolean, accessFlags := 2, slot := 3, constantValue := 0 }, { name := "serialVersionUID", type := .long, accessFlags := 26, slot := 0, constantValue := 0 }, { name := "COMPACT_STRINGS", type := .boolean, accessFlags := 24, slot := 1, constantValue := 0 }, { name := "serialPersistentFields", type := (.array (.object "java/io/ObjectStreamField")), accessFlags := 26, slot := 2, constantValue := 0 }, { name := "REPL", type := .char, accessFlags := 26, slot := 3, constantValue := 0 }, { name := "CASE_INSENSITIVE_ORDER", type := (.object "java/util/Comparator"), accessFlags := 25, slot := 4, constantValue := 0 }, { name := "LATIN1", type := .byte, accessFlags := 24, slot := 5, constantValue := 0 }, { name := "UTF16", type := .byte, accessFlags := 24, slot := 6, constantValue := 0 }]
  methods := #[k7m0, k7m1, k7m2, k7m3, k7m4, k7m5, k7m6, k7m7, k7m8, k7m9, k7m10, k7m11, k7m12, k7m13, k7m14, k7m15, k7m16, k7m17, k7m18, k7m19]
  instanceTypes := #[(.array .byte), .byte, .int, .boolean]
  staticTypes := #[.long, .boolean, (.array (.object "java/io/ObjectStreamField")), .char, (.object "java/util/Comparator"), .byte, .byte]
  resolved := Array.replicate 1451 none
  statics := some 0 }

def pool8 : Array CpInfo := pool [(6, .class_ 8), (1, u "java/lang/Object"), (0, u "<init>"), (0, u "()V"), (0, .methodref 12 13), (0, .class_ 14), (0, .nameAndType 15 16), (0, u "java/lang/StringUTF16"), (0, u "newBytesLength"), (0, u "(I)I"), (3, .integer 1073741823), (25, u "$assertionsDisabled"), (0, u "Z"), (13, u "HI_BYTE_SHIFT"), (0, u "I"), (2, u "LO_BYTE_SHIFT"), (43, u "newBytesFor"), (0, u "(I)[B"), (4, .methodref 12 116), (0, .nameAndType 117 118), (0, u "compress"), (0, u "([CI[BII)I"), (3, u "([CII)[B"), (138, u "coderFromArrayLen"), (0, u "([BI)B"), (106, .class_ 371), (1, u "java/lang/StringUTF16$LinesSpliterator"), (58, u "MAX_LENGTH"), (196, .class_ 628), (0, u "java/lang/StringUTF16$CodePointsSpliterator"), (0, .class_ 630), (0, u "java/lang/StringUTF16$CharsSpliterator")] 4

def k8m0 : Method := { name := "<init>", desc := "()V", sig := { parameters := [], returnType := none }, accessFlags := 0, code := none }
def k8c1 : Code := { maxStack := 1, maxLocals := 1, code := jdk_52_method_2_code, exceptionTable := #[], attributes := #[] }
def k8m1 : Method := { name := "newBytesFor", desc := "(I)[B", sig := { parameters := [.int], returnType := some (.array .byte) }, accessFlags := 9, code := some k8c1 }
def k8c2 : Code := { maxStack := 4, maxLocals := 1, code := jdk_52_method_3_code, exceptionTable := #[], attributes := #[] }
def k8m2 : Method := { name := "newBytesLength", desc := "(I)I", sig := { parameters := [.int], returnType := some .int }, accessFlags := 9, code := some k8c2 }
def k8c3 : Code := { maxStack := 2, maxLocals := 2, code := jdk_52_method_15_code, exceptionTable := #[], attributes := #[] }
def k8m3 : Method := { name := "coderFromArrayLen", desc := "([BI)B", sig := { parameters := [(.array .byte), .int], returnType := some .byte }, accessFlags := 8, code := some k8c3 }
def k8c4 : Code := { maxStack := 5, maxLocals := 6, code := jdk_52_method_16_code, exceptionTable := #[], attributes := #[] }
def k8m4 : Method := { name := "compress", desc := "([CII)[B", sig := { parameters := [(.array .char), .int, .int], returnType := some (.array .byte) }, accessFlags := 9, code := some k8c4 }
def k8c5 : Code := { maxStack := 3, maxLocals := 7, code := jdk_52_method_21_code, exceptionTable := #[], attributes := #[] }
def k8m5 : Method := { name := "compress", desc := "([CI[BII)I", sig := { parameters := [(.array .char), .int, (.array .byte), .int, .int], returnType := some .int }, accessFlags := 9, code := some k8c5 }
/-- java/lang/StringUTF16 -/
def k8 : Class := { plain "java/lang/StringUTF16" (some 0) with
  accessFlags := 48
  interfaces := #[]
  cf := some (fileOf pool8 12 #[.nestMembers #[627, 629, 369]] #[{ accessFlags := 0, nameIndex := 9, descriptorIndex := 10, attributes := #[] }, { accessFlags := 9, nameIndex := 109, descriptorIndex := 110, attributes := #[] }, { accessFlags := 9, nameIndex := 15, descriptorIndex := 16, attributes := #[] }, { accessFlags := 8, nameIndex := 261, descriptorIndex := 262, attributes := #[] }, { accessFlags := 9, nameIndex := 117, descriptorIndex := 122, attributes := #[] }, { accessFlags := 9, nameIndex := 117, descriptorIndex := 118, attributes := #[] }] 48 6 #[] #[{ accessFlags := 26, nameIndex := 61, descriptorIndex := 62, attributes := #[] }, { accessFlags := 26, nameIndex := 65, descriptorIndex := 62, attributes := #[] }, { accessFlags := 24, nameIndex := 430, descriptorIndex := 62, attributes := #[] }, { accessFlags := 4120, nameIndex := 46, descriptorIndex := 47, attributes := #[] }])
  fields := #[{ name := "HI_BYTE_SHIFT", type := .int, accessFlags := 26, slot := 0, constantValue := 0 }, { name := "LO_BYTE_SHIFT", type := .int, accessFlags := 26, slot := 1, constantValue := 0 }, { name := "MAX_LENGTH", type := .int, accessFlags := 24, slot := 2, constantValue := 0 }, { name := "$assertionsDisabled", type := .boolean, accessFlags := 4120, slot := 3, constantValue := 0 }]
  methods := #[k8m0, k8m1, k8m2, k8m3, k8m4, k8m5]
  instanceTypes := #[]
  staticTypes := #[.int, .int, .int, .boolean]
  resolved := Array.replicate 635 none
  statics := none }

def pool9 : Array CpInfo := pool [(1, .methodref 2 3), (0, .class_ 4), (0, .nameAndType 5 6), (0, u "java/lang/Object"), (0, u "<init>"), (0, u "()V"), (0, .fieldref 8 9), (0, .class_ 10), (0, .nameAndType 11 12), (0, u "com/example/turnlock/turnlock/session/DigestCredentials"), (0, u "user"), (0, u "Ljava/lang/String;"), (0, .fieldref 8 14), (0, .nameAndType 15 12), (0, u "password"), (0, .string 11), (0, .methodref 18 19), (0, .class_ 20), (0, .nameAndType 21 22), (0, u "java/util/Objects"), (0, u "requireNonNull"), (0, u "(Ljava/lang/Object;Ljava/lang/String;)Ljava/lang/Object;"), (0, .string 15), (0, .methodref 25 26), (0, .class_ 27), (0, .nameAndType 28 29), (0, u "java/lang/String"), (0, u "isEmpty"), (0, u "()Z"), (7, .methodref 25 38), (0, .nameAndType 39 40), (0, u "indexOf"), (0, u "(I)I"), (2, .class_ 44), (0, u "java/lang/StringBuilder"), (0, .methodref 43 3), (2, .methodref 43 49), (0, .nameAndType 50 51), (0, u "append"), (0, u "(Ljava/lang/String;)Ljava/lang/StringBuilder;"), (2, .methodref 43 55), (0, .nameAndType 56 57), (0, u "toString"), (0, u "()Ljava/lang/String;"), (0, .methodref 8 59), (0, .nameAndType 5 60), (0, u "(Ljava/lang/String;Ljava/lang/String;)V"), (0, .string 62), (0, u "userAndPassword"), (4, .methodref 25 68), (0, .nameAndType 69 70), (0, u "substring"), (0, u "(II)Ljava/lang/String;"), (0, .methodref 25 72), (0, .nameAndType 69 73), (0, u "(I)Ljava/lang/String;"), (0, .methodref 8 75), (0, .nameAndType 76 77), (0, u "of"), (0, u "(Ljava/lang/String;Ljava/lang/String;)Lcom/example/turnlock/turnlock/session/DigestCredentials;"), (0, .string 79), (0, u ":"), (0, .fieldref 81 82), (0, .class_ 83), (0, .nameAndType 84 85), (0, u "java/nio/charset/StandardCharsets"), (0, u "UTF_8"), (0, u "Ljava/nio/charset/Charset;"), (0, .methodref 25 87), (0, .nameAndType 88 89), (0, u "getBytes"), (0, u "(Ljava/nio/charset/Charset;)[B"), (5, u "parse"), (0, u "(Ljava/lang/String;)Lcom/example/turnlock/turnlock/session/DigestCredentials;"), (0, u "authData"), (0, u "()[B")] 2

def k9c0 : Code := { maxStack := 2, maxLocals := 3, code := prog_15_method_1_code, exceptionTable := #[], attributes := #[] }
def k9m0 : Method := { name := "<init>", desc := "(Ljava/lang/String;Ljava/lang/String;)V", sig := { parameters := [(.object "java/lang/String"), (.object "java/lang/String")], returnType := none }, accessFlags := 2, code := some k9c0 }
def k9c1 : Code := { maxStack := 4, maxLocals := 2, code := prog_15_method_2_code, exceptionTable := #[], attributes := #[] }
def k9m1 : Method := { name := "of", desc := "(Ljava/lang/String;Ljava/lang/String;)Lcom/example/turnlock/turnlock/session/DigestCredentials;", sig := { parameters := [(.object "java/lang/String"), (.object "java/lang/String")], returnType := some (.object "com/example/turnlock/turnlock/session/DigestCredentials") }, accessFlags := 9, code := some k9c1 }
def k9c2 : Code := { maxStack := 4, maxLocals := 2, code := prog_15_method_3_code, exceptionTable := #[], attributes := #[] }
def k9m2 : Method := { name := "parse", desc := "(Ljava/lang/String;)Lcom/example/turnlock/turnlock/session/DigestCredentials;", sig := { parameters := [(.object "java/lang/String")], returnType := some (.object "com/example/turnlock/turnlock/session/DigestCredentials") }, accessFlags := 9, code := some k9c2 }
def k9c3 : Code := { maxStack := 1, maxLocals := 1, code := prog_15_method_4_code, exceptionTable := #[], attributes := #[] }
def k9m3 : Method := { name := "user", desc := "()Ljava/lang/String;", sig := { parameters := [], returnType := some (.object "java/lang/String") }, accessFlags := 1, code := some k9c3 }
def k9c4 : Code := { maxStack := 2, maxLocals := 1, code := prog_15_method_5_code, exceptionTable := #[], attributes := #[] }
def k9m4 : Method := { name := "authData", desc := "()[B", sig := { parameters := [], returnType := some (.array .byte) }, accessFlags := 0, code := some k9c4 }
/-- com/example/turnlock/turnlock/session/DigestCredentials -/
def k9 : Class := { plain "com/example/turnlock/turnlock/session/DigestCredentials" (some 0) with
  accessFlags := 49
  interfaces := #[]
  cf := some (fileOf pool9 8 #[] #[{ accessFlags := 2, nameIndex := 5, descriptorIndex := 60, attributes := #[] }, { accessFlags := 9, nameIndex := 76, descriptorIndex := 77, attributes := #[] }, { accessFlags := 9, nameIndex := 95, descriptorIndex := 96, attributes := #[] }, { accessFlags := 1, nameIndex := 11, descriptorIndex := 57, attributes := #[] }, { accessFlags := 0, nameIndex := 97, descriptorIndex := 98, attributes := #[] }] 49 2 #[] #[{ accessFlags := 18, nameIndex := 11, descriptorIndex := 12, attributes := #[] }, { accessFlags := 18, nameIndex := 15, descriptorIndex := 12, attributes := #[] }])
  fields := #[{ name := "user", type := (.object "java/lang/String"), accessFlags := 18, slot := 0, constantValue := 0 }, { name := "password", type := (.object "java/lang/String"), accessFlags := 18, slot := 1, constantValue := 0 }]
  methods := #[k9m0, k9m1, k9m2, k9m3, k9m4]
  instanceTypes := #[(.object "java/lang/String"), (.object "java/lang/String")]
  staticTypes := #[]
  resolved := Array.replicate 101 none
  statics := none }

def pool10 : Array CpInfo := pool [(2, .class_ 4), (1, u "java/lang/Object"), (0, u "<init>"), (0, u "()V"), (35, .class_ 44), (1, u "java/util/Objects"), (0, u "requireNonNull"), (48, u "(Ljava/lang/Object;Ljava/lang/String;)Ljava/lang/Object;")] 89

def k10m0 : Method := { name := "<init>", desc := "()V", sig := { parameters := [], returnType := none }, accessFlags := 2, code := none }
def k10c1 : Code := { maxStack := 3, maxLocals := 2, code := jdk_31_method_11_code, exceptionTable := #[], attributes := #[] }
def k10m1 : Method := { name := "requireNonNull", desc := "(Ljava/lang/Object;Ljava/lang/String;)Ljava/lang/Object;", sig := { parameters := [(.object "java/lang/Object"), (.object "java/lang/String")], returnType := some (.object "java/lang/Object") }, accessFlags := 9, code := some k10c1 }
/-- java/util/Objects -/
def k10 : Class := { plain "java/util/Objects" (some 0) with
  accessFlags := 49
  interfaces := #[]
  cf := some (fileOf pool10 42 #[] #[{ accessFlags := 2, nameIndex := 5, descriptorIndex := 6, attributes := #[] }, { accessFlags := 9, nameIndex := 45, descriptorIndex := 94, attributes := #[] }] 49 2 #[] #[])
  fields := #[]
  methods := #[k10m0, k10m1]
  instanceTypes := #[]
  staticTypes := #[]
  resolved := Array.replicate 184 none
  statics := none }

def pool11 : Array CpInfo := pool [(1, .class_ 2), (0, u "java/lang/String"), (1, .class_ 6), (1, u "java/lang/Object"), (0, u "<init>"), (0, u "()V"), (5, .class_ 16), (1, u "java/lang/StringLatin1"), (21, .methodref 39 40), (0, .class_ 41), (0, .nameAndType 42 43), (0, u "java/lang/Math"), (0, u "min"), (0, u "(II)I"), (44, .methodref 14 89), (0, .nameAndType 90 91), (0, u "canEncode"), (0, u "(I)Z"), (0, .methodref 39 93), (0, .nameAndType 94 43), (0, u "max"), (0, .methodref 14 96), (0, .nameAndType 97 98), (0, u "indexOfChar"), (0, u "([BIII)I"), (2, u "indexOf"), (10, .methodref 1 113), (0, .nameAndType 7 114), (0, u "([BB)V"), (6, u "$assertionsDisabled"), (0, u "Z"), (8, .class_ 133), (1, u "java/util/Arrays"), (62, u "newString"), (0, u "([BII)Ljava/lang/String;"), (23, .class_ 223), (1, u "java/lang/StringLatin1$LinesSpliterator"), (8, .methodref 131 233), (0, .nameAndType 234 235), (0, u "copyOfRange"), (0, u "([BII)[B"), (45, u "equals"), (0, u "([B[B)Z"), (107, .class_ 391), (0, u "java/lang/StringLatin1$CharsSpliterator")] 3

def k11m0 : Method := { name := "<init>", desc := "()V", sig := { parameters := [], returnType := none }, accessFlags := 0, code := none }
def k11c1 : Code := { maxStack := 2, maxLocals := 1, code := jdk_43_method_4_code, exceptionTable := #[], attributes := #[] }
def k11m1 : Method := { name := "canEncode", desc := "(I)Z", sig := { parameters := [.int], returnType := some .boolean }, accessFlags := 9, code := some k11c1 }
def k11c2 : Code := { maxStack := 3, maxLocals := 3, code := jdk_43_method_13_code, exceptionTable := #[], attributes := #[] }
def k11m2 : Method := { name := "equals", desc := "([B[B)Z", sig := { parameters := [(.array .byte), (.array .byte)], returnType := some .boolean }, accessFlags := 9, code := some k11c2 }
def k11c3 : Code := { maxStack := 4, maxLocals := 4, code := jdk_43_method_22_code, exceptionTable := #[], attributes := #[] }
def k11m3 : Method := { name := "indexOf", desc := "([BIII)I", sig := { parameters := [(.array .byte), .int, .int, .int], returnType := some .int }, accessFlags := 9, code := some k11c3 }
def k11c4 : Code := { maxStack := 2, maxLocals := 6, code := jdk_43_method_23_code, exceptionTable := #[], attributes := #[] }
def k11m4 : Method := { name := "indexOfChar", desc := "([BIII)I", sig := { parameters := [(.array .byte), .int, .int, .int], returnType := some .int }, accessFlags := 10, code := some k11c4 }
def k11c5 : Code := { maxStack := 6, maxLocals := 3, code := jdk_43_method_47_code, exceptionTable := #[], attributes := #[] }
def k11m5 : Method := { name := "newString", desc := "([BII)Ljava/lang/String;", sig := { parameters := [(.array .byte), .int, .int], returnType := some (.object "java/lang/String") }, accessFlags := 9, code := some k11c5 }
/-- java/lang/StringLatin1 -/
def k11 : Class := { plain "java/lang/StringLatin1" (some 0) with
  accessFlags := 48
  interfaces := #[]
  cf := some (fileOf pool11 14 #[.nestMembers #[390, 221]] #[{ accessFlags := 0, nameIndex := 7, descriptorIndex := 8, attributes := #[] }, { accessFlags := 9, nameIndex := 90, descriptorIndex := 91, attributes := #[] }, { accessFlags := 9, nameIndex := 281, descriptorIndex := 282, attributes := #[] }, { accessFlags := 9, nameIndex := 101, descriptorIndex := 98, attributes := #[] }, { accessFlags := 10, nameIndex := 97, descriptorIndex := 98, attributes := #[] }, { accessFlags := 9, nameIndex := 196, descriptorIndex := 197, attributes := #[] }] 48 4 #[] #[{ accessFlags := 4120, nameIndex := 121, descriptorIndex := 122, attributes := #[] }])
  fields := #[{ name := "$assertionsDisabled", type := .boolean, accessFlags := 4120, slot := 0, constantValue := 0 }]
  methods := #[k11m0, k11m1, k11m2, k11m3, k11m4, k11m5]
  instanceTypes := #[]
  staticTypes := #[.boolean]
  resolved := Array.replicate 395 none
  statics := none }

def pool12 : Array CpInfo := pool [(1, .class_ 2), (0, u "java/lang/Math"), (1, .class_ 6), (1, u "java/lang/Object"), (0, u "<init>"), (0, u "()V"), (89, .class_ 100), (1, u "java/lang/Math$RandomNumberGeneratorHolder"), (71, u "negativeZeroFloatBits"), (0, u "J"), (2, u "negativeZeroDoubleBits"), (21, u "max"), (2, u "min"), (43, u "$assertionsDisabled"), (0, u "Z"), (88, u "(II)I"), (2, u "twoToTheDoubleScaleDown"), (0, u "D"), (4, u "twoToTheDoubleScaleUp"), (9, u "E"), (3, u "PI"), (2, u "TAU"), (2, u "DEGREES_TO_RADIANS"), (0, u "RADIANS_TO_DEGREES")] 94

def k12m0 : Method := { name := "<init>", desc := "()V", sig := { parameters := [], returnType := none }, accessFlags := 2, code := none }
def k12c1 : Code := { maxStack := 2, maxLocals := 2, code := jdk_29_method_65_code, exceptionTable := #[], attributes := #[] }
def k12m1 : Method := { name := "max", desc := "(II)I", sig := { parameters := [.int, .int], returnType := some .int }, accessFlags := 9, code := some k12c1 }
def k12c2 : Code := { maxStack := 2, maxLocals := 2, code := jdk_29_method_69_code, exceptionTable := #[], attributes := #[] }
def k12m2 : Method := { name := "min", desc := "(II)I", sig := { parameters := [.int, .int], returnType := some .int }, accessFlags := 9, code := some k12c2 }
/-- java/lang/Math -/
def k12 : Class := { plain "java/lang/Math" (some 0) with
  accessFlags := 49
  interfaces := #[]
  cf := some (fileOf pool12 1 #[.nestMembers #[98]] #[{ accessFlags := 2, nameIndex := 7, descriptorIndex := 8, attributes := #[] }, { accessFlags := 9, nameIndex := 198, descriptorIndex := 335, attributes := #[] }, { accessFlags := 9, nameIndex := 201, descriptorIndex := 335, attributes := #[] }] 49 4 #[] #[{ accessFlags := 25, nameIndex := 354, descriptorIndex := 339, attributes := #[] }, { accessFlags := 25, nameIndex := 358, descriptorIndex := 339, attributes := #[] }, { accessFlags := 25, nameIndex := 361, descriptorIndex := 339, attributes := #[] }, { accessFlags := 26, nameIndex := 364, descriptorIndex := 339, attributes := #[] }, { accessFlags := 26, nameIndex := 365, descriptorIndex := 339, attributes := #[] }, { accessFlags := 26, nameIndex := 172, descriptorIndex := 173, attributes := #[] }, { accessFlags := 26, nameIndex := 176, descriptorIndex := 173, attributes := #[] }, { accessFlags := 8, nameIndex := 344, descriptorIndex := 339, attributes := #[] }, { accessFlags := 8, nameIndex := 338, descriptorIndex := 339, attributes := #[] }, { accessFlags := 4120, nameIndex := 245, descriptorIndex := 246, attributes := #[] }])
  fields := #[{ name := "E", type := .double, accessFlags := 25, slot := 0, constantValue := 0 }, { name := "PI", type := .double, accessFlags := 25, slot := 1, constantValue := 0 }, { name := "TAU", type := .double, accessFlags := 25, slot := 2, constantValue := 0 }, { name := "DEGREES_TO_RADIANS", type := .double, accessFlags := 26, slot := 3, constantValue := 0 }, { name := "RADIANS_TO_DEGREES", type := .double, accessFlags := 26, slot := 4, constantValue := 0 }, { name := "negativeZeroFloatBits", type := .long, accessFlags := 26, slot := 5, constantValue := 0 }, { name := "negativeZeroDoubleBits", type := .long, accessFlags := 26, slot := 6, constantValue := 0 }, { name := "twoToTheDoubleScaleUp", type := .double, accessFlags := 8, slot := 7, constantValue := 0 }, { name := "twoToTheDoubleScaleDown", type := .double, accessFlags := 8, slot := 8, constantValue := 0 }, { name := "$assertionsDisabled", type := .boolean, accessFlags := 4120, slot := 9, constantValue := 0 }]
  methods := #[k12m0, k12m1, k12m2]
  instanceTypes := #[]
  staticTypes := #[.double, .double, .double, .double, .double, .long, .long, .double, .double, .boolean]
  resolved := Array.replicate 460 none
  statics := none }

def pool13 : Array CpInfo := pool [(2, .class_ 4), (1, u "java/lang/Object"), (0, u "<init>"), (0, u "()V"), (17, .class_ 26), (1, u "jdk/internal/util/Preconditions"), (20, u "checkFromToIndex"), (7, .class_ 56), (0, u "jdk/internal/util/Preconditions$4"), (57, .class_ 115), (0, u "jdk/internal/util/Preconditions$1"), (7, u "SIOOBE_FORMATTER"), (0, u "Ljava/util/function/BiFunction;"), (0, .class_ 126), (0, u "jdk/internal/util/Preconditions$2"), (3, u "AIOOBE_FORMATTER"), (0, .class_ 132), (0, u "jdk/internal/util/Preconditions$3"), (3, u "IOOBE_FORMATTER"), (46, u "(IIILjava/util/function/BiFunction;)I")] 10

def k13m0 : Method := { name := "<init>", desc := "()V", sig := { parameters := [], returnType := none }, accessFlags := 1, code := none }
def k13c1 : Code := { maxStack := 4, maxLocals := 4, code := jdk_41_method_12_code, exceptionTable := #[], attributes := #[] }
def k13m1 : Method := { name := "checkFromToIndex", desc := "(IIILjava/util/function/BiFunction;)I", sig := { parameters := [.int, .int, .int, (.object "java/util/function/BiFunction")], returnType := some .int }, accessFlags := 9, code := some k13c1 }
/-- jdk/internal/util/Preconditions -/
def k13 : Class := { plain "jdk/internal/util/Preconditions" (some 0) with
  accessFlags := 33
  interfaces := #[]
  cf := some (fileOf pool13 24 #[.nestMembers #[55, 131, 125, 114]] #[{ accessFlags := 1, nameIndex := 5, descriptorIndex := 6, attributes := #[] }, { accessFlags := 9, nameIndex := 47, descriptorIndex := 183, attributes := #[] }] 33 2 #[] #[{ accessFlags := 25, nameIndex := 123, descriptorIndex := 124, attributes := #[] }, { accessFlags := 25, nameIndex := 130, descriptorIndex := 124, attributes := #[] }, { accessFlags := 25, nameIndex := 136, descriptorIndex := 124, attributes := #[] }])
  fields := #[{ name := "SIOOBE_FORMATTER", type := (.object "java/util/function/BiFunction"), accessFlags := 25, slot := 0, constantValue := 0 }, { name := "AIOOBE_FORMATTER", type := (.object "java/util/function/BiFunction"), accessFlags := 25, slot := 1, constantValue := 0 }, { name := "IOOBE_FORMATTER", type := (.object "java/util/function/BiFunction"), accessFlags := 25, slot := 2, constantValue := 0 }]
  methods := #[k13m0, k13m1]
  instanceTypes := #[]
  staticTypes := #[(.object "java/util/function/BiFunction"), (.object "java/util/function/BiFunction"), (.object "java/util/function/BiFunction")]
  resolved := Array.replicate 194 none
  statics := some 1 }

def pool14 : Array CpInfo := pool [(2, .class_ 4), (1, u "java/lang/Object"), (0, u "<init>"), (0, u "()V"), (7, .class_ 16), (1, u "java/util/Arrays"), (57, .class_ 76), (1, u "java/util/Arrays$NaturalOrder"), (36, .class_ 115), (1, u "java/util/Arrays$LegacyMergeSort"), (1, u "Z"), (21, u "copyOfRange"), (10, .methodref 151 152), (0, .class_ 153), (0, .nameAndType 154 155), (0, u "java/lang/System"), (0, u "arraycopy"), (0, u "(Ljava/lang/Object;ILjava/lang/Object;II)V"), (146, u "copyOf"), (1, .methodref 305 306), (0, .class_ 307), (0, .nameAndType 308 309), (0, u "java/lang/Math"), (0, u "min"), (0, u "(II)I"), (29, .methodref 14 340), (0, .nameAndType 341 342), (0, u "copyOfRangeByte"), (0, u "([BII)[B"), (0, .methodref 14 344), (0, .nameAndType 345 346), (0, u "checkLength"), (0, u "(II)V"), (28, .class_ 376), (0, u "java/util/Arrays$ArrayList"), (68, u "$assertionsDisabled"), (269, u "MIN_ARRAY_SORT_GRAN"), (0, u "I"), (2, u "INSERTIONSORT_THRESHOLD"), (149, u "([BI)[B"), (105, .class_ 976), (0, u "java/util/Arrays$ArrayItr")] 52

def k14m0 : Method := { name := "<init>", desc := "()V", sig := { parameters := [], returnType := none }, accessFlags := 2, code := none }
def k14c1 : Code := { maxStack := 6, maxLocals := 3, code := jdk_65_method_121_code, exceptionTable := #[], attributes := #[] }
def k14m1 : Method := { name := "copyOf", desc := "([BI)[B", sig := { parameters := [(.array .byte), .int], returnType := some (.array .byte) }, accessFlags := 9, code := some k14c1 }
def k14c2 : Code := { maxStack := 4, maxLocals := 2, code := jdk_65_method_131_code, exceptionTable := #[], attributes := #[] }
def k14m2 : Method := { name := "checkLength", desc := "(II)V", sig := { parameters := [.int, .int], returnType := none }, accessFlags := 10, code := some k14c2 }
def k14c3 : Code := { maxStack := 3, maxLocals := 3, code := jdk_65_method_132_code, exceptionTable := #[], attributes := #[] }
def k14m3 : Method := { name := "copyOfRange", desc := "([BII)[B", sig := { parameters := [(.array .byte), .int, .int], returnType := some (.array .byte) }, accessFlags := 9, code := some k14c3 }
def k14c4 : Code := { maxStack := 6, maxLocals := 5, code := jdk_65_method_133_code, exceptionTable := #[], attributes := #[] }
def k14m4 : Method := { name := "copyOfRangeByte", desc := "([BII)[B", sig := { parameters := [(.array .byte), .int, .int], returnType := some (.array .byte) }, accessFlags := 10, code := some k14c4 }
/-- java/util/Arrays -/
def k14 : Class := { plain "java/util/Arrays" (some 0) with
  accessFlags := 49
  interfaces := #[]
  cf := some (fileOf pool14 14 #[.nestMembers #[975, 375, 113, 74]] #[{ accessFlags := 2, nameIndex := 5, descriptorIndex := 6, attributes := #[] }, { accessFlags := 9, nameIndex := 302, descriptorIndex := 869, attributes := #[] }, { accessFlags := 10, nameIndex := 345, descriptorIndex := 346, attributes := #[] }, { accessFlags := 9, nameIndex := 139, descriptorIndex := 342, attributes := #[] }, { accessFlags := 10, nameIndex := 341, descriptorIndex := 342, attributes := #[] }] 49 2 #[] #[{ accessFlags := 26, nameIndex := 715, descriptorIndex := 716, attributes := #[] }, { accessFlags := 26, nameIndex := 719, descriptorIndex := 716, attributes := #[] }, { accessFlags := 4120, nameIndex := 445, descriptorIndex := 117, attributes := #[] }])
  fields := #[{ name := "MIN_ARRAY_SORT_GRAN", type := .int, accessFlags := 26, slot := 0, constantValue := 0 }, { name := "INSERTIONSORT_THRESHOLD", type := .int, accessFlags := 26, slot := 1, constantValue := 0 }, { name := "$assertionsDisabled", type := .boolean, accessFlags := 4120, slot := 2, constantValue := 0 }]
  methods := #[k14m0, k14m1, k14m2, k14m3, k14m4]
  instanceTypes := #[]
  staticTypes := #[.int, .int, .boolean]
  resolved := Array.replicate 1029 none
  statics := none }

def pool15 : Array CpInfo := pool [(2, .class_ 4), (1, u "java/lang/Object"), (0, u "<init>"), (0, u "()V"), (1, .class_ 10), (1, u "java/lang/System"), (0, u "allowSecurityManager"), (0, u "I"), (16, u "cons"), (0, u "Ljava/io/Console;"), (77, .class_ 110), (1, u "java/lang/System$CallersHolder"), (43, u "initialErrStream"), (0, u "Ljava/io/PrintStream;"), (19, u "security"), (0, u "Ljava/lang/SecurityManager;"), (31, .class_ 209), (0, u "java/lang/System$1"), (7, u "props"), (0, u "Ljava/util/Properties;"), (2, u "lineSeparator"), (0, u "Ljava/lang/String;"), (96, .class_ 321), (1, u "java/lang/System$LoggerFinder"), (5, .class_ 328), (0, u "java/lang/System$Logger"), (67, u "err"), (2, u "out"), (91, u "notSupportedJnuEncoding"), (15, u "in"), (17, u "initialIn"), (0, u "Ljava/io/InputStream;"), (35, u "bootLayer"), (0, u "Ljava/lang/ModuleLayer;"), (99, .class_ 664), (0, u "java/lang/System$2"), (9, u "NEVER"), (2, u "MAYBE"), (49, u "arraycopy"), (0, u "(Ljava/lang/Object;ILjava/lang/Object;II)V"), (72, .class_ 802), (0, u "java/lang/System$Logger$Level")] 31

def k15m0 : Method := { name := "<init>", desc := "()V", sig := { parameters := [], returnType := none }, accessFlags := 2, code := none }
def k15m1 : Method := { name := "arraycopy", desc := "(Ljava/lang/Object;ILjava/lang/Object;II)V", sig := { parameters := [(.object "java/lang/Object"), .int, (.object "java/lang/Object"), .int, .int], returnType := none }, accessFlags := 265, code := none }
/-- java/lang/System -/
def k15 : Class := { plain "java/lang/System" (some 0) with
  accessFlags := 49
  interfaces := #[]
  cf := some (fileOf pool15 8 #[.nestMembers #[319, 327, 801, 108, 663, 208]] #[{ accessFlags := 2, nameIndex := 5, descriptorIndex := 6, attributes := #[] }, { accessFlags := 265, nameIndex := 727, descriptorIndex := 728, attributes := #[] }] 49 2 #[] #[{ accessFlags := 25, nameIndex := 507, descriptorIndex := 526, attributes := #[] }, { accessFlags := 25, nameIndex := 399, descriptorIndex := 155, attributes := #[] }, { accessFlags := 25, nameIndex := 396, descriptorIndex := 155, attributes := #[] }, { accessFlags := 10, nameIndex := 525, descriptorIndex := 526, attributes := #[] }, { accessFlags := 26, nameIndex := 674, descriptorIndex := 12, attributes := #[] }, { accessFlags := 26, nameIndex := 677, descriptorIndex := 12, attributes := #[] }, { accessFlags := 10, nameIndex := 11, descriptorIndex := 12, attributes := #[] }, { accessFlags := 74, nameIndex := 175, descriptorIndex := 176, attributes := #[] }, { accessFlags := 10, nameIndex := 491, descriptorIndex := 222, attributes := #[] }, { accessFlags := 74, nameIndex := 29, descriptorIndex := 30, attributes := #[] }, { accessFlags := 74, nameIndex := 154, descriptorIndex := 155, attributes := #[] }, { accessFlags := 10, nameIndex := 217, descriptorIndex := 218, attributes := #[] }, { accessFlags := 10, nameIndex := 221, descriptorIndex := 222, attributes := #[] }, { accessFlags := 8, nameIndex := 562, descriptorIndex := 563, attributes := #[] }])
  fields := #[{ name := "in", type := (.object "java/io/InputStream"), accessFlags := 25, slot := 0, constantValue := 0 }, { name := "out", type := (.object "java/io/PrintStream"), accessFlags := 25, slot := 1, constantValue := 0 }, { name := "err", type := (.object "java/io/PrintStream"), accessFlags := 25, slot := 2, constantValue := 0 }, { name := "initialIn", type := (.object "java/io/InputStream"), accessFlags := 10, slot := 3, constantValue := 0 }, { name := "NEVER", type := .int, accessFlags := 26, slot := 4, constantValue := 0 }, { name := "MAYBE", type := .int, accessFlags := 26, slot := 5, constantValue := 0 }, { name := "allowSecurityManager", type := .int, accessFlags := 10, slot := 6, constantValue := 0 }, { name := "security", type := (.object "java/lang/SecurityManager"), accessFlags := 74, slot := 7, constantValue := 0 }, { name := "notSupportedJnuEncoding", type := (.object "java/lang/String"), accessFlags := 10, slot := 8, constantValue := 0 }, { name := "cons", type := (.object "java/io/Console"), accessFlags := 74, slot := 9, constantValue := 0 }, { name := "initialErrStream", type := (.object "java/io/PrintStream"), accessFlags := 74, slot := 10, constantValue := 0 }, { name := "props", type := (.object "java/util/Properties"), accessFlags := 10, slot := 11, constantValue := 0 }, { name := "lineSeparator", type := (.object "java/lang/String"), accessFlags := 10, slot := 12, constantValue := 0 }, { name := "bootLayer", type := (.object "java/lang/ModuleLayer"), accessFlags := 8, slot := 13, constantValue := 0 }]
  methods := #[k15m0, k15m1]
  instanceTypes := #[]
  staticTypes := #[(.object "java/io/InputStream"), (.object "java/io/PrintStream"), (.object "java/io/PrintStream"), (.object "java/io/InputStream"), .int, .int, .int, (.object "java/lang/SecurityManager"), (.object "java/lang/String"), (.object "java/io/Console"), (.object "java/io/PrintStream"), (.object "java/util/Properties"), (.object "java/lang/String"), (.object "java/lang/ModuleLayer")]
  resolved := Array.replicate 834 none
  statics := none }

def pool16 : Array CpInfo := pool [(1, .class_ 2), (0, u "java/lang/Appendable"), (0, .class_ 4), (0, u "java/lang/Object")] 9

/-- java/lang/Appendable -/
def k16 : Class := { plain "java/lang/Appendable" (some 0) with
  accessFlags := 1537
  interfaces := #[]
  cf := some (fileOf pool16 1 #[] #[] 1537 3 #[] #[])
  fields := #[]
  methods := #[]
  instanceTypes := #[]
  staticTypes := #[]
  resolved := Array.replicate 14 none
  statics := none }

def pool17 : Array CpInfo := pool [(1, .class_ 2), (0, u "java/lang/String"), (0, .methodref 4 5), (0, .class_ 6), (0, .nameAndType 7 8), (0, u "java/lang/Object"), (0, u "<init>"), (0, u "()V"), (1, .class_ 12), (1, u "java/lang/AbstractStringBuilder"), (0, u "EMPTYVALUE"), (0, u "[B"), (0, .fieldref 10 16), (0, .nameAndType 17 14), (0, u "value"), (0, .fieldref 1 19), (0, .nameAndType 20 21), (0, u "COMPACT_STRINGS"), (0, u "Z"), (0, .fieldref 10 23), (0, .nameAndType 24 25), (0, u "coder"), (0, u "B"), (6, .methodref 1 33), (0, .nameAndType 34 35), (0, u "length"), (0, u "()I"), (4, .methodref 1 41), (0, .nameAndType 24 42), (0, u "()B"), (2, u "append"), (0, u "(Ljava/lang/String;)Ljava/lang/AbstractStringBuilder;"), (1, .class_ 49), (0, u "java/lang/CharSequence"), (19, u "(Ljava/lang/String;)V"), (5, u "maybeLatin1"), (3, .fieldref 10 80), (0, .nameAndType 81 82), (0, u "count"), (0, u "I"), (2, u "isLatin1"), (0, u "()Z"), (13, .methodref 10 101), (0, .nameAndType 102 103), (0, u "ensureCapacityInternal"), (0, u "(I)V"), (104, .methodref 10 209), (0, .nameAndType 210 211), (0, u "putStringAt"), (0, u "(ILjava/lang/String;)V"), (5, u "inflateIfNeededFor"), (2, .nameAndType 221 222), (0, u "getBytes"), (0, u "([BIB)V"), (174, .methodref 10 398), (0, .nameAndType 217 69), (0, .methodref 1 220), (3, u "()[B"), (40, .class_ 445), (0, u "java/lang/Appendable"), (106, u "getValue")] 56

def k17m0 : Method := { name := "<init>", desc := "()V", sig := { parameters := [], returnType := none }, accessFlags := 0, code := none }
def k17c1 : Code := { maxStack := 2, maxLocals := 2, code := jdk_68_method_2_code, exceptionTable := #[], attributes := #[] }
def k17m1 : Method := { name := "<init>", desc := "(I)V", sig := { parameters := [.int], returnType := none }, accessFlags := 0, code := some k17c1 }
def k17c2 : Code := { maxStack := 1, maxLocals := 1, code := jdk_68_method_6_code, exceptionTable := #[], attributes := #[] }
def k17m2 : Method := { name := "length", desc := "()I", sig := { parameters := [], returnType := some .int }, accessFlags := 1, code := some k17c2 }
def k17c3 : Code := { maxStack := 4, maxLocals := 3, code := jdk_68_method_9_code, exceptionTable := #[], attributes := #[] }
def k17m3 : Method := { name := "ensureCapacityInternal", desc := "(I)V", sig := { parameters := [.int], returnType := none }, accessFlags := 2, code := some k17c3 }
def k17c4 : Code := { maxStack := 3, maxLocals := 3, code := jdk_68_method_22_code, exceptionTable := #[], attributes := #[] }
def k17m4 : Method := { name := "append", desc := "(Ljava/lang/String;)Ljava/lang/AbstractStringBuilder;", sig := { parameters := [(.object "java/lang/String")], returnType := some (.object "java/lang/AbstractStringBuilder") }, accessFlags := 1, code := some k17c4 }
def k17c5 : Code := { maxStack := 1, maxLocals := 1, code := jdk_68_method_64_code, exceptionTable := #[], attributes := #[] }
def k17m5 : Method := { name := "getValue", desc := "()[B", sig := { parameters := [], returnType := some (.array .byte) }, accessFlags := 16, code := some k17c5 }
def k17c6 : Code := { maxStack := 1, maxLocals := 1, code := jdk_68_method_68_code, exceptionTable := #[], attributes := #[] }
def k17m6 : Method := { name := "isLatin1", desc := "()Z", sig := { parameters := [], returnType := some .boolean }, accessFlags := 16, code := some k17c6 }
def k17c7 : Code := { maxStack := 2, maxLocals := 2, code := jdk_68_method_71_code, exceptionTable := #[], attributes := #[] }
def k17m7 : Method := { name := "inflateIfNeededFor", desc := "(Ljava/lang/String;)V", sig := { parameters := [(.object "java/lang/String")], returnType := none }, accessFlags := 2, code := some k17c7 }
def k17c8 : Code := { maxStack := 4, maxLocals := 3, code := jdk_68_method_73_code, exceptionTable := #[], attributes := #[] }
def k17m8 : Method := { name := "putStringAt", desc := "(ILjava/lang/String;)V", sig := { parameters := [.int, (.object "java/lang/String")], returnType := none }, accessFlags := 2, code := some k17c8 }
/-- java/lang/AbstractStringBuilder -/
def k17 : Class := { plain "java/lang/AbstractStringBuilder" (some 0) with
  accessFlags := 1056
  interfaces := #[16, 4]
  cf := some (fileOf pool17 10 #[] #[{ accessFlags := 0, nameIndex := 7, descriptorIndex := 8, attributes := #[] }, { accessFlags := 0, nameIndex := 7, descriptorIndex := 103, attributes := #[] }, { accessFlags := 1, nameIndex := 34, descriptorIndex := 35, attributes := #[] }, { accessFlags := 2, nameIndex := 102, descriptorIndex := 103, attributes := #[] }, { accessFlags := 1, nameIndex := 45, descriptorIndex := 46, attributes := #[] }, { accessFlags := 16, nameIndex := 552, descriptorIndex := 403, attributes := #[] }, { accessFlags := 16, nameIndex := 85, descriptorIndex := 86, attributes := #[] }, { accessFlags := 2, nameIndex := 217, descriptorIndex := 69, attributes := #[] }, { accessFlags := 2, nameIndex := 210, descriptorIndex := 211, attributes := #[] }] 1056 4 #[444, 48] #[{ accessFlags := 0, nameIndex := 17, descriptorIndex := 14, attributes := #[] }, { accessFlags := 0, nameIndex := 24, descriptorIndex := 25, attributes := #[] }, { accessFlags := 0, nameIndex := 75, descriptorIndex := 21, attributes := #[] }, { accessFlags := 0, nameIndex := 81, descriptorIndex := 82, attributes := #[] }, { accessFlags := 26, nameIndex := 13, descriptorIndex := 14, attributes := #[] }])
  fields := #[{ name := "value", type := (.array .byte), accessFlags := 0, slot := 0, constantValue := 0 }, { name := "coder", type := .byte, accessFlags := 0, slot := 1, constantValue := 0 }, { name := "maybeLatin1", type := .boolean, accessFlags := 0, slot := 2, constantValue := 0 }, { name := "count", type := .int, accessFlags := 0, slot := 3, constantValue := 0 }, { name := "EMPTYVALUE", type := (.array .byte), accessFlags := 26, slot := 0, constantValue := 0 }]
  methods := #[k17m0, k17m1, k17m2, k17m3, k17m4, k17m5, k17m6, k17m7, k17m8]
  instanceTypes := #[(.array .byte), .byte, .boolean, .int]
  staticTypes := #[(.array .byte)]
  resolved := Array.replicate 609 none
  statics := none }

def pool18 : Array CpInfo := pool [(1, .methodref 2 3), (0, .class_ 4), (0, .nameAndType 5 6), (0, u "java/lang/AbstractStringBuilder"), (0, u "<init>"), (0, u "(I)V"), (11, .class_ 20), (1, u "java/lang/String"), (3, .class_ 26), (1, u "java/lang/StringBuilder"), (0, u "append"), (0, u "(Ljava/lang/String;)Ljava/lang/StringBuilder;"), (0, .methodref 2 30), (0, .nameAndType 27 31), (0, u "(Ljava/lang/String;)Ljava/lang/AbstractStringBuilder;"), (105, .methodref 18 138), (0, .nameAndType 5 139), (0, u "(Ljava/lang/StringBuilder;)V"), (5, u "()V"), (10, u "()I"), (186, .methodref 2 344), (0, .nameAndType 345 156), (0, u "length"), (3, .class_ 350), (0, u "java/lang/Appendable"), (0, .class_ 352), (0, u "java/io/Serializable"), (0, .class_ 354), (0, u "java/lang/Comparable"), (0, .class_ 356), (0, u "java/lang/CharSequence"), (0, u "serialVersionUID"), (0, u "J"), (40, u "toString"), (0, u "()Ljava/lang/String;")] 21

def k18c0 : Code := { maxStack := 2, maxLocals := 1, code := jdk_67_method_1_code, exceptionTable := #[], attributes := #[] }
def k18m0 : Method := { name := "<init>", desc := "()V", sig := { parameters := [], returnType := none }, accessFlags := 1, code := some k18c0 }
def k18c1 : Code := { maxStack := 2, maxLocals := 2, code := jdk_67_method_7_code, exceptionTable := #[], attributes := #[] }
def k18m1 : Method := { name := "append", desc := "(Ljava/lang/String;)Ljava/lang/StringBuilder;", sig := { parameters := [(.object "java/lang/String")], returnType := some (.object "java/lang/StringBuilder") }, accessFlags := 1, code := some k18c1 }
def k18c2 : Code := { maxStack := 3, maxLocals := 1, code := jdk_67_method_42_code, exceptionTable := #[], attributes := #[] }
def k18m2 : Method := { name := "toString", desc := "()Ljava/lang/String;", sig := { parameters := [], returnType := some (.object "java/lang/String") }, accessFlags := 1, code := some k18c2 }
def k18c3 : Code := { maxStack := 1, maxLocals := 1, code := jdk_67_method_93_code, exceptionTable := #[], attributes := #[] }
def k18m3 : Method := { name := "length", desc := "()I", sig := { parameters := [], returnType := some .int }, accessFlags := 4161, code := some k18c3 }
/-- java/lang/StringBuilder -/
def k18 : Class := { plain "java/lang/StringBuilder" (some 17) with
  accessFlags := 49
  interfaces := #[16, 2, 3, 4]
  cf := some (fileOf pool18 24 #[] #[{ accessFlags := 1, nameIndex := 5, descriptorIndex := 145, attributes := #[] }, { accessFlags := 1, nameIndex := 27, descriptorIndex := 28, attributes := #[] }, { accessFlags := 1, nameIndex := 399, descriptorIndex := 400, attributes := #[] }, { accessFlags := 4161, nameIndex := 345, descriptorIndex := 156, attributes := #[] }] 49 2 #[349, 351, 353, 355] #[{ accessFlags := 24, nameIndex := 357, descriptorIndex := 358, attributes := #[] }])
  fields := #[{ name := "serialVersionUID", type := .long, accessFlags := 24, slot := 0, constantValue := 0 }]
  methods := #[k18m0, k18m1, k18m2, k18m3]
  instanceTypes := #[(.array .byte), .byte, .boolean, .int]
  staticTypes := #[.long]
  resolved := Array.replicate 422 none
  statics := none }

def pool19 : Array CpInfo := pool [(2, .class_ 4), (1, u "java/lang/Object"), (0, u "<init>"), (0, u "()V"), (14, .class_ 23), (1, u "java/nio/charset/StandardCharsets"), (0, u "US_ASCII"), (0, u "Ljava/nio/charset/Charset;"), (7, u "ISO_8859_1"), (7, u "UTF_8"), (5, u "UTF_16BE"), (5, u "UTF_16LE"), (5, u "UTF_16")] 8

def k19m0 : Method := { name := "<init>", desc := "()V", sig := { parameters := [], returnType := none }, accessFlags := 2, code := none }
/-- java/nio/charset/StandardCharsets -/
def k19 : Class := { plain "java/nio/charset/StandardCharsets" (some 0) with
  accessFlags := 49
  interfaces := #[]
  cf := some (fileOf pool19 21 #[] #[{ accessFlags := 2, nameIndex := 5, descriptorIndex := 6, attributes := #[] }] 49 2 #[] #[{ accessFlags := 25, nameIndex := 24, descriptorIndex := 25, attributes := #[] }, { accessFlags := 25, nameIndex := 33, descriptorIndex := 25, attributes := #[] }, { accessFlags := 25, nameIndex := 41, descriptorIndex := 25, attributes := #[] }, { accessFlags := 25, nameIndex := 47, descriptorIndex := 25, attributes := #[] }, { accessFlags := 25, nameIndex := 53, descriptorIndex := 25, attributes := #[] }, { accessFlags := 25, nameIndex := 59, descriptorIndex := 25, attributes := #[] }])
  fields := #[{ name := "US_ASCII", type := (.object "java/nio/charset/Charset"), accessFlags := 25, slot := 0, constantValue := 0 }, { name := "ISO_8859_1", type := (.object "java/nio/charset/Charset"), accessFlags := 25, slot := 1, constantValue := 0 }, { name := "UTF_8", type := (.object "java/nio/charset/Charset"), accessFlags := 25, slot := 2, constantValue := 0 }, { name := "UTF_16BE", type := (.object "java/nio/charset/Charset"), accessFlags := 25, slot := 3, constantValue := 0 }, { name := "UTF_16LE", type := (.object "java/nio/charset/Charset"), accessFlags := 25, slot := 4, constantValue := 0 }, { name := "UTF_16", type := (.object "java/nio/charset/Charset"), accessFlags := 25, slot := 5, constantValue := 0 }]
  methods := #[k19m0]
  instanceTypes := #[]
  staticTypes := #[(.object "java/nio/charset/Charset"), (.object "java/nio/charset/Charset"), (.object "java/nio/charset/Charset"), (.object "java/nio/charset/Charset"), (.object "java/nio/charset/Charset"), (.object "java/nio/charset/Charset")]
  resolved := Array.replicate 68 none
  statics := some 2 }

def pool20 : Array CpInfo := pool [(18, .class_ 20), (1, u "java/nio/charset/Charset"), (0, u "cache1"), (0, u "[Ljava/lang/Object;"), (2, u "cache2"), (0, .class_ 27), (0, u "java/lang/Object"), (0, .class_ 29), (0, u "java/nio/charset/Charset$1"), (4, .class_ 36), (1, u "java/nio/charset/Charset$ThreadTrackHolder"), (21, .class_ 59), (0, u "java/nio/charset/Charset$2"), (11, .class_ 73), (1, u "java/nio/charset/Charset$ExtendedProviderHolder"), (22, u "standardProvider"), (0, u "Ljava/nio/charset/spi/CharsetProvider;"), (29, u "name"), (7, .class_ 136), (0, u "java/nio/charset/Charset$3"), (5, u "defaultCharset"), (0, u "Ljava/nio/charset/Charset;"), (14, u "zeroAliases"), (0, u "[Ljava/lang/String;"), (29, u "Ljava/lang/String;"), (2, u "aliases"), (2, u "aliasSet"), (0, u "Ljava/util/Set;"), (82, .class_ 280), (0, u "java/lang/Comparable"), (84, .class_ 366), (0, u "java/nio/charset/Charset$ExtendedProviderHolder$1")] 3

/-- java/nio/charset/Charset -/
def k20 : Class := { plain "java/nio/charset/Charset" (some 0) with
  accessFlags := 1057
  interfaces := #[3]
  cf := some (fileOf pool20 18 #[.nestMembers #[71, 365, 34, 135, 58, 28]] #[] 1057 26 #[279] #[{ accessFlags := 26, nameIndex := 96, descriptorIndex := 97, attributes := #[] }, { accessFlags := 26, nameIndex := 158, descriptorIndex := 159, attributes := #[] }, { accessFlags := 74, nameIndex := 21, descriptorIndex := 22, attributes := #[] }, { accessFlags := 74, nameIndex := 25, descriptorIndex := 22, attributes := #[] }, { accessFlags := 10, nameIndex := 142, descriptorIndex := 143, attributes := #[] }, { accessFlags := 18, nameIndex := 127, descriptorIndex := 189, attributes := #[] }, { accessFlags := 18, nameIndex := 192, descriptorIndex := 159, attributes := #[] }, { accessFlags := 2, nameIndex := 195, descriptorIndex := 196, attributes := #[] }])
  fields := #[{ name := "standardProvider", type := (.object "java/nio/charset/spi/CharsetProvider"), accessFlags := 26, slot := 0, constantValue := 0 }, { name := "zeroAliases", type := (.array (.object "java/lang/String")), accessFlags := 26, slot := 1, constantValue := 0 }, { name := "cache1", type := (.array (.object "java/lang/Object")), accessFlags := 74, slot := 2, constantValue := 0 }, { name := "cache2", type := (.array (.object "java/lang/Object")), accessFlags := 74, slot := 3, constantValue := 0 }, { name := "defaultCharset", type := (.object "java/nio/charset/Charset"), accessFlags := 10, slot := 4, constantValue := 0 }, { name := "name", type := (.object "java/lang/String"), accessFlags := 18, slot := 0, constantValue := 0 }, { name := "aliases", type := (.array (.object "java/lang/String")), accessFlags := 18, slot := 1, constantValue := 0 }, { name := "aliasSet", type := (.object "java/util/Set"), accessFlags := 2, slot := 2, constantValue := 0 }]
  methods := #[]
  instanceTypes := #[(.object "java/lang/String"), (.array (.object "java/lang/String")), (.object "java/util/Set")]
  staticTypes := #[(.object "java/nio/charset/spi/CharsetProvider"), (.array (.object "java/lang/String")), (.array (.object "java/lang/Object")), (.array (.object "java/lang/Object")), (.object "java/nio/charset/Charset")]
  resolved := Array.replicate 370 none
  statics := none }

def pool21 : Array CpInfo := pool [(1, .class_ 2), (0, u "sun/nio/cs/HistoricallyNamedCharset"), (0, .class_ 4), (0, u "java/lang/Object")] 4

/-- sun/nio/cs/HistoricallyNamedCharset -/
def k21 : Class := { plain "sun/nio/cs/HistoricallyNamedCharset" (some 0) with
  accessFlags := 1537
  interfaces := #[]
  cf := some (fileOf pool21 1 #[] #[] 1537 3 #[] #[])
  fields := #[]
  methods := #[]
  instanceTypes := #[]
  staticTypes := #[]
  resolved := Array.replicate 9 none
  statics := none }

def pool22 : Array CpInfo := pool [(2, .class_ 4), (1, u "java/nio/charset/Charset"), (130, .class_ 136), (0, u "sun/nio/cs/Unicode"), (0, .class_ 138), (0, u "sun/nio/cs/HistoricallyNamedCharset")] 15

/-- sun/nio/cs/Unicode -/
def k22 : Class := { plain "sun/nio/cs/Unicode" (some 20) with
  accessFlags := 1056
  interfaces := #[21]
  cf := some (fileOf pool22 135 #[] #[] 1056 2 #[137] #[])
  fields := #[]
  methods := #[]
  instanceTypes := #[(.object "java/lang/String"), (.array (.object "java/lang/String")), (.object "java/util/Set")]
  staticTypes := #[]
  resolved := Array.replicate 154 none
  statics := none }

def pool23 : Array CpInfo := pool [(10, .class_ 12), (1, u "sun/nio/cs/Unicode"), (0, u "<init>"), (3, .class_ 18), (0, u "sun/nio/cs/UTF_8$Decoder"), (3, .class_ 23), (0, u "sun/nio/cs/UTF_8$Encoder"), (15, .class_ 40), (0, u "sun/nio/cs/UTF_8"), (2, u "()V"), (2, u "INSTANCE"), (0, u "Lsun/nio/cs/UTF_8;"), (8, u "JLA"), (0, u "Ljdk/internal/access/JavaLangAccess;")] 26

def k23m0 : Method := { name := "<init>", desc := "()V", sig := { parameters := [], returnType := none }, accessFlags := 1, code := none }
/-- sun/nio/cs/UTF_8 -/
def k23 : Class := { plain "sun/nio/cs/UTF_8" (some 22) with
  accessFlags := 49
  interfaces := #[]
  cf := some (fileOf pool23 39 #[.nestMembers #[22, 17]] #[{ accessFlags := 1, nameIndex := 13, descriptorIndex := 43, attributes := #[] }] 49 10 #[] #[{ accessFlags := 25, nameIndex := 46, descriptorIndex := 47, attributes := #[] }, { accessFlags := 26, nameIndex := 56, descriptorIndex := 57, attributes := #[] }])
  fields := #[{ name := "INSTANCE", type := (.object "sun/nio/cs/UTF_8"), accessFlags := 25, slot := 0, constantValue := 0 }, { name := "JLA", type := (.object "jdk/internal/access/JavaLangAccess"), accessFlags := 26, slot := 1, constantValue := 0 }]
  methods := #[k23m0]
  instanceTypes := #[(.object "java/lang/String"), (.array (.object "java/lang/String")), (.object "java/util/Set")]
  staticTypes := #[(.object "sun/nio/cs/UTF_8"), (.object "jdk/internal/access/JavaLangAccess")]
  resolved := Array.replicate 84 none
  statics := some 3 }

def pool24 : Array CpInfo := pool [(2, .class_ 4), (1, u "java/lang/Object"), (0, u "<init>"), (0, u "()V"), (0, .methodref 8 9), (0, .class_ 10), (0, .nameAndType 11 12), (0, u "java/lang/StringCoding"), (0, u "countPositives"), (0, u "([BII)I"), (11, u "hasNegatives"), (0, u "([BII)Z")] 23

def k24m0 : Method := { name := "<init>", desc := "()V", sig := { parameters := [], returnType := none }, accessFlags := 2, code := none }
def k24c1 : Code := { maxStack := 3, maxLocals := 3, code := jdk_123_method_2_code, exceptionTable := #[], attributes := #[] }
def k24m1 : Method := { name := "hasNegatives", desc := "([BII)Z", sig := { parameters := [(.array .byte), .int, .int], returnType := some .boolean }, accessFlags := 9, code := some k24c1 }
def k24c2 : Code := { maxStack := 2, maxLocals := 5, code := jdk_123_method_3_code, exceptionTable := #[], attributes := #[] }
def k24m2 : Method := { name := "countPositives", desc := "([BII)I", sig := { parameters := [(.array .byte), .int, .int], returnType := some .int }, accessFlags := 9, code := some k24c2 }
/-- java/lang/StringCoding -/
def k24 : Class := { plain "java/lang/StringCoding" (some 0) with
  accessFlags := 32
  interfaces := #[]
  cf := some (fileOf pool24 8 #[] #[{ accessFlags := 2, nameIndex := 5, descriptorIndex := 6, attributes := #[] }, { accessFlags := 9, nameIndex := 24, descriptorIndex := 25, attributes := #[] }, { accessFlags := 9, nameIndex := 11, descriptorIndex := 12, attributes := #[] }] 32 2 #[] #[])
  fields := #[]
  methods := #[k24m0, k24m1, k24m2]
  instanceTypes := #[]
  staticTypes := #[]
  resolved := Array.replicate 49 none
  statics := none }

def pool25 : Array CpInfo := pool [(1, .class_ 2), (0, u "java/lang/Cloneable"), (0, .class_ 4), (0, u "java/lang/Object")] 2

/-- java/lang/Cloneable -/
def k25 : Class := { plain "java/lang/Cloneable" (some 0) with
  accessFlags := 1537
  interfaces := #[]
  cf := some (fileOf pool25 1 #[] #[] 1537 3 #[] #[])
  fields := #[]
  methods := #[]
  instanceTypes := #[]
  staticTypes := #[]
  resolved := Array.replicate 7 none
  statics := none }

def pool26 : Array CpInfo := pool [(9, u "<init>"), (6, .class_ 18), (1, u "java/lang/Object"), (0, u "()V"), (1, .class_ 23), (1, u "jdk/internal/util/ArraysSupport"), (0, u "LOG2_ARRAY_LONG_INDEX_SCALE"), (0, u "I"), (2, u "U"), (0, u "Ljdk/internal/misc/Unsafe;"), (8, u "BIG_ENDIAN"), (0, u "Z"), (8, u "LOG2_BYTE_BIT_SIZE"), (4, u "LOG2_ARRAY_INT_INDEX_SCALE"), (54, u "JLA"), (0, u "Ljdk/internal/access/JavaLangAccess;"), (11, u "LOG2_ARRAY_BOOLEAN_INDEX_SCALE"), (9, u "LOG2_ARRAY_BYTE_INDEX_SCALE"), (5, u "LOG2_ARRAY_CHAR_INDEX_SCALE"), (5, u "LOG2_ARRAY_SHORT_INDEX_SCALE"), (18, u "LOG2_ARRAY_FLOAT_INDEX_SCALE"), (24, u "LOG2_ARRAY_DOUBLE_INDEX_SCALE"), (89, u "T_BOOLEAN"), (2, u "T_CHAR"), (1, u "T_FLOAT"), (1, u "T_DOUBLE"), (1, u "T_BYTE"), (1, u "T_SHORT"), (1, u "T_INT"), (1, u "T_LONG"), (1, u "SOFT_MAX_ARRAY_LENGTH")] 83

def k26m0 : Method := { name := "<init>", desc := "()V", sig := { parameters := [], returnType := none }, accessFlags := 2, code := none }
/-- jdk/internal/util/ArraysSupport -/
def k26 : Class := { plain "jdk/internal/util/ArraysSupport" (some 0) with
  accessFlags := 33
  interfaces := #[]
  cf := some (fileOf pool26 21 #[] #[{ accessFlags := 2, nameIndex := 9, descriptorIndex := 19, attributes := #[] }] 33 16 #[] #[{ accessFlags := 24, nameIndex := 28, descriptorIndex := 29, attributes := #[] }, { accessFlags := 26, nameIndex := 38, descriptorIndex := 39, attributes := #[] }, { accessFlags := 25, nameIndex := 121, descriptorIndex := 25, attributes := #[] }, { accessFlags := 25, nameIndex := 131, descriptorIndex := 25, attributes := #[] }, { accessFlags := 25, nameIndex := 137, descriptorIndex := 25, attributes := #[] }, { accessFlags := 25, nameIndex := 143, descriptorIndex := 25, attributes := #[] }, { accessFlags := 25, nameIndex := 53, descriptorIndex := 25, attributes := #[] }, { accessFlags := 25, nameIndex := 24, descriptorIndex := 25, attributes := #[] }, { accessFlags := 25, nameIndex := 162, descriptorIndex := 25, attributes := #[] }, { accessFlags := 25, nameIndex := 187, descriptorIndex := 25, attributes := #[] }, { accessFlags := 26, nameIndex := 48, descriptorIndex := 25, attributes := #[] }, { accessFlags := 25, nameIndex := 277, descriptorIndex := 25, attributes := #[] }, { accessFlags := 25, nameIndex := 280, descriptorIndex := 25, attributes := #[] }, { accessFlags := 25, nameIndex := 282, descriptorIndex := 25, attributes := #[] }, { accessFlags := 25, nameIndex := 284, descriptorIndex := 25, attributes := #[] }, { accessFlags := 25, nameIndex := 286, descriptorIndex := 25, attributes := #[] }, { accessFlags := 25, nameIndex := 288, descriptorIndex := 25, attributes := #[] }, { accessFlags := 25, nameIndex := 290, descriptorIndex := 25, attributes := #[] }, { accessFlags := 25, nameIndex := 292, descriptorIndex := 25, attributes := #[] }, { accessFlags := 26, nameIndex := 108, descriptorIndex := 109, attributes := #[] }, { accessFlags := 25, nameIndex := 294, descriptorIndex := 25, attributes := #[] }])
  fields := #[{ name := "U", type := (.object "jdk/internal/misc/Unsafe"), accessFlags := 24, slot := 0, constantValue := 0 }, { name := "BIG_ENDIAN", type := .boolean, accessFlags := 26, slot := 1, constantValue := 0 }, { name := "LOG2_ARRAY_BOOLEAN_INDEX_SCALE", type := .int, accessFlags := 25, slot := 2, constantValue := 0 }, { name := "LOG2_ARRAY_BYTE_INDEX_SCALE", type := .int, accessFlags := 25, slot := 3, constantValue := 0 }, { name := "LOG2_ARRAY_CHAR_INDEX_SCALE", type := .int, accessFlags := 25, slot := 4, constantValue := 0 }, { name := "LOG2_ARRAY_SHORT_INDEX_SCALE", type := .int, accessFlags := 25, slot := 5, constantValue := 0 }, { name := "LOG2_ARRAY_INT_INDEX_SCALE", type := .int, accessFlags := 25, slot := 6, constantValue := 0 }, { name := "LOG2_ARRAY_LONG_INDEX_SCALE", type := .int, accessFlags := 25, slot := 7, constantValue := 0 }, { name := "LOG2_ARRAY_FLOAT_INDEX_SCALE", type := .int, accessFlags := 25, slot := 8, constantValue := 0 }, { name := "LOG2_ARRAY_DOUBLE_INDEX_SCALE", type := .int, accessFlags := 25, slot := 9, constantValue := 0 }, { name := "LOG2_BYTE_BIT_SIZE", type := .int, accessFlags := 26, slot := 10, constantValue := 0 }, { name := "T_BOOLEAN", type := .int, accessFlags := 25, slot := 11, constantValue := 0 }, { name := "T_CHAR", type := .int, accessFlags := 25, slot := 12, constantValue := 0 }, { name := "T_FLOAT", type := .int, accessFlags := 25, slot := 13, constantValue := 0 }, { name := "T_DOUBLE", type := .int, accessFlags := 25, slot := 14, constantValue := 0 }, { name := "T_BYTE", type := .int, accessFlags := 25, slot := 15, constantValue := 0 }, { name := "T_SHORT", type := .int, accessFlags := 25, slot := 16, constantValue := 0 }, { name := "T_INT", type := .int, accessFlags := 25, slot := 17, constantValue := 0 }, { name := "T_LONG", type := .int, accessFlags := 25, slot := 18, constantValue := 0 }, { name := "JLA", type := (.object "jdk/internal/access/JavaLangAccess"), accessFlags := 26, slot := 19, constantValue := 0 }, { name := "SOFT_MAX_ARRAY_LENGTH", type := .int, accessFlags := 25, slot := 20, constantValue := 0 }]
  methods := #[k26m0]
  instanceTypes := #[]
  staticTypes := #[(.object "jdk/internal/misc/Unsafe"), .boolean, .int, .int, .int, .int, .int, .int, .int, .int, .int, .int, .int, .int, .int, .int, .int, .int, .int, (.object "jdk/internal/access/JavaLangAccess"), .int]
  resolved := Array.replicate 378 none
  statics := none }

/-- the primitive byte -/
def k27 : Class := { plain "byte" none with kind := .primitive 'B', accessFlags := 0x411 }
/-- [B -/
def k28 : Class := { plain "[B" (some 0) with kind := .array 27 .byte, interfaces := #[25, 2], accessFlags := 1041 }

/-- the primitive char -/
def k29 : Class := { plain "char" none with kind := .primitive 'C', accessFlags := 0x411 }
/-- [C -/
def k30 : Class := { plain "[C" (some 0) with kind := .array 29 .char, interfaces := #[25, 2], accessFlags := 1041 }

/-- the primitive int -/
def k31 : Class := { plain "int" none with kind := .primitive 'I', accessFlags := 0x411 }
/-- [I -/
def k32 : Class := { plain "[I" (some 0) with kind := .array 31 .int, interfaces := #[25, 2], accessFlags := 1041 }

def heap : Heap := #[{ cls := 7, slots := #[.long 0, .int 1, .null, .int 0, .null, .int 0, .int 0], vm := .statics 7 },
  { cls := 13, slots := #[.null, .null, .null], vm := .statics 13 },
  { cls := 19, slots := #[.null, .null, .ref 4, .null, .null, .null], vm := .statics 19 },
  { cls := 23, slots := #[.ref 4, .null], vm := .statics 23 },
  { cls := 23, slots := #[.null, .null, .null], vm := .none }]
def classes : Array Class := #[k0, k1, k2, k3, k4, k5, k6, k7, k8, k9, k10, k11, k12, k13, k14, k15, k16, k17, k18, k19, k20, k21, k22, k23, k24, k25, k26, k27, k28, k29, k30, k31, k32]
def interned : List (Array UInt16 × Addr) := []
def slotsUsed : Nat := 21
def theMethod : MethodId := ⟨1, 4⟩
def args0 : Array Value := #[.long 5, .int 1]
def aboutOver (below : List Frame) : State where
  vm := { classes := classes, interned := interned.toArray }
  heap := heap
  slotsUsed := slotsUsed
  threads := #[{ frames := .invoking theMethod args0 :: below }]
def below0 : List Frame := [.native { method := ⟨0, 0⟩, args := #[] }]
def about1 : State := aboutOver below0
def p0 : Program := .bare "" "" ""
def e0 : Env := launch0.env 0 0 0
theorem w_frames : about1.frames = Frame.invoking theMethod args0 :: below0 := rfl
set_option maxRecDepth 65536 in
theorem w_args : argsFit about1.vm theMethod args0 = true := by decide +kernel
set_option maxRecDepth 65536 in
theorem w_heap : heapFits about1 = true := by decide +kernel
set_option maxRecDepth 65536 in
theorem w_runnable : about1.curStatus? = some .runnable := by decide +kernel
set_option maxRecDepth 65536 in
theorem w_alone : about1.alone = true := by decide +kernel
set_option maxRecDepth 65536 in
theorem w_named : about1.methodNamed? x = some theMethod := by decide +kernel
set_option maxRecDepth 65536 in
theorem w_hears : about1.hears theMethod below0 = true := by decide +kernel
set_option maxRecDepth 65536 in
theorem w_ripe : about1.ripe theMethod args0 below0 = true := by decide +kernel
theorem w_running : about1.status = .running := rfl
set_option maxRecDepth 65536 in
theorem w_room : about1.hasRoom e0.platform room_1 = true :=
  launch0.hasRoom_least _ room_1 (by decide +kernel) (by decide +kernel) (by decide +kernel) (by decide +kernel) (by decide +kernel) (by decide +kernel)
theorem allAtoms_all (ts : List Jvm.Cond) (a : Array Jvm.Value) (st : Jvm.State) : (allAtoms ts).before a st = ts.all (fun c => c.before a st) := by
  induction ts with
  | nil => rfl
  | cons c t ih =>
    show (Jvm.Cond.and c (allAtoms t)).before a st = _
    rw [Jvm.Cond.before_and, ih, List.all_cons]
def words1 : List Jvm.Cond := Jvm.Cond.code x code maxLocals ret :: tables_1
/-- a 'code' word, met by the world's own term for the bytes: nothing is compared byte by byte -/
theorem code_word {y : MethodName} {bytes : ByteArray} {mx : Nat} {rt : Option FieldType} {a : Array Value} {s : State} {m : MethodId} {meth : Method} {c : Code} (h1 : s.methodNamed? y = some m) (h2 : s.vm.method? m = some meth) (h3 : meth.code = some c) (h4 : c.code = bytes)
    (h5 : (c.maxLocals == mx && c.exceptionTable.isEmpty && decide (c.maxStack ≤ mostOperands) && decide (meth.sig.returnType = rt) && !meth.locks && decide (parseMethodDescriptor y.desc = some meth.sig)) = true) : (Jvm.Cond.code y bytes mx rt).before a s = true := by
  simp only [Bool.and_eq_true, beq_iff_eq, Bool.not_eq_true', decide_eq_true_eq] at h5
  obtain ⟨⟨⟨⟨⟨g1, g2⟩, g3⟩, g4⟩, g5⟩, g6⟩ := h5
  simp [Cond.before, Cond.holds, Cond.value, h1, h2, h3, h4, g1, g2, g3, g4, g5, g6]
def isCode : Jvm.Cond → Bool
  | .code _ _ _ _ => true
  | _ => false
theorem all_split {L : List Jvm.Cond} {P : Jvm.Cond → Bool} (h1 : L.all (fun c => isCode c || P c) = true) (h2 : ∀ c ∈ L.filter isCode, P c = true) : L.all P = true := by
  refine List.all_eq_true.mpr fun c hc => ?_
  have h := List.all_eq_true.mp h1 c hc
  rcases Bool.eq_false_or_eq_true (isCode c) with hi | hi
  · exact h2 c (List.mem_filter.mpr ⟨hc, hi⟩)
  · simpa [hi] using h
set_option maxRecDepth 65536 in
theorem w_c0 : (Jvm.Cond.code x code maxLocals ret).before args0 about1 = true := code_word (m := ⟨1, 4⟩) (meth := k1m4) (c := k1c4) (by decide +kernel) rfl rfl rfl (by decide +kernel)
set_option maxRecDepth 65536 in
theorem w_c1 : (Jvm.Cond.code ({ cls := "com/example/turnlock/turnlock/session/DigestCredentialsParsePinLaw", name := "ch", desc := "(JII)C" } : Jvm.MethodName) method_2_code (5 : Nat) (Option.some Jvm.ClassFile.FieldType.char)).before args0 about1 = true := code_word (m := ⟨1, 1⟩) (meth := k1m1) (c := k1c1) (by decide +kernel) rfl rfl rfl (by decide +kernel)
set_option maxRecDepth 65536 in
theorem w_c2 : (Jvm.Cond.code ({ cls := "java/lang/String", name := "<init>", desc := "([C)V" } : Jvm.MethodName) jdk_42_method_3_code (2 : Nat) (Option.none : Option Jvm.ClassFile.FieldType)).before args0 about1 = true := code_word (m := ⟨7, 1⟩) (meth := k7m1) (c := k7c1) (by decide +kernel) rfl rfl rfl (by decide +kernel)
set_option maxRecDepth 65536 in
theorem w_c3 : (Jvm.Cond.code ({ cls := "java/lang/String", name := "<init>", desc := "([CIILjava/lang/Void;)V" } : Jvm.MethodName) jdk_42_method_149_code (6 : Nat) (Option.none : Option Jvm.ClassFile.FieldType)).before args0 about1 = true := code_word (m := ⟨7, 14⟩) (meth := k7m14) (c := k7c14) (by decide +kernel) rfl rfl rfl (by decide +kernel)
set_option maxRecDepth 65536 in
theorem w_c4 : (Jvm.Cond.code ({ cls := "java/lang/Object", name := "<init>", desc := "()V" } : Jvm.MethodName) object_method_1_code (1 : Nat) (Option.none : Option Jvm.ClassFile.FieldType)).before args0 about1 = true := code_word (m := ⟨0, 0⟩) (meth := k0m0) (c := k0c0) (by decide +kernel) rfl rfl rfl (by decide +kernel)
set_option maxRecDepth 65536 in
theorem w_c5 : (Jvm.Cond.code ({ cls := "java/lang/StringUTF16", name := "compress", desc := "([CII)[B" } : Jvm.MethodName) jdk_52_method_16_code (6 : Nat) (Option.some (Jvm.ClassFile.FieldType.array Jvm.ClassFile.FieldType.byte))).before args0 about1 = true := code_word (m := ⟨8, 4⟩) (meth := k8m4) (c := k8c4) (by decide +kernel) rfl rfl rfl (by decide +kernel)
set_option maxRecDepth 65536 in
theorem w_c6 : (Jvm.Cond.code ({ cls := "java/lang/StringUTF16", name := "compress", desc := "([CI[BII)I" } : Jvm.MethodName) jdk_52_method_21_code (7 : Nat) (Option.some Jvm.ClassFile.FieldType.int)).before args0 about1 = true := code_word (m := ⟨8, 5⟩) (meth := k8m5) (c := k8c5) (by decide +kernel) rfl rfl rfl (by decide +kernel)
set_option maxRecDepth 65536 in
theorem w_c7 : (Jvm.Cond.code ({ cls := "java/lang/StringUTF16", name := "coderFromArrayLen", desc := "([BI)B" } : Jvm.MethodName) jdk_52_method_15_code (2 : Nat) (Option.some Jvm.ClassFile.FieldType.byte)).before args0 about1 = true := code_word (m := ⟨8, 3⟩) (meth := k8m3) (c := k8c3) (by decide +kernel) rfl rfl rfl (by decide +kernel)
set_option maxRecDepth 65536 in
theorem w_c8 : (Jvm.Cond.code ({ cls := "com/example/turnlock/turnlock/session/DigestCredentialsParsePinLaw", name := "put", desc := "([BIC)I" } : Jvm.MethodName) method_3_code (3 : Nat) (Option.some Jvm.ClassFile.FieldType.int)).before args0 about1 = true := code_word (m := ⟨1, 2⟩) (meth := k1m2) (c := k1c2) (by decide +kernel) rfl rfl rfl (by decide +kernel)
set_option maxRecDepth 65536 in
theorem w_c9 : (Jvm.Cond.code ({ cls := "com/example/turnlock/turnlock/session/DigestCredentials", name := "parse", desc := "(Ljava/lang/String;)Lcom/example/turnlock/turnlock/session/DigestCredentials;" } : Jvm.MethodName) prog_15_method_3_code (2 : Nat) (Option.some (Jvm.ClassFile.FieldType.object "com/example/turnlock/turnlock/session/DigestCredentials"))).before args0 about1 = true := code_word (m := ⟨9, 2⟩) (meth := k9m2) (c := k9c2) (by decide +kernel) rfl rfl rfl (by decide +kernel)
set_option maxRecDepth 65536 in
theorem w_c10 : (Jvm.Cond.code ({ cls := "java/util/Objects", name := "requireNonNull", desc := "(Ljava/lang/Object;Ljava/lang/String;)Ljava/lang/Object;" } : Jvm.MethodName) jdk_31_method_11_code (2 : Nat) (Option.some (Jvm.ClassFile.FieldType.object "java/lang/Object"))).before args0 about1 = true := code_word (m := ⟨10, 1⟩) (meth := k10m1) (c := k10c1) (by decide +kernel) rfl rfl rfl (by decide +kernel)
set_option maxRecDepth 65536 in
theorem w_c11 : (Jvm.Cond.code ({ cls := "java/lang/String", name := "indexOf", desc := "(I)I" } : Jvm.MethodName) jdk_42_method_79_code (2 : Nat) (Option.some Jvm.ClassFile.FieldType.int)).before args0 about1 = true := code_word (m := ⟨7, 9⟩) (meth := k7m9) (c := k7c9) (by decide +kernel) rfl rfl rfl (by decide +kernel)
set_option maxRecDepth 65536 in
theorem w_c12 : (Jvm.Cond.code ({ cls := "java/lang/String", name := "indexOf", desc := "(II)I" } : Jvm.MethodName) jdk_42_method_80_code (3 : Nat) (Option.some Jvm.ClassFile.FieldType.int)).before args0 about1 = true := code_word (m := ⟨7, 10⟩) (meth := k7m10) (c := k7c10) (by decide +kernel) rfl rfl rfl (by decide +kernel)
set_option maxRecDepth 65536 in
theorem w_c13 : (Jvm.Cond.code ({ cls := "java/lang/String", name := "isLatin1", desc := "()Z" } : Jvm.MethodName) jdk_42_method_154_code (1 : Nat) (Option.some Jvm.ClassFile.FieldType.boolean)).before args0 about1 = true := code_word (m := ⟨7, 18⟩) (meth := k7m18) (c := k7c18) (by decide +kernel) rfl rfl rfl (by decide +kernel)
set_option maxRecDepth 65536 in
theorem w_c14 : (Jvm.Cond.code ({ cls := "java/lang/String", name := "length", desc := "()I" } : Jvm.MethodName) jdk_42_method_54_code (1 : Nat) (Option.some Jvm.ClassFile.FieldType.int)).before args0 about1 = true := code_word (m := ⟨7, 5⟩) (meth := k7m5) (c := k7c5) (by decide +kernel) rfl rfl rfl (by decide +kernel)
set_option maxRecDepth 65536 in
theorem w_c15 : (Jvm.Cond.code ({ cls := "java/lang/String", name := "coder", desc := "()B" } : Jvm.MethodName) jdk_42_method_152_code (1 : Nat) (Option.some Jvm.ClassFile.FieldType.byte)).before args0 about1 = true := code_word (m := ⟨7, 17⟩) (meth := k7m17) (c := k7c17) (by decide +kernel) rfl rfl rfl (by decide +kernel)
set_option maxRecDepth 65536 in
theorem w_c16 : (Jvm.Cond.code ({ cls := "java/lang/StringLatin1", name := "indexOf", desc := "([BIII)I" } : Jvm.MethodName) jdk_43_method_22_code (4 : Nat) (Option.some Jvm.ClassFile.FieldType.int)).before args0 about1 = true := code_word (m := ⟨11, 3⟩) (meth := k11m3) (c := k11c3) (by decide +kernel) rfl rfl rfl (by decide +kernel)
set_option maxRecDepth 65536 in
theorem w_c17 : (Jvm.Cond.code ({ cls := "java/lang/StringLatin1", name := "canEncode", desc := "(I)Z" } : Jvm.MethodName) jdk_43_method_4_code (1 : Nat) (Option.some Jvm.ClassFile.FieldType.boolean)).before args0 about1 = true := code_word (m := ⟨11, 1⟩) (meth := k11m1) (c := k11c1) (by decide +kernel) rfl rfl rfl (by decide +kernel)
set_option maxRecDepth 65536 in
theorem w_c18 : (Jvm.Cond.code ({ cls := "java/lang/Math", name := "max", desc := "(II)I" } : Jvm.MethodName) jdk_29_method_65_code (2 : Nat) (Option.some Jvm.ClassFile.FieldType.int)).before args0 about1 = true := code_word (m := ⟨12, 1⟩) (meth := k12m1) (c := k12c1) (by decide +kernel) rfl rfl rfl (by decide +kernel)
set_option maxRecDepth 65536 in
theorem w_c19 : (Jvm.Cond.code ({ cls := "java/lang/Math", name := "min", desc := "(II)I" } : Jvm.MethodName) jdk_29_method_69_code (2 : Nat) (Option.some Jvm.ClassFile.FieldType.int)).before args0 about1 = true := code_word (m := ⟨12, 2⟩) (meth := k12m2) (c := k12c2) (by decide +kernel) rfl rfl rfl (by decide +kernel)
set_option maxRecDepth 65536 in
theorem w_c20 : (Jvm.Cond.code ({ cls := "java/lang/StringLatin1", name := "indexOfChar", desc := "([BIII)I" } : Jvm.MethodName) jdk_43_method_23_code (6 : Nat) (Option.some Jvm.ClassFile.FieldType.int)).before args0 about1 = true := code_word (m := ⟨11, 4⟩) (meth := k11m4) (c := k11c4) (by decide +kernel) rfl rfl rfl (by decide +kernel)
set_option maxRecDepth 65536 in
theorem w_c21 : (Jvm.Cond.code ({ cls := "java/lang/String", name := "substring", desc := "(II)Ljava/lang/String;" } : Jvm.MethodName) jdk_42_method_92_code (5 : Nat) (Option.some (Jvm.ClassFile.FieldType.object "java/lang/String"))).before args0 about1 = true := code_word (m := ⟨7, 12⟩) (meth := k7m12) (c := k7c12) (by decide +kernel) rfl rfl rfl (by decide +kernel)
set_option maxRecDepth 65536 in
theorem w_c22 : (Jvm.Cond.code ({ cls := "java/lang/String", name := "checkBoundsBeginEnd", desc := "(III)V" } : Jvm.MethodName) jdk_42_method_158_code (3 : Nat) (Option.none : Option Jvm.ClassFile.FieldType)).before args0 about1 = true := code_word (m := ⟨7, 19⟩) (meth := k7m19) (c := k7c19) (by decide +kernel) rfl rfl rfl (by decide +kernel)
set_option maxRecDepth 65536 in
theorem w_c23 : (Jvm.Cond.code ({ cls := "jdk/internal/util/Preconditions", name := "checkFromToIndex", desc := "(IIILjava/util/function/BiFunction;)I" } : Jvm.MethodName) jdk_41_method_12_code (4 : Nat) (Option.some Jvm.ClassFile.FieldType.int)).before args0 about1 = true := code_word (m := ⟨13, 1⟩) (meth := k13m1) (c := k13c1) (by decide +kernel) rfl rfl rfl (by decide +kernel)
set_option maxRecDepth 65536 in
theorem w_c24 : (Jvm.Cond.code ({ cls := "java/lang/StringLatin1", name := "newString", desc := "([BII)Ljava/lang/String;" } : Jvm.MethodName) jdk_43_method_47_code (3 : Nat) (Option.some (Jvm.ClassFile.FieldType.object "java/lang/String"))).before args0 about1 = true := code_word (m := ⟨11, 5⟩) (meth := k11m5) (c := k11c5) (by decide +kernel) rfl rfl rfl (by decide +kernel)
set_option maxRecDepth 65536 in
theorem w_c25 : (Jvm.Cond.code ({ cls := "java/util/Arrays", name := "copyOfRange", desc := "([BII)[B" } : Jvm.MethodName) jdk_65_method_132_code (3 : Nat) (Option.some (Jvm.ClassFile.FieldType.array Jvm.ClassFile.FieldType.byte))).before args0 about1 = true := code_word (m := ⟨14, 3⟩) (meth := k14m3) (c := k14c3) (by decide +kernel) rfl rfl rfl (by decide +kernel)
set_option maxRecDepth 65536 in
theorem w_c26 : (Jvm.Cond.code ({ cls := "java/util/Arrays", name := "copyOfRangeByte", desc := "([BII)[B" } : Jvm.MethodName) jdk_65_method_133_code (5 : Nat) (Option.some (Jvm.ClassFile.FieldType.array Jvm.ClassFile.FieldType.byte))).before args0 about1 = true := code_word (m := ⟨14, 4⟩) (meth := k14m4) (c := k14c4) (by decide +kernel) rfl rfl rfl (by decide +kernel)
set_option maxRecDepth 65536 in
theorem w_c27 : (Jvm.Cond.code ({ cls := "java/util/Arrays", name := "checkLength", desc := "(II)V" } : Jvm.MethodName) jdk_65_method_131_code (2 : Nat) (Option.none : Option Jvm.ClassFile.FieldType)).before args0 about1 = true := code_word (m := ⟨14, 2⟩) (meth := k14m2) (c := k14c2) (by decide +kernel) rfl rfl rfl (by decide +kernel)
set_option maxRecDepth 65536 in
theorem w_c28 : (Jvm.Cond.code ({ cls := "java/lang/String", name := "<init>", desc := "([BB)V" } : Jvm.MethodName) jdk_42_method_151_code (3 : Nat) (Option.none : Option Jvm.ClassFile.FieldType)).before args0 about1 = true := code_word (m := ⟨7, 16⟩) (meth := k7m16) (c := k7c16) (by decide +kernel) rfl rfl rfl (by decide +kernel)
set_option maxRecDepth 65536 in
theorem w_c29 : (Jvm.Cond.code ({ cls := "java/lang/String", name := "substring", desc := "(I)Ljava/lang/String;" } : Jvm.MethodName) jdk_42_method_91_code (2 : Nat) (Option.some (Jvm.ClassFile.FieldType.object "java/lang/String"))).before args0 about1 = true := code_word (m := ⟨7, 11⟩) (meth := k7m11) (c := k7c11) (by decide +kernel) rfl rfl rfl (by decide +kernel)
set_option maxRecDepth 65536 in
theorem w_c30 : (Jvm.Cond.code ({ cls := "com/example/turnlock/turnlock/session/DigestCredentials", name := "of", desc := "(Ljava/lang/String;Ljava/lang/String;)Lcom/example/turnlock/turnlock/session/DigestCredentials;" } : Jvm.MethodName) prog_15_method_2_code (2 : Nat) (Option.some (Jvm.ClassFile.FieldType.object "com/example/turnlock/turnlock/session/DigestCredentials"))).before args0 about1 = true := code_word (m := ⟨9, 1⟩) (meth := k9m1) (c := k9c1) (by decide +kernel) rfl rfl rfl (by decide +kernel)
set_option maxRecDepth 65536 in
theorem w_c31 : (Jvm.Cond.code ({ cls := "java/lang/String", name := "isEmpty", desc := "()Z" } : Jvm.MethodName) jdk_42_method_55_code (1 : Nat) (Option.some Jvm.ClassFile.FieldType.boolean)).before args0 about1 = true := code_word (m := ⟨7, 6⟩) (meth := k7m6) (c := k7c6) (by decide +kernel) rfl rfl rfl (by decide +kernel)
set_option maxRecDepth 65536 in
theorem w_c32 : (Jvm.Cond.code ({ cls := "com/example/turnlock/turnlock/session/DigestCredentials", name := "<init>", desc := "(Ljava/lang/String;Ljava/lang/String;)V" } : Jvm.MethodName) prog_15_method_1_code (3 : Nat) (Option.none : Option Jvm.ClassFile.FieldType)).before args0 about1 = true := code_word (m := ⟨9, 0⟩) (meth := k9m0) (c := k9c0) (by decide +kernel) rfl rfl rfl (by decide +kernel)
set_option maxRecDepth 65536 in
theorem w_c33 : (Jvm.Cond.code ({ cls := "com/example/turnlock/turnlock/session/DigestCredentials", name := "user", desc := "()Ljava/lang/String;" } : Jvm.MethodName) prog_15_method_4_code (1 : Nat) (Option.some (Jvm.ClassFile.FieldType.object "java/lang/String"))).before args0 about1 = true := code_word (m := ⟨9, 3⟩) (meth := k9m3) (c := k9c3) (by decide +kernel) rfl rfl rfl (by decide +kernel)
set_option maxRecDepth 65536 in
theorem w_c34 : (Jvm.Cond.code ({ cls := "java/lang/String", name := "equals", desc := "(Ljava/lang/Object;)Z" } : Jvm.MethodName) jdk_42_method_66_code (3 : Nat) (Option.some Jvm.ClassFile.FieldType.boolean)).before args0 about1 = true := code_word (m := ⟨7, 8⟩) (meth := k7m8) (c := k7c8) (by decide +kernel) rfl rfl rfl (by decide +kernel)
set_option maxRecDepth 65536 in
theorem w_c35 : (Jvm.Cond.code ({ cls := "java/lang/StringLatin1", name := "equals", desc := "([B[B)Z" } : Jvm.MethodName) jdk_43_method_13_code (3 : Nat) (Option.some Jvm.ClassFile.FieldType.boolean)).before args0 about1 = true := code_word (m := ⟨11, 2⟩) (meth := k11m2) (c := k11c2) (by decide +kernel) rfl rfl rfl (by decide +kernel)
set_option maxRecDepth 65536 in
theorem w_c36 : (Jvm.Cond.code ({ cls := "com/example/turnlock/turnlock/session/DigestCredentials", name := "authData", desc := "()[B" } : Jvm.MethodName) prog_15_method_5_code (1 : Nat) (Option.some (Jvm.ClassFile.FieldType.array Jvm.ClassFile.FieldType.byte))).before args0 about1 = true := code_word (m := ⟨9, 4⟩) (meth := k9m4) (c := k9c4) (by decide +kernel) rfl rfl rfl (by decide +kernel)
set_option maxRecDepth 65536 in
theorem w_c37 : (Jvm.Cond.code ({ cls := "java/lang/StringBuilder", name := "<init>", desc := "()V" } : Jvm.MethodName) jdk_67_method_1_code (1 : Nat) (Option.none : Option Jvm.ClassFile.FieldType)).before args0 about1 = true := code_word (m := ⟨18, 0⟩) (meth := k18m0) (c := k18c0) (by decide +kernel) rfl rfl rfl (by decide +kernel)
set_option maxRecDepth 65536 in
theorem w_c38 : (Jvm.Cond.code ({ cls := "java/lang/AbstractStringBuilder", name := "<init>", desc := "(I)V" } : Jvm.MethodName) jdk_68_method_2_code (2 : Nat) (Option.none : Option Jvm.ClassFile.FieldType)).before args0 about1 = true := code_word (m := ⟨17, 1⟩) (meth := k17m1) (c := k17c1) (by decide +kernel) rfl rfl rfl (by decide +kernel)
set_option maxRecDepth 65536 in
theorem w_c39 : (Jvm.Cond.code ({ cls := "java/lang/StringBuilder", name := "append", desc := "(Ljava/lang/String;)Ljava/lang/StringBuilder;" } : Jvm.MethodName) jdk_67_method_7_code (2 : Nat) (Option.some (Jvm.ClassFile.FieldType.object "java/lang/StringBuilder"))).before args0 about1 = true := code_word (m := ⟨18, 1⟩) (meth := k18m1) (c := k18c1) (by decide +kernel) rfl rfl rfl (by decide +kernel)
set_option maxRecDepth 65536 in
theorem w_c40 : (Jvm.Cond.code ({ cls := "java/lang/AbstractStringBuilder", name := "append", desc := "(Ljava/lang/String;)Ljava/lang/AbstractStringBuilder;" } : Jvm.MethodName) jdk_68_method_22_code (3 : Nat) (Option.some (Jvm.ClassFile.FieldType.object "java/lang/AbstractStringBuilder"))).before args0 about1 = true := code_word (m := ⟨17, 4⟩) (meth := k17m4) (c := k17c4) (by decide +kernel) rfl rfl rfl (by decide +kernel)
set_option maxRecDepth 65536 in
theorem w_c41 : (Jvm.Cond.code ({ cls := "java/lang/AbstractStringBuilder", name := "ensureCapacityInternal", desc := "(I)V" } : Jvm.MethodName) jdk_68_method_9_code (3 : Nat) (Option.none : Option Jvm.ClassFile.FieldType)).before args0 about1 = true := code_word (m := ⟨17, 3⟩) (meth := k17m3) (c := k17c3) (by decide +kernel) rfl rfl rfl (by decide +kernel)
set_option maxRecDepth 65536 in
theorem w_c42 : (Jvm.Cond.code ({ cls := "java/lang/AbstractStringBuilder", name := "putStringAt", desc := "(ILjava/lang/String;)V" } : Jvm.MethodName) jdk_68_method_73_code (3 : Nat) (Option.none : Option Jvm.ClassFile.FieldType)).before args0 about1 = true := code_word (m := ⟨17, 8⟩) (meth := k17m8) (c := k17c8) (by decide +kernel) rfl rfl rfl (by decide +kernel)
set_option maxRecDepth 65536 in
theorem w_c43 : (Jvm.Cond.code ({ cls := "java/lang/AbstractStringBuilder", name := "inflateIfNeededFor", desc := "(Ljava/lang/String;)V" } : Jvm.MethodName) jdk_68_method_71_code (2 : Nat) (Option.none : Option Jvm.ClassFile.FieldType)).before args0 about1 = true := code_word (m := ⟨17, 7⟩) (meth := k17m7) (c := k17c7) (by decide +kernel) rfl rfl rfl (by decide +kernel)
set_option maxRecDepth 65536 in
theorem w_c44 : (Jvm.Cond.code ({ cls := "java/lang/String", name := "getBytes", desc := "([BIB)V" } : Jvm.MethodName) jdk_42_method_147_code (4 : Nat) (Option.none : Option Jvm.ClassFile.FieldType)).before args0 about1 = true := code_word (m := ⟨7, 13⟩) (meth := k7m13) (c := k7c13) (by decide +kernel) rfl rfl rfl (by decide +kernel)
set_option maxRecDepth 65536 in
theorem w_c45 : (Jvm.Cond.code ({ cls := "java/lang/StringBuilder", name := "toString", desc := "()Ljava/lang/String;" } : Jvm.MethodName) jdk_67_method_42_code (1 : Nat) (Option.some (Jvm.ClassFile.FieldType.object "java/lang/String"))).before args0 about1 = true := code_word (m := ⟨18, 2⟩) (meth := k18m2) (c := k18c2) (by decide +kernel) rfl rfl rfl (by decide +kernel)
set_option maxRecDepth 65536 in
theorem w_c46 : (Jvm.Cond.code ({ cls := "java/lang/String", name := "<init>", desc := "(Ljava/lang/StringBuilder;)V" } : Jvm.MethodName) jdk_42_method_53_code (2 : Nat) (Option.none : Option Jvm.ClassFile.FieldType)).before args0 about1 = true := code_word (m := ⟨7, 4⟩) (meth := k7m4) (c := k7c4) (by decide +kernel) rfl rfl rfl (by decide +kernel)
set_option maxRecDepth 65536 in
theorem w_c47 : (Jvm.Cond.code ({ cls := "java/lang/String", name := "<init>", desc := "(Ljava/lang/AbstractStringBuilder;Ljava/lang/Void;)V" } : Jvm.MethodName) jdk_42_method_150_code (5 : Nat) (Option.none : Option Jvm.ClassFile.FieldType)).before args0 about1 = true := code_word (m := ⟨7, 15⟩) (meth := k7m15) (c := k7c15) (by decide +kernel) rfl rfl rfl (by decide +kernel)
set_option maxRecDepth 65536 in
theorem w_c48 : (Jvm.Cond.code ({ cls := "java/lang/AbstractStringBuilder", name := "getValue", desc := "()[B" } : Jvm.MethodName) jdk_68_method_64_code (1 : Nat) (Option.some (Jvm.ClassFile.FieldType.array Jvm.ClassFile.FieldType.byte))).before args0 about1 = true := code_word (m := ⟨17, 5⟩) (meth := k17m5) (c := k17c5) (by decide +kernel) rfl rfl rfl (by decide +kernel)
set_option maxRecDepth 65536 in
theorem w_c49 : (Jvm.Cond.code ({ cls := "java/lang/StringBuilder", name := "length", desc := "()I" } : Jvm.MethodName) jdk_67_method_93_code (1 : Nat) (Option.some Jvm.ClassFile.FieldType.int)).before args0 about1 = true := code_word (m := ⟨18, 3⟩) (meth := k18m3) (c := k18c3) (by decide +kernel) rfl rfl rfl (by decide +kernel)
set_option maxRecDepth 65536 in
theorem w_c50 : (Jvm.Cond.code ({ cls := "java/lang/AbstractStringBuilder", name := "length", desc := "()I" } : Jvm.MethodName) jdk_68_method_6_code (1 : Nat) (Option.some Jvm.ClassFile.FieldType.int)).before args0 about1 = true := code_word (m := ⟨17, 2⟩) (meth := k17m2) (c := k17c2) (by decide +kernel) rfl rfl rfl (by decide +kernel)
set_option maxRecDepth 65536 in
theorem w_c51 : (Jvm.Cond.code ({ cls := "java/lang/AbstractStringBuilder", name := "isLatin1", desc := "()Z" } : Jvm.MethodName) jdk_68_method_68_code (1 : Nat) (Option.some Jvm.ClassFile.FieldType.boolean)).before args0 about1 = true := code_word (m := ⟨17, 6⟩) (meth := k17m6) (c := k17c6) (by decide +kernel) rfl rfl rfl (by decide +kernel)
set_option maxRecDepth 65536 in
theorem w_c52 : (Jvm.Cond.code ({ cls := "java/lang/String", name := "getBytes", desc := "(Ljava/nio/charset/Charset;)[B" } : Jvm.MethodName) jdk_42_method_64_code (2 : Nat) (Option.some (Jvm.ClassFile.FieldType.array Jvm.ClassFile.FieldType.byte))).before args0 about1 = true := code_word (m := ⟨7, 7⟩) (meth := k7m7) (c := k7c7) (by decide +kernel) rfl rfl rfl (by decide +kernel)
set_option maxRecDepth 65536 in
theorem w_c53 : (Jvm.Cond.code ({ cls := "java/lang/String", name := "encode", desc := "(Ljava/nio/charset/Charset;B[B)[B" } : Jvm.MethodName) jdk_42_method_18_code (3 : Nat) (Option.some (Jvm.ClassFile.FieldType.array Jvm.ClassFile.FieldType.byte))).before args0 about1 = true := code_word (m := ⟨7, 2⟩) (meth := k7m2) (c := k7c2) (by decide +kernel) rfl rfl rfl (by decide +kernel)
set_option maxRecDepth 65536 in
theorem w_c54 : (Jvm.Cond.code ({ cls := "java/lang/String", name := "encodeUTF8", desc := "(B[BZ)[B" } : Jvm.MethodName) jdk_42_method_46_code (9 : Nat) (Option.some (Jvm.ClassFile.FieldType.array Jvm.ClassFile.FieldType.byte))).before args0 about1 = true := code_word (m := ⟨7, 3⟩) (meth := k7m3) (c := k7c3) (by decide +kernel) rfl rfl rfl (by decide +kernel)
set_option maxRecDepth 65536 in
theorem w_c55 : (Jvm.Cond.code ({ cls := "java/lang/StringCoding", name := "hasNegatives", desc := "([BII)Z" } : Jvm.MethodName) jdk_123_method_2_code (3 : Nat) (Option.some Jvm.ClassFile.FieldType.boolean)).before args0 about1 = true := code_word (m := ⟨24, 1⟩) (meth := k24m1) (c := k24c1) (by decide +kernel) rfl rfl rfl (by decide +kernel)
set_option maxRecDepth 65536 in
theorem w_c56 : (Jvm.Cond.code ({ cls := "java/lang/StringCoding", name := "countPositives", desc := "([BII)I" } : Jvm.MethodName) jdk_123_method_3_code (5 : Nat) (Option.some Jvm.ClassFile.FieldType.int)).before args0 about1 = true := code_word (m := ⟨24, 2⟩) (meth := k24m2) (c := k24c2) (by decide +kernel) rfl rfl rfl (by decide +kernel)
set_option maxRecDepth 65536 in
theorem w_c57 : (Jvm.Cond.code ({ cls := "com/example/turnlock/turnlock/session/DigestCredentialsParsePinLaw", name := "same", desc := "([B[BII)Z" } : Jvm.MethodName) method_4_code (4 : Nat) (Option.some Jvm.ClassFile.FieldType.boolean)).before args0 about1 = true := code_word (m := ⟨1, 3⟩) (meth := k1m3) (c := k1c3) (by decide +kernel) rfl rfl rfl (by decide +kernel)
set_option maxRecDepth 65536 in
theorem w_c58 : (Jvm.Cond.code ({ cls := "java/lang/StringUTF16", name := "newBytesFor", desc := "(I)[B" } : Jvm.MethodName) jdk_52_method_2_code (1 : Nat) (Option.some (Jvm.ClassFile.FieldType.array Jvm.ClassFile.FieldType.byte))).before args0 about1 = true := code_word (m := ⟨8, 1⟩) (meth := k8m1) (c := k8c1) (by decide +kernel) rfl rfl rfl (by decide +kernel)
set_option maxRecDepth 65536 in
theorem w_c59 : (Jvm.Cond.code ({ cls := "java/lang/StringUTF16", name := "newBytesLength", desc := "(I)I" } : Jvm.MethodName) jdk_52_method_3_code (1 : Nat) (Option.some Jvm.ClassFile.FieldType.int)).before args0 about1 = true := code_word (m := ⟨8, 2⟩) (meth := k8m2) (c := k8c2) (by decide +kernel) rfl rfl rfl (by decide +kernel)
set_option maxRecDepth 65536 in
theorem w_c60 : (Jvm.Cond.code ({ cls := "java/util/Arrays", name := "copyOf", desc := "([BI)[B" } : Jvm.MethodName) jdk_65_method_121_code (3 : Nat) (Option.some (Jvm.ClassFile.FieldType.array Jvm.ClassFile.FieldType.byte))).before args0 about1 = true := code_word (m := ⟨14, 1⟩) (meth := k14m1) (c := k14c1) (by decide +kernel) rfl rfl rfl (by decide +kernel)
def codes1 : List Jvm.Cond := [Jvm.Cond.code x code maxLocals ret, Jvm.Cond.code ({ cls := "com/example/turnlock/turnlock/session/DigestCredentialsParsePinLaw", name := "ch", desc := "(JII)C" } : Jvm.MethodName) method_2_code (5 : Nat) (Option.some Jvm.ClassFile.FieldType.char), Jvm.Cond.code ({ cls := "java/lang/String", name := "<init>", desc := "([C)V" } : Jvm.MethodName) jdk_42_method_3_code (2 : Nat) (Option.none : Option Jvm.ClassFile.FieldType), Jvm.Cond.code ({ cls := "java/lang/String", name := "<init>", desc := "([CIILjava/lang/Void;)V" } : Jvm.MethodName) jdk_42_method_149_code (6 : Nat) (Option.none : Option Jvm.ClassFile.FieldType), Jvm.Cond.code ({ cls := "java/lang/Object", name := "<init>", desc := "()V" } : Jvm.MethodName) object_method_1_code (1 : Nat) (Option.none : Option Jvm.ClassFile.FieldType), Jvm.Cond.code ({ cls := "java/lang/StringUTF16", name := "compress", desc := "([CII)[B" } : Jvm.MethodName) jdk_52_method_16_code (6 : Nat) (Option.some (Jvm.ClassFile.FieldType.array Jvm.ClassFile.FieldType.byte)), Jvm.Cond.code ({ cls := "java/lang/StringUTF16", name := "compress", desc := "([CI[BII)I" } : Jvm.MethodName) jdk_52_method_21_code (7 : Nat) (Option.some Jvm.ClassFile.FieldType.int), Jvm.Cond.code ({ cls := "java/lang/StringUTF16", name := "coderFromArrayLen", desc := "([BI)B" } : Jvm.MethodName) jdk_52_method_15_code (2 : Nat) (Option.some Jvm.ClassFile.FieldType.byte), Jvm.Cond.code ({ cls := "com/example/turnlock/turnlock/session/DigestCredentialsParsePinLaw", name := "put", desc := "([BIC)I" } : Jvm.MethodName) method_3_code (3 : Nat) (Option.some Jvm.ClassFile.FieldType.int), Jvm.Cond.code ({ cls := "com/example/turnlock/turnlock/session/DigestCredentials", name := "parse", desc := "(Ljava/lang/String;)Lcom/example/turnlock/turnlock/session/DigestCredentials;" } : Jvm.MethodName) prog_15_method_3_code (2 : Nat) (Option.some (Jvm.ClassFile.FieldType.object "com/example/turnlock/turnlock/session/DigestCredentials")), Jvm.Cond.code ({ cls := "java/util/Objects", name := "requireNonNull", desc := "(Ljava/lang/Object;Ljava/lang/String;)Ljava/lang/Object;" } : Jvm.MethodName) jdk_31_method_11_code (2 : Nat) (Option.some (Jvm.ClassFile.FieldType.object "java/lang/Object")), Jvm.Cond.code ({ cls := "java/lang/String", name := "indexOf", desc := "(I)I" } : Jvm.MethodName) jdk_42_method_79_code (2 : Nat) (Option.some Jvm.ClassFile.FieldType.int), Jvm.Cond.code ({ cls := "java/lang/String", name := "indexOf", desc := "(II)I" } : Jvm.MethodName) jdk_42_method_80_code (3 : Nat) (Option.some Jvm.ClassFile.FieldType.int), Jvm.Cond.code ({ cls := "java/lang/String", name := "isLatin1", desc := "()Z" } : Jvm.MethodName) jdk_42_method_154_code (1 : Nat) (Option.some Jvm.ClassFile.FieldType.boolean), Jvm.Cond.code ({ cls := "java/lang/String", name := "length", desc := "()I" } : Jvm.MethodName) jdk_42_method_54_code (1 : Nat) (Option.some Jvm.ClassFile.FieldType.int), Jvm.Cond.code ({ cls := "java/lang/String", name := "coder", desc := "()B" } : Jvm.MethodName) jdk_42_method_152_code (1 : Nat) (Option.some Jvm.ClassFile.FieldType.byte), Jvm.Cond.code ({ cls := "java/lang/StringLatin1", name := "indexOf", desc := "([BIII)I" } : Jvm.MethodName) jdk_43_method_22_code (4 : Nat) (Option.some Jvm.ClassFile.FieldType.int), Jvm.Cond.code ({ cls := "java/lang/StringLatin1", name := "canEncode", desc := "(I)Z" } : Jvm.MethodName) jdk_43_method_4_code (1 : Nat) (Option.some Jvm.ClassFile.FieldType.boolean), Jvm.Cond.code ({ cls := "java/lang/Math", name := "max", desc := "(II)I" } : Jvm.MethodName) jdk_29_method_65_code (2 : Nat) (Option.some Jvm.ClassFile.FieldType.int), Jvm.Cond.code ({ cls := "java/lang/Math", name := "min", desc := "(II)I" } : Jvm.MethodName) jdk_29_method_69_code (2 : Nat) (Option.some Jvm.ClassFile.FieldType.int), Jvm.Cond.code ({ cls := "java/lang/StringLatin1", name := "indexOfChar", desc := "([BIII)I" } : Jvm.MethodName) jdk_43_method_23_code (6 : Nat) (Option.some Jvm.ClassFile.FieldType.int), Jvm.Cond.code ({ cls := "java/lang/String", name := "substring", desc := "(II)Ljava/lang/String;" } : Jvm.MethodName) jdk_42_method_92_code (5 : Nat) (Option.some (Jvm.ClassFile.FieldType.object "java/lang/String")), Jvm.Cond.code ({ cls := "java/lang/String", name := "checkBoundsBeginEnd", desc := "(III)V" } : Jvm.MethodName) jdk_42_method_158_code (3 : Nat) (Option.none : Option Jvm.ClassFile.FieldType), Jvm.Cond.code ({ cls := "jdk/internal/util/Preconditions", name := "checkFromToIndex", desc := "(IIILjava/util/function/BiFunction;)I" } : Jvm.MethodName) jdk_41_method_12_code (4 : Nat) (Option.some Jvm.ClassFile.FieldType.int), Jvm.Cond.code ({ cls := "java/lang/StringLatin1", name := "newString", desc := "([BII)Ljava/lang/String;" } : Jvm.MethodName) jdk_43_method_47_code (3 : Nat) (Option.some (Jvm.ClassFile.FieldType.object "java/lang/String")), Jvm.Cond.code ({ cls := "java/util/Arrays", name := "copyOfRange", desc := "([BII)[B" } : Jvm.MethodName) jdk_65_method_132_code (3 : Nat) (Option.some (Jvm.ClassFile.FieldType.array Jvm.ClassFile.FieldType.byte)), Jvm.Cond.code ({ cls := "java/util/Arrays", name := "copyOfRangeByte", desc := "([BII)[B" } : Jvm.MethodName) jdk_65_method_133_code (5 : Nat) (Option.some (Jvm.ClassFile.FieldType.array Jvm.ClassFile.FieldType.byte)), Jvm.Cond.code ({ cls := "java/util/Arrays", name := "checkLength", desc := "(II)V" } : Jvm.MethodName) jdk_65_method_131_code (2 : Nat) (Option.none : Option Jvm.ClassFile.FieldType), Jvm.Cond.code ({ cls := "java/lang/String", name := "<init>", desc := "([BB)V" } : Jvm.MethodName) jdk_42_method_151_code (3 : Nat) (Option.none : Option Jvm.ClassFile.FieldType), Jvm.Cond.code ({ cls := "java/lang/String", name := "substring", desc := "(I)Ljava/lang/String;" } : Jvm.MethodName) jdk_42_method_91_code (2 : Nat) (Option.some (Jvm.ClassFile.FieldType.object "java/lang/String")), Jvm.Cond.code ({ cls := "com/example/turnlock/turnlock/session/DigestCredentials", name := "of", desc := "(Ljava/lang/String;Ljava/lang/String;)Lcom/example/turnlock/turnlock/session/DigestCredentials;" } : Jvm.MethodName) prog_15_method_2_code (2 : Nat) (Option.some (Jvm.ClassFile.FieldType.object "com/example/turnlock/turnlock/session/DigestCredentials")), Jvm.Cond.code ({ cls := "java/lang/String", name := "isEmpty", desc := "()Z" } : Jvm.MethodName) jdk_42_method_55_code (1 : Nat) (Option.some Jvm.ClassFile.FieldType.boolean), Jvm.Cond.code ({ cls := "com/example/turnlock/turnlock/session/DigestCredentials", name := "<init>", desc := "(Ljava/lang/String;Ljava/lang/String;)V" } : Jvm.MethodName) prog_15_method_1_code (3 : Nat) (Option.none : Option Jvm.ClassFile.FieldType), Jvm.Cond.code ({ cls := "com/example/turnlock/turnlock/session/DigestCredentials", name := "user", desc := "()Ljava/lang/String;" } : Jvm.MethodName) prog_15_method_4_code (1 : Nat) (Option.some (Jvm.ClassFile.FieldType.object "java/lang/String")), Jvm.Cond.code ({ cls := "java/lang/String", name := "equals", desc := "(Ljava/lang/Object;)Z" } : Jvm.MethodName) jdk_42_method_66_code (3 : Nat) (Option.some Jvm.ClassFile.FieldType.boolean), Jvm.Cond.code ({ cls := "java/lang/StringLatin1", name := "equals", desc := "([B[B)Z" } : Jvm.MethodName) jdk_43_method_13_code (3 : Nat) (Option.some Jvm.ClassFile.FieldType.boolean), Jvm.Cond.code ({ cls := "com/example/turnlock/turnlock/session/DigestCredentials", name := "authData", desc := "()[B" } : Jvm.MethodName) prog_15_method_5_code (1 : Nat) (Option.some (Jvm.ClassFile.FieldType.array Jvm.ClassFile.FieldType.byte)), Jvm.Cond.code ({ cls := "java/lang/StringBuilder", name := "<init>", desc := "()V" } : Jvm.MethodName) jdk_67_method_1_code (1 : Nat) (Option.none : Option Jvm.ClassFile.FieldType), Jvm.Cond.code ({ cls := "java/lang/AbstractStringBuilder", name := "<init>", desc := "(I)V" } : Jvm.MethodName) jdk_68_method_2_code (2 : Nat) (Option.none : Option Jvm.ClassFile.FieldType), Jvm.Cond.code ({ cls := "java/lang/StringBuilder", name := "append", desc := "(Ljava/lang/String;)Ljava/lang/StringBuilder;" } : Jvm.MethodName) jdk_67_method_7_code (2 : Nat) (Option.some (Jvm.ClassFile.FieldType.object "java/lang/StringBuilder")), Jvm.Cond.code ({ cls := "java/lang/AbstractStringBuilder", name := "append", desc := "(Ljava/lang/String;)Ljava/lang/AbstractStringBuilder;" } : Jvm.MethodName) jdk_68_method_22_code (3 : Nat) (Option.some (Jvm.ClassFile.FieldType.object "java/lang/AbstractStringBuilder")), Jvm.Cond.code ({ cls := "java/lang/AbstractStringBuilder", name := "ensureCapacityInternal", desc := "(I)V" } : Jvm.MethodName) jdk_68_method_9_code (3 : Nat) (Option.none : Option Jvm.ClassFile.FieldType), Jvm.Cond.code ({ cls := "java/lang/AbstractStringBuilder", name := "putStringAt", desc := "(ILjava/lang/String;)V" } : Jvm.MethodName) jdk_68_method_73_code (3 : Nat) (Option.none : Option Jvm.ClassFile.FieldType), Jvm.Cond.code ({ cls := "java/lang/AbstractStringBuilder", name := "inflateIfNeededFor", desc := "(Ljava/lang/String;)V" } : Jvm.MethodName) jdk_68_method_71_code (2 : Nat) (Option.none : Option Jvm.ClassFile.FieldType), Jvm.Cond.code ({ cls := "java/lang/String", name := "getBytes", desc := "([BIB)V" } : Jvm.MethodName) jdk_42_method_147_code (4 : Nat) (Option.none : Option Jvm.ClassFile.FieldType), Jvm.Cond.code ({ cls := "java/lang/StringBuilder", name := "toString", desc := "()Ljava/lang/String;" } : Jvm.MethodName) jdk_67_method_42_code (1 : Nat) (Option.some (Jvm.ClassFile.FieldType.object "java/lang/String")), Jvm.Cond.code ({ cls := "java/lang/String", name := "<init>", desc := "(Ljava/lang/StringBuilder;)V" } : Jvm.MethodName) jdk_42_method_53_code (2 : Nat) (Option.none : Option Jvm.ClassFile.FieldType), Jvm.Cond.code ({ cls := "java/lang/String", name := "<init>", desc := "(Ljava/lang/AbstractStringBuilder;Ljava/lang/Void;)V" } : Jvm.MethodName) jdk_42_method_150_code (5 : Nat) (Option.none : Option Jvm.ClassFile.FieldType), Jvm.Cond.code ({ cls := "java/lang/AbstractStringBuilder", name := "getValue", desc := "()[B" } : Jvm.MethodName) jdk_68_method_64_code (1 : Nat) (Option.some (Jvm.ClassFile.FieldType.array Jvm.ClassFile.FieldType.byte)), Jvm.Cond.code ({ cls := "java/lang/StringBuilder", name := "length", desc := "()I" } : Jvm.MethodName) jdk_67_method_93_code (1 : Nat) (Option.some Jvm.ClassFile.FieldType.int), Jvm.Cond.code ({ cls := "java/lang/AbstractStringBuilder", name := "length", desc := "()I" } : Jvm.MethodName) jdk_68_method_6_code (1 : Nat) (Option.some Jvm.ClassFile.FieldType.int), Jvm.Cond.code ({ cls := "java/lang/AbstractStringBuilder", name := "isLatin1", desc := "()Z" } : Jvm.MethodName) jdk_68_method_68_code (1 : Nat) (Option.some Jvm.ClassFile.FieldType.boolean), Jvm.Cond.code ({ cls := "java/lang/String", name := "getBytes", desc := "(Ljava/nio/charset/Charset;)[B" } : Jvm.MethodName) jdk_42_method_64_code (2 : Nat) (Option.some (Jvm.ClassFile.FieldType.array Jvm.ClassFile.FieldType.byte)), Jvm.Cond.code ({ cls := "java/lang/String", name := "encode", desc := "(Ljava/nio/charset/Charset;B[B)[B" } : Jvm.MethodName) jdk_42_method_18_code (3 : Nat) (Option.some (Jvm.ClassFile.FieldType.array Jvm.ClassFile.FieldType.byte)), Jvm.Cond.code ({ cls := "java/lang/String", name := "encodeUTF8", desc := "(B[BZ)[B" } : Jvm.MethodName) jdk_42_method_46_code (9 : Nat) (Option.some (Jvm.ClassFile.FieldType.array Jvm.ClassFile.FieldType.byte)), Jvm.Cond.code ({ cls := "java/lang/StringCoding", name := "hasNegatives", desc := "([BII)Z" } : Jvm.MethodName) jdk_123_method_2_code (3 : Nat) (Option.some Jvm.ClassFile.FieldType.boolean), Jvm.Cond.code ({ cls := "java/lang/StringCoding", name := "countPositives", desc := "([BII)I" } : Jvm.MethodName) jdk_123_method_3_code (5 : Nat) (Option.some Jvm.ClassFile.FieldType.int), Jvm.Cond.code ({ cls := "com/example/turnlock/turnlock/session/DigestCredentialsParsePinLaw", name := "same", desc := "([B[BII)Z" } : Jvm.MethodName) method_4_code (4 : Nat) (Option.some Jvm.ClassFile.FieldType.boolean), Jvm.Cond.code ({ cls := "java/lang/StringUTF16", name := "newBytesFor", desc := "(I)[B" } : Jvm.MethodName) jdk_52_method_2_code (1 : Nat) (Option.some (Jvm.ClassFile.FieldType.array Jvm.ClassFile.FieldType.byte)), Jvm.Cond.code ({ cls := "java/lang/StringUTF16", name := "newBytesLength", desc := "(I)I" } : Jvm.MethodName) jdk_52_method_3_code (1 : Nat) (Option.some Jvm.ClassFile.FieldType.int), Jvm.Cond.code ({ cls := "java/util/Arrays", name := "copyOf", desc := "([BI)[B" } : Jvm.MethodName) jdk_65_method_121_code (3 : Nat) (Option.some (Jvm.ClassFile.FieldType.array Jvm.ClassFile.FieldType.byte))]
set_option maxRecDepth 65536 in
theorem codes_eq : words1.filter isCode = codes1 := rfl
theorem w_codes : ∀ c ∈ words1.filter isCode, c.before args0 about1 = true := by
  rw [codes_eq]
  intro c hc
  simp only [codes1, List.mem_cons, List.not_mem_nil, or_false] at hc
  rcases hc with rfl | rfl | rfl | rfl | rfl | rfl | rfl | rfl | rfl | rfl | rfl | rfl | rfl | rfl | rfl | rfl | rfl | rfl | rfl | rfl | rfl | rfl | rfl | rfl | rfl | rfl | rfl | rfl | rfl | rfl | rfl | rfl | rfl | rfl | rfl | rfl | rfl | rfl | rfl | rfl | rfl | rfl | rfl | rfl | rfl | rfl | rfl | rfl | rfl | rfl | rfl | rfl | rfl | rfl | rfl | rfl | rfl | rfl | rfl | rfl | rfl
  · exact w_c0
  · exact w_c1
  · exact w_c2
  · exact w_c3
  · exact w_c4
  · exact w_c5
  · exact w_c6
  · exact w_c7
  · exact w_c8
  · exact w_c9
  · exact w_c10
  · exact w_c11
  · exact w_c12
  · exact w_c13
  · exact w_c14
  · exact w_c15
  · exact w_c16
  · exact w_c17
  · exact w_c18
  · exact w_c19
  · exact w_c20
  · exact w_c21
  · exact w_c22
  · exact w_c23
  · exact w_c24
  · exact w_c25
  · exact w_c26
  · exact w_c27
  · exact w_c28
  · exact w_c29
  · exact w_c30
  · exact w_c31
  · exact w_c32
  · exact w_c33
  · exact w_c34
  · exact w_c35
  · exact w_c36
  · exact w_c37
  · exact w_c38
  · exact w_c39
  · exact w_c40
  · exact w_c41
  · exact w_c42
  · exact w_c43
  · exact w_c44
  · exact w_c45
  · exact w_c46
  · exact w_c47
  · exact w_c48
  · exact w_c49
  · exact w_c50
  · exact w_c51
  · exact w_c52
  · exact w_c53
  · exact w_c54
  · exact w_c55
  · exact w_c56
  · exact w_c57
  · exact w_c58
  · exact w_c59
  · exact w_c60
set_option maxRecDepth 65536 in
theorem w_t1 : (words1.take 24).all (fun c => isCode c || c.before args0 about1) = true := by decide +kernel
set_option maxRecDepth 65536 in
theorem w_t2 : ((words1.drop 24).take 24).all (fun c => isCode c || c.before args0 about1) = true := by decide +kernel
set_option maxRecDepth 65536 in
theorem w_t3 : (((words1.drop 24).drop 24).take 24).all (fun c => isCode c || c.before args0 about1) = true := by decide +kernel
set_option maxRecDepth 65536 in
theorem w_t4 : ((((words1.drop 24).drop 24).drop 24).take 24).all (fun c => isCode c || c.before args0 about1) = true := by decide +kernel
set_option maxRecDepth 65536 in
theorem w_t5 : (((((words1.drop 24).drop 24).drop 24).drop 24).take 24).all (fun c => isCode c || c.before args0 about1) = true := by decide +kernel
set_option maxRecDepth 65536 in
theorem w_t6 : ((((((words1.drop 24).drop 24).drop 24).drop 24).drop 24).take 24).all (fun c => isCode c || c.before args0 about1) = true := by decide +kernel
set_option maxRecDepth 65536 in
theorem w_t7 : (((((((words1.drop 24).drop 24).drop 24).drop 24).drop 24).drop 24).take 24).all (fun c => isCode c || c.before args0 about1) = true := by decide +kernel
set_option maxRecDepth 65536 in
theorem w_t8 : ((((((((words1.drop 24).drop 24).drop 24).drop 24).drop 24).drop 24).drop 24).take 24).all (fun c => isCode c || c.before args0 about1) = true := by decide +kernel
set_option maxRecDepth 65536 in
theorem w_t9 : (((((((((words1.drop 24).drop 24).drop 24).drop 24).drop 24).drop 24).drop 24).drop 24).take 24).all (fun c => isCode c || c.before args0 about1) = true := by decide +kernel
set_option maxRecDepth 65536 in
theorem w_t10 : ((((((((((words1.drop 24).drop 24).drop 24).drop 24).drop 24).drop 24).drop 24).drop 24).drop 24).take 24).all (fun c => isCode c || c.before args0 about1) = true := by decide +kernel
set_option maxRecDepth 65536 in
theorem w_t11 : (((((((((((words1.drop 24).drop 24).drop 24).drop 24).drop 24).drop 24).drop 24).drop 24).drop 24).drop 24).take 24).all (fun c => isCode c || c.before args0 about1) = true := by decide +kernel
set_option maxRecDepth 65536 in
theorem w_t12 : ((((((((((((words1.drop 24).drop 24).drop 24).drop 24).drop 24).drop 24).drop 24).drop 24).drop 24).drop 24).drop 24).take 24).all (fun c => isCode c || c.before args0 about1) = true := by decide +kernel
set_option maxRecDepth 65536 in
theorem w_t13 : ((((((((((((words1.drop 24).drop 24).drop 24).drop 24).drop 24).drop 24).drop 24).drop 24).drop 24).drop 24).drop 24).drop 24).all (fun c => isCode c || c.before args0 about1) = true := by decide +kernel
theorem w_tables : (allAtoms (Jvm.Cond.code x code maxLocals ret :: tables_1)).before args0 about1 = true := by
  rw [allAtoms_all]
  show words1.all (fun c => c.before args0 about1) = true
  refine all_split ?_ w_codes
  rw [← List.take_append_drop 24 words1, List.all_append, w_t1, ← List.take_append_drop 24 (words1.drop 24), List.all_append, w_t2, ← List.take_append_drop 24 ((words1.drop 24).drop 24), List.all_append, w_t3, ← List.take_append_drop 24 (((words1.drop 24).drop 24).drop 24), List.all_append, w_t4, ← List.take_append_drop 24 ((((words1.drop 24).drop 24).drop 24).drop 24), List.all_append, w_t5, ← List.take_append_drop 24 (((((words1.drop 24).drop 24).drop 24).drop 24).drop 24), List.all_append, w_t6, ← List.take_append_drop 24 ((((((words1.drop 24).drop 24).drop 24).drop 24).drop 24).drop 24), List.all_append, w_t7, ← List.take_append_drop 24 (((((((words1.drop 24).drop 24).drop 24).drop 24).drop 24).drop 24).drop 24), List.all_append, w_t8, ← List.take_append_drop 24 ((((((((words1.drop 24).drop 24).drop 24).drop 24).drop 24).drop 24).drop 24).drop 24), List.all_append, w_t9, ← List.take_append_drop 24 (((((((((words1.drop 24).drop 24).drop 24).drop 24).drop 24).drop 24).drop 24).drop 24).drop 24), List.all_append, w_t10, ← List.take_append_drop 24 ((((((((((words1.drop 24).drop 24).drop 24).drop 24).drop 24).drop 24).drop 24).drop 24).drop 24).drop 24), List.all_append, w_t11, ← List.take_append_drop 24 (((((((((((words1.drop 24).drop 24).drop 24).drop 24).drop 24).drop 24).drop 24).drop 24).drop 24).drop 24).drop 24), List.all_append, w_t12, w_t13]
  rfl
set_option maxRecDepth 65536 in
theorem w_rest : rest_1_c.before args0 about1 = true := by decide +kernel
set_option maxRecDepth 65536 in
theorem w_case : (Jvm.Cond.and given_1 narrow_1).before args0 about1 = true := by decide +kernel
set_option maxRecDepth 65536 in
theorem w_consts : constsHeld consts_1 about1 := Jvm.Lit.constsHeldB_iff.mp (by decide +kernel)
theorem w_applies : (headSpec (Jvm.Cond.code x code maxLocals ret :: tables_1) room_1).applies x e0.platform about1 = true :=
  (Spec.applies_iff w_frames).mpr ⟨w_running, w_runnable, w_alone, w_named, w_hears, w_ripe, w_room, w_tables⟩
theorem atStart : AtStart classFile x code maxLocals ret World_1 tables_1 room_1 Calls_1 rest_1 Pre_1 launch0 p0 e0 about1 theMethod args0 below0 :=
  ⟨lists_1, trivial, launch0.admits_env _ _ _, launch0.least_env, fairChoices_fair.cas, fairChoices_fair.clock, w_frames, w_args, w_heap, w_applies, ⟨w_consts, trivial⟩, w_rest, w_case⟩
end start1
theorem witness_1 : WitnessClaimed_1 := ⟨start1.p0, start1.e0, start1.about1, start1.theMethod, start1.args0, start1.below0, start1.atStart⟩
end Jvm.Pilot.@@N@@

import JvmDerived
import JvmDerived.Pilot.@@N@@Statement
import JvmDerived.Pilot.@@N@@Code
set_option linter.unusedVariables false
set_option linter.unusedSimpArgs false
namespace Jvm.RoadKit
open Sem ClassFile Op Lib Jvm.Stand Jvm.Free Jvm.LawKit
section New
variable {p : Program} {l : Launch} {e : Env} {R : Room} {s : State} {m : MethodId} {args : Array Value} {below : List Frame} {meth : Method} {c : Code} {T : State} {locs : List Loc} {cells slots : Nat}
theorem retI (X : Stand p l e R s m args below meth c T locs cells slots) (hx : p.tables.exec = Jvm.exec) {pc : Nat} {Ls : Array Slot} {z : Int32} {rest : List Value} (hret : meth.sig.returnType = some .int) (hd : decode c.code pc = .ok (.ireturn, 1)) {fs : List Frame}
    (hl : ∀ (f : JFrame) (acts : List Action), f.method = m → f.locked = none → f.entered = [] → (doReturn e (T.setTop f) acts (some (.int z))).1 = T.setFrames fs) : Steps p.tables e below (T.setTop (mkF m pc Ls (.int z :: rest))) (T.setFrames fs) :=
  retOut X hx hret rfl (Or.inl ⟨rfl, Or.inl rfl, _, rfl⟩) hd hl
end New
end Jvm.RoadKit
namespace Jvm.Own
open Sem ClassFile Op Lib Jvm.Stand Jvm.Free Jvm.LawKit Jvm.RoadKit
/-- from here the run comes to a state that meets F -/
def Go (tb : Tables) (e : Env) (below : List Frame) (F : State → Prop) (T : State) (g : JFrame) : Prop := ∃ t, Steps tb e below (T.setTop g) t ∧ F t
section Steps0
variable {tb : Tables} {e : Env} {below : List Frame} {F : State → Prop} {T T' : State} {g g' : JFrame}
theorem Go.st (q : ∀ t, Steps tb e below (T'.setTop g') t → Steps tb e below (T.setTop g) t) (k : Go tb e below F T' g') : Go tb e below F T g := by
  obtain ⟨t, h1, h2⟩ := k
  exact ⟨t, q t h1, h2⟩
theorem Go.tr (q : Steps tb e below (T.setTop g) (T'.setTop g')) (k : Go tb e below F T' g') : Go tb e below F T g := by
  obtain ⟨t, h1, h2⟩ := k
  exact ⟨t, q.trans h1, h2⟩
end Steps0
section Steps
variable {tb : Tables} [Ours tb] {e : Env} {below : List Frame} {F : State → Prop} {T T' : State} {m : MethodId} {c : Code} {pc pc' : Nat} {Ls Ls' : Array Slot} {sk : List Value}
theorem s_iload (h : At T m c below) (hx : tb.exec = Jvm.exec) {k : Nat} {v : Int32} (hd : decode c.code pc = .ok (.iload k, 2)) (hp : pc + 2 = pc') (hl : Ls[k]? = some (.val (.int v)))  (q : Go tb e below F T (mkF m pc' Ls ((.int v) :: sk))) : Go tb e below F T (mkF m pc Ls (sk)) := by
  subst hp; exact Go.st (fun _ r => XS.iload (g := mkF m pc Ls (sk)) h hx rfl hd hl  r) q
theorem s_iloadN (h : At T m c below) (hx : tb.exec = Jvm.exec) {k : Fin 4} {v : Int32} (hd : decode c.code pc = .ok (.iload_n k, 1)) (hp : pc + 1 = pc') (hl : Ls[k.val]? = some (.val (.int v)))  (q : Go tb e below F T (mkF m pc' Ls ((.int v) :: sk))) : Go tb e below F T (mkF m pc Ls (sk)) := by
  subst hp; exact Go.st (fun _ r => XS.iloadN (g := mkF m pc Ls (sk)) h hx rfl hd hl  r) q
theorem s_istore (h : At T m c below) (hx : tb.exec = Jvm.exec) {k : Nat} {v : Int32} (hd : decode c.code pc = .ok (.istore k, 2)) (hp : pc + 2 = pc')  (hl : storeLocals Ls k (.int v) = some Ls') (q : Go tb e below F T (mkF m pc' Ls' (sk))) : Go tb e below F T (mkF m pc Ls ((.int v) :: sk)) := by
  subst hp; exact Go.st (fun _ r => XS.istore (g := mkF m pc Ls ((.int v) :: sk)) h hx rfl hd rfl  hl r) q
theorem s_istoreN (h : At T m c below) (hx : tb.exec = Jvm.exec) {k : Fin 4} {v : Int32} (hd : decode c.code pc = .ok (.istore_n k, 1)) (hp : pc + 1 = pc')  (hl : storeLocals Ls k.val (.int v) = some Ls') (q : Go tb e below F T (mkF m pc' Ls' (sk))) : Go tb e below F T (mkF m pc Ls ((.int v) :: sk)) := by
  subst hp; exact Go.st (fun _ r => XS.istoreN (g := mkF m pc Ls ((.int v) :: sk)) h hx rfl hd rfl  hl r) q
theorem s_lload (h : At T m c below) (hx : tb.exec = Jvm.exec) {k : Nat} {v : Int64} (hd : decode c.code pc = .ok (.lload k, 2)) (hp : pc + 2 = pc') (hl : Ls[k]? = some (.val (.long v)))  (q : Go tb e below F T (mkF m pc' Ls ((.long v) :: sk))) : Go tb e below F T (mkF m pc Ls (sk)) := by
  subst hp; exact Go.st (fun _ r => XS.lload (g := mkF m pc Ls (sk)) h hx rfl hd hl  r) q
theorem s_lloadN (h : At T m c below) (hx : tb.exec = Jvm.exec) {k : Fin 4} {v : Int64} (hd : decode c.code pc = .ok (.lload_n k, 1)) (hp : pc + 1 = pc') (hl : Ls[k.val]? = some (.val (.long v)))  (q : Go tb e below F T (mkF m pc' Ls ((.long v) :: sk))) : Go tb e below F T (mkF m pc Ls (sk)) := by
  subst hp; exact Go.st (fun _ r => XS.lloadN (g := mkF m pc Ls (sk)) h hx rfl hd hl  r) q
theorem s_lstore (h : At T m c below) (hx : tb.exec = Jvm.exec) {k : Nat} {v : Int64} (hd : decode c.code pc = .ok (.lstore k, 2)) (hp : pc + 2 = pc')  (hl : storeLocals Ls k (.long v) = some Ls') (q : Go tb e below F T (mkF m pc' Ls' (sk))) : Go tb e below F T (mkF m pc Ls ((.long v) :: sk)) := by
  subst hp; exact Go.st (fun _ r => XS.lstore (g := mkF m pc Ls ((.long v) :: sk)) h hx rfl hd rfl  hl r) q
theorem s_lstoreN (h : At T m c below) (hx : tb.exec = Jvm.exec) {k : Fin 4} {v : Int64} (hd : decode c.code pc = .ok (.lstore_n k, 1)) (hp : pc + 1 = pc')  (hl : storeLocals Ls k.val (.long v) = some Ls') (q : Go tb e below F T (mkF m pc' Ls' (sk))) : Go tb e below F T (mkF m pc Ls ((.long v) :: sk)) := by
  subst hp; exact Go.st (fun _ r => XS.lstoreN (g := mkF m pc Ls ((.long v) :: sk)) h hx rfl hd rfl  hl r) q
theorem s_dload (h : At T m c below) (hx : tb.exec = Jvm.exec) {k : Nat} {v : UInt64} (hd : decode c.code pc = .ok (.dload k, 2)) (hp : pc + 2 = pc') (hl : Ls[k]? = some (.val (.double v)))  (q : Go tb e below F T (mkF m pc' Ls ((.double v) :: sk))) : Go tb e below F T (mkF m pc Ls (sk)) := by
  subst hp; exact Go.st (fun _ r => XS.dload (g := mkF m pc Ls (sk)) h hx rfl hd hl  r) q
theorem s_dloadN (h : At T m c below) (hx : tb.exec = Jvm.exec) {k : Fin 4} {v : UInt64} (hd : decode c.code pc = .ok (.dload_n k, 1)) (hp : pc + 1 = pc') (hl : Ls[k.val]? = some (.val (.double v)))  (q : Go tb e below F T (mkF m pc' Ls ((.double v) :: sk))) : Go tb e below F T (mkF m pc Ls (sk)) := by
  subst hp; exact Go.st (fun _ r => XS.dloadN (g := mkF m pc Ls (sk)) h hx rfl hd hl  r) q
theorem s_dstore (h : At T m c below) (hx : tb.exec = Jvm.exec) {k : Nat} {v : UInt64} (hd : decode c.code pc = .ok (.dstore k, 2)) (hp : pc + 2 = pc')  (hl : storeLocals Ls k (.double v) = some Ls') (q : Go tb e below F T (mkF m pc' Ls' (sk))) : Go tb e below F T (mkF m pc Ls ((.double v) :: sk)) := by
  subst hp; exact Go.st (fun _ r => XS.dstore (g := mkF m pc Ls ((.double v) :: sk)) h hx rfl hd rfl  hl r) q
theorem s_dstoreN (h : At T m c below) (hx : tb.exec = Jvm.exec) {k : Fin 4} {v : UInt64} (hd : decode c.code pc = .ok (.dstore_n k, 1)) (hp : pc + 1 = pc')  (hl : storeLocals Ls k.val (.double v) = some Ls') (q : Go tb e below F T (mkF m pc' Ls' (sk))) : Go tb e below F T (mkF m pc Ls ((.double v) :: sk)) := by
  subst hp; exact Go.st (fun _ r => XS.dstoreN (g := mkF m pc Ls ((.double v) :: sk)) h hx rfl hd rfl  hl r) q
theorem s_aload (h : At T m c below) (hx : tb.exec = Jvm.exec) {k : Nat} {v : Value} (hd : decode c.code pc = .ok (.aload k, 2)) (hp : pc + 2 = pc') (hl : Ls[k]? = some (.val (v))) (hv : v.isRef = true) (q : Go tb e below F T (mkF m pc' Ls ((v) :: sk))) : Go tb e below F T (mkF m pc Ls (sk)) := by
  subst hp; exact Go.st (fun _ r => XS.aload (g := mkF m pc Ls (sk)) h hx rfl hd hl hv r) q
theorem s_aloadN (h : At T m c below) (hx : tb.exec = Jvm.exec) {k : Fin 4} {v : Value} (hd : decode c.code pc = .ok (.aload_n k, 1)) (hp : pc + 1 = pc') (hl : Ls[k.val]? = some (.val (v))) (hv : v.isRef = true) (q : Go tb e below F T (mkF m pc' Ls ((v) :: sk))) : Go tb e below F T (mkF m pc Ls (sk)) := by
  subst hp; exact Go.st (fun _ r => XS.aloadN (g := mkF m pc Ls (sk)) h hx rfl hd hl hv r) q
theorem s_astore (h : At T m c below) (hx : tb.exec = Jvm.exec) {k : Nat} {v : Value} (hd : decode c.code pc = .ok (.astore k, 2)) (hp : pc + 2 = pc') (hv : v.isRef = true) (hl : storeLocals Ls k (v) = some Ls') (q : Go tb e below F T (mkF m pc' Ls' (sk))) : Go tb e below F T (mkF m pc Ls ((v) :: sk)) := by
  subst hp; exact Go.st (fun _ r => XS.astore (g := mkF m pc Ls ((v) :: sk)) h hx rfl hd rfl hv hl r) q
theorem s_astoreN (h : At T m c below) (hx : tb.exec = Jvm.exec) {k : Fin 4} {v : Value} (hd : decode c.code pc = .ok (.astore_n k, 1)) (hp : pc + 1 = pc') (hv : v.isRef = true) (hl : storeLocals Ls k.val (v) = some Ls') (q : Go tb e below F T (mkF m pc' Ls' (sk))) : Go tb e below F T (mkF m pc Ls ((v) :: sk)) := by
  subst hp; exact Go.st (fun _ r => XS.astoreN (g := mkF m pc Ls ((v) :: sk)) h hx rfl hd rfl hv hl r) q
theorem s_iconst (h : At T m c below) (hx : tb.exec = Jvm.exec) {i : Int} {v : Int32} (hd : decode c.code pc = .ok (.iconst i, 1)) (hp : pc + 1 = pc') (hv : Int32.ofInt i = v) (q : Go tb e below F T (mkF m pc' Ls ((.int v) :: sk))) : Go tb e below F T (mkF m pc Ls sk) := by
  subst hp hv; exact Go.st (fun _ r => XS.iconst (g := mkF m pc Ls sk) h hx rfl hd r) q
theorem s_bipush (h : At T m c below) (hx : tb.exec = Jvm.exec) {i : Int} {v : Int32} (hd : decode c.code pc = .ok (.bipush i, 2)) (hp : pc + 2 = pc') (hv : (Int8.ofInt i).toInt32 = v) (q : Go tb e below F T (mkF m pc' Ls ((.int v) :: sk))) : Go tb e below F T (mkF m pc Ls sk) := by
  subst hp hv; exact Go.st (fun _ r => XS.bipush (g := mkF m pc Ls sk) h hx rfl hd r) q
theorem s_sipush (h : At T m c below) (hx : tb.exec = Jvm.exec) {i : Int} {v : Int32} (hd : decode c.code pc = .ok (.sipush i, 3)) (hp : pc + 3 = pc') (hv : (Int16.ofInt i).toInt32 = v) (q : Go tb e below F T (mkF m pc' Ls ((.int v) :: sk))) : Go tb e below F T (mkF m pc Ls sk) := by
  subst hp hv; exact Go.st (fun _ r => XS.sipush (g := mkF m pc Ls sk) h hx rfl hd r) q
theorem s_aconst_null (h : At T m c below) (hx : tb.exec = Jvm.exec) (hd : decode c.code pc = .ok (.aconst_null, 1)) (hp : pc + 1 = pc') (q : Go tb e below F T (mkF m pc' Ls (.null :: sk))) : Go tb e below F T (mkF m pc Ls sk) := by
  subst hp; exact Go.st (fun _ r => XS.aconstNull (g := mkF m pc Ls sk) h hx rfl hd r) q
theorem s_iadd (h : At T m c below) (hx : tb.exec = Jvm.exec) {x y z : Int32} (hd : decode c.code pc = .ok (.iadd, 1)) (hp : pc + 1 = pc') (hv : x + y = z) (q : Go tb e below F T (mkF m pc' Ls (.int z :: sk))) : Go tb e below F T (mkF m pc Ls (.int y :: .int x :: sk)) := by
  subst hp hv; exact Go.st (fun _ r => XS.iadd (g := mkF m pc Ls (.int y :: .int x :: sk)) h hx rfl hd rfl r) q
theorem s_isub (h : At T m c below) (hx : tb.exec = Jvm.exec) {x y z : Int32} (hd : decode c.code pc = .ok (.isub, 1)) (hp : pc + 1 = pc') (hv : x - y = z) (q : Go tb e below F T (mkF m pc' Ls (.int z :: sk))) : Go tb e below F T (mkF m pc Ls (.int y :: .int x :: sk)) := by
  subst hp hv; exact Go.st (fun _ r => XS.isub (g := mkF m pc Ls (.int y :: .int x :: sk)) h hx rfl hd rfl r) q
theorem s_imul (h : At T m c below) (hx : tb.exec = Jvm.exec) {x y z : Int32} (hd : decode c.code pc = .ok (.imul, 1)) (hp : pc + 1 = pc') (hv : x * y = z) (q : Go tb e below F T (mkF m pc' Ls (.int z :: sk))) : Go tb e below F T (mkF m pc Ls (.int y :: .int x :: sk)) := by
  subst hp hv; exact Go.st (fun _ r => XS.imul (g := mkF m pc Ls (.int y :: .int x :: sk)) h hx rfl hd rfl r) q
theorem s_iand (h : At T m c below) (hx : tb.exec = Jvm.exec) {x y z : Int32} (hd : decode c.code pc = .ok (.iand, 1)) (hp : pc + 1 = pc') (hv : x &&& y = z) (q : Go tb e below F T (mkF m pc' Ls (.int z :: sk))) : Go tb e below F T (mkF m pc Ls (.int y :: .int x :: sk)) := by
  subst hp hv; exact Go.st (fun _ r => XS.iand (g := mkF m pc Ls (.int y :: .int x :: sk)) h hx rfl hd rfl r) q
theorem s_ior (h : At T m c below) (hx : tb.exec = Jvm.exec) {x y z : Int32} (hd : decode c.code pc = .ok (.ior, 1)) (hp : pc + 1 = pc') (hv : x ||| y = z) (q : Go tb e below F T (mkF m pc' Ls (.int z :: sk))) : Go tb e below F T (mkF m pc Ls (.int y :: .int x :: sk)) := by
  subst hp hv; exact Go.st (fun _ r => XS.ior (g := mkF m pc Ls (.int y :: .int x :: sk)) h hx rfl hd rfl r) q
theorem s_ixor (h : At T m c below) (hx : tb.exec = Jvm.exec) {x y z : Int32} (hd : decode c.code pc = .ok (.ixor, 1)) (hp : pc + 1 = pc') (hv : x ^^^ y = z) (q : Go tb e below F T (mkF m pc' Ls (.int z :: sk))) : Go tb e below F T (mkF m pc Ls (.int y :: .int x :: sk)) := by
  subst hp hv; exact Go.st (fun _ r => XS.ixor (g := mkF m pc Ls (.int y :: .int x :: sk)) h hx rfl hd rfl r) q
theorem s_ishl (h : At T m c below) (hx : tb.exec = Jvm.exec) {x y z : Int32} (hd : decode c.code pc = .ok (.ishl, 1)) (hp : pc + 1 = pc') (hv : x <<< (y &&& 31) = z) (q : Go tb e below F T (mkF m pc' Ls (.int z :: sk))) : Go tb e below F T (mkF m pc Ls (.int y :: .int x :: sk)) := by
  subst hp hv; exact Go.st (fun _ r => XS.ishl (g := mkF m pc Ls (.int y :: .int x :: sk)) h hx rfl hd rfl r) q
theorem s_ishr (h : At T m c below) (hx : tb.exec = Jvm.exec) {x y z : Int32} (hd : decode c.code pc = .ok (.ishr, 1)) (hp : pc + 1 = pc') (hv : x >>> (y &&& 31) = z) (q : Go tb e below F T (mkF m pc' Ls (.int z :: sk))) : Go tb e below F T (mkF m pc Ls (.int y :: .int x :: sk)) := by
  subst hp hv; exact Go.st (fun _ r => XS.ishr (g := mkF m pc Ls (.int y :: .int x :: sk)) h hx rfl hd rfl r) q
theorem s_iushr (h : At T m c below) (hx : tb.exec = Jvm.exec) {x y z : Int32} (hd : decode c.code pc = .ok (.iushr, 1)) (hp : pc + 1 = pc') (hv : (x.toUInt32 >>> (y &&& 31).toUInt32).toInt32 = z) (q : Go tb e below F T (mkF m pc' Ls (.int z :: sk))) : Go tb e below F T (mkF m pc Ls (.int y :: .int x :: sk)) := by
  subst hp hv; exact Go.st (fun _ r => XS.iushr (g := mkF m pc Ls (.int y :: .int x :: sk)) h hx rfl hd rfl r) q
theorem s_ladd (h : At T m c below) (hx : tb.exec = Jvm.exec) {x y z : Int64} (hd : decode c.code pc = .ok (.ladd, 1)) (hp : pc + 1 = pc') (hv : x + y = z) (q : Go tb e below F T (mkF m pc' Ls (.long z :: sk))) : Go tb e below F T (mkF m pc Ls (.long y :: .long x :: sk)) := by
  subst hp hv; exact Go.st (fun _ r => XS.ladd (g := mkF m pc Ls (.long y :: .long x :: sk)) h hx rfl hd rfl r) q
theorem s_lsub (h : At T m c below) (hx : tb.exec = Jvm.exec) {x y z : Int64} (hd : decode c.code pc = .ok (.lsub, 1)) (hp : pc + 1 = pc') (hv : x - y = z) (q : Go tb e below F T (mkF m pc' Ls (.long z :: sk))) : Go tb e below F T (mkF m pc Ls (.long y :: .long x :: sk)) := by
  subst hp hv; exact Go.st (fun _ r => XS.lsub (g := mkF m pc Ls (.long y :: .long x :: sk)) h hx rfl hd rfl r) q
theorem s_lmul (h : At T m c below) (hx : tb.exec = Jvm.exec) {x y z : Int64} (hd : decode c.code pc = .ok (.lmul, 1)) (hp : pc + 1 = pc') (hv : x * y = z) (q : Go tb e below F T (mkF m pc' Ls (.long z :: sk))) : Go tb e below F T (mkF m pc Ls (.long y :: .long x :: sk)) := by
  subst hp hv; exact Go.st (fun _ r => XS.lmul (g := mkF m pc Ls (.long y :: .long x :: sk)) h hx rfl hd rfl r) q
theorem s_land (h : At T m c below) (hx : tb.exec = Jvm.exec) {x y z : Int64} (hd : decode c.code pc = .ok (.land, 1)) (hp : pc + 1 = pc') (hv : x &&& y = z) (q : Go tb e below F T (mkF m pc' Ls (.long z :: sk))) : Go tb e below F T (mkF m pc Ls (.long y :: .long x :: sk)) := by
  subst hp hv; exact Go.st (fun _ r => XS.land (g := mkF m pc Ls (.long y :: .long x :: sk)) h hx rfl hd rfl r) q
theorem s_lor (h : At T m c below) (hx : tb.exec = Jvm.exec) {x y z : Int64} (hd : decode c.code pc = .ok (.lor, 1)) (hp : pc + 1 = pc') (hv : x ||| y = z) (q : Go tb e below F T (mkF m pc' Ls (.long z :: sk))) : Go tb e below F T (mkF m pc Ls (.long y :: .long x :: sk)) := by
  subst hp hv; exact Go.st (fun _ r => XS.lor (g := mkF m pc Ls (.long y :: .long x :: sk)) h hx rfl hd rfl r) q
theorem s_lxor (h : At T m c below) (hx : tb.exec = Jvm.exec) {x y z : Int64} (hd : decode c.code pc = .ok (.lxor, 1)) (hp : pc + 1 = pc') (hv : x ^^^ y = z) (q : Go tb e below F T (mkF m pc' Ls (.long z :: sk))) : Go tb e below F T (mkF m pc Ls (.long y :: .long x :: sk)) := by
  subst hp hv; exact Go.st (fun _ r => XS.lxor (g := mkF m pc Ls (.long y :: .long x :: sk)) h hx rfl hd rfl r) q
theorem s_lshl (h : At T m c below) (hx : tb.exec = Jvm.exec) {x z : Int64} {y : Int32} (hd : decode c.code pc = .ok (.lshl, 1)) (hp : pc + 1 = pc') (hv : x <<< (y &&& 0x3f).toInt64 = z) (q : Go tb e below F T (mkF m pc' Ls (.long z :: sk))) : Go tb e below F T (mkF m pc Ls (.int y :: .long x :: sk)) := by
  subst hp hv; exact Go.st (fun _ r => XS.lshl (g := mkF m pc Ls (.int y :: .long x :: sk)) h hx rfl hd rfl r) q
theorem s_lshr (h : At T m c below) (hx : tb.exec = Jvm.exec) {x z : Int64} {y : Int32} (hd : decode c.code pc = .ok (.lshr, 1)) (hp : pc + 1 = pc') (hv : x >>> (y &&& 0x3f).toInt64 = z) (q : Go tb e below F T (mkF m pc' Ls (.long z :: sk))) : Go tb e below F T (mkF m pc Ls (.int y :: .long x :: sk)) := by
  subst hp hv; exact Go.st (fun _ r => XS.lshr (g := mkF m pc Ls (.int y :: .long x :: sk)) h hx rfl hd rfl r) q
theorem s_lushr (h : At T m c below) (hx : tb.exec = Jvm.exec) {x z : Int64} {y : Int32} (hd : decode c.code pc = .ok (.lushr, 1)) (hp : pc + 1 = pc') (hv : (x.toUInt64 >>> (y &&& 0x3f).toInt64.toUInt64).toInt64 = z) (q : Go tb e below F T (mkF m pc' Ls (.long z :: sk))) : Go tb e below F T (mkF m pc Ls (.int y :: .long x :: sk)) := by
  subst hp hv; exact Go.st (fun _ r => XS.lushr (g := mkF m pc Ls (.int y :: .long x :: sk)) h hx rfl hd rfl r) q
theorem s_ineg (h : At T m c below) (hx : tb.exec = Jvm.exec) {x : Int32} {z : Int32} (hd : decode c.code pc = .ok (.ineg, 1)) (hp : pc + 1 = pc') (hv : -x = z) (q : Go tb e below F T (mkF m pc' Ls (.int z :: sk))) : Go tb e below F T (mkF m pc Ls (.int x :: sk)) := by
  subst hp hv; exact Go.st (fun _ r => XS.ineg (g := mkF m pc Ls (.int x :: sk)) h hx rfl hd rfl r) q
theorem s_lneg (h : At T m c below) (hx : tb.exec = Jvm.exec) {x : Int64} {z : Int64} (hd : decode c.code pc = .ok (.lneg, 1)) (hp : pc + 1 = pc') (hv : -x = z) (q : Go tb e below F T (mkF m pc' Ls (.long z :: sk))) : Go tb e below F T (mkF m pc Ls (.long x :: sk)) := by
  subst hp hv; exact Go.st (fun _ r => XS.lneg (g := mkF m pc Ls (.long x :: sk)) h hx rfl hd rfl r) q
theorem s_i2l (h : At T m c below) (hx : tb.exec = Jvm.exec) {x : Int32} {z : Int64} (hd : decode c.code pc = .ok (.i2l, 1)) (hp : pc + 1 = pc') (hv : x.toInt64 = z) (q : Go tb e below F T (mkF m pc' Ls (.long z :: sk))) : Go tb e below F T (mkF m pc Ls (.int x :: sk)) := by
  subst hp hv; exact Go.st (fun _ r => XS.i2l (g := mkF m pc Ls (.int x :: sk)) h hx rfl hd rfl r) q
theorem s_l2i (h : At T m c below) (hx : tb.exec = Jvm.exec) {x : Int64} {z : Int32} (hd : decode c.code pc = .ok (.l2i, 1)) (hp : pc + 1 = pc') (hv : x.toInt32 = z) (q : Go tb e below F T (mkF m pc' Ls (.int z :: sk))) : Go tb e below F T (mkF m pc Ls (.long x :: sk)) := by
  subst hp hv; exact Go.st (fun _ r => XS.l2i (g := mkF m pc Ls (.long x :: sk)) h hx rfl hd rfl r) q
theorem s_i2b (h : At T m c below) (hx : tb.exec = Jvm.exec) {x : Int32} {z : Int32} (hd : decode c.code pc = .ok (.i2b, 1)) (hp : pc + 1 = pc') (hv : x.toInt8.toInt32 = z) (q : Go tb e below F T (mkF m pc' Ls (.int z :: sk))) : Go tb e below F T (mkF m pc Ls (.int x :: sk)) := by
  subst hp hv; exact Go.st (fun _ r => XS.i2b (g := mkF m pc Ls (.int x :: sk)) h hx rfl hd rfl r) q
theorem s_i2s (h : At T m c below) (hx : tb.exec = Jvm.exec) {x : Int32} {z : Int32} (hd : decode c.code pc = .ok (.i2s, 1)) (hp : pc + 1 = pc') (hv : x.toInt16.toInt32 = z) (q : Go tb e below F T (mkF m pc' Ls (.int z :: sk))) : Go tb e below F T (mkF m pc Ls (.int x :: sk)) := by
  subst hp hv; exact Go.st (fun _ r => XS.i2s (g := mkF m pc Ls (.int x :: sk)) h hx rfl hd rfl r) q
theorem s_i2c (h : At T m c below) (hx : tb.exec = Jvm.exec) {x : Int32} {z : Int32} (hd : decode c.code pc = .ok (.i2c, 1)) (hp : pc + 1 = pc') (hv : x.toUInt32.toUInt16.toUInt32.toInt32 = z) (q : Go tb e below F T (mkF m pc' Ls (.int z :: sk))) : Go tb e below F T (mkF m pc Ls (.int x :: sk)) := by
  subst hp hv; exact Go.st (fun _ r => XS.i2c (g := mkF m pc Ls (.int x :: sk)) h hx rfl hd rfl r) q
theorem s_lcmp (h : At T m c below) (hx : tb.exec = Jvm.exec) {x y : Int64} {z : Int32} (hd : decode c.code pc = .ok (.lcmp, 1)) (hp : pc + 1 = pc') (hv : lcmpW x y = z) (q : Go tb e below F T (mkF m pc' Ls (.int z :: sk))) : Go tb e below F T (mkF m pc Ls (.long y :: .long x :: sk)) := by
  subst hp hv; exact Go.st (fun _ r => XS.lcmp (g := mkF m pc Ls (.long y :: .long x :: sk)) h hx rfl hd rfl r) q
theorem s_idiv (h : At T m c below) (hx : tb.exec = Jvm.exec) {x y z : Int32} (hd : decode c.code pc = .ok (.idiv, 1)) (hp : pc + 1 = pc') (hy : ¬ y = 0) (hv : x / y = z) (q : Go tb e below F T (mkF m pc' Ls (.int z :: sk))) : Go tb e below F T (mkF m pc Ls (.int y :: .int x :: sk)) := by
  subst hp hv; exact Go.st (fun _ r => XS.idiv (g := mkF m pc Ls (.int y :: .int x :: sk)) h hx rfl hd rfl hy r) q
theorem s_irem (h : At T m c below) (hx : tb.exec = Jvm.exec) {x y z : Int32} (hd : decode c.code pc = .ok (.irem, 1)) (hp : pc + 1 = pc') (hy : ¬ y = 0) (hv : x % y = z) (q : Go tb e below F T (mkF m pc' Ls (.int z :: sk))) : Go tb e below F T (mkF m pc Ls (.int y :: .int x :: sk)) := by
  subst hp; rw [← irem_eq_mod x y] at hv; subst hv; exact Go.st (fun _ r => XS.irem (g := mkF m pc Ls (.int y :: .int x :: sk)) h hx rfl hd rfl hy r) q
theorem s_ldiv (h : At T m c below) (hx : tb.exec = Jvm.exec) {x y z : Int64} (hd : decode c.code pc = .ok (.ldiv, 1)) (hp : pc + 1 = pc') (hy : ¬ y = 0) (hv : x / y = z) (q : Go tb e below F T (mkF m pc' Ls (.long z :: sk))) : Go tb e below F T (mkF m pc Ls (.long y :: .long x :: sk)) := by
  subst hp hv; exact Go.st (fun _ r => XS.ldiv (g := mkF m pc Ls (.long y :: .long x :: sk)) h hx rfl hd rfl hy r) q
theorem s_lrem (h : At T m c below) (hx : tb.exec = Jvm.exec) {x y z : Int64} (hd : decode c.code pc = .ok (.lrem, 1)) (hp : pc + 1 = pc') (hy : ¬ y = 0) (hv : x % y = z) (q : Go tb e below F T (mkF m pc' Ls (.long z :: sk))) : Go tb e below F T (mkF m pc Ls (.long y :: .long x :: sk)) := by
  subst hp; rw [← lrem_mod x y] at hv; subst hv; exact Go.st (fun _ r => XS.lrem (g := mkF m pc Ls (.long y :: .long x :: sk)) h hx rfl hd rfl hy r) q
theorem s_dup (h : At T m c below) (hx : tb.exec = Jvm.exec) {v : Value} (hd : decode c.code pc = .ok (.dup, 1)) (hp : pc + 1 = pc') (hc : v.category = 1) (q : Go tb e below F T (mkF m pc' Ls (v :: v :: sk))) : Go tb e below F T (mkF m pc Ls (v :: sk)) := by
  subst hp; exact Go.st (fun _ r => XS.dup (g := mkF m pc Ls (v :: sk)) h hx rfl hd rfl hc r) q
theorem s_pop (h : At T m c below) (hx : tb.exec = Jvm.exec) {v : Value} (hd : decode c.code pc = .ok (.pop, 1)) (hp : pc + 1 = pc') (hc : v.category = 1) (q : Go tb e below F T (mkF m pc' Ls (sk))) : Go tb e below F T (mkF m pc Ls (v :: sk)) := by
  subst hp; exact Go.st (fun _ r => XS.pop (g := mkF m pc Ls (v :: sk)) h hx rfl hd rfl hc r) q
theorem s_dup_x1 (h : At T m c below) (hx : tb.exec = Jvm.exec) {v w : Value} (hd : decode c.code pc = .ok (.dup_x1, 1)) (hp : pc + 1 = pc') (hc : v.category = 1) (hc' : w.category = 1) (q : Go tb e below F T (mkF m pc' Ls (v :: w :: v :: sk))) : Go tb e below F T (mkF m pc Ls (v :: w :: sk)) := by
  subst hp; exact Go.st (fun _ r => XS.dupX1 (g := mkF m pc Ls (v :: w :: sk)) h hx rfl hd rfl hc hc' r) q
theorem s_iinc (h : At T m c below) (hx : tb.exec = Jvm.exec) {k : Nat} {i : Int} (hd : decode c.code pc = .ok (.iinc k i, 3)) (hp : pc + 3 = pc') {x z : Int32} (hl : Ls[k]? = some (.val (.int x))) (hv : x + Int32.ofInt i = z) (hs : storeLocals Ls k (.int z) = some Ls') (q : Go tb e below F T (mkF m pc' Ls' (sk))) : Go tb e below F T (mkF m pc Ls (sk)) := by
  subst hp hv; exact Go.st (fun _ r => XS.iinc (g := mkF m pc Ls (sk)) h hx rfl hd hl hs r) q
theorem s_lconst (h : At T m c below) (hx : tb.exec = Jvm.exec) {i : Fin 2} {v : Int64} (hd : decode c.code pc = .ok (.lconst i, 1)) (hp : pc + 1 = pc') (hv : Int64.ofNat i = v) (q : Go tb e below F T (mkF m pc' Ls (.long v :: sk))) : Go tb e below F T (mkF m pc Ls (sk)) := by
  subst hp hv; exact Go.st (fun _ r => XS.lconst (g := mkF m pc Ls (sk)) h hx rfl hd  r) q
theorem s_i2d (h : At T m c below) (hx : tb.exec = Jvm.exec) {x : Int32} {z : UInt64} (hd : decode c.code pc = .ok (.i2d, 1)) (hp : pc + 1 = pc') (hv : FP.i2d x = z) (q : Go tb e below F T (mkF m pc' Ls (.double z :: sk))) : Go tb e below F T (mkF m pc Ls (.int x :: sk)) := by
  subst hp; exact Go.st (fun _ r => XS.i2dS (g := mkF m pc Ls (.int x :: sk)) h hx rfl hd rfl hv r) q
theorem s_l2d (h : At T m c below) (hx : tb.exec = Jvm.exec) {x : Int64} {z : UInt64} (hd : decode c.code pc = .ok (.l2d, 1)) (hp : pc + 1 = pc') (hv : FP.l2d x = z) (q : Go tb e below F T (mkF m pc' Ls (.double z :: sk))) : Go tb e below F T (mkF m pc Ls (.long x :: sk)) := by
  subst hp; exact Go.st (fun _ r => XS.l2dS (g := mkF m pc Ls (.long x :: sk)) h hx rfl hd rfl hv r) q
theorem s_d2i (h : At T m c below) (hx : tb.exec = Jvm.exec) {x : UInt64} {z : Int32} (hd : decode c.code pc = .ok (.d2i, 1)) (hp : pc + 1 = pc') (hv : FP.d2i x = z) (q : Go tb e below F T (mkF m pc' Ls (.int z :: sk))) : Go tb e below F T (mkF m pc Ls (.double x :: sk)) := by
  subst hp; exact Go.st (fun _ r => XS.d2iS (g := mkF m pc Ls (.double x :: sk)) h hx rfl hd rfl hv r) q
theorem s_d2l (h : At T m c below) (hx : tb.exec = Jvm.exec) {x : UInt64} {z : Int64} (hd : decode c.code pc = .ok (.d2l, 1)) (hp : pc + 1 = pc') (hv : FP.d2l x = z) (q : Go tb e below F T (mkF m pc' Ls (.long z :: sk))) : Go tb e below F T (mkF m pc Ls (.double x :: sk)) := by
  subst hp; exact Go.st (fun _ r => XS.d2lS (g := mkF m pc Ls (.double x :: sk)) h hx rfl hd rfl hv r) q
theorem s_dneg (h : At T m c below) (hx : tb.exec = Jvm.exec) {x z : UInt64} (hd : decode c.code pc = .ok (.dneg, 1)) (hp : pc + 1 = pc') (hv : FP.dneg x = z) (q : Go tb e below F T (mkF m pc' Ls (.double z :: sk))) : Go tb e below F T (mkF m pc Ls (.double x :: sk)) := by
  subst hp; exact Go.st (fun _ r => XS.dnegS (g := mkF m pc Ls (.double x :: sk)) h hx rfl hd rfl hv r) q
theorem s_dcmpl (h : At T m c below) (hx : tb.exec = Jvm.exec) {x y : UInt64} {z : Int32} (hd : decode c.code pc = .ok (.dcmp .l, 1)) (hp : pc + 1 = pc') (hv : cmpValue (FP.dcmp x y) .l = z) (q : Go tb e below F T (mkF m pc' Ls (.int z :: sk))) : Go tb e below F T (mkF m pc Ls (.double y :: .double x :: sk)) := by
  subst hp; exact Go.st (fun _ r => XS.dcmpS (g := mkF m pc Ls (.double y :: .double x :: sk)) h hx rfl hd rfl hv r) q
theorem s_dcmpg (h : At T m c below) (hx : tb.exec = Jvm.exec) {x y : UInt64} {z : Int32} (hd : decode c.code pc = .ok (.dcmp .g, 1)) (hp : pc + 1 = pc') (hv : cmpValue (FP.dcmp x y) .g = z) (q : Go tb e below F T (mkF m pc' Ls (.int z :: sk))) : Go tb e below F T (mkF m pc Ls (.double y :: .double x :: sk)) := by
  subst hp; exact Go.st (fun _ r => XS.dcmpS (g := mkF m pc Ls (.double y :: .double x :: sk)) h hx rfl hd rfl hv r) q
theorem s_dadd (h : At T m c below) (hx : tb.exec = Jvm.exec) {x y z : UInt64} (hd : decode c.code pc = .ok (.dadd, 1)) (hp : pc + 1 = pc') (hn : Jvm.Free.Fl.NoNaN64 (FP.dadd x y)) (hv : FP.dadd x y = z) (q : Go tb e below F T (mkF m pc' Ls (.double z :: sk))) : Go tb e below F T (mkF m pc Ls (.double y :: .double x :: sk)) := by
  subst hp; exact Go.st (fun _ r => XS.daddS (g := mkF m pc Ls (.double y :: .double x :: sk)) h hx rfl hd rfl hn hv r) q
theorem s_dsub (h : At T m c below) (hx : tb.exec = Jvm.exec) {x y z : UInt64} (hd : decode c.code pc = .ok (.dsub, 1)) (hp : pc + 1 = pc') (hn : Jvm.Free.Fl.NoNaN64 (FP.dsub x y)) (hv : FP.dsub x y = z) (q : Go tb e below F T (mkF m pc' Ls (.double z :: sk))) : Go tb e below F T (mkF m pc Ls (.double y :: .double x :: sk)) := by
  subst hp; exact Go.st (fun _ r => XS.dsubS (g := mkF m pc Ls (.double y :: .double x :: sk)) h hx rfl hd rfl hn hv r) q
theorem s_dmul (h : At T m c below) (hx : tb.exec = Jvm.exec) {x y z : UInt64} (hd : decode c.code pc = .ok (.dmul, 1)) (hp : pc + 1 = pc') (hn : Jvm.Free.Fl.NoNaN64 (FP.dmul x y)) (hv : FP.dmul x y = z) (q : Go tb e below F T (mkF m pc' Ls (.double z :: sk))) : Go tb e below F T (mkF m pc Ls (.double y :: .double x :: sk)) := by
  subst hp; exact Go.st (fun _ r => XS.dmulS (g := mkF m pc Ls (.double y :: .double x :: sk)) h hx rfl hd rfl hn hv r) q
theorem s_ddiv (h : At T m c below) (hx : tb.exec = Jvm.exec) {x y z : UInt64} (hd : decode c.code pc = .ok (.ddiv, 1)) (hp : pc + 1 = pc') (hn : Jvm.Free.Fl.NoNaN64 (FP.ddiv x y)) (hv : FP.ddiv x y = z) (q : Go tb e below F T (mkF m pc' Ls (.double z :: sk))) : Go tb e below F T (mkF m pc Ls (.double y :: .double x :: sk)) := by
  subst hp; exact Go.st (fun _ r => XS.ddivS (g := mkF m pc Ls (.double y :: .double x :: sk)) h hx rfl hd rfl hn hv r) q
theorem s_dconst0 (h : At T m c below) (hx : tb.exec = Jvm.exec) {v : UInt64} (hd : decode c.code pc = .ok (.dconst 0, 1)) (hp : pc + 1 = pc') (hv : FP.dconst0 = v) (q : Go tb e below F T (mkF m pc' Ls (.double v :: sk))) : Go tb e below F T (mkF m pc Ls (sk)) := by
  subst hp; exact Go.st (fun _ r => XS.dconst0 (g := mkF m pc Ls (sk)) h hx rfl hd hv r) q
theorem s_dconst1 (h : At T m c below) (hx : tb.exec = Jvm.exec) {v : UInt64} (hd : decode c.code pc = .ok (.dconst 1, 1)) (hp : pc + 1 = pc') (hv : FP.dconst1 = v) (q : Go tb e below F T (mkF m pc' Ls (.double v :: sk))) : Go tb e below F T (mkF m pc Ls (sk)) := by
  subst hp; exact Go.st (fun _ r => XS.dconst1 (g := mkF m pc Ls (sk)) h hx rfl hd hv r) q
theorem s_goto (h : At T m c below) (hx : tb.exec = Jvm.exec) {o : Int} (hd : decode c.code pc = .ok (.goto o, 3)) (ho : 0 ≤ (pc : Int) + o) (hp : ((pc : Int) + o).toNat = pc') (q : Go tb e below F T (mkF m pc' Ls sk)) : Go tb e below F T (mkF m pc Ls sk) :=
  Go.st (fun _ r => XS.goto (g := mkF m pc Ls sk) h hx rfl (pc0 := pc) (pc' := pc') rfl hd ho hp r) q
theorem s_ifY (h : At T m c below) (hx : tb.exec = Jvm.exec) {cd : ClassFile.Cond} {o : Int} {x : Int32} (hd : decode c.code pc = .ok (.ifCond cd o, 3)) (hc : ifCond.holds cd x = true) (ho : 0 ≤ (pc : Int) + o) (hp : ((pc : Int) + o).toNat = pc') (q : Go tb e below F T (mkF m pc' Ls sk)) : Go tb e below F T (mkF m pc Ls (.int x :: sk)) :=
  Go.st (fun _ r => XS.ifYes (g := mkF m pc Ls (.int x :: sk)) h hx rfl (pc0 := pc) (pc' := pc') rfl hd rfl hc ho hp r) q
theorem s_ifN (h : At T m c below) (hx : tb.exec = Jvm.exec) {cd : ClassFile.Cond} {o : Int} {x : Int32} (hd : decode c.code pc = .ok (.ifCond cd o, 3)) (hp : pc + 3 = pc') (hc : ifCond.holds cd x = false) (q : Go tb e below F T (mkF m pc' Ls sk)) : Go tb e below F T (mkF m pc Ls (.int x :: sk)) := by
  subst hp; exact Go.st (fun _ r => XS.ifNo (g := mkF m pc Ls (.int x :: sk)) h hx rfl hd rfl hc r) q
theorem s_icmpY (h : At T m c below) (hx : tb.exec = Jvm.exec) {cd : ClassFile.Cond} {o : Int} {x y : Int32} (hd : decode c.code pc = .ok (.if_icmp cd o, 3)) (hc : if_icmp.holds cd x y = true) (ho : 0 ≤ (pc : Int) + o) (hp : ((pc : Int) + o).toNat = pc') (q : Go tb e below F T (mkF m pc' Ls sk)) : Go tb e below F T (mkF m pc Ls (.int y :: .int x :: sk)) :=
  Go.st (fun _ r => XS.icmpYes (g := mkF m pc Ls (.int y :: .int x :: sk)) h hx rfl (pc0 := pc) (pc' := pc') rfl hd rfl hc ho hp r) q
theorem s_icmpN (h : At T m c below) (hx : tb.exec = Jvm.exec) {cd : ClassFile.Cond} {o : Int} {x y : Int32} (hd : decode c.code pc = .ok (.if_icmp cd o, 3)) (hp : pc + 3 = pc') (hc : if_icmp.holds cd x y = false) (q : Go tb e below F T (mkF m pc' Ls sk)) : Go tb e below F T (mkF m pc Ls (.int y :: .int x :: sk)) := by
  subst hp; exact Go.st (fun _ r => XS.icmpNo (g := mkF m pc Ls (.int y :: .int x :: sk)) h hx rfl hd rfl hc r) q
theorem s_ifnullY (h : At T m c below) (hx : tb.exec = Jvm.exec) {o : Int} (hd : decode c.code pc = .ok (.ifnull o, 3)) (ho : 0 ≤ (pc : Int) + o) (hp : ((pc : Int) + o).toNat = pc') (q : Go tb e below F T (mkF m pc' Ls sk)) : Go tb e below F T (mkF m pc Ls (.null :: sk)) :=
  Go.st (fun _ r => XS.ifnullYes (g := mkF m pc Ls (.null :: sk)) h hx rfl (pc0 := pc) (pc' := pc') rfl hd rfl ho hp r) q
theorem s_ifnullN (h : At T m c below) (hx : tb.exec = Jvm.exec) {o : Int} {b : Addr} (hd : decode c.code pc = .ok (.ifnull o, 3)) (hp : pc + 3 = pc') (q : Go tb e below F T (mkF m pc' Ls sk)) : Go tb e below F T (mkF m pc Ls ((.ref b) :: sk)) := by
  subst hp; exact Go.st (fun _ r => XS.ifnullNo (g := mkF m pc Ls ((.ref b) :: sk)) h hx rfl hd rfl r) q
theorem s_ifnonnullY (h : At T m c below) (hx : tb.exec = Jvm.exec) {o : Int} {b : Addr} (hd : decode c.code pc = .ok (.ifnonnull o, 3)) (ho : 0 ≤ (pc : Int) + o) (hp : ((pc : Int) + o).toNat = pc') (q : Go tb e below F T (mkF m pc' Ls sk)) : Go tb e below F T (mkF m pc Ls ((.ref b) :: sk)) :=
  Go.st (fun _ r => XS.ifnonnullYes (g := mkF m pc Ls ((.ref b) :: sk)) h hx rfl (pc0 := pc) (pc' := pc') rfl hd rfl ho hp r) q
theorem s_ifnonnullN (h : At T m c below) (hx : tb.exec = Jvm.exec) {o : Int} (hd : decode c.code pc = .ok (.ifnonnull o, 3)) (hp : pc + 3 = pc') (q : Go tb e below F T (mkF m pc' Ls sk)) : Go tb e below F T (mkF m pc Ls (.null :: sk)) := by
  subst hp; exact Go.st (fun _ r => XS.ifnonnullNo (g := mkF m pc Ls (.null :: sk)) h hx rfl hd rfl r) q
end Steps
end Jvm.Own
namespace Jvm.Own
open Sem ClassFile Op Lib Bundle Jvm.Stand Jvm.Free Jvm.LawKit Jvm.RoadKit
section Ends
variable {tb : Tables} {e : Env} {below : List Frame} {F : State → Prop} {T t : State} {g : JFrame}
theorem Go.fin (h : Steps tb e below (T.setTop g) t) (k : F t) : Go tb e below F T g := ⟨t, h, k⟩
theorem fin_of {P : State → Outcome → Prop} (k : ∀ F : State → Prop, (∀ t o, t.status = .running → Ended t below o → P t o → F t) → Go tb e below F T g) : ∃ s₂ o, Steps tb e below (T.setTop g) s₂ ∧ s₂.status = .running ∧ Ended s₂ below o ∧ P s₂ o := by
  obtain ⟨t, h1, o, h2, h3, h4⟩ := k (fun t => ∃ o, t.status = .running ∧ Ended t below o ∧ P t o) fun t o h2 h3 h4 => ⟨o, h2, h3, h4⟩
  exact ⟨t, o, h1, h2, h3, h4⟩
end Ends
theorem cat_of_ref {v : Value} (h : v.isRef = true) : v.category = 1 := by rcases ref_cases h with rfl | ⟨a, rfl⟩ <;> rfl
theorem own_fits_ref {v : Value} {t : FieldType} (ht : t.isReference = true) (h : v.isRef = true) : fits t v = true := by rcases ref_cases h with rfl | ⟨a, rfl⟩ <;> cases t <;> first | rfl | (cases ht)
theorem own_narrow_ref {v : Value} {t : FieldType} (h : v.isRef = true) : narrow t v = v := by rcases ref_cases h with rfl | ⟨a, rfl⟩ <;> cases t <;> rfl
theorem wideOn {Z s : State} {vm0 vm1 : Vm} {n : Nat} {own : String} {k : ClassId} (hZ : Z.Warmed39 vm0) (hS : (s.setVm vm0).Since vm1 n) (hown : vm0.findClass own = some k) : Z.Warmed39 vm1 ∧ vm1.findClass own = some k :=
  ⟨State.Warmed39.trans (t := s.setVm vm0) hZ hS.1, by rw [hS.1.alike.findClass]; exact hown⟩
section BackX
variable {p : Program} {l : Launch} {e : Env} {R : Room} {s : State} {args : Array Value} {below : List Frame} {Z : State} {a0 : Array Value} {EL : List (String × Nat)} {h : Heap} {vm0 : Vm}
/-- what pays a call of a body that may load literals, whose objects xs are no literal's -/
theorem backX {y : MethodName} {bytes : ByteArray} {maxL : Nat} {ret : Option FieldType} {rm : Room} {len W : Nat} {as' : Array Value} {Q : Option Value → Heap → List Loc → Prop} {xs : List Addr}
    (hM : MetFree l y (head1 [Cond.code y bytes maxL ret] rm) (fun a U => a = as' ∧ Z.Warmed39 U.vm ∧ U.heap = h ∧ CHv Z EL U.vm h ∧ ∀ x ∈ xs, Safe Z EL U.vm h x) (fun _ _ _ _ _ => True) (fun _ U o U' => ∃ v L, o = .returned v ∧ Q v U'.heap L ∧ CHr Z EL U.vm U.heap U'.vm U'.heap ∧ ReturnedEndW U o U' L rm.cells rm.slots))
    (hZ : Z.Warmed39 vm0) (wc : (Cond.code y bytes maxL ret).before a0 Z = true) (wz : (Cond.initialized y.cls).before a0 Z = true) (hf : rm.frames + 1 ≤ R.frames) (hl : W + (maxL + 11) + rm.locals ≤ R.locals) (hEL : EW Z a0 EL) (H : CHv Z EL vm0 h) (hs : ∀ x ∈ xs, x < h.size ∧ Safe Z EL vm0 h x) :
    BackS l R p e below (s.setVm vm0) args y len W (fun A a => a = as' ∧ A.U.heap = h ∧ A.cells + rm.cells ≤ R.cells ∧ A.slots + rm.slots ≤ R.slots)
      (fun A _ v B => ∃ L, Q v B.U.heap L ∧ B.locs = A.locs ++ L ∧ B.cells = A.cells + rm.cells ∧ B.slots = A.slots + rm.slots ∧ CHr Z EL vm0 h B.U.vm B.U.heap) := by
  refine BackS.of_freeW (bytes := bytes) (maxL := maxL) (ret := ret) (E := fun _ first o t L k n => k = rm.cells ∧ n = rm.slots ∧ (∃ v, o = .returned v ∧ Q v t.heap L) ∧ CHr Z EL first.vm first.heap t.vm t.heap) hM hf hl ?_ ?_ (fun _ _ _ _ _ _ _ _ _ => trivial) ?_ ?_
  · intro m meth c A a Y hp
    have hU : Z.Warmed39 A.U.vm := wtrans (s := s.setVm vm0) hZ Y.warmed
    exact ⟨by show (Cond.and _ .tt).before a A.U = true; rw [Cond.before_and, mv hU wc]; rfl, mv hU wc, mv hU wz, hp.2.2.1, hp.2.2.2⟩
  · intro m meth c A a g mk Y hp
    have K := CHv.at Y hZ hEL H
    exact ⟨hp.1, wtrans (s := s.setVm vm0) hZ Y.warmed, hp.2.1, K.1, fun x hx => K.safe (hs x hx).1 (hs x hx).2⟩
  · intro _ _ _ _ ⟨v, L, h1, h2, h3, h4⟩
    exact ⟨L, _, _, h4, rfl, rfl, ⟨v, h1, h2⟩, h3⟩
  · intro m meth c A a g mk v t L k n Y hp _ _ ⟨e1, e2, ⟨v', e3, e4⟩, e5⟩
    cases e3; subst e1 e2
    refine ⟨L, e4, rfl, rfl, rfl, (CHv.at Y hZ hEL H).trans ?_⟩
    rw [← hp.2.1]; exact e5
end BackX
/-! small numbers -/
theorem eq32 {a b : Int32} (h : a.toInt = b.toInt) : a = b := Int32.toInt_inj.mp h
theorem chr_nar {c : Int32} (h : ¬ c < 0 ∧ ¬ (255 : Int32) < c) : nar .char c = c := by
  have q := c_i2c c
  have e1 : (255 : Int32).toInt = 255 := rfl
  have e0 : (0 : Int32).toInt = 0 := rfl
  have h1 := h.1; have h2 := h.2
  rw [Int32.lt_iff_toInt_lt] at h1 h2
  exact eq32 (by show c.toUInt32.toUInt16.toUInt32.toInt32.toInt = _; omega)
theorem chr_i2c {c : Int32} (h : ¬ c < 0 ∧ ¬ (255 : Int32) < c) : c.toUInt32.toUInt16.toUInt32.toInt32 = c := chr_nar h
theorem chr_mask (x : Int32) : ¬ (x &&& 255) < 0 ∧ ¬ (255 : Int32) < (x &&& 255) := by
  have q := c_mask x 255 8 (by decide) (by decide)
  have e1 : (255 : Int32).toInt = 255 := rfl
  have e0 : (0 : Int32).toInt = 0 := rfl
  rw [Int32.lt_iff_toInt_lt, Int32.lt_iff_toInt_lt]
  omega
theorem chr_lit {k : Nat} (h : k < 256) : ¬ (Int32.ofNat k) < 0 ∧ ¬ (255 : Int32) < (Int32.ofNat k) := by
  have q : (Int32.ofNat k).toInt = k := Int32.toInt_ofNat_small (by omega)
  have e1 : (255 : Int32).toInt = 255 := rfl
  have e0 : (0 : Int32).toInt = 0 := rfl
  rw [Int32.lt_iff_toInt_lt, Int32.lt_iff_toInt_lt]
  omega
theorem chr_up {cs : List Int32} (h : ∀ c ∈ cs, ¬ c < 0 ∧ ¬ (255 : Int32) < c) : ∀ c ∈ cs, ¬ c < 0 ∧ ¬ (65535 : Int32) < c := fun c hc => ⟨(h c hc).1, fun q => (h c hc).2 (by rw [Int32.lt_iff_toInt_lt] at q ⊢; have e1 : (65535 : Int32).toInt = 65535 := rfl; have e2 : (255 : Int32).toInt = 255 := rfl; omega)⟩
theorem bit01 (P : Prop) [Decidable P] : (if P then (0 : Int32) else 1) = 0 ∨ (if P then (0 : Int32) else 1) = 1 := by by_cases h : P <;> simp [h]
theorem nar_b {x : Int32} (h : x = 0 ∨ x = 1) : nar .boolean x = x := by rcases h with rfl | rfl <;> decide
theorem narZ {k : Int32} (h : k = 0 ∨ k = 1) : narrow .boolean (.int k) = .int k := by rcases h with rfl | rfl <;> decide
theorem fitZ {k : Int32} (h : k = 0 ∨ k = 1) : fits .boolean (.int k) = true := by rcases h with rfl | rfl <;> decide
end Jvm.Own
/- laws to paste: Road.backV, Road.eqW, Road.codOf (cut by pick.py; bodies as the Statement names them) -/
namespace Jvm.Pilot.@@N@@
namespace StrChars
open Jvm Sem ClassFile Op Lib Jvm.Stand Jvm.Free.XT Jvm.Free.ALB Jvm.Free.JM Jvm.Free
open Jvm.Lib.Cold (StaticIs)
/-- a char array whose places are chars -/
def Ch (a : Addr) (A : Cell) (U : State) : Prop := Arr .char a A U ∧ Typed .char A
theorem Ch.mv {a : Addr} {A : Cell} {U U' : State} (h : Ch a A U) (hal : U.vm.Alike U'.vm) (hh : U'.heap = U.heap) : Ch a A U' := ⟨h.1.mv hal hh, h.2⟩
theorem Ch.keep {a : Addr} {A : Cell} {U U' : State} (h : Ch a A U) (hal : U.vm.Alike U'.vm) (hk : U'.heap[a]? = some A) : Ch a A U' := ⟨h.1.keep hal hk, h.2⟩
/-- what place i of a char[]'s cell holds -/
def cv (A : Cell) (i : Nat) : Int32 := match A.slots[i]? with | some (.int x) => x | _ => 0
theorem Ch.get {a : Addr} {A : Cell} {U : State} (h : Ch a A U) {i : Nat} (hi : i < A.slots.size) : A.slots[i]? = some (.int (cv A i)) := by
  have e := Array.getElem?_eq_getElem hi
  have f := h.2 i _ e
  unfold cv; rw [e]
  generalize A.slots[i] = v at f
  cases v <;> simp [fits] at f ⊢
/-- the byte that i2b leaves of a char -/
def lo8 (x : Int32) : Int32 := x.toInt8.toInt32
theorem fits_lo8 (y : Int32) : fits .byte (.int (lo8 y)) = true := by
  have h1 := y.toInt8.le_toInt
  have h2 := y.toInt8.toInt_lt
  simp only [lo8, fits, Bool.and_eq_true, decide_eq_true_eq, Int32.le_iff_toInt_le, Int8.toInt_toInt32, show (-128 : Int32).toInt = -128 from by decide, show (127 : Int32).toInt = 127 from by decide]
  omega
/-- A' is A but that each place j of lo .. hi - 1 holds f j -/
def Laid (A A' : Cell) (lo hi : Nat) (f : Nat → Value) : Prop := A'.cls = A.cls ∧ A'.vm = A.vm ∧ A'.slots.size = A.slots.size ∧ ∀ i, A'.slots[i]? = if lo ≤ i ∧ i < hi then some (f i) else A.slots[i]?
theorem Laid.zero (A : Cell) (lo : Nat) (f : Nat → Value) : Laid A A lo (lo + 0) f := ⟨rfl, rfl, rfl, fun i => by rw [if_neg (by omega)]⟩
theorem Laid.step {A Ak : Cell} {lo k : Nat} {f : Nat → Value} {v : Value} (h : Laid A Ak lo k f) (hlo : lo ≤ k) (hk : k < Ak.slots.size) (hv : v = f k) : Laid A (Ak.setSlot k v) lo (k + 1) f := by
  refine ⟨h.1, h.2.1, by simpa [Cell.setSlot] using h.2.2.1, fun i => ?_⟩
  by_cases e : k = i
  · subst e; rw [Cell.slots_setSlot_self v hk, if_pos (by omega), hv]
  · rw [Cell.slots_setSlot_ne v e, h.2.2.2 i]
    by_cases q : lo ≤ i ∧ i < k
    · rw [if_pos q, if_pos (by omega)]
    · rw [if_neg q, if_neg (by omega)]
def U16 : String := "java/lang/StringUTF16"
namespace Cmp5
def yN : MethodName := ⟨"java/lang/StringUTF16", "compress", "([CI[BII)I"⟩
abbrev yB : ByteArray := jdk_52_method_21_code
theorem d0 : decode yB 0 = .ok (.iconst 0, 1) := by decide +kernel
theorem d1 : decode yB 1 = .ok (.istore 5, 2) := by decide +kernel
theorem d3 : decode yB 3 = .ok (.iload 5, 2) := by decide +kernel
theorem d5 : decode yB 5 = .ok (.iload 4, 2) := by decide +kernel
theorem d7 : decode yB 7 = .ok (.if_icmp (.ge) 37, 3) := by decide +kernel
theorem d10 : decode yB 10 = .ok (.aload_n 0, 1) := by decide +kernel
theorem d11 : decode yB 11 = .ok (.iload_n 1, 1) := by decide +kernel
theorem d12 : decode yB 12 = .ok (.caload, 1) := by decide +kernel
theorem d13 : decode yB 13 = .ok (.istore 6, 2) := by decide +kernel
theorem d15 : decode yB 15 = .ok (.iload 6, 2) := by decide +kernel
theorem d17 : decode yB 17 = .ok (.sipush 255, 3) := by decide +kernel
theorem d20 : decode yB 20 = .ok (.if_icmp (.le) 6, 3) := by decide +kernel
theorem d26 : decode yB 26 = .ok (.aload_n 2, 1) := by decide +kernel
theorem d27 : decode yB 27 = .ok (.iload_n 3, 1) := by decide +kernel
theorem d28 : decode yB 28 = .ok (.iload 6, 2) := by decide +kernel
theorem d30 : decode yB 30 = .ok (.i2b, 1) := by decide +kernel
theorem d31 : decode yB 31 = .ok (.bastore, 1) := by decide +kernel
theorem d32 : decode yB 32 = .ok (.iinc 1 1, 3) := by decide +kernel
theorem d35 : decode yB 35 = .ok (.iinc 3 1, 3) := by decide +kernel
theorem d38 : decode yB 38 = .ok (.iinc 5 1, 3) := by decide +kernel
theorem d41 : decode yB 41 = .ok (.goto (-38), 3) := by decide +kernel
theorem d44 : decode yB 44 = .ok (.iload 4, 2) := by decide +kernel
theorem d46 : decode yB 46 = .ok (.ireturn, 1) := by decide +kernel
def site : List Cond := []
def tab : Cond := tabOf yN yB 7 (some .int) site
def P (b : Addr) (A : Cell) (d : Addr) (B : Cell) (o q len : Nat) (args : Array Value) (s : State) : Prop := args = #[.ref b, .int (Int32.ofNat o), .ref d, .int (Int32.ofNat q), .int (Int32.ofNat len)] ∧ Ch b A s ∧ Arr .byte d B s ∧ b ≠ d ∧ o + len ≤ A.slots.size ∧ q + len ≤ B.slots.size ∧ ∀ i, i < len → ¬ 255 < cv A (o + i)
def E (b : Addr) (A : Cell) (d : Addr) (B : Cell) (o q len : Nat) (r : Option Value) (s u : State) : Prop := r = some (.int (Int32.ofNat len)) ∧ ∃ B', Put d B' s u ∧ Laid B B' q (q + len) (fun j => Value.int (lo8 (cv A (o + (j - q)))))
/-- no char of the range above 255: len; the places written hold each char's low byte -/
theorem law (l : Launch) (b : Addr) (A : Cell) (d : Addr) (B : Cell) (o q len : Nat) : Law l yN 5 5 0 0 yB 7 (some .int) site (P b A d B o q len) (E b A d B o q len) (copyLocs d q len) 0 0 := by
  refine Law.of_walk (plainFor_of_name (by decide +kernel)) (by decide +kernel) (by decide +kernel) (by decide) (fun _ _ h => by rw [h.1]; rfl) (fun _ U U' hal hh h => ⟨h.1, h.2.1.mv hal hh, h.2.2.1.mv hal hh, h.2.2.2⟩) (fun r U U' V V' h1 hal h2 h => ⟨h.1, h.2.elim fun B' q => ⟨B', q.1.mv h1 h2, q.2⟩⟩) ?_
  intro p e s m args below meth c s₁ X0 hexec hbytes hml hret hlk hnm hown hh0 W hP
  obtain ⟨rfl, hA, hB, hne, l1, l2, hp⟩ := hP
  have c1 : Steps p.tables e below (s₁.setTop (entryFrame m #[.ref b, .int (Int32.ofNat o), .ref d, .int (Int32.ofNat q), .int (Int32.ofNat len)] 7)) (s₁.setTop (mkF m 0 #[.val (.ref b), .val (.int (Int32.ofNat o)), .val (.ref d), .val (.int (Int32.ofNat q)), .val (.int (Int32.ofNat len)), .unset, .unset] [])) := entry rfl
  have hA0 := hA.1.mv X0.warmed.alike hh0
  have hB0 := hB.mv X0.warmed.alike hh0
  have a31 := hA.1.2.2.2
  have c2 : Steps p.tables e below (s₁.setTop (entryFrame m #[.ref b, .int (Int32.ofNat o), .ref d, .int (Int32.ofNat q), .int (Int32.ofNat len)] 7)) (s₁.setTop (mkF m 3 #[.val (.ref b), .val (.int (Int32.ofNat o)), .val (.ref d), .val (.int (Int32.ofNat q)), .val (.int (Int32.ofNat len)), .val (.int 0), .unset] [])) := c1.trans (by
    refine iconstV X0.here hexec rfl 0 (hb hbytes d0) (by decide) ?_
    refine XS.istore X0.here hexec rfl (hb hbytes d1) rfl rfl ?_
    exact Steps.refl _)
  have loop : ∀ (r i : Nat), i + r = len → ∀ (z : Slot), (z = .unset ∨ ∃ w, z = .val w ∧ w.category = 1) → ∀ (Tl : State) (Bk : Cell), Stand p l e { frames := 0, locals := 0, cells := 0, slots := 0 } s m #[.ref b, .int (Int32.ofNat o), .ref d, .int (Int32.ofNat q), .int (Int32.ofNat len)] below meth c Tl ([] ++ copyLocs d q i) 0 0 → Put d Bk s₁ Tl → Laid B Bk q (q + i) (fun j => Value.int (lo8 (cv A (o + (j - q))))) →
      Steps p.tables e below (s₁.setTop (entryFrame m #[.ref b, .int (Int32.ofNat o), .ref d, .int (Int32.ofNat q), .int (Int32.ofNat len)] 7)) (Tl.setTop (mkF m 3 #[.val (.ref b), .val (.int (Int32.ofNat (o + i))), .val (.ref d), .val (.int (Int32.ofNat (q + i))), .val (.int (Int32.ofNat len)), .val (.int (Int32.ofNat i)), z] [])) → ∃ (T' : State) (B' : Cell) (z' : Slot), Stand p l e { frames := 0, locals := 0, cells := 0, slots := 0 } s m #[.ref b, .int (Int32.ofNat o), .ref d, .int (Int32.ofNat q), .int (Int32.ofNat len)] below meth c T' ([] ++ copyLocs d q len) 0 0 ∧ Put d B' s₁ T' ∧ Laid B B' q (q + len) (fun j => Value.int (lo8 (cv A (o + (j - q))))) ∧
      Steps p.tables e below (s₁.setTop (entryFrame m #[.ref b, .int (Int32.ofNat o), .ref d, .int (Int32.ofNat q), .int (Int32.ofNat len)] 7)) (T'.setTop (mkF m 3 #[.val (.ref b), .val (.int (Int32.ofNat (o + len))), .val (.ref d), .val (.int (Int32.ofNat (q + len))), .val (.int (Int32.ofNat len)), .val (.int (Int32.ofNat len)), z'] [])) := by
    intro r
    induction r with
    | zero =>
      intro i hi z hz Tl Bk Xl pl fl cl
      have hil : i = len := by omega
      rw [hil] at Xl fl cl
      exact ⟨Tl, Bk, z, Xl, pl, fl, cl⟩
    | succ r ih =>
      intro i hi z hz Tl Bk Xl pl fl cl
      have all := X0.warmed.alike.symm.trans Xl.warmed.alike
      have hAl := hA0.keep all (pl.other hne hA0.1)
      have hBk := hB0.like all pl.1 fl.1 fl.2.1 fl.2.2.1
      have hlt : q + i < Bk.slots.size := by rw [fl.2.2.1]; omega
      have c3 : Steps p.tables e below (s₁.setTop (entryFrame m #[.ref b, .int (Int32.ofNat o), .ref d, .int (Int32.ofNat q), .int (Int32.ofNat len)] 7)) (Tl.setTop (mkF m 12 #[.val (.ref b), .val (.int (Int32.ofNat (o + i))), .val (.ref d), .val (.int (Int32.ofNat (q + i))), .val (.int (Int32.ofNat len)), .val (.int (Int32.ofNat i)), z] [.int (Int32.ofNat (o + i)), .ref b])) := cl.trans (by
        refine XS.iload Xl.here hexec rfl (hb hbytes d3) rfl ?_
        refine XS.iload Xl.here hexec rfl (hb hbytes d5) rfl ?_
        refine XS.icmpNo Xl.here hexec rfl (hb hbytes d7) rfl (ii_ge_f (lt32 (by omega) (by omega))) ?_
        refine XS.aloadN Xl.here hexec rfl (hb hbytes d10) rfl rfl ?_
        refine XS.iloadN Xl.here hexec rfl (hb hbytes d11) rfl ?_
        exact Steps.refl _)
      have c4 : Steps p.tables e below (s₁.setTop (entryFrame m #[.ref b, .int (Int32.ofNat o), .ref d, .int (Int32.ofNat q), .int (Int32.ofNat len)] 7)) (Tl.setTop (mkF m 13 #[.val (.ref b), .val (.int (Int32.ofNat (o + i))), .val (.ref d), .val (.int (Int32.ofNat (q + i))), .val (.int (Int32.ofNat len)), .val (.int (Int32.ofNat i)), z] [.int (cv A (o + i))])) := c3.trans (by
        refine Xl.aget hexec hAl rfl (hA.get (i := o + i) (by omega)) rfl rfl (hb hbytes d12) ?_
        exact Steps.refl _)
      have c5 : Steps p.tables e below (s₁.setTop (entryFrame m #[.ref b, .int (Int32.ofNat o), .ref d, .int (Int32.ofNat q), .int (Int32.ofNat len)] 7)) (Tl.setTop (mkF m 15 #[.val (.ref b), .val (.int (Int32.ofNat (o + i))), .val (.ref d), .val (.int (Int32.ofNat (q + i))), .val (.int (Int32.ofNat len)), .val (.int (Int32.ofNat i)), .val (.int (cv A (o + i)))] [])) := c4.trans (by
        refine XS.istoreS Xl.here hexec rfl (hb hbytes d13) rfl rfl hz ?_
        exact Steps.refl _)
      have c6 : Steps p.tables e below (s₁.setTop (entryFrame m #[.ref b, .int (Int32.ofNat o), .ref d, .int (Int32.ofNat q), .int (Int32.ofNat len)] 7)) (Tl.setTop (mkF m 31 #[.val (.ref b), .val (.int (Int32.ofNat (o + i))), .val (.ref d), .val (.int (Int32.ofNat (q + i))), .val (.int (Int32.ofNat len)), .val (.int (Int32.ofNat i)), .val (.int (cv A (o + i)))] [.int (lo8 (cv A (o + i))), .int (Int32.ofNat (q + i)), .ref d])) := c5.trans (by
        refine XS.iload Xl.here hexec rfl (hb hbytes d15) rfl ?_
        refine sipushV Xl.here hexec rfl 255 (hb hbytes d17) (by decide) ?_
        refine XS.icmpYes Xl.here hexec rfl (pc0 := 20) rfl (hb hbytes d20) rfl (ii_le_t (hp i (by omega))) (by decide) rfl ?_
        refine XS.aloadN Xl.here hexec rfl (hb hbytes d26) rfl rfl ?_
        refine XS.iloadN Xl.here hexec rfl (hb hbytes d27) rfl ?_
        refine XS.iload Xl.here hexec rfl (hb hbytes d28) rfl ?_
        refine i2b Xl.here hexec rfl (hb hbytes d30) rfl ?_
        exact Steps.refl _)
      obtain ⟨T7, X7, p7, st7⟩ := Xl.aput hexec hBk rfl hlt rfl (fits_lo8 (cv A (o + i))) (g := (mkF m 31 #[.val (.ref b), .val (.int (Int32.ofNat (o + i))), .val (.ref d), .val (.int (Int32.ofNat (q + i))), .val (.int (Int32.ofNat len)), .val (.int (Int32.ofNat i)), .val (.int (cv A (o + i)))] [.int (lo8 (cv A (o + i))), .int (Int32.ofNat (q + i)), .ref d])) rfl (rest := []) rfl (hb hbytes d31)
      have c8 : Steps p.tables e below (s₁.setTop (entryFrame m #[.ref b, .int (Int32.ofNat o), .ref d, .int (Int32.ofNat q), .int (Int32.ofNat len)] 7)) (T7.setTop (mkF m 32 #[.val (.ref b), .val (.int (Int32.ofNat (o + i))), .val (.ref d), .val (.int (Int32.ofNat (q + i))), .val (.int (Int32.ofNat len)), .val (.int (Int32.ofNat i)), .val (.int (cv A (o + i)))] [])) := c6.trans (st7 _ (Steps.refl _))
      have c9 : Steps p.tables e below (s₁.setTop (entryFrame m #[.ref b, .int (Int32.ofNat o), .ref d, .int (Int32.ofNat q), .int (Int32.ofNat len)] 7)) (T7.setTop (mkF m 3 #[.val (.ref b), .val (.int (Int32.ofNat (o + i) + 1)), .val (.ref d), .val (.int (Int32.ofNat (q + i) + 1)), .val (.int (Int32.ofNat len)), .val (.int (Int32.ofNat i + 1)), .val (.int (cv A (o + i)))] [])) := c8.trans (by
        refine iincV X7.here hexec rfl 1 (hb hbytes d32) (by decide) rfl rfl ?_
        refine iincV X7.here hexec rfl 1 (hb hbytes d35) (by decide) rfl rfl ?_
        refine iincV X7.here hexec rfl 1 (hb hbytes d38) (by decide) rfl rfl ?_
        refine XS.goto X7.here hexec rfl (pc0 := 41) rfl (hb hbytes d41) (by decide) rfl ?_
        exact Steps.refl _)
      have c10 : Steps p.tables e below (s₁.setTop (entryFrame m #[.ref b, .int (Int32.ofNat o), .ref d, .int (Int32.ofNat q), .int (Int32.ofNat len)] 7)) (T7.setTop (mkF m 3 #[.val (.ref b), .val (.int (Int32.ofNat (o + (i + 1)))), .val (.ref d), .val (.int (Int32.ofNat (q + (i + 1)))), .val (.int (Int32.ofNat len)), .val (.int (Int32.ofNat (i + 1))), .val (.int (cv A (o + i)))] [])) := by
        have := c9
        rw [succ32, succ32, succ32] at this
        exact this
      exact ih (i + 1) (by omega) _ (Or.inr ⟨_, rfl, rfl⟩) T7 _ (by rw [copyLocs_step, ← List.append_assoc]; exact X7) (pl.trans p7) (fl.step (by omega) hlt (by simp)) c10
  obtain ⟨T9, B9, z9, X9, p9, f9, g9⟩ := loop len 0 (by omega) .unset (Or.inl rfl) s₁ B (by simpa [copyLocs] using X0) ⟨hB0.1, fun _ _ => rfl, rfl⟩ (Laid.zero _ _ _) c2
  have c11 : Steps p.tables e below (s₁.setTop (entryFrame m #[.ref b, .int (Int32.ofNat o), .ref d, .int (Int32.ofNat q), .int (Int32.ofNat len)] 7)) (T9.setTop (mkF m 46 #[.val (.ref b), .val (.int (Int32.ofNat (o + len))), .val (.ref d), .val (.int (Int32.ofNat (q + len))), .val (.int (Int32.ofNat len)), .val (.int (Int32.ofNat len)), z9] [.int (Int32.ofNat len)])) := g9.trans (by
    refine XS.iload X9.here hexec rfl (hb hbytes d3) rfl ?_
    refine XS.iload X9.here hexec rfl (hb hbytes d5) rfl ?_
    refine XS.icmpYes X9.here hexec rfl (pc0 := 7) rfl (hb hbytes d7) rfl (ii_ge_t (nlt32 (by omega) (Nat.le_refl _))) (by decide) rfl ?_
    refine XS.iload X9.here hexec rfl (hb hbytes d44) rfl ?_
    exact Steps.refl _)
  exact ⟨T9, some (.int (Int32.ofNat len)), _, _, _, X9, by simp, rfl, rfl, (fun h => by cases h), ⟨rfl, B9, p9.from hh0, f9⟩, fun fs hl => c11.trans (X9.ireturnOut hexec hret rfl (Or.inl rfl) (hb hbytes d46) hl)⟩
end Cmp5
namespace Cmp3
def yN : MethodName := ⟨"java/lang/StringUTF16", "compress", "([CII)[B"⟩
abbrev yB : ByteArray := jdk_52_method_16_code
theorem d0 : decode yB 0 = .ok (.iload_n 2, 1) := by decide +kernel
theorem d1 : decode yB 1 = .ok (.newarray .byte, 2) := by decide +kernel
theorem d3 : decode yB 3 = .ok (.astore_n 3, 1) := by decide +kernel
theorem d4 : decode yB 4 = .ok (.aload_n 0, 1) := by decide +kernel
theorem d5 : decode yB 5 = .ok (.iload_n 1, 1) := by decide +kernel
theorem d6 : decode yB 6 = .ok (.aload_n 3, 1) := by decide +kernel
theorem d7 : decode yB 7 = .ok (.iconst 0, 1) := by decide +kernel
theorem d8 : decode yB 8 = .ok (.iload_n 2, 1) := by decide +kernel
theorem d9 : decode yB 9 = .ok (.invokestatic 115, 3) := by decide +kernel
theorem d12 : decode yB 12 = .ok (.istore 4, 2) := by decide +kernel
theorem d14 : decode yB 14 = .ok (.iload 4, 2) := by decide +kernel
theorem d16 : decode yB 16 = .ok (.iload_n 2, 1) := by decide +kernel
theorem d17 : decode yB 17 = .ok (.if_icmp (.eq) 40, 3) := by decide +kernel
theorem d57 : decode yB 57 = .ok (.aload_n 3, 1) := by decide +kernel
theorem d58 : decode yB 58 = .ok (.areturn, 1) := by decide +kernel
def site : List Cond := [.arrayClass .byte, Cmp5.tab] ++ staticW U16 115 Cmp5.yN
def tab : Cond := tabOf yN yB 6 (some (.array .byte)) site
def P (b : Addr) (A : Cell) (o len : Nat) (args : Array Value) (s : State) : Prop := args = #[.ref b, .int (Int32.ofNat o), .int (Int32.ofNat len)] ∧ Ch b A s ∧ o + len ≤ A.slots.size ∧ len ≤ 536870912 ∧ ∀ i, i < len → ¬ 255 < cv A (o + i)
def E (b : Addr) (A : Cell) (o len : Nat) (r : Option Value) (s u : State) : Prop := NewArr .byte "[B" len (fun j => .int (lo8 (cv A (o + j)))) r s u ∧ u.heap.size = s.heap.size + 1
/-- no char of the range above 255: a new byte[] of their low bytes -/
theorem law (l : Launch) (b : Addr) (A : Cell) (o len : Nat) : Law l yN 3 3 1 18 yB 6 (some (.array .byte)) site (P b A o len) (E b A o len) [] 1 len := by
  refine Law.of_walk (plainFor_of_name (by decide +kernel)) (by decide +kernel) (by decide +kernel) (by decide) (fun _ _ h => by rw [h.1]; rfl) (fun _ U U' hal hh h => ⟨h.1, h.2.1.mv hal hh, h.2.2⟩) (fun r U U' V V' h1 hal h2 h => ⟨NewArr.mv r U U' V V' h1 hal h2 h.1, by rw [h1, h2]; exact h.2⟩) ?_
  intro p e s m args below meth c s₁ X0 hexec hbytes hml hret hlk hnm hown hh0 W hP
  obtain ⟨rfl, hA, l1, l2, hp⟩ := hP
  have a31 := hA.1.2.2.2
  have c1 : Steps p.tables e below (s₁.setTop (entryFrame m #[.ref b, .int (Int32.ofNat o), .int (Int32.ofNat len)] 6)) (s₁.setTop (mkF m 0 #[.val (.ref b), .val (.int (Int32.ofNat o)), .val (.int (Int32.ofNat len)), .unset, .unset, .unset] [])) := entry rfl
  have c2 : Steps p.tables e below (s₁.setTop (entryFrame m #[.ref b, .int (Int32.ofNat o), .int (Int32.ofNat len)] 6)) (s₁.setTop (mkF m 1 #[.val (.ref b), .val (.int (Int32.ofNat o)), .val (.int (Int32.ofNat len)), .unset, .unset, .unset] [.int (Int32.ofNat len)])) := c1.trans (by
    refine XS.iloadN X0.here hexec rfl (hb hbytes d0) rfl ?_
    exact Steps.refl _)
  obtain ⟨T3, B3, X3, ba3, bs3, bv3, bh3, bf3, st3⟩ := X0.anew hexec (atype := .byte) (wk W (.arrayClass .byte)) rfl (by show len * 1 ≤ _; omega) (by omega) (g := (mkF m 1 #[.val (.ref b), .val (.int (Int32.ofNat o)), .val (.int (Int32.ofNat len)), .unset, .unset, .unset] [.int (Int32.ofNat len)])) rfl (hb hbytes d1) (rest := []) rfl (Nat.le_refl _) (by show 0 + len ≤ len; omega)
  rw [hh0] at ba3 st3
  have kp3 : XT.Kept s T3 := (XT.Kept.of_eq hh0).push bh3
  have hA3 := hA.keep X3.warmed.alike (kp3 _ _ hA.1.1)
  have hne : b ≠ s.heap.size := hA.1.ne
  have c4 : Steps p.tables e below (s₁.setTop (entryFrame m #[.ref b, .int (Int32.ofNat o), .int (Int32.ofNat len)] 6)) (T3.setTop (mkF m 3 #[.val (.ref b), .val (.int (Int32.ofNat o)), .val (.int (Int32.ofNat len)), .unset, .unset, .unset] [.ref s.heap.size])) := c2.trans (st3 _ (Steps.refl _))
  have c5 : Steps p.tables e below (s₁.setTop (entryFrame m #[.ref b, .int (Int32.ofNat o), .int (Int32.ofNat len)] 6)) (T3.setTop (mkF m 9 #[.val (.ref b), .val (.int (Int32.ofNat o)), .val (.int (Int32.ofNat len)), .val (.ref s.heap.size), .unset, .unset] [.int (Int32.ofNat len), .int 0, .ref s.heap.size, .int (Int32.ofNat o), .ref b])) := c4.trans (by
    refine XS.astoreN X3.here hexec rfl (hb hbytes d3) rfl rfl rfl ?_
    refine XS.aloadN X3.here hexec rfl (hb hbytes d4) rfl rfl ?_
    refine XS.iloadN X3.here hexec rfl (hb hbytes d5) rfl ?_
    refine XS.aloadN X3.here hexec rfl (hb hbytes d6) rfl rfl ?_
    refine iconstV X3.here hexec rfl 0 (hb hbytes d7) (by decide) ?_
    refine XS.iloadN X3.here hexec rfl (hb hbytes d8) rfl ?_
    exact Steps.refl _)
  obtain ⟨v6, T6, X6, E6, g6⟩ := X3.callS hexec (Cmp5.law l b A s.heap.size B3 o 0 len) hown (wks W (staticW U16 115 Cmp5.yN)) (wk W Cmp5.tab) (W := 0) (Nat.le_of_ble_eq_true rfl) (Nat.le_of_ble_eq_true rfl) (Nat.le_refl _) (by show 0 + len + 0 ≤ len; omega) (g := (mkF m 9 #[.val (.ref b), .val (.int (Int32.ofNat o)), .val (.int (Int32.ofNat len)), .val (.ref s.heap.size), .unset, .unset] [.int (Int32.ofNat len), .int (Int32.ofNat 0), .ref s.heap.size, .int (Int32.ofNat o), .ref b])) rfl (by rw [hml]; rfl) c5 (argsL := [.ref b, .int (Int32.ofNat o), .ref s.heap.size, .int (Int32.ofNat 0), .int (Int32.ofNat len)]) (rest := []) rfl rfl (by show 2 * 0 + 0 ≤ _; decide) (hb hbytes d9) (⟨rfl, hA3, ba3, hne, l1, by rw [bs3]; simp, hp⟩)
  obtain ⟨rfl, B6, p6, f6⟩ := E6
  have c7 : Steps p.tables e below (s₁.setTop (entryFrame m #[.ref b, .int (Int32.ofNat o), .int (Int32.ofNat len)] 6)) (T6.setTop (mkF m 12 #[.val (.ref b), .val (.int (Int32.ofNat o)), .val (.int (Int32.ofNat len)), .val (.ref s.heap.size), .unset, .unset] [.int (Int32.ofNat len)])) := g6
  have c8 : Steps p.tables e below (s₁.setTop (entryFrame m #[.ref b, .int (Int32.ofNat o), .int (Int32.ofNat len)] 6)) (T6.setTop (mkF m 58 #[.val (.ref b), .val (.int (Int32.ofNat o)), .val (.int (Int32.ofNat len)), .val (.ref s.heap.size), .val (.int (Int32.ofNat len)), .unset] [.ref s.heap.size])) := c7.trans (by
    refine XS.istore X6.here hexec rfl (hb hbytes d12) rfl rfl ?_
    refine XS.iload X6.here hexec rfl (hb hbytes d14) rfl ?_
    refine XS.iloadN X6.here hexec rfl (hb hbytes d16) rfl ?_
    refine XS.icmpYes X6.here hexec rfl (pc0 := 17) rfl (hb hbytes d17) rfl (ii_eq_t rfl) (by decide) rfl ?_
    refine XS.aloadN X6.here hexec rfl (hb hbytes d57) rfl rfl ?_
    exact Steps.refl _)
  have X8 := X6.wide (L' := []) (cells' := 1) (slots' := len) (fun x hx hlt => by
    simp only [List.nil_append, copyLocs, List.mem_map, List.mem_range] at hx
    obtain ⟨i, -, rfl⟩ := hx
    exact absurd hlt (Nat.lt_irrefl _)) (Nat.le_refl _) (by omega)
  exact ⟨T6, some (.ref s.heap.size), _, _, _, X8, rfl, rfl, rfl, (fun h => by cases h), ⟨⟨rfl, B6, ba3.like (X3.warmed.alike.symm.trans X6.warmed.alike) p6.1 f6.1 f6.2.1 f6.2.2.1, f6.2.1.trans bv3, by rw [X6.warmed.alike.findClass, f6.1]; exact bf3, by rw [f6.2.2.1, bs3]; simp, fun j hj => by rw [f6.2.2.2 j, if_pos (by omega)]; rfl, kp3.put p6 (Nat.le_refl _)⟩, by rw [p6.2.2, bh3, hh0]; simp⟩, fun fs hl => c8.trans (X8.areturnOut hexec rfl hret rfl (hb hbytes d58) hl)⟩
end Cmp3
namespace CodL
def yN : MethodName := ⟨"java/lang/StringUTF16", "coderFromArrayLen", "([BI)B"⟩
abbrev yB : ByteArray := jdk_52_method_15_code
theorem d0 : decode yB 0 = .ok (.iload_n 1, 1) := by decide +kernel
theorem d1 : decode yB 1 = .ok (.aload_n 0, 1) := by decide +kernel
theorem d2 : decode yB 2 = .ok (.arraylength, 1) := by decide +kernel
theorem d3 : decode yB 3 = .ok (.isub, 1) := by decide +kernel
theorem d4 : decode yB 4 = .ok (.bipush 31, 2) := by decide +kernel
theorem d6 : decode yB 6 = .ok (.iushr, 1) := by decide +kernel
theorem d7 : decode yB 7 = .ok (.i2b, 1) := by decide +kernel
theorem d8 : decode yB 8 = .ok (.ireturn, 1) := by decide +kernel
def site : List Cond := []
def tab : Cond := tabOf yN yB 2 (some .byte) site
def P (d : Addr) (B : Cell) (args : Array Value) (s : State) : Prop := args = #[.ref d, .int (Int32.ofNat B.slots.size)] ∧ Arr .byte d B s
def E (r : Option Value) (s u : State) : Prop := XT.PureE (some (.int 0)) r s u
/-- an array as long as the number of chars: LATIN1 -/
theorem law (l : Launch) (d : Addr) (B : Cell) : Law l yN 2 2 0 0 yB 2 (some .byte) site (P d B) E [] 0 0 := by
  refine Law.of_walk (plainFor_of_name (by decide +kernel)) (by decide +kernel) (by decide +kernel) (by decide) (fun _ _ h => by rw [h.1]; rfl) (fun _ U U' hal hh h => ⟨h.1, h.2.mv hal hh⟩) (fun r U U' V V' h1 hal h2 h => XT.PureE.mv r U U' V V' h1 hal h2 h) ?_
  intro p e s m args below meth c s₁ X0 hexec hbytes hml hret hlk hnm hown hh0 W hP
  obtain ⟨rfl, hB⟩ := hP
  have hB0 := hB.mv X0.warmed.alike hh0
  have c1 : Steps p.tables e below (s₁.setTop (entryFrame m #[.ref d, .int (Int32.ofNat B.slots.size)] 2)) (s₁.setTop (mkF m 0 #[.val (.ref d), .val (.int (Int32.ofNat B.slots.size))] [])) := entry rfl
  have c2 : Steps p.tables e below (s₁.setTop (entryFrame m #[.ref d, .int (Int32.ofNat B.slots.size)] 2)) (s₁.setTop (mkF m 2 #[.val (.ref d), .val (.int (Int32.ofNat B.slots.size))] [.ref d, .int (Int32.ofNat B.slots.size)])) := c1.trans (by
    refine XS.iloadN X0.here hexec rfl (hb hbytes d0) rfl ?_
    refine XS.aloadN X0.here hexec rfl (hb hbytes d1) rfl rfl ?_
    exact Steps.refl _)
  have c3 : Steps p.tables e below (s₁.setTop (entryFrame m #[.ref d, .int (Int32.ofNat B.slots.size)] 2)) (s₁.setTop (mkF m 8 #[.val (.ref d), .val (.int (Int32.ofNat B.slots.size))] [.int (lo8 (ushr (Int32.ofNat B.slots.size - Int32.ofNat B.slots.size) 31))])) := c2.trans (by
    refine X0.alen hexec hB0 rfl rfl (hb hbytes d2) ?_
    refine XS.isub X0.here hexec rfl (hb hbytes d3) rfl ?_
    refine bipushV X0.here hexec rfl 31 (hb hbytes d4) (by decide) ?_
    refine iushr X0.here hexec rfl (hb hbytes d6) rfl ?_
    refine i2b X0.here hexec rfl (hb hbytes d7) rfl ?_
    exact Steps.refl _)
  have e0 : lo8 (ushr (Int32.ofNat B.slots.size - Int32.ofNat B.slots.size) 31) = 0 := by rw [Int32.sub_self]; decide
  rw [e0] at c3
  exact ⟨s₁, some (.int 0), _, _, _, X0, rfl, rfl, rfl, (fun h => by cases h), ⟨rfl, hh0⟩, fun fs hl => c3.trans (X0.ireturnOut hexec hret rfl (Or.inr (Or.inr (Or.inl rfl))) (hb hbytes d8) hl)⟩
end CodL
/-- the String at a is Latin-1 over a new byte[] (the heap's one new cell): the low bytes of the len chars of A from o on; every cell but a is kept -/
def Got (a : Addr) (D : Cell) (fV fC : Field) (A : Cell) (o len : Nat) (r : Option Value) (s u : State) : Prop := r = none ∧ ∃ D' V : Cell, Blank "java/lang/String" a D' u ∧ Same D D' [fV.slot, fC.slot] ∧ D'.slots[fV.slot]? = some (.ref s.heap.size) ∧ D'.slots[fC.slot]? = some (.int 0) ∧ Arr .byte s.heap.size V u ∧ V.vm = .none ∧ u.vm.findClass "[B" = some V.cls ∧ V.slots.size = len ∧ (∀ j, j < len → V.slots[j]? = some (.int (lo8 (cv A (o + j))))) ∧ (∀ (y : Addr) (c : Cell), y ≠ a → s.heap[y]? = some c → u.heap[y]? = some c) ∧ u.heap.size = s.heap.size + 1
theorem Got.mv {a : Addr} {D A : Cell} {fV fC : Field} {o len : Nat} : ∀ r (U U' V V' : State), U'.heap = U.heap → V.vm.Alike V'.vm → V'.heap = V.heap → Got a D fV fC A o len r U V → Got a D fV fC A o len r U' V' :=
  fun r U U' V V' h1 hal h2 ⟨e0, D', X, a1, a2, a3, a4, a5, a6, a7, a8, a9, a10, a11⟩ => ⟨e0, D', X, a1.mv hal h2, a2, by rw [h1]; exact a3, a4, by rw [h1]; exact a5.mv hal h2, a6, by rw [hal.findClass]; exact a7, a8, a9, by rw [h1, h2]; exact a10, by rw [h1, h2]; exact a11⟩
namespace New4
def yN : MethodName := ⟨"java/lang/String", "<init>", "([CIILjava/lang/Void;)V"⟩
abbrev yB : ByteArray := jdk_42_method_149_code
theorem d0 : decode yB 0 = .ok (.aload_n 0, 1) := by decide +kernel
theorem d1 : decode yB 1 = .ok (.invokespecial 1, 3) := by decide +kernel
theorem d4 : decode yB 4 = .ok (.iload_n 3, 1) := by decide +kernel
theorem d5 : decode yB 5 = .ok (.ifCond (.ne) 22, 3) := by decide +kernel
theorem d27 : decode yB 27 = .ok (.getstatic 38, 3) := by decide +kernel
theorem d30 : decode yB 30 = .ok (.ifCond (.eq) 28, 3) := by decide +kernel
theorem d33 : decode yB 33 = .ok (.aload_n 1, 1) := by decide +kernel
theorem d34 : decode yB 34 = .ok (.iload_n 2, 1) := by decide +kernel
theorem d35 : decode yB 35 = .ok (.iload_n 3, 1) := by decide +kernel
theorem d36 : decode yB 36 = .ok (.invokestatic 177, 3) := by decide +kernel
theorem d39 : decode yB 39 = .ok (.astore 5, 2) := by decide +kernel
theorem d41 : decode yB 41 = .ok (.aload_n 0, 1) := by decide +kernel
theorem d42 : decode yB 42 = .ok (.aload 5, 2) := by decide +kernel
theorem d44 : decode yB 44 = .ok (.iload_n 3, 1) := by decide +kernel
theorem d45 : decode yB 45 = .ok (.invokestatic 47, 3) := by decide +kernel
theorem d48 : decode yB 48 = .ok (.putfield 15, 3) := by decide +kernel
theorem d51 : decode yB 51 = .ok (.aload_n 0, 1) := by decide +kernel
theorem d52 : decode yB 52 = .ok (.aload 5, 2) := by decide +kernel
theorem d54 : decode yB 54 = .ok (.putfield 9, 3) := by decide +kernel
theorem d57 : decode yB 57 = .ok (.return_, 1) := by decide +kernel
def site : List Cond := [.fieldLink "java/lang/String" 38 "java/lang/String" "COMPACT_STRINGS" "Z", Cmp3.tab, CodL.tab, .laysFinal "java/lang/String" "java/lang/String" "value" "[B", .fieldLink "java/lang/String" 9 "java/lang/String" "value" "[B", .laysFinal "java/lang/String" "java/lang/String" "coder" "B", .fieldLink "java/lang/String" 15 "java/lang/String" "coder" "B"] ++ objW "java/lang/String" 1 ++ staticW "java/lang/String" 177 Cmp3.yN ++ staticW "java/lang/String" 47 CodL.yN
def tab : Cond := tabOf yN yB 6 none site
def P (a : Addr) (D : Cell) (fV fC : Field) (b : Addr) (A : Cell) (z : Int32) (o len : Nat) (args : Array Value) (s : State) : Prop := args = #[.ref a, .ref b, .int (Int32.ofNat o), .int (Int32.ofNat len), .null] ∧ Blank "java/lang/String" a D s ∧ Found "java/lang/String" "value" "[B" fV s ∧ Found "java/lang/String" "coder" "B" fC s ∧ Ch b A s ∧ StaticIs s "java/lang/String" "COMPACT_STRINGS" "Z" (.int z) ∧ ¬ z = 0 ∧ 0 < len ∧ o + len ≤ A.slots.size ∧ len ≤ 536870912 ∧ ∀ i, i < len → ¬ 255 < cv A (o + i)
def E (a : Addr) (D : Cell) (fV fC : Field) (A : Cell) (o len : Nat) (r : Option Value) (s u : State) : Prop := Got a D fV fC A o len r s u
/-- len > 0, no char of the range above 255: a Latin-1 String of their low bytes -/
theorem law (l : Launch) (a : Addr) (D : Cell) (fV fC : Field) (b : Addr) (A : Cell) (z : Int32) (o len : Nat) : Law l yN 5 4 2 35 yB 6 none site (P a D fV fC b A z o len) (E a D fV fC A o len) [⟨a, fC.slot⟩, ⟨a, fV.slot⟩] 1 len := by
  refine Law.of_walk (plainFor_of_name (by decide +kernel)) (by decide +kernel) (by decide +kernel) (by decide) (fun _ _ h => by rw [h.1]; rfl) (fun _ U U' hal hh h => ⟨h.1, h.2.1.mv hal hh, h.2.2.1.al hal, h.2.2.2.1.al hal, h.2.2.2.2.1.mv hal hh, h.2.2.2.2.2.1.there hal hh, h.2.2.2.2.2.2⟩) (fun r U U' V V' h1 hal h2 h => Got.mv r U U' V V' h1 hal h2 h) ?_
  intro p e s m args below meth c s₁ X0 hexec hbytes hml hret hlk hnm hown hh0 W hP
  obtain ⟨rfl, hB, f1, f2, hA, s1, hz, l0, l1, l2, hp⟩ := hP
  have a31 := hA.1.2.2.2
  have c1 : Steps p.tables e below (s₁.setTop (entryFrame m #[.ref a, .ref b, .int (Int32.ofNat o), .int (Int32.ofNat len), .null] 6)) (s₁.setTop (mkF m 0 #[.val (.ref a), .val (.ref b), .val (.int (Int32.ofNat o)), .val (.int (Int32.ofNat len)), .val .null, .unset] [])) := entry rfl
  have c2 : Steps p.tables e below (s₁.setTop (entryFrame m #[.ref a, .ref b, .int (Int32.ofNat o), .int (Int32.ofNat len), .null] 6)) (s₁.setTop (mkF m 1 #[.val (.ref a), .val (.ref b), .val (.int (Int32.ofNat o)), .val (.int (Int32.ofNat len)), .val .null, .unset] [.ref a])) := c1.trans (by
    refine XS.aloadN X0.here hexec rfl (hb hbytes d0) rfl rfl ?_
    exact Steps.refl _)
  obtain ⟨T3, X3, q3, st3⟩ := X0.oinit hexec hown (wks W (objW "java/lang/String" 1)) (g := (mkF m 1 #[.val (.ref a), .val (.ref b), .val (.int (Int32.ofNat o)), .val (.int (Int32.ofNat len)), .val .null, .unset] [.ref a])) rfl (by rw [hml]; rfl) (rest := []) rfl (hb hbytes d1) (W := 0) (by show 2 * 0 + 0 ≤ _; decide) (Nat.le_of_ble_eq_true rfl) (Nat.le_of_ble_eq_true rfl)
  have hh3 := q3.trans hh0
  have c4 : Steps p.tables e below (s₁.setTop (entryFrame m #[.ref a, .ref b, .int (Int32.ofNat o), .int (Int32.ofNat len), .null] 6)) (T3.setTop (mkF m 27 #[.val (.ref a), .val (.ref b), .val (.int (Int32.ofNat o)), .val (.int (Int32.ofNat len)), .val .null, .unset] [])) := (c2.trans (st3 _ (Steps.refl _))).trans (by
    refine XS.iloadN X3.here hexec rfl (hb hbytes d4) rfl ?_
    refine XS.ifYes X3.here hexec rfl (pc0 := 5) rfl (hb hbytes d5) rfl (i0_ne_t (nz32 (by omega) l0)) (by decide) rfl ?_
    exact Steps.refl _)
  obtain ⟨T5, X5, q5, st5⟩ := X3.sget hexec hown (wk W (.fieldLink "java/lang/String" 38 "java/lang/String" "COMPACT_STRINGS" "Z")) s1 (fun _ _ h => by rw [hh3]; exact h) (g := (mkF m 27 #[.val (.ref a), .val (.ref b), .val (.int (Int32.ofNat o)), .val (.int (Int32.ofNat len)), .val .null, .unset] [])) rfl (hb hbytes d27)
  have hh5 := q5.trans hh3
  have c6 : Steps p.tables e below (s₁.setTop (entryFrame m #[.ref a, .ref b, .int (Int32.ofNat o), .int (Int32.ofNat len), .null] 6)) (T5.setTop (mkF m 30 #[.val (.ref a), .val (.ref b), .val (.int (Int32.ofNat o)), .val (.int (Int32.ofNat len)), .val .null, .unset] [.int z])) := c4.trans (st5 _ (Steps.refl _))
  have c7 : Steps p.tables e below (s₁.setTop (entryFrame m #[.ref a, .ref b, .int (Int32.ofNat o), .int (Int32.ofNat len), .null] 6)) (T5.setTop (mkF m 36 #[.val (.ref a), .val (.ref b), .val (.int (Int32.ofNat o)), .val (.int (Int32.ofNat len)), .val .null, .unset] [.int (Int32.ofNat len), .int (Int32.ofNat o), .ref b])) := c6.trans (by
    refine XS.ifNo X5.here hexec rfl (hb hbytes d30) rfl (i0_eq_f hz) ?_
    refine XS.aloadN X5.here hexec rfl (hb hbytes d33) rfl rfl ?_
    refine XS.iloadN X5.here hexec rfl (hb hbytes d34) rfl ?_
    refine XS.iloadN X5.here hexec rfl (hb hbytes d35) rfl ?_
    exact Steps.refl _)
  obtain ⟨v8, T8, X8, E8, g8⟩ := X5.callS hexec (Cmp3.law l b A o len) hown (wks W (staticW "java/lang/String" 177 Cmp3.yN)) (wk W Cmp3.tab) (W := 0) (Nat.le_of_ble_eq_true rfl) (Nat.le_of_ble_eq_true rfl) (Nat.le_refl _) (by show 0 + len ≤ len; omega) (g := (mkF m 36 #[.val (.ref a), .val (.ref b), .val (.int (Int32.ofNat o)), .val (.int (Int32.ofNat len)), .val .null, .unset] [.int (Int32.ofNat len), .int (Int32.ofNat o), .ref b])) rfl (by rw [hml]; rfl) c7 (argsL := [.ref b, .int (Int32.ofNat o), .int (Int32.ofNat len)]) (rest := []) rfl rfl (by show 2 * 0 + 0 ≤ _; decide) (hb hbytes d36) (⟨rfl, hA.mv X5.warmed.alike hh5, l1, l2, hp⟩)
  obtain ⟨e8, z8⟩ := E8
  obtain ⟨rfl, N, n1, n2, n3, n4, n5, n6⟩ := NewArr.mv _ T5 s _ _ hh5.symm (Vm.Alike.refl _) rfl e8
  rw [hh5] at z8
  have hB1 := hB.keep X8.warmed.alike (n6 _ _ hB.1)
  have hne : s.heap.size ≠ a := (Nat.ne_of_lt (Array.getElem?_eq_some_iff.mp hB.1).1).symm
  have c9 : Steps p.tables e below (s₁.setTop (entryFrame m #[.ref a, .ref b, .int (Int32.ofNat o), .int (Int32.ofNat len), .null] 6)) (T8.setTop (mkF m 39 #[.val (.ref a), .val (.ref b), .val (.int (Int32.ofNat o)), .val (.int (Int32.ofNat len)), .val .null, .unset] [.ref s.heap.size])) := g8
  have c10 : Steps p.tables e below (s₁.setTop (entryFrame m #[.ref a, .ref b, .int (Int32.ofNat o), .int (Int32.ofNat len), .null] 6)) (T8.setTop (mkF m 45 #[.val (.ref a), .val (.ref b), .val (.int (Int32.ofNat o)), .val (.int (Int32.ofNat len)), .val .null, .val (.ref s.heap.size)] [.int (Int32.ofNat N.slots.size), .ref s.heap.size, .ref a])) := by
    have hc : Steps p.tables e below (s₁.setTop (entryFrame m #[.ref a, .ref b, .int (Int32.ofNat o), .int (Int32.ofNat len), .null] 6)) (T8.setTop (mkF m 45 #[.val (.ref a), .val (.ref b), .val (.int (Int32.ofNat o)), .val (.int (Int32.ofNat len)), .val .null, .val (.ref s.heap.size)] [.int (Int32.ofNat len), .ref s.heap.size, .ref a])) := c9.trans (by
      refine XS.astore X8.here hexec rfl (hb hbytes d39) rfl rfl rfl ?_
      refine XS.aloadN X8.here hexec rfl (hb hbytes d41) rfl rfl ?_
      refine XS.aload X8.here hexec rfl (hb hbytes d42) rfl rfl ?_
      refine XS.iloadN X8.here hexec rfl (hb hbytes d44) rfl ?_
      exact Steps.refl _)
    rw [n4]; exact hc
  obtain ⟨v11, T11, X11, E11, g11⟩ := X8.callS hexec (CodL.law l s.heap.size N) hown (wks W (staticW "java/lang/String" 47 CodL.yN)) (wk W CodL.tab) (W := 1) (Nat.le_of_ble_eq_true rfl) (Nat.le_of_ble_eq_true rfl) (Nat.le_refl _) (by show 0 + len + 0 ≤ len; omega) (g := (mkF m 45 #[.val (.ref a), .val (.ref b), .val (.int (Int32.ofNat o)), .val (.int (Int32.ofNat len)), .val .null, .val (.ref s.heap.size)] [.int (Int32.ofNat N.slots.size), .ref s.heap.size, .ref a])) rfl (by rw [hml]; rfl) c10 (argsL := [.ref s.heap.size, .int (Int32.ofNat N.slots.size)]) (rest := [.ref a]) rfl rfl (by show 2 * 0 + (1 + 0) ≤ _; decide) (hb hbytes d45) (⟨rfl, n1⟩)
  obtain ⟨rfl, q11⟩ := E11
  have hB11 := hB1.mv (X8.warmed.alike.symm.trans X11.warmed.alike) q11
  have c12 : Steps p.tables e below (s₁.setTop (entryFrame m #[.ref a, .ref b, .int (Int32.ofNat o), .int (Int32.ofNat len), .null] 6)) (T11.setTop (mkF m 48 #[.val (.ref a), .val (.ref b), .val (.int (Int32.ofNat o)), .val (.int (Int32.ofNat len)), .val .null, .val (.ref s.heap.size)] [.int 0, .ref a])) := g11
  obtain ⟨T13, X13, p13, bl13, sl13, st13⟩ := X11.finit hexec hown (wk W (.fieldLink "java/lang/String" 15 "java/lang/String" "coder" "B")) (Or.inr ⟨_, (wk W (.laysFinal "java/lang/String" "java/lang/String" "coder" "B"))⟩) (Or.inl ⟨rfl, hnm⟩) f2 (Or.inl rfl) hB11 (t := .byte) (by decide +kernel) rfl (g := (mkF m 48 #[.val (.ref a), .val (.ref b), .val (.int (Int32.ofNat o)), .val (.int (Int32.ofNat len)), .val .null, .val (.ref s.heap.size)] [.int 0, .ref a])) rfl (rest := []) rfl (hb hbytes d48)
  have c14 : Steps p.tables e below (s₁.setTop (entryFrame m #[.ref a, .ref b, .int (Int32.ofNat o), .int (Int32.ofNat len), .null] 6)) (T13.setTop (mkF m 54 #[.val (.ref a), .val (.ref b), .val (.int (Int32.ofNat o)), .val (.int (Int32.ofNat len)), .val .null, .val (.ref s.heap.size)] [.ref s.heap.size, .ref a])) := (c12.trans (st13 _ (Steps.refl _))).trans (by
    refine XS.aloadN X13.here hexec rfl (hb hbytes d51) rfl rfl ?_
    refine XS.aload X13.here hexec rfl (hb hbytes d52) rfl rfl ?_
    exact Steps.refl _)
  obtain ⟨T15, X15, p15, bl15, sl15, st15⟩ := X13.finit hexec hown (wk W (.fieldLink "java/lang/String" 9 "java/lang/String" "value" "[B")) (Or.inr ⟨_, (wk W (.laysFinal "java/lang/String" "java/lang/String" "value" "[B"))⟩) (Or.inl ⟨rfl, hnm⟩) f1 (Or.inl rfl) bl13 (t := (.array .byte)) (by decide +kernel) rfl (g := (mkF m 54 #[.val (.ref a), .val (.ref b), .val (.int (Int32.ofNat o)), .val (.int (Int32.ofNat len)), .val .null, .val (.ref s.heap.size)] [.ref s.heap.size, .ref a])) rfl (rest := []) rfl (hb hbytes d54)
  have c16 : Steps p.tables e below (s₁.setTop (entryFrame m #[.ref a, .ref b, .int (Int32.ofNat o), .int (Int32.ofNat len), .null] 6)) (T15.setTop (mkF m 57 #[.val (.ref a), .val (.ref b), .val (.int (Int32.ofNat o)), .val (.int (Int32.ofNat len)), .val .null, .val (.ref s.heap.size)] [])) := c14.trans (st15 _ (Steps.refl _))
  have ap := apart (Or.inr ⟨_, (wk W (.laysFinal "java/lang/String" "java/lang/String" "value" "[B"))⟩) (Or.inr ⟨_, (wk W (.laysFinal "java/lang/String" "java/lang/String" "coder" "B"))⟩) f1 f2 (t₁ := .array .byte) (t₂ := .byte) (by decide +kernel) (by decide +kernel) (by decide)
  have al := X8.warmed.alike.symm.trans X15.warmed.alike
  have n7 : T11.heap[s.heap.size]? = some N := by rw [q11]; exact n1.1
  exact ⟨T15, none, _, _, _, X15, by simp, rfl, by omega, (fun _ => rfl), ⟨rfl, _, N, bl15, ((Same.refl D _).set _ (by simp)).set _ (by simp), sl15, (Cell.slots_setSlot_ne _ ap).trans sl13, n1.keep al (p15.other hne (p13.other hne n7)), n2, by rw [al.findClass]; exact n3, n4, n5, fun y c h1 h2 => p15.other h1 (p13.other h1 (by rw [q11]; exact n6 y c h2)), by rw [p15.2.2, p13.2.2, q11]; exact z8⟩, fun fs hl => c16.trans (X15.returnOut hexec hret (hb hbytes d57) hl)⟩
end New4
namespace New1
def yN : MethodName := ⟨"java/lang/String", "<init>", "([C)V"⟩
abbrev yB : ByteArray := jdk_42_method_3_code
theorem d0 : decode yB 0 = .ok (.aload_n 0, 1) := by decide +kernel
theorem d1 : decode yB 1 = .ok (.aload_n 1, 1) := by decide +kernel
theorem d2 : decode yB 2 = .ok (.iconst 0, 1) := by decide +kernel
theorem d3 : decode yB 3 = .ok (.aload_n 1, 1) := by decide +kernel
theorem d4 : decode yB 4 = .ok (.arraylength, 1) := by decide +kernel
theorem d5 : decode yB 5 = .ok (.aconst_null, 1) := by decide +kernel
theorem d6 : decode yB 6 = .ok (.invokespecial 27, 3) := by decide +kernel
theorem d9 : decode yB 9 = .ok (.return_, 1) := by decide +kernel
def site : List Cond := [New4.tab] ++ initW "java/lang/String" 27 New4.yN
def tab : Cond := tabOf yN yB 2 none site
def P (a : Addr) (D : Cell) (fV fC : Field) (b : Addr) (A : Cell) (z : Int32) (args : Array Value) (s : State) : Prop := args = #[.ref a, .ref b] ∧ Blank "java/lang/String" a D s ∧ Found "java/lang/String" "value" "[B" fV s ∧ Found "java/lang/String" "coder" "B" fC s ∧ Ch b A s ∧ StaticIs s "java/lang/String" "COMPACT_STRINGS" "Z" (.int z) ∧ ¬ z = 0 ∧ 0 < A.slots.size ∧ A.slots.size ≤ 536870912 ∧ ∀ i, i < A.slots.size → ¬ 255 < cv A i
def E (a : Addr) (D : Cell) (fV fC : Field) (A : Cell) (r : Option Value) (s u : State) : Prop := Got a D fV fC A 0 A.slots.size r s u
/-- new String(chars), not empty, no char above 255: a Latin-1 String of their low bytes -/
theorem law (l : Launch) (a : Addr) (D : Cell) (fV fC : Field) (b : Addr) (A : Cell) (z : Int32) : Law l yN 2 1 3 52 yB 2 none site (P a D fV fC b A z) (E a D fV fC A) [⟨a, fC.slot⟩, ⟨a, fV.slot⟩] 1 A.slots.size := by
  refine Law.of_walk (plainFor_of_name (by decide +kernel)) (by decide +kernel) (by decide +kernel) (by decide) (fun _ _ h => by rw [h.1]; rfl) (fun _ U U' hal hh h => ⟨h.1, h.2.1.mv hal hh, h.2.2.1.al hal, h.2.2.2.1.al hal, h.2.2.2.2.1.mv hal hh, h.2.2.2.2.2.1.there hal hh, h.2.2.2.2.2.2⟩) (fun r U U' V V' h1 hal h2 h => Got.mv r U U' V V' h1 hal h2 h) ?_
  intro p e s m args below meth c s₁ X0 hexec hbytes hml hret hlk hnm hown hh0 W hP
  obtain ⟨rfl, hB, f1, f2, hA, s1, hz, l0, l2, hp⟩ := hP
  have c1 : Steps p.tables e below (s₁.setTop (entryFrame m #[.ref a, .ref b] 2)) (s₁.setTop (mkF m 0 #[.val (.ref a), .val (.ref b)] [])) := entry rfl
  have c2 : Steps p.tables e below (s₁.setTop (entryFrame m #[.ref a, .ref b] 2)) (s₁.setTop (mkF m 6 #[.val (.ref a), .val (.ref b)] [.null, .int (Int32.ofNat A.slots.size), .int 0, .ref b, .ref a])) := c1.trans (by
    refine XS.aloadN X0.here hexec rfl (hb hbytes d0) rfl rfl ?_
    refine XS.aloadN X0.here hexec rfl (hb hbytes d1) rfl rfl ?_
    refine iconstV X0.here hexec rfl 0 (hb hbytes d2) (by decide) ?_
    refine XS.aloadN X0.here hexec rfl (hb hbytes d3) rfl rfl ?_
    refine X0.alen hexec (hA.1.mv X0.warmed.alike hh0) rfl rfl (hb hbytes d4) ?_
    refine XS.aconstNull X0.here hexec rfl (hb hbytes d5) ?_
    exact Steps.refl _)
  obtain ⟨v3, T3, X3, E3, g3⟩ := X0.callN hexec (New4.law l a D fV fC b A z 0 A.slots.size) rfl hown (wks W (initW "java/lang/String" 27 New4.yN)) (W New4.tab (by simp only [site, List.mem_cons, List.mem_append, true_or, or_true])) (W := 0) (Nat.le_of_ble_eq_true rfl) (Nat.le_of_ble_eq_true rfl) (Nat.le_refl _) (by show 0 + A.slots.size ≤ A.slots.size; omega) (g := (mkF m 6 #[.val (.ref a), .val (.ref b)] [.null, .int (Int32.ofNat A.slots.size), .int (Int32.ofNat 0), .ref b, .ref a])) rfl (by rw [hml]; rfl) c2 (argsL := [.ref b, .int (Int32.ofNat 0), .int (Int32.ofNat A.slots.size), .null]) (rest := []) rfl rfl (by show 2 * 0 + 0 ≤ _; decide) (hb hbytes d6) (⟨rfl, hB.mv X0.warmed.alike hh0, f1.al X0.warmed.alike, f2.al X0.warmed.alike, hA.mv X0.warmed.alike hh0, s1.there X0.warmed.alike hh0, hz, l0, by omega, l2, fun i hi => by rw [Nat.zero_add]; exact hp i hi⟩)
  have e0 := Got.mv _ s₁ s _ _ hh0.symm (Vm.Alike.refl _) rfl E3
  obtain rfl := e0.1
  have c4 : Steps p.tables e below (s₁.setTop (entryFrame m #[.ref a, .ref b] 2)) (T3.setTop (mkF m 9 #[.val (.ref a), .val (.ref b)] [])) := g3
  exact ⟨T3, none, _, _, _, X3, by simp, rfl, by omega, (fun _ => rfl), e0, fun fs hl => c4.trans (X3.returnOut hexec hret (hb hbytes d9) hl)⟩
theorem pays {l : Launch} {R : Room} {p : Program} {e : Env} {below : List Frame} {s : State} {sargs : Array Value} {len W : Nat} (a : Addr) (D : Cell) (fV fC : Field) (b : Addr) (A : Cell) (z : Int32) (htab : tab.before sargs s = true) (hfr : 4 ≤ R.frames) (hlo : W + 65 ≤ R.locals) :
    Back l R p e below s sargs yN len W (fun A₁ a₁ => A₁.cells + 1 ≤ R.cells ∧ A₁.slots + A.slots.size ≤ R.slots ∧ P a D fV fC b A z a₁ A₁.U) (fun A₁ _ v₁ B₁ => E a D fV fC A v₁ A₁.U B₁.U ∧ B₁.locs = A₁.locs ++ [⟨a, fC.slot⟩, ⟨a, fV.slot⟩] ∧ B₁.cells = A₁.cells + 1 ∧ B₁.slots = A₁.slots + A.slots.size) :=
  (law l a D fV fC b A z).pays htab hfr (by omega)
end New1
/-- the byte, read back as charAt reads it, is the char -/
theorem lo8_mask {x : Int32} (h0 : ¬ x < 0) (h1 : ¬ 255 < x) : lo8 x &&& 255 = x := by
  have t : ∀ k : Fin 256, lo8 (Int32.ofNat k.val) &&& 255 = Int32.ofNat k.val := by decide +kernel
  rw [Int32.lt_iff_toInt_lt] at h0 h1
  have e0 : (0 : Int32).toInt = 0 := rfl
  have e1 : (255 : Int32).toInt = 255 := rfl
  obtain ⟨k, hk⟩ : ∃ k : Nat, x.toInt = k := ⟨x.toInt.toNat, by omega⟩
  have hx : x = Int32.ofNat k := Int32.toInt_inj.mp (by rw [hk, Int32.toInt_ofNat_small (by omega)])
  rw [hx]
  exact t ⟨k, by omega⟩
end StrChars
namespace StrChars.Road
open Jvm Sem ClassFile Op Lib Jvm.Stand Jvm.Free Jvm.Free.XT
open Jvm.Lib.Cold (StaticIs)
abbrev ST : String := "java/lang/String"
/-- every table word that New1's law asks, flat -/
abbrev words : List Jvm.Cond := [.code New1.yN New1.yB 2 none, .initialized ST, .methodLink ST 27 New4.yN, .instanceMethod New4.yN,
  .code New4.yN New4.yB 6 none, .fieldLink ST 38 ST "COMPACT_STRINGS" "Z", .laysFinal ST ST "value" "[B", .fieldLink ST 9 ST "value" "[B", .laysFinal ST ST "coder" "B", .fieldLink ST 15 ST "coder" "B",
  .methodLink ST 1 Lib.objectInit, .instanceMethod Lib.objectInit, .code Lib.objectInit ⟨#[0xb1]⟩ 1 none, .methodLink ST 177 Cmp3.yN, .static Cmp3.yN, .methodLink ST 47 CodL.yN, .static CodL.yN,
  .code Cmp3.yN Cmp3.yB 6 (some (.array .byte)), .initialized U16, .arrayClass .byte, .methodLink U16 115 Cmp5.yN, .static Cmp5.yN, .code Cmp5.yN Cmp5.yB 7 (some .int), .code CodL.yN CodL.yB 2 (some .byte)]
theorem tab_of {a : Array Value} {s : State} (h : ∀ w ∈ words, w.before a s = true) : New1.tab.before a s = true := by
  have h5 : Cmp5.tab.before a s = true := unparts (wk h (.code Cmp5.yN Cmp5.yB 7 (some .int))) (wks h (.initialized Cmp5.yN.cls :: Cmp5.site))
  have hc : CodL.tab.before a s = true := unparts (wk h (.code CodL.yN CodL.yB 2 (some .byte))) (wks h (.initialized CodL.yN.cls :: CodL.site))
  have q5 : ∀ w ∈ Cmp5.tab :: words, w.before a s = true := fun w hw => (List.mem_cons.mp hw).elim (fun e => e ▸ h5) (h w)
  have h3 : Cmp3.tab.before a s = true := unparts (wk q5 (.code Cmp3.yN Cmp3.yB 6 (some (.array .byte)))) (wks q5 (.initialized Cmp3.yN.cls :: Cmp3.site))
  have q3 : ∀ w ∈ Cmp3.tab :: CodL.tab :: words, w.before a s = true := fun w hw => (List.mem_cons.mp hw).elim (fun e => e ▸ h3) fun hw => (List.mem_cons.mp hw).elim (fun e => e ▸ hc) (h w)
  have h4 : New4.tab.before a s = true := unparts (wk q3 (.code New4.yN New4.yB 6 none)) (wks q3 (.initialized New4.yN.cls :: New4.site))
  have q4 : ∀ w ∈ New4.tab :: words, w.before a s = true := fun w hw => (List.mem_cons.mp hw).elim (fun e => e ▸ h4) (h w)
  exact unparts (wk q4 (.code New1.yN New1.yB 2 none)) (wks q4 (.initialized New1.yN.cls :: New1.site))
/-- the words ride from the start Z to the walk's own state -/
theorem moved {Z s : State} {a0 args : Array Value} (hZ : Z.Warmed39 s.vm) (hw : ∀ d ∈ words, d.before a0 Z = true) : ∀ d ∈ words, d.before args s = true := fun d hd => by
  have q := hw d hd
  have t : ∀ d ∈ words, d = .arrayClass .byte ∨ (d.onTables && d.keepsFace) = true := by decide +kernel
  rcases t d hd with rfl | t
  · exact RoadKit.mvA hZ q
  · exact RoadKit.mv hZ q t
/-- WHAT COMES BACK, over the tables of the start Z: h the heap at the call, h' behind it -/
def Q (Z : State) (x : Addr) (A : Cell) (h : Heap) (v : Option Value) (h' : Heap) (L : List Loc) : Prop := v = none ∧ (∀ y ∈ L, y.base = x) ∧ RoadKit.Keep h h' [x] ∧ h'.size = h.size + 1 ∧ RoadKit.Exa Z h' x ST ∧ RoadKit.Fld Z h' x ST "value" "[B" (.ref h.size) ∧ RoadKit.Fld Z h' x ST "coder" "B" (.int 0) ∧
  (∃ V : Cell, RoadKit.Arr Z h' h.size V .byte ∧ V.vm = .none ∧ Z.vm.findClass "[B" = some V.cls ∧ V.slots.size = A.slots.size ∧ ∀ j, j < A.slots.size → V.slots[j]? = some (.int (lo8 (cv A j)))) ∧
  ∀ (O n d : String) (w : Value), RoadKit.Fld Z h x O n d w → RoadKit.slotOf Z O n d ≠ RoadKit.slotOf Z ST "value" "[B" → RoadKit.slotOf Z O n d ≠ RoadKit.slotOf Z ST "coder" "B" → RoadKit.Fld Z h' x O n d w
/-- **new String(chars) AT A CALL, IN THE ROAD'S FORM**: for specialBack behind newO: x the fresh String, b the char[] with the cell A -/
theorem back {p : Program} {l : Launch} {e : Env} {R : Room} {s : State} {args : Array Value} {below : List Frame} {len W : Nat} {Z : State} {a0 : Array Value} {h : Heap} (hZ : Z.Warmed39 s.vm) (hw : ∀ d ∈ words, d.before a0 Z = true) {kI : Nat} (wi : (Jvm.Cond.instantiable ST kI).before a0 Z = true)
    {x b : Addr} {A : Cell} {z : Int32} {v0 c0 : Value} (E : RoadKit.Exa Z h x ST) (V : RoadKit.Fld Z h x ST "value" "[B" v0) (C : RoadKit.Fld Z h x ST "coder" "B" c0) (K : RoadKit.Arr Z h b A .char) (hty : Typed .char A) (S : RoadKit.Sta Z h ST "COMPACT_STRINGS" "Z" (.int z)) (hz : ¬ z = 0)
    (l0 : 0 < A.slots.size) (l2 : A.slots.size ≤ 536870912) (hp : ∀ i, i < A.slots.size → ¬ 255 < cv A i) (hfr : 4 ≤ R.frames) (hlo : W + 65 ≤ R.locals) :
    Back l R p e below s args New1.yN len W (fun P a => a = #[.ref x, .ref b] ∧ P.U.heap = h ∧ P.cells + 1 ≤ R.cells ∧ P.slots + A.slots.size ≤ R.slots)
      (fun P _ v B => ∃ L, Q Z x A h v B.U.heap L ∧ B.locs = P.locs ++ L ∧ B.cells = P.cells + 1 ∧ B.slots = P.slots + A.slots.size) := by
  intro m meth c P g ig mk a X hg hsize hdg hW hn hp'
  obtain ⟨rfl, rfl, r1, r2⟩ := hp'
  have al : Z.vm.Alike P.U.vm := hZ.alike.trans X.warmed.alike
  obtain ⟨D, cfV, kV, iV, fV, hD, gV, stV, knV, obV, asV, slV⟩ := id V
  obtain ⟨D', cfC, kC, iC, fC, hD', gC, stC, -, -, asC, slC⟩ := id C
  cases hD.symm.trans hD'
  obtain ⟨D2, kD, e1, e2, e3, e4, e5⟩ := id E
  cases hD.symm.trans e1
  obtain ⟨c2, k2, i1, i2, i3, -⟩ := Cond.instantiable_spec wi
  cases e2.symm.trans i1
  cases e3.symm.trans i2
  obtain ⟨kU, u1, u2⟩ := al.2.2 _ _ e3
  have hB : Blank ST x D P.U := ⟨hD, ⟨knV, fun q hq => by rw [hq] at obV; cases obV⟩, by rw [al.findClass]; exact e2, kU, u1, by rw [u2]; exact i3, by rw [u2]; exact e5 i3⟩
  have F1 : Found ST "value" "[B" fV P.U := ⟨SBG.found_only al ⟨cfV, kV, iV, gV⟩, stV⟩
  have F2 : Found ST "coder" "B" fC P.U := ⟨SBG.found_only al ⟨cfC, kC, iC, gC⟩, stC⟩
  have hA : Ch b A P.U := ⟨⟨K.1, State.isArrayOf_alike al K.2.1, K.2.2, by omega⟩, hty⟩
  have hS : StaticIs P.U ST "COMPACT_STRINGS" "Z" (.int z) := by
    obtain ⟨cfS, iS, kS, fS, st, cS, t1, t2, t3, t4, t5, t6, t7⟩ := S
    exact StaticIs.there (s := { Z with heap := P.U.heap }) ⟨cfS, iS, kS, fS, st, cS, t1, t2, t3, t4, t5, (fun q => by rw [q] at t6; cases t6), t7⟩ al rfl
  obtain ⟨v, B, X', ⟨⟨hv, E', V', q1, q2, q3, q4, q5, q6, q7, q8, q9, q10, q11⟩, hl, hc, hs⟩, st⟩ := New1.pays x D fV fC b A z (tab_of (moved hZ hw)) hfr hlo m meth c P g ig mk _ X hg hsize hdg hW hn ⟨r1, r2, rfl, hB, F1, F2, hA, hS, hz, l0, l2, hp⟩
  have al' : Z.vm.Alike B.U.vm := hZ.alike.trans X'.warmed.alike
  have hsz : E'.slots.size = D.slots.size := by
    obtain ⟨-, -, -, kB, w1, w2, w3⟩ := q1
    obtain ⟨kB', y1, y2⟩ := al'.2.2 _ _ e3
    rw [q2.2.1] at w1
    cases w1.symm.trans y1
    rw [w3, e5 i3, y2]
  refine ⟨v, B, X', ⟨_, ⟨hv, ?_, ⟨by omega, fun y cy hy hn' => q10 y cy (by simpa using hn') hy, fun y cy hy => ?_⟩, q11, ⟨E', _, q1.1, by rw [q2.2.1]; exact e2, by rw [q2.2.1]; exact e3, by rw [q2.1]; exact obV, fun _ => by rw [hsz]; exact e5 i3⟩,
    ⟨E', cfV, kV, iV, fV, q1.1, gV, stV, by rw [q2.1]; exact knV, by rw [q2.1]; exact obV, by rw [q2.2.1]; exact asV, q3⟩, ⟨E', cfC, kC, iC, fC, q1.1, gC, stC, by rw [q2.1]; exact knV, by rw [q2.1]; exact obV, by rw [q2.2.1]; exact asC, q4⟩,
    ⟨V', ⟨q5.1, State.isArrayOf_alike al'.symm q5.2.1, q5.2.2.1⟩, q6, by rw [← al'.findClass]; exact q7, q8, fun j hj => by have := q9 j hj; rwa [Nat.zero_add] at this⟩, fun O n d w F n1 n2 => ?_⟩, hl, hc, hs⟩, st⟩
  · intro y hy
    simp only [List.mem_cons, List.not_mem_nil, or_false] at hy
    rcases hy with rfl | rfl <;> rfl
  · by_cases q : y = x
    · subst q
      cases hD.symm.trans hy
      exact ⟨E', q1.1, q2.2.1, q2.1, hsz⟩
    · exact ⟨cy, q10 y cy q hy, rfl, rfl, rfl⟩
  · obtain ⟨D3, cf, k, i, f, g1, g2, g3, g4, g5, g6, g7⟩ := F
    cases hD.symm.trans g1
    simp only [RoadKit.slotOf, g2, gV, gC, Option.map_some, Option.getD_some] at n1 n2
    exact ⟨E', cf, k, i, f, q1.1, g2, g3, by rw [q2.1]; exact g4, by rw [q2.1]; exact g5, by rw [q2.2.1]; exact g6, by rw [q2.2.2 f.slot (by simp [n1, n2])]; exact g7⟩
end StrChars.Road
namespace StrChars.Road
open Jvm Sem ClassFile Op Lib Jvm.Stand Jvm.Free Jvm.Free.XT
/-- WHAT COMES BACK, the byte[] as a list of values -/
def QA (Z : State) (x : Addr) (zn : Int32) (cs : List Int32) (h : Heap) (v : Option Value) (h' : Heap) (L : List Loc) : Prop := v = none ∧ (∀ y ∈ L, y.base = x) ∧ RoadKit.Keep h h' [x] ∧ h'.size = h.size + 1 ∧ RoadKit.Exa Z h' x ST ∧ RoadKit.Fld Z h' x ST "value" "[B" (.ref h.size) ∧ RoadKit.Fld Z h' x ST "coder" "B" (.int 0) ∧
  (∃ kb, Z.vm.findClass "[B" = some kb ∧ RoadKit.Arv Z h' h.size kb .byte zn (cs.map fun c => .int (lo8 c)) (.int 0)) ∧
  ∀ (O n d : String) (w : Value), RoadKit.Fld Z h x O n d w → RoadKit.slotOf Z O n d ≠ RoadKit.slotOf Z ST "value" "[B" → RoadKit.slotOf Z O n d ≠ RoadKit.slotOf Z ST "coder" "B" → RoadKit.Fld Z h' x O n d w
/-- **new String(chars) AT A CALL, THE ARRAYS AS LISTS**: the char[] at b holds cs, not empty, no char above 255 -/
theorem backArv {p : Program} {l : Launch} {e : Env} {R : Room} {s : State} {args : Array Value} {below : List Frame} {len W : Nat} {Z : State} {a0 : Array Value} {h : Heap} (hZ : Z.Warmed39 s.vm) (hw : ∀ d ∈ words, d.before a0 Z = true) {kI : Nat} (wi : (Jvm.Cond.instantiable ST kI).before a0 Z = true)
    {x b : Addr} {k : ClassId} {zn z : Int32} {cs : List Int32} {dv v0 c0 : Value} (E : RoadKit.Exa Z h x ST) (V : RoadKit.Fld Z h x ST "value" "[B" v0) (C : RoadKit.Fld Z h x ST "coder" "B" c0) (K : RoadKit.Arv Z h b k .char zn (cs.map Value.int) dv) (S : RoadKit.Sta Z h ST "COMPACT_STRINGS" "Z" (.int z)) (hz : ¬ z = 0)
    (hlen : zn.toNatClampNeg = cs.length) (h0 : 0 < cs.length) (hbig : cs.length ≤ 536870912) (hall : ∀ c ∈ cs, ¬ 255 < c) (hfr : 4 ≤ R.frames) (hlo : W + 65 ≤ R.locals) :
    Back l R p e below s args New1.yN len W (fun P a => a = #[.ref x, .ref b] ∧ P.U.heap = h ∧ P.cells + 1 ≤ R.cells ∧ P.slots + cs.length ≤ R.slots)
      (fun P _ v B => ∃ L, QA Z x zn cs h v B.U.heap L ∧ B.locs = P.locs ++ L ∧ B.cells = P.cells + 1 ∧ B.slots = P.slots + cs.length) := by
  obtain ⟨A, K1, K2, K3, K4, K5, K6⟩ := K
  have e : A.slots.size = cs.length := K3.trans hlen
  have hat : ∀ (i : Nat) (hi : i < cs.length), A.slots[i]? = some (.int cs[i]) := fun i hi => by rw [K5 i (by omega)]; simp [List.getD_eq_getElem?_getD, hi]
  have hcv : ∀ (i : Nat) (hi : i < cs.length), cv A i = cs[i] := fun i hi => by unfold cv; rw [hat i hi]
  have hty : Typed .char A := fun i v hv => by
    have hi : i < A.slots.size := (Array.getElem?_eq_some_iff.mp hv).1
    have q := K5 i hi
    rw [hv] at q
    rw [Option.some.inj q]
    exact K6 i hi
  refine Back.mono (back hZ hw wi E V C K1 hty S hz (by omega) (by omega) (fun i hi => by rw [hcv i (by omega)]; exact hall _ (List.getElem_mem _)) hfr hlo) (fun P a hp => ⟨hp.1, hp.2.1, hp.2.2.1, by rw [e]; exact hp.2.2.2⟩) (fun P a v B hp hq => ?_)
  obtain ⟨L, ⟨q1, q2, q3, q4, q5, q6, q7, ⟨V', v1, v2, v3, v4, v5⟩, q9⟩, hl, hc, hs⟩ := hq
  refine ⟨L, ⟨q1, q2, q3, q4, q5, q6, q7, ⟨V'.cls, v3, V', v1, rfl, by rw [v4, e, hlen], K4, fun i hi => ?_, fun i hi => ?_⟩, q9⟩, hl, hc, by rw [hs, e]⟩
  · have hi' : i < cs.length := by omega
    rw [v5 i (by omega), hcv i hi']; simp [List.getD_eq_getElem?_getD, hi']
  · have hi' : i < cs.length := by omega
    simp only [List.getD_eq_getElem?_getD, List.getElem?_map, List.getElem?_eq_getElem hi', Option.map_some, Option.getD_some]
    exact fits_lo8 _
end StrChars.Road
namespace StrChars.Road
open Jvm Sem ClassFile Op Lib Jvm.Stand Jvm.Free Jvm.Free.XT
/-- WHAT COMES BACK, in the writer's own shape -/
def QV (Z : State) (x : Addr) (N : Int32) (bs : List Int32) (h : Heap) (n0 : Nat) (v : Option Value) (h' : Heap) (L : List Loc) : Prop := v = none ∧ RoadKit.Fr n0 L ∧ RoadKit.Keep h h' [x] ∧ RoadKit.Exa Z h' x ST ∧ RoadKit.Fld Z h' x ST "coder" "B" (.int 0) ∧
  ∃ (t : Addr) (kb : ClassId), n0 ≤ t ∧ h.size ≤ t ∧ ¬ t = x ∧ RoadKit.Fld Z h' x ST "value" "[B" (.ref t) ∧ RoadKit.Arv Z h' t kb .byte N (bs.map Value.int) (.int 0)
/-- **new String(chars) AT A CALL, FOR THE WRITER**: a char[] of n known ints, each 0 to 255 -/
theorem backV {p : Program} {l : Launch} {e : Env} {R : Room} {s : State} {args : Array Value} {below : List Frame} {len W : Nat} {Z : State} {a0 : Array Value} {h : Heap} (hZ : Z.Warmed39 s.vm) (hw : ∀ d ∈ words, d.before a0 Z = true) {kI : Nat} (wi : (Jvm.Cond.instantiable ST kI).before a0 Z = true)
    {x b : Addr} {kC : ClassId} {cs bs : List Int32} {d v0 c0 : Value} {z N : Int32} {n n0 : Nat} (hx0 : n0 ≤ x) (hh0 : n0 ≤ h.size) (E : RoadKit.Exa Z h x ST) (V : RoadKit.Fld Z h x ST "value" "[B" v0) (C : RoadKit.Fld Z h x ST "coder" "B" c0) (K : RoadKit.Arv Z h b kC .char N (cs.map Value.int) d) (S : RoadKit.Sta Z h ST "COMPACT_STRINGS" "Z" (.int z)) (hz : ¬ z = 0)
    (hn : cs.length = n) (hN : N = Int32.ofNat n) (l0 : 0 < n) (l2 : n ≤ 4000) (hp : ∀ c ∈ cs, ¬ c < 0 ∧ ¬ (255 : Int32) < c) (hb : bs = cs.map (fun c => c.toInt8.toInt32)) (hfr : 4 ≤ R.frames) (hlo : W + 65 ≤ R.locals) :
    Back l R p e below s args (⟨"java/lang/String", "<init>", "([C)V"⟩ : MethodName) len W (fun P a => a = #[.ref x, .ref b] ∧ P.U.heap = h ∧ P.cells + 1 ≤ R.cells ∧ P.slots + n ≤ R.slots)
      (fun P _ v B => ∃ L, QV Z x N bs h n0 v B.U.heap L ∧ B.locs = P.locs ++ L ∧ B.cells = P.cells + 1 ∧ B.slots = P.slots + n) := by
  subst hn hN hb
  refine Back.mono (backArv hZ hw wi E V C K S hz (n32 (by omega)) l0 (by omega) (fun c hc => (hp c hc).2) hfr hlo) (fun P a hp => hp) (fun P a v B hp hq => ?_)
  obtain ⟨L, ⟨q1, q2, q3, q4, q5, q6, q7, ⟨kb, v1, v2⟩, q9⟩, hl, hc, hs⟩ := hq
  exact ⟨L, ⟨q1, fun y hy => by rw [q2 y hy]; exact hx0, q3, q5, q7, h.size, kb, hh0, Nat.le_refl _, Nat.ne_of_gt E.lt, q6, by rw [List.map_map]; exact v2⟩, hl, hc, hs⟩
end StrChars.Road
namespace StrChars
open Jvm Sem ClassFile Op Lib Jvm.Stand Jvm.Free.XT Jvm.Free.ALB Jvm.Free.JM Jvm.Free
open Jvm.Lib.Cold (StaticIs)
def hi8 (x : Int32) : Int32 := lo8 (x >>> ((8 : Int32) &&& 31))
/-- what StringUTF16.getChar makes of two bytes -/
def pairCh (u v : Int32) : Int32 := (((u &&& 255) <<< ((0 : Int32) &&& 31)) ||| ((v &&& 255) <<< ((8 : Int32) &&& 31))).toUInt32.toUInt16.toUInt32.toInt32
theorem lo8_and (x : Int32) : (lo8 x &&& 255).toBitVec.toNat = x.toBitVec.toNat % 256 := by
  have h : (lo8 x).toBitVec = (x.toBitVec.signExtend 8).signExtend 32 := by rw [lo8, Int8.toBitVec_toInt32, Int32.toBitVec_toInt8]
  rw [Int32.toBitVec_and, BitVec.toNat_and, h]
  have e : ((x.toBitVec.signExtend 8).signExtend 32).toNat % 256 = x.toBitVec.toNat % 256 := by
    rw [BitVec.toNat_signExtend]
    have hlt := x.toBitVec.isLt
    simp only [BitVec.toNat_setWidth, BitVec.toNat_signExtend]
    split <;> split <;> omega
  rw [← e]
  exact Nat.and_two_pow_sub_one_eq_mod _ 8
theorem pair_says {c : Int32} (h0 : ¬ c < 0) (h1 : ¬ 65535 < c) : pairCh (lo8 c) (hi8 c) = c := by
  rw [Int32.lt_iff_toInt_lt] at h0 h1
  have e0 : (0 : Int32).toInt = 0 := rfl
  have e1 : (65535 : Int32).toInt = 65535 := rfl
  have hc : c.toInt = c.toBitVec.toNat := by
    have := c.toBitVec.isLt
    have e : c.toInt = c.toBitVec.toInt := rfl
    rw [e] at h0 h1
    rw [e]
    rw [BitVec.toInt_eq_toNat_cond] at h0 h1 ⊢
    split at h0 <;> split <;> omega
  have hn : c.toBitVec.toNat < 65536 := by omega
  have a1 := lo8_and c
  have a2 : (hi8 c &&& 255).toBitVec.toNat = c.toBitVec.toNat / 256 := by
    rw [hi8, lo8_and]
    have e : ((8 : Int32) &&& 31) = 8 := by decide
    rw [e, Int32.toBitVec_shiftRight]
    have e2 : ((8 : Int32).toBitVec.smod 32) = 8#32 := by decide
    rw [e2, BitVec.sshiftRight_eq', BitVec.toNat_sshiftRight_of_msb_false (by rw [BitVec.msb_eq_false_iff_two_mul_lt]; omega)]
    show c.toBitVec.toNat >>> 8 % 256 = _
    rw [Nat.shiftRight_eq_div_pow]
    omega
  unfold pairCh
  apply Int32.toBitVec_inj.mp
  apply BitVec.eq_of_toNat_eq
  have f0 : ((0 : Int32) &&& 31) = 0 := by decide
  have f8 : ((8 : Int32) &&& 31) = 8 := by decide
  rw [f0, f8]
  have g : (((lo8 c &&& 255) <<< (0 : Int32)) ||| ((hi8 c &&& 255) <<< (8 : Int32))).toBitVec.toNat = c.toBitVec.toNat := by
    rw [Int32.toBitVec_or, Int32.toBitVec_shiftLeft, Int32.toBitVec_shiftLeft]
    have s0 : ((0 : Int32).toBitVec.smod 32) = 0#32 := by decide
    have s8 : ((8 : Int32).toBitVec.smod 32) = 8#32 := by decide
    rw [s0, s8, BitVec.toNat_or]
    simp only [BitVec.shiftLeft_eq', BitVec.toNat_shiftLeft, a1, a2]
    show (c.toBitVec.toNat % 256) <<< 0 % 2 ^ 32 ||| (c.toBitVec.toNat / 256) <<< 8 % 2 ^ 32 = _
    rw [Nat.shiftLeft_zero, Nat.mod_eq_of_lt (show c.toBitVec.toNat % 256 < 2 ^ 32 by omega), Nat.mod_eq_of_lt (show (c.toBitVec.toNat / 256) <<< 8 < 2 ^ 32 by rw [Nat.shiftLeft_eq]; omega), Nat.or_comm, ← Nat.shiftLeft_add_eq_or_of_lt (by omega), Nat.shiftLeft_eq]
    omega
  show BitVec.toNat (((((lo8 c &&& 255) <<< (0 : Int32)) ||| ((hi8 c &&& 255) <<< (8 : Int32))).toBitVec.setWidth 16).setWidth 32) = _
  rw [BitVec.toNat_setWidth, BitVec.toNat_setWidth, g]
  omega
end StrChars
namespace StrChars
open Jvm Sem ClassFile Op Lib Jvm.Stand Jvm.Free.XT Jvm.Free.ALB Jvm.Free.JM Jvm.Free
open Jvm.Lib.Cold (StaticIs)
/-- the array's cell V codes the n chars f 0 .. f (n - 1) by the coder cd, as the JDK does: coder 1 just where some char is above 255 -/
def Cod (cd : Int32) (n : Nat) (f : Nat → Int32) (V : Cell) : Prop := (cd = 0 ∧ V.slots.size = n ∧ ∀ j, j < n → V.slots[j]? = some (.int (lo8 (f j))) ∧ ¬ 255 < f j) ∨ (cd = 1 ∧ V.slots.size = 2 * n ∧ (∀ j, j < n → V.slots[2 * j]? = some (.int (lo8 (f j))) ∧ V.slots[2 * j + 1]? = some (.int (hi8 (f j)))) ∧ ∃ j, j < n ∧ 255 < f j)
/-- **x is a String of the n chars f 0 .. f (n - 1)**, Latin-1 or UTF-16; its array at t has the cell V -/
def Txt (x t : Addr) (V : Cell) (cd : Int32) (n : Nat) (f : Nat → Int32) (U : State) : Prop := Exact "java/lang/String" x U ∧ Has x "java/lang/String" "value" "[B" (.ref t) U ∧ Has x "java/lang/String" "coder" "B" (.int cd) U ∧ XT.Arr .byte t V U ∧ Cod cd n f V ∧ ∀ j, j < n → ¬ f j < 0 ∧ ¬ 65535 < f j
theorem Txt.mv {x t : Addr} {V : Cell} {cd : Int32} {n : Nat} {f : Nat → Int32} {U U' : State} (h : Txt x t V cd n f U) (hal : U.vm.Alike U'.vm) (hh : U'.heap = U.heap) : Txt x t V cd n f U' := ⟨h.1.mv hal hh, h.2.1.mv hal hh, h.2.2.1.mv hal hh, h.2.2.2.1.mv hal hh, h.2.2.2.2⟩
end StrChars
namespace StrChars.Road
open Jvm Sem ClassFile Op Lib Jvm.Stand Jvm.Free Jvm.Free.XT
open Jvm.Lib.Cold (StaticIs)
theorem consq {a : Array Value} {s : State} {c : Jvm.Cond} {L : List Jvm.Cond} (h0 : c.before a s = true) (h : ∀ w ∈ L, w.before a s = true) : ∀ w ∈ c :: L, w.before a s = true := fun w hw => (List.mem_cons.mp hw).elim (fun e => e ▸ h0) (h w)
/-- the bytes of the chars cs, low before high -/
def wideBytes : List Int32 → List Value
  | [] => []
  | c :: cs => .int (lo8 c) :: .int (hi8 c) :: wideBytes cs
theorem wide_lo (d : Value) : ∀ (cs : List Int32) (j : Nat), j < cs.length → (wideBytes cs).getD (2 * j) d = .int (lo8 (cs.getD j 0))
  | [], j, h => absurd h (Nat.not_lt_zero j)
  | c :: cs, 0, _ => rfl
  | c :: cs, j + 1, h => by
    have q := wide_lo d cs j (by simpa using h)
    rw [show 2 * (j + 1) = 2 * j + 1 + 1 from by omega]
    simpa [wideBytes] using q
theorem wide_hi (d : Value) : ∀ (cs : List Int32) (j : Nat), j < cs.length → (wideBytes cs).getD (2 * j + 1) d = .int (hi8 (cs.getD j 0))
  | [], j, h => absurd h (Nat.not_lt_zero j)
  | c :: cs, 0, _ => rfl
  | c :: cs, j + 1, h => by
    have q := wide_hi d cs j (by simpa using h)
    rw [show 2 * (j + 1) + 1 = 2 * j + 1 + 1 + 1 from by omega]
    simpa [wideBytes] using q
theorem low_at (d : Value) (cs : List Int32) (j : Nat) (h : j < cs.length) : (cs.map fun c => Value.int (lo8 c)).getD j d = .int (lo8 (cs.getD j 0)) := by
  simp [List.getD_eq_getElem?_getD, h]
/-- an array of N2 bytes vs codes the chars cs by the coder cd -/
def CodA (cs : List Int32) (cd N2 : Int32) (vs : List Value) : Prop := (cd = 0 ∧ N2 = Int32.ofNat cs.length ∧ vs = (cs.map fun c => Value.int (lo8 c)) ∧ ∀ c ∈ cs, ¬ 255 < c) ∨ (cd = 1 ∧ N2 = Int32.ofNat (2 * cs.length) ∧ vs = wideBytes cs ∧ ∃ c ∈ cs, 255 < c)
theorem CodA.cod {cs : List Int32} {cd N2 : Int32} {vs : List Value} {V : Cell} (h : CodA cs cd N2 vs) (hn : 2 * cs.length < 2 ^ 31) (hs : V.slots.size = N2.toNatClampNeg) (hv : RoadKit.Has V vs (.int 0)) : Cod cd cs.length (fun j => cs.getD j 0) V := by
  rcases h with ⟨rfl, rfl, rfl, h⟩ | ⟨rfl, rfl, rfl, c, hc, hw⟩
  · rw [n32 (by omega)] at hs
    exact Or.inl ⟨rfl, hs, fun j hj => ⟨by rw [hv j (by omega), low_at _ _ _ hj], by
      have e : cs.getD j 0 = cs[j] := by simp [List.getD_eq_getElem?_getD, hj]
      show ¬ 255 < cs.getD j 0
      rw [e]; exact h _ (List.getElem_mem _)⟩⟩
  · rw [n32 (by omega)] at hs
    obtain ⟨j, hj, rfl⟩ := List.getElem_of_mem hc
    exact Or.inr ⟨rfl, hs, fun j hj => ⟨by rw [hv _ (by omega), wide_lo _ _ _ hj], by rw [hv _ (by omega), wide_hi _ _ _ hj]⟩, j, hj, by
      have e : cs.getD j 0 = cs[j] := by simp [List.getD_eq_getElem?_getD, hj]
      show 255 < cs.getD j 0
      rw [e]; exact hw⟩
/-- an object of exactly java/lang/String, its two fields found: as the laws ask it -/
theorem strObj {Z U : State} {a0 : Array Value} {kI : Nat} (wi : (Jvm.Cond.instantiable ST kI).before a0 Z = true) (al : Z.vm.Alike U.vm) {x : Addr} {v0 c0 : Value} (E : RoadKit.Exa Z U.heap x ST) (V : RoadKit.Fld Z U.heap x ST "value" "[B" v0) (C : RoadKit.Fld Z U.heap x ST "coder" "B" c0) :
    ∃ (D : Cell) (fV fC : Field), Blank ST x D U ∧ Found ST "value" "[B" fV U ∧ Found ST "coder" "B" fC U ∧ D.slots[fV.slot]? = some v0 ∧ D.slots[fC.slot]? = some c0 ∧ RoadKit.slotOf Z ST "value" "[B" = fV.slot ∧ RoadKit.slotOf Z ST "coder" "B" = fC.slot := by
  obtain ⟨D, cfV, kV, iV, fV, hD, gV, stV, knV, obV, asV, slV⟩ := V
  obtain ⟨D', cfC, kC, iC, fC, hD', gC, stC, -, -, asC, slC⟩ := C
  cases hD.symm.trans hD'
  obtain ⟨D2, kD, e1, e2, e3, e4, e5⟩ := E
  cases hD.symm.trans e1
  obtain ⟨c2, k2, i1, i2, i3, -⟩ := Cond.instantiable_spec wi
  cases e2.symm.trans i1
  cases e3.symm.trans i2
  obtain ⟨kU, u1, u2⟩ := al.2.2 _ _ e3
  exact ⟨D, fV, fC, ⟨hD, ⟨knV, fun q hq => by rw [hq] at obV; cases obV⟩, by rw [al.findClass]; exact e2, kU, u1, by rw [u2]; exact i3, by rw [u2]; exact e5 i3⟩, ⟨SBG.found_only al ⟨cfV, kV, iV, gV⟩, stV⟩, ⟨SBG.found_only al ⟨cfC, kC, iC, gC⟩, stC⟩, slV, slC, by simp [RoadKit.slotOf, gV], by simp [RoadKit.slotOf, gC]⟩
theorem sta_is {Z U : State} (al : Z.vm.Alike U.vm) {C n d : String} {v : Value} (S : RoadKit.Sta Z U.heap C n d v) : StaticIs U C n d v := by
  obtain ⟨cfS, iS, kS, fS, st, cS, t1, t2, t3, t4, t5, t6, t7⟩ := S
  exact StaticIs.there (s := { Z with heap := U.heap }) ⟨cfS, iS, kS, fS, st, cS, t1, t2, t3, t4, t5, (fun q => by rw [q] at t6; cases t6), t7⟩ al rfl
end StrChars.Road
namespace StrChars
open Jvm Sem ClassFile Op Lib Jvm.Stand Jvm.Free.XT Jvm.Free.ALB Jvm.Free.JM Jvm.Free
open Jvm.Lib.Cold (StaticIs)
/-- what place i of a byte[]'s cell holds -/
def yv (A : Cell) (i : Nat) : Int32 := match A.slots[i]? with | some (.int x) => x | _ => 0
theorem yv_get {a : Addr} {A : Cell} {U : State} (h : XT.Arr .byte a A U) (ht : Typed .byte A) {i : Nat} (hi : i < A.slots.size) : A.slots[i]? = some (.int (yv A i)) := by
  have e := Array.getElem?_eq_getElem hi
  have f := ht i _ e
  unfold yv; rw [e]
  generalize A.slots[i] = v at f
  cases v <;> simp [fits] at f ⊢
/-- the two arrays are equal, place for place -/
def EqC (A B : Cell) : Prop := A.slots.size = B.slots.size ∧ ∀ i, i < A.slots.size → yv A i = yv B i
/-- a boolean that says whether p -/
def Says01 (q : Prop) (r : Option Value) (s u : State) : Prop := ∃ v : Int32, r = some (.int v) ∧ u.heap = s.heap ∧ ((v = 1 ∧ q) ∨ (v = 0 ∧ ¬ q))
theorem Says01.mv {q : Prop} : ∀ r (U U' V V' : State), U'.heap = U.heap → V.vm.Alike V'.vm → V'.heap = V.heap → Says01 q r U V → Says01 q r U' V' :=
  fun r U U' V V' h1 _ h2 ⟨v, a, b, c⟩ => ⟨v, a, by rw [h1, h2]; exact b, c⟩
namespace LEq
def yN : MethodName := ⟨"java/lang/StringLatin1", "equals", "([B[B)Z"⟩
abbrev yB : ByteArray := jdk_43_method_13_code
theorem d0 : decode yB 0 = .ok (.aload_n 0, 1) := by decide +kernel
theorem d1 : decode yB 1 = .ok (.arraylength, 1) := by decide +kernel
theorem d2 : decode yB 2 = .ok (.aload_n 1, 1) := by decide +kernel
theorem d3 : decode yB 3 = .ok (.arraylength, 1) := by decide +kernel
theorem d4 : decode yB 4 = .ok (.if_icmp (.ne) 30, 3) := by decide +kernel
theorem d7 : decode yB 7 = .ok (.iconst 0, 1) := by decide +kernel
theorem d8 : decode yB 8 = .ok (.istore_n 2, 1) := by decide +kernel
theorem d9 : decode yB 9 = .ok (.iload_n 2, 1) := by decide +kernel
theorem d10 : decode yB 10 = .ok (.aload_n 0, 1) := by decide +kernel
theorem d11 : decode yB 11 = .ok (.arraylength, 1) := by decide +kernel
theorem d12 : decode yB 12 = .ok (.if_icmp (.ge) 20, 3) := by decide +kernel
theorem d15 : decode yB 15 = .ok (.aload_n 0, 1) := by decide +kernel
theorem d16 : decode yB 16 = .ok (.iload_n 2, 1) := by decide +kernel
theorem d17 : decode yB 17 = .ok (.baload, 1) := by decide +kernel
theorem d18 : decode yB 18 = .ok (.aload_n 1, 1) := by decide +kernel
theorem d19 : decode yB 19 = .ok (.iload_n 2, 1) := by decide +kernel
theorem d20 : decode yB 20 = .ok (.baload, 1) := by decide +kernel
theorem d21 : decode yB 21 = .ok (.if_icmp (.eq) 5, 3) := by decide +kernel
theorem d24 : decode yB 24 = .ok (.iconst 0, 1) := by decide +kernel
theorem d25 : decode yB 25 = .ok (.ireturn, 1) := by decide +kernel
theorem d26 : decode yB 26 = .ok (.iinc 2 1, 3) := by decide +kernel
theorem d29 : decode yB 29 = .ok (.goto (-20), 3) := by decide +kernel
theorem d32 : decode yB 32 = .ok (.iconst 1, 1) := by decide +kernel
theorem d33 : decode yB 33 = .ok (.ireturn, 1) := by decide +kernel
theorem d34 : decode yB 34 = .ok (.iconst 0, 1) := by decide +kernel
theorem d35 : decode yB 35 = .ok (.ireturn, 1) := by decide +kernel
def site : List Cond := []
def tab : Cond := tabOf yN yB 3 (some .boolean) site
def P (a : Addr) (A : Cell) (b : Addr) (B : Cell) (args : Array Value) (s : State) : Prop := args = #[.ref a, .ref b] ∧ XT.Arr .byte a A s ∧ Typed .byte A ∧ XT.Arr .byte b B s ∧ Typed .byte B
/-- whether two byte[] are equal, place for place -/
theorem law (l : Launch) (a : Addr) (A : Cell) (b : Addr) (B : Cell) : Law l yN 2 2 0 0 yB 3 (some .boolean) site (P a A b B) (Says01 (EqC A B)) [] 0 0 := by
  refine Law.of_walk (plainFor_of_name (by decide +kernel)) (by decide +kernel) (by decide +kernel) (by decide) (fun _ _ h => by rw [h.1]; rfl) (fun _ U U' hal hh h => ⟨h.1, h.2.1.mv hal hh, h.2.2.1, h.2.2.2.1.mv hal hh, h.2.2.2.2⟩) (fun r U U' V V' h1 hal h2 h => Says01.mv r U U' V V' h1 hal h2 h) ?_
  intro p e s m args below meth c s₁ X0 hexec hbytes hml hret hlk hnm hown hh0 W hP
  obtain ⟨rfl, hA, tA, hB, tB⟩ := hP
  have a31 := hA.2.2.2
  have b31 := hB.2.2.2
  have hA0 := hA.mv X0.warmed.alike hh0
  have hB0 := hB.mv X0.warmed.alike hh0
  have c1 : Steps p.tables e below (s₁.setTop (entryFrame m #[.ref a, .ref b] 3)) (s₁.setTop (mkF m 0 #[.val (.ref a), .val (.ref b), .unset] [])) := entry rfl
  have c2 : Steps p.tables e below (s₁.setTop (entryFrame m #[.ref a, .ref b] 3)) (s₁.setTop (mkF m 4 #[.val (.ref a), .val (.ref b), .unset] [.int (Int32.ofNat B.slots.size), .int (Int32.ofNat A.slots.size)])) := c1.trans (by
    refine XS.aloadN X0.here hexec rfl (hb hbytes d0) rfl rfl ?_
    refine X0.alen hexec hA0 rfl rfl (hb hbytes d1) ?_
    refine XS.aloadN X0.here hexec rfl (hb hbytes d2) rfl rfl ?_
    refine X0.alen hexec hB0 rfl rfl (hb hbytes d3) ?_
    exact Steps.refl _)
  by_cases hs : A.slots.size = B.slots.size
  · have c3 : Steps p.tables e below (s₁.setTop (entryFrame m #[.ref a, .ref b] 3)) (s₁.setTop (mkF m 9 #[.val (.ref a), .val (.ref b), .val (.int 0)] [])) := c2.trans (by
      refine XS.icmpNo X0.here hexec rfl (hb hbytes d4) rfl (ii_ne_f (by rw [hs])) ?_
      refine iconstV X0.here hexec rfl 0 (hb hbytes d7) (by decide) ?_
      refine XS.istoreN X0.here hexec rfl (hb hbytes d8) rfl rfl ?_
      exact Steps.refl _)
    have loop : ∀ (r i : Nat), i + r = A.slots.size → (∀ j, j < i → yv A j = yv B j) → Steps p.tables e below (s₁.setTop (entryFrame m #[.ref a, .ref b] 3)) (s₁.setTop (mkF m 9 #[.val (.ref a), .val (.ref b), .val (.int (Int32.ofNat i))] [])) → ∃ (pc : Nat) (Ls : Array Slot) (v : Int32), (pc = 25 ∨ pc = 33) ∧ ((v = 1 ∧ EqC A B) ∨ (v = 0 ∧ ¬ EqC A B)) ∧ Steps p.tables e below (s₁.setTop (entryFrame m #[.ref a, .ref b] 3)) (s₁.setTop (mkF m pc Ls [.int v])) := by
      intro r
      induction r with
      | zero =>
        intro i hi he cl
        exact ⟨33, _, 1, Or.inr rfl, Or.inl ⟨rfl, hs, fun j hj => he j (by omega)⟩, cl.trans (by
          refine XS.iloadN X0.here hexec rfl (hb hbytes d9) rfl ?_
          refine XS.aloadN X0.here hexec rfl (hb hbytes d10) rfl rfl ?_
          refine X0.alen hexec hA0 rfl rfl (hb hbytes d11) ?_
          refine XS.icmpYes X0.here hexec rfl (pc0 := 12) rfl (hb hbytes d12) rfl (ii_ge_t (nlt32 (by omega) (by omega))) (by decide) rfl ?_
          refine iconstV X0.here hexec rfl 1 (hb hbytes d32) (by decide) ?_
          exact Steps.refl _)⟩
      | succ r ih =>
        intro i hi he cl
        have c4 : Steps p.tables e below (s₁.setTop (entryFrame m #[.ref a, .ref b] 3)) (s₁.setTop (mkF m 21 #[.val (.ref a), .val (.ref b), .val (.int (Int32.ofNat i))] [.int (yv B i), .int (yv A i)])) := cl.trans (by
          refine XS.iloadN X0.here hexec rfl (hb hbytes d9) rfl ?_
          refine XS.aloadN X0.here hexec rfl (hb hbytes d10) rfl rfl ?_
          refine X0.alen hexec hA0 rfl rfl (hb hbytes d11) ?_
          refine XS.icmpNo X0.here hexec rfl (hb hbytes d12) rfl (ii_ge_f (lt32 (by omega) (by omega))) ?_
          refine XS.aloadN X0.here hexec rfl (hb hbytes d15) rfl rfl ?_
          refine XS.iloadN X0.here hexec rfl (hb hbytes d16) rfl ?_
          refine X0.aget hexec hA0 rfl (yv_get hA tA (i := i) (by omega)) rfl rfl (hb hbytes d17) ?_
          refine XS.aloadN X0.here hexec rfl (hb hbytes d18) rfl rfl ?_
          refine XS.iloadN X0.here hexec rfl (hb hbytes d19) rfl ?_
          refine X0.aget hexec hB0 rfl (yv_get hB tB (i := i) (by omega)) rfl rfl (hb hbytes d20) ?_
          exact Steps.refl _)
        by_cases hv : yv A i = yv B i
        · have c5 : Steps p.tables e below (s₁.setTop (entryFrame m #[.ref a, .ref b] 3)) (s₁.setTop (mkF m 9 #[.val (.ref a), .val (.ref b), .val (.int (Int32.ofNat i + 1))] [])) := c4.trans (by
            refine XS.icmpYes X0.here hexec rfl (pc0 := 21) rfl (hb hbytes d21) rfl (ii_eq_t hv) (by decide) rfl ?_
            refine iincV X0.here hexec rfl 1 (hb hbytes d26) (by decide) rfl rfl ?_
            refine XS.goto X0.here hexec rfl (pc0 := 29) rfl (hb hbytes d29) (by decide) rfl ?_
            exact Steps.refl _)
          rw [succ32] at c5
          exact ih (i + 1) (by omega) (fun j hj => by
            by_cases e : j = i
            · rw [e]; exact hv
            · exact he j (by omega)) c5
        · exact ⟨25, _, 0, Or.inl rfl, Or.inr ⟨rfl, fun q => hv (q.2 i (by omega))⟩, c4.trans (by
            refine XS.icmpNo X0.here hexec rfl (hb hbytes d21) rfl (ii_eq_f hv) ?_
            refine iconstV X0.here hexec rfl 0 (hb hbytes d24) (by decide) ?_
            exact Steps.refl _)⟩
    obtain ⟨pc, Ls, v, hpc, hv, cz⟩ := loop A.slots.size 0 (by omega) (fun j hj => absurd hj (Nat.not_lt_zero j)) c3
    have nv : narrow .boolean (.int v) = .int v := by rcases hv with ⟨rfl, -⟩ | ⟨rfl, -⟩ <;> rfl
    rcases hpc with rfl | rfl
    · exact ⟨s₁, some (.int v), _, _, _, X0, rfl, rfl, rfl, (fun h => by cases h), ⟨v, rfl, hh0, hv⟩, fun fs hl => cz.trans (X0.ireturnOut hexec hret nv (Or.inr (Or.inl rfl)) (hb hbytes d25) hl)⟩
    · exact ⟨s₁, some (.int v), _, _, _, X0, rfl, rfl, rfl, (fun h => by cases h), ⟨v, rfl, hh0, hv⟩, fun fs hl => cz.trans (X0.ireturnOut hexec hret nv (Or.inr (Or.inl rfl)) (hb hbytes d33) hl)⟩
  · have c3 : Steps p.tables e below (s₁.setTop (entryFrame m #[.ref a, .ref b] 3)) (s₁.setTop (mkF m 35 #[.val (.ref a), .val (.ref b), .unset] [.int 0])) := c2.trans (by
      refine XS.icmpYes X0.here hexec rfl (pc0 := 4) rfl (hb hbytes d4) rfl (ii_ne_t (ne32 a31 b31 hs)) (by decide) rfl ?_
      refine iconstV X0.here hexec rfl 0 (hb hbytes d34) (by decide) ?_
      exact Steps.refl _)
    exact ⟨s₁, some (.int 0), _, _, _, X0, rfl, rfl, rfl, (fun h => by cases h), ⟨0, rfl, hh0, Or.inr ⟨rfl, fun q => hs q.1⟩⟩, fun fs hl => c3.trans (X0.ireturnOut hexec hret rfl (Or.inr (Or.inl rfl)) (hb hbytes d35) hl)⟩
end LEq
theorem Cod.ty {cd : Int32} {n : Nat} {f : Nat → Int32} {V : Cell} (h : Cod cd n f V) : Typed .byte V := fun i v hv => by
  have hi : i < V.slots.size := (Array.getElem?_eq_some_iff.mp hv).1
  rcases h with ⟨-, k1, k2⟩ | ⟨-, k1, k2, -⟩
  · rw [(k2 i (by omega)).1] at hv; cases hv; exact fits_lo8 _
  · rcases Nat.mod_two_eq_zero_or_one i with e | e
    · obtain ⟨j, rfl⟩ : ∃ j, i = 2 * j := ⟨i / 2, by omega⟩
      rw [(k2 j (by omega)).1] at hv; cases hv; exact fits_lo8 _
    · obtain ⟨j, rfl⟩ : ∃ j, i = 2 * j + 1 := ⟨i / 2, by omega⟩
      rw [(k2 j (by omega)).2] at hv; cases hv; exact fits_lo8 _
/-- the same text -/
def SameT (n : Nat) (f : Nat → Int32) (k : Nat) (g : Nat → Int32) : Prop := n = k ∧ ∀ j, j < n → f j = g j
theorem lo8_inj {x y : Int32} (h0 : ¬ x < 0) (h1 : ¬ 255 < x) (k0 : ¬ y < 0) (k1 : ¬ 255 < y) (h : lo8 x = lo8 y) : x = y := by
  rw [← lo8_mask h0 h1, ← lo8_mask k0 k1, h]
/-- arrays coded by one coder are equal just where the texts are -/
theorem Cod.eqv {cd : Int32} {n k : Nat} {f g : Nat → Int32} {V V' : Cell} (h : Cod cd n f V) (h' : Cod cd k g V') (hf : ∀ j, j < n → ¬ f j < 0 ∧ ¬ 65535 < f j) (hg : ∀ j, j < k → ¬ g j < 0 ∧ ¬ 65535 < g j) : EqC V V' ↔ SameT n f k g := by
  have yvv : ∀ {W : Cell} {i : Nat} {x : Int32}, W.slots[i]? = some (.int x) → yv W i = x := fun q => by unfold yv; rw [q]
  rcases h with ⟨rfl, k1, k2⟩ | ⟨rfl, k1, k2, -⟩
  · rcases h' with ⟨-, m1, m2⟩ | ⟨e, -⟩
    · constructor
      · rintro ⟨e1, e2⟩
        refine ⟨by omega, fun j hj => ?_⟩
        have q := e2 j (by omega)
        rw [yvv (k2 j hj).1, yvv (m2 j (by omega)).1] at q
        exact lo8_inj (hf j hj).1 (k2 j hj).2 (hg j (by omega)).1 (m2 j (by omega)).2 q
      · rintro ⟨rfl, e2⟩
        refine ⟨by omega, fun j hj => ?_⟩
        rw [yvv (k2 j (by omega)).1, yvv (m2 j (by omega)).1, e2 j (by omega)]
    · exact absurd e (by decide)
  · rcases h' with ⟨e, -⟩ | ⟨-, m1, m2, -⟩
    · exact absurd e (by decide)
    · constructor
      · rintro ⟨e1, e2⟩
        refine ⟨by omega, fun j hj => ?_⟩
        have q1 := e2 (2 * j) (by omega)
        have q2 := e2 (2 * j + 1) (by omega)
        rw [yvv (k2 j hj).1, yvv (m2 j (by omega)).1] at q1
        rw [yvv (k2 j hj).2, yvv (m2 j (by omega)).2] at q2
        rw [← pair_says (hf j hj).1 (hf j hj).2, ← pair_says (hg j (by omega)).1 (hg j (by omega)).2, q1, q2]
      · rintro ⟨rfl, e2⟩
        refine ⟨by omega, fun i hi => ?_⟩
        rcases Nat.mod_two_eq_zero_or_one i with e | e
        · obtain ⟨j, rfl⟩ : ∃ j, i = 2 * j := ⟨i / 2, by omega⟩
          rw [yvv (k2 j (by omega)).1, yvv (m2 j (by omega)).1, e2 j (by omega)]
        · obtain ⟨j, rfl⟩ : ∃ j, i = 2 * j + 1 := ⟨i / 2, by omega⟩
          rw [yvv (k2 j (by omega)).2, yvv (m2 j (by omega)).2, e2 j (by omega)]
/-- two codings differ: so do the texts -/
theorem Cod.dif {cd cd' : Int32} {n k : Nat} {f g : Nat → Int32} {V V' : Cell} (h : Cod cd n f V) (h' : Cod cd' k g V') (hne : ¬ cd = cd') : ¬ SameT n f k g := by
  rintro ⟨rfl, e⟩
  rcases h with ⟨rfl, -, k2⟩ | ⟨rfl, -, -, j, hj, hw⟩
  · rcases h' with ⟨rfl, -⟩ | ⟨-, -, -, j, hj, hw⟩
    · exact hne rfl
    · exact (k2 j hj).2 (by rw [e j hj]; exact hw)
  · rcases h' with ⟨-, -, m2⟩ | ⟨rfl, -⟩
    · exact (m2 j hj).2 (by rw [← e j hj]; exact hw)
    · exact hne rfl
/-- an object of exactly C is an instance of C -/
theorem cinst {p : Program} {l : Launch} {e : Env} {R : Room} {s : State} {m : MethodId} {args : Array Value} {below : List Frame} {meth : Method} {c : Code} {T : State} {locs : List Loc} {cells slots : Nat} (X : Stand p l e R s m args below meth c T locs cells slots) (hexec : p.tables.exec = Jvm.exec) {own C : String} {index : Nat} (hown : s.vm.findClass own = some m.cls) (hlink : (Cond.classLink own index C).before args s = true) {a : Addr} (hE : Exact C a T)
    {g : JFrame} (hg : g.method = m) {rest : List Value} (hstack : g.stack = .ref a :: rest) (hdg : decode c.code g.pc = .ok (.instanceof index, 3)) :
    ∃ T', Stand p l e R s m args below meth c T' locs cells slots ∧ T'.heap = T.heap ∧ ∀ target, Steps p.tables e below (T'.setTop { g with pc := g.pc + 3, stack := .int 1 :: rest }) target → Steps p.tables e below (T.setTop g) target := by
  obtain ⟨cB, h1, D, h2, h3, h4⟩ := hE
  have h1' : s.vm.findClass C = some cB := by rw [← X.warmed.alike.findClass]; exact h1
  obtain ⟨vm', X', st⟩ := X.instanceofYes hexec hown hlink h2 h4 h1' (by rw [h3]; exact Jvm.Free.SB.assignable_self _ _) hg hstack hdg
  exact ⟨_, X', rfl, st⟩
theorem cself {p : Program} {l : Launch} {e : Env} {R : Room} {s : State} {m : MethodId} {args : Array Value} {below : List Frame} {meth : Method} {c : Code} {T : State} {locs : List Loc} {cells slots : Nat} (X : Stand p l e R s m args below meth c T locs cells slots) (hexec : p.tables.exec = Jvm.exec) {own C : String} {index : Nat} (hown : s.vm.findClass own = some m.cls) (hlink : (Cond.classLink own index C).before args s = true) {a : Addr} (hE : Exact C a T)
    {g : JFrame} (hg : g.method = m) {rest : List Value} (hstack : g.stack = .ref a :: rest) (hdg : decode c.code g.pc = .ok (.checkcast index, 3)) :
    ∃ T', Stand p l e R s m args below meth c T' locs cells slots ∧ T'.heap = T.heap ∧ ∀ target, Steps p.tables e below (T'.setTop { g with pc := g.pc + 3, stack := .ref a :: rest }) target → Steps p.tables e below (T.setTop g) target := by
  obtain ⟨cB, h1, D, h2, h3, h4⟩ := hE
  have h1' : s.vm.findClass C = some cB := by rw [← X.warmed.alike.findClass]; exact h1
  obtain ⟨vm', X', st⟩ := X.checkcastYes hexec hown hlink h2 h4 h1' (by rw [h3]; exact Jvm.Free.SB.assignable_self _ _) hg hstack hdg
  exact ⟨_, X', rfl, fun t h => st t (by rw [← hstack] at h; exact h)⟩
namespace SEq
def yN : MethodName := ⟨"java/lang/String", "equals", "(Ljava/lang/Object;)Z"⟩
abbrev yB : ByteArray := jdk_42_method_66_code
theorem d0 : decode yB 0 = .ok (.aload_n 0, 1) := by decide +kernel
theorem d1 : decode yB 1 = .ok (.aload_n 1, 1) := by decide +kernel
theorem d2 : decode yB 2 = .ok (.if_acmp (.ne) 5, 3) := by decide +kernel
theorem d5 : decode yB 5 = .ok (.iconst 1, 1) := by decide +kernel
theorem d6 : decode yB 6 = .ok (.ireturn, 1) := by decide +kernel
theorem d7 : decode yB 7 = .ok (.aload_n 1, 1) := by decide +kernel
theorem d8 : decode yB 8 = .ok (.instanceof 10, 3) := by decide +kernel
theorem d11 : decode yB 11 = .ok (.ifCond (.eq) 43, 3) := by decide +kernel
theorem d14 : decode yB 14 = .ok (.aload_n 1, 1) := by decide +kernel
theorem d15 : decode yB 15 = .ok (.checkcast 10, 3) := by decide +kernel
theorem d18 : decode yB 18 = .ok (.astore_n 2, 1) := by decide +kernel
theorem d19 : decode yB 19 = .ok (.getstatic 38, 3) := by decide +kernel
theorem d22 : decode yB 22 = .ok (.ifCond (.eq) 14, 3) := by decide +kernel
theorem d25 : decode yB 25 = .ok (.aload_n 0, 1) := by decide +kernel
theorem d26 : decode yB 26 = .ok (.getfield 15, 3) := by decide +kernel
theorem d29 : decode yB 29 = .ok (.aload_n 2, 1) := by decide +kernel
theorem d30 : decode yB 30 = .ok (.getfield 15, 3) := by decide +kernel
theorem d33 : decode yB 33 = .ok (.if_icmp (.ne) 21, 3) := by decide +kernel
theorem d36 : decode yB 36 = .ok (.aload_n 0, 1) := by decide +kernel
theorem d37 : decode yB 37 = .ok (.getfield 9, 3) := by decide +kernel
theorem d40 : decode yB 40 = .ok (.aload_n 2, 1) := by decide +kernel
theorem d41 : decode yB 41 = .ok (.getfield 9, 3) := by decide +kernel
theorem d44 : decode yB 44 = .ok (.invokestatic 541, 3) := by decide +kernel
theorem d47 : decode yB 47 = .ok (.ifCond (.eq) 7, 3) := by decide +kernel
theorem d50 : decode yB 50 = .ok (.iconst 1, 1) := by decide +kernel
theorem d51 : decode yB 51 = .ok (.goto 4, 3) := by decide +kernel
theorem d54 : decode yB 54 = .ok (.iconst 0, 1) := by decide +kernel
theorem d55 : decode yB 55 = .ok (.ireturn, 1) := by decide +kernel
def site : List Cond := [.classLink "java/lang/String" 10 "java/lang/String", .fieldLink "java/lang/String" 38 "java/lang/String" "COMPACT_STRINGS" "Z", .fieldLink "java/lang/String" 15 "java/lang/String" "coder" "B", .fieldLink "java/lang/String" 9 "java/lang/String" "value" "[B", LEq.tab] ++ staticW "java/lang/String" 541 LEq.yN
def tab : Cond := tabOf yN yB 3 (some .boolean) site
def P (x t : Addr) (V : Cell) (cd : Int32) (n : Nat) (f : Nat → Int32) (y t' : Addr) (V' : Cell) (cd' : Int32) (k : Nat) (g : Nat → Int32) (z : Int32) (args : Array Value) (s : State) : Prop := args = #[.ref x, .ref y] ∧ Txt x t V cd n f s ∧ Txt y t' V' cd' k g s ∧ StaticIs s "java/lang/String" "COMPACT_STRINGS" "Z" (.int z) ∧ ¬ z = 0
/-- equals(Object) of two Strings: whether the texts are the same -/
theorem law (l : Launch) (x t : Addr) (V : Cell) (cd : Int32) (n : Nat) (f : Nat → Int32) (y t' : Addr) (V' : Cell) (cd' : Int32) (k : Nat) (g : Nat → Int32) (z : Int32) : Law l yN 2 1 1 14 yB 3 (some .boolean) site (P x t V cd n f y t' V' cd' k g z) (Says01 (SameT n f k g)) [] 0 0 := by
  refine Law.of_walk (plainFor_of_name (by decide +kernel)) (by decide +kernel) (by decide +kernel) (by decide) (fun _ _ h => by rw [h.1]; rfl) (fun _ U U' hal hh h => ⟨h.1, h.2.1.mv hal hh, h.2.2.1.mv hal hh, h.2.2.2.1.there hal hh, h.2.2.2.2⟩) (fun r U U' V V' h1 hal h2 h => Says01.mv r U U' V V' h1 hal h2 h) ?_
  intro p e s m args below meth c s₁ X0 hexec hbytes hml hret hlk hnm hown hh0 W hP
  obtain ⟨rfl, hx, hy, s1, hz⟩ := hP
  have c1 : Steps p.tables e below (s₁.setTop (entryFrame m #[.ref x, .ref y] 3)) (s₁.setTop (mkF m 2 #[.val (.ref x), .val (.ref y), .unset] [.ref y, .ref x])) := Steps.trans (entry rfl) (by
    show Steps p.tables e below (s₁.setTop (mkF m 0 #[.val (.ref x), .val (.ref y), .unset] [])) _
    refine XS.aloadN X0.here hexec rfl (hb hbytes d0) rfl rfl ?_
    refine XS.aloadN X0.here hexec rfl (hb hbytes d1) rfl rfl ?_
    exact Steps.refl _)
  by_cases hxy : x = y
  · have c2 : Steps p.tables e below (s₁.setTop (entryFrame m #[.ref x, .ref y] 3)) (s₁.setTop (mkF m 6 #[.val (.ref x), .val (.ref y), .unset] [.int 1])) := c1.trans (by
      refine acmpNo X0.here hexec rfl (hb hbytes d2) rfl rfl rfl (by simp [acmp, hxy]) ?_
      refine iconstV X0.here hexec rfl 1 (hb hbytes d5) (by decide) ?_
      exact Steps.refl _)
    subst hxy
    have ec : cd = cd' := by
      obtain ⟨D, fd, a1, a2, a3⟩ := hx.2.2.1
      obtain ⟨D', fd', b1, b2, b3⟩ := hy.2.2.1
      cases a1.symm.trans b1
      obtain ⟨q1, q2, q3, q4⟩ := a2.1
      obtain ⟨r1, r2, r3, r4⟩ := b2.1
      cases q4.symm.trans r4
      cases a3.symm.trans b3; rfl
    have et : t = t' := by
      obtain ⟨D, fd, a1, a2, a3⟩ := hx.2.1
      obtain ⟨D', fd', b1, b2, b3⟩ := hy.2.1
      cases a1.symm.trans b1
      obtain ⟨q1, q2, q3, q4⟩ := a2.1
      obtain ⟨r1, r2, r3, r4⟩ := b2.1
      cases q4.symm.trans r4
      cases a3.symm.trans b3; rfl
    subst ec et
    have ev : V = V' := by cases hx.2.2.2.1.1.symm.trans hy.2.2.2.1.1; rfl
    subst ev
    have hs : SameT n f k g := (Cod.eqv hx.2.2.2.2.1 hy.2.2.2.2.1 hx.2.2.2.2.2 hy.2.2.2.2.2).mp ⟨rfl, fun _ _ => rfl⟩
    exact ⟨s₁, some (.int 1), _, _, _, X0, rfl, rfl, rfl, (fun h => by cases h), ⟨1, rfl, hh0, Or.inl ⟨rfl, hs⟩⟩, fun fs hl => c2.trans (X0.ireturnOut hexec hret rfl (Or.inr (Or.inl rfl)) (hb hbytes d6) hl)⟩
  · have c2 : Steps p.tables e below (s₁.setTop (entryFrame m #[.ref x, .ref y] 3)) (s₁.setTop (mkF m 8 #[.val (.ref x), .val (.ref y), .unset] [.ref y])) := c1.trans (by
      refine acmpYes X0.here hexec rfl (pc0 := 2) rfl (hb hbytes d2) rfl rfl rfl (by simp [acmp, hxy]) (by decide) rfl ?_
      refine XS.aloadN X0.here hexec rfl (hb hbytes d7) rfl rfl ?_
      exact Steps.refl _)
    obtain ⟨T3, X3, q3, st3⟩ := cinst X0 hexec hown (wk W (.classLink "java/lang/String" 10 "java/lang/String")) (hy.mv X0.warmed.alike hh0).1 (g := (mkF m 8 #[.val (.ref x), .val (.ref y), .unset] [.ref y])) rfl (rest := []) rfl (hb hbytes d8)
    have hh3 := q3.trans hh0
    have c4 : Steps p.tables e below (s₁.setTop (entryFrame m #[.ref x, .ref y] 3)) (T3.setTop (mkF m 15 #[.val (.ref x), .val (.ref y), .unset] [.ref y])) := (c2.trans (st3 _ (Steps.refl _))).trans (by
      refine XS.ifNo X3.here hexec rfl (hb hbytes d11) rfl (i0_eq_f (by decide)) ?_
      refine XS.aloadN X3.here hexec rfl (hb hbytes d14) rfl rfl ?_
      exact Steps.refl _)
    obtain ⟨T5, X5, q5, st5⟩ := cself X3 hexec hown (wk W (.classLink "java/lang/String" 10 "java/lang/String")) (hy.mv X3.warmed.alike hh3).1 (g := (mkF m 15 #[.val (.ref x), .val (.ref y), .unset] [.ref y])) rfl (rest := []) rfl (hb hbytes d15)
    have hh5 := q5.trans hh3
    have c6 : Steps p.tables e below (s₁.setTop (entryFrame m #[.ref x, .ref y] 3)) (T5.setTop (mkF m 19 #[.val (.ref x), .val (.ref y), .val (.ref y)] [])) := (c4.trans (st5 _ (Steps.refl _))).trans (by
      refine XS.astoreN X5.here hexec rfl (hb hbytes d18) rfl rfl rfl ?_
      exact Steps.refl _)
    obtain ⟨T7, X7, q7, st7⟩ := X5.sget hexec hown (wk W (.fieldLink "java/lang/String" 38 "java/lang/String" "COMPACT_STRINGS" "Z")) s1 (fun _ _ h => by rw [hh5]; exact h) (g := (mkF m 19 #[.val (.ref x), .val (.ref y), .val (.ref y)] [])) rfl (hb hbytes d19)
    have hh7 := q7.trans hh5
    have c8 : Steps p.tables e below (s₁.setTop (entryFrame m #[.ref x, .ref y] 3)) (T7.setTop (mkF m 26 #[.val (.ref x), .val (.ref y), .val (.ref y)] [.ref x])) := (c6.trans (st7 _ (Steps.refl _))).trans (by
      refine XS.ifNo X7.here hexec rfl (hb hbytes d22) rfl (i0_eq_f hz) ?_
      refine XS.aloadN X7.here hexec rfl (hb hbytes d25) rfl rfl ?_
      exact Steps.refl _)
    obtain ⟨T9, X9, q9, st9⟩ := X7.hget hexec hown (wk W (.fieldLink "java/lang/String" 15 "java/lang/String" "coder" "B")) (hx.mv X7.warmed.alike hh7).2.2.1 (g := (mkF m 26 #[.val (.ref x), .val (.ref y), .val (.ref y)] [.ref x])) rfl (rest := []) rfl (hb hbytes d26)
    have hh9 := q9.trans hh7
    have c10 : Steps p.tables e below (s₁.setTop (entryFrame m #[.ref x, .ref y] 3)) (T9.setTop (mkF m 30 #[.val (.ref x), .val (.ref y), .val (.ref y)] [.ref y, .int cd])) := (c8.trans (st9 _ (Steps.refl _))).trans (by
      refine XS.aloadN X9.here hexec rfl (hb hbytes d29) rfl rfl ?_
      exact Steps.refl _)
    obtain ⟨T11, X11, q11, st11⟩ := X9.hget hexec hown (wk W (.fieldLink "java/lang/String" 15 "java/lang/String" "coder" "B")) (hy.mv X9.warmed.alike hh9).2.2.1 (g := (mkF m 30 #[.val (.ref x), .val (.ref y), .val (.ref y)] [.ref y, .int cd])) rfl (rest := [.int cd]) rfl (hb hbytes d30)
    have hh11 := q11.trans hh9
    have c12 : Steps p.tables e below (s₁.setTop (entryFrame m #[.ref x, .ref y] 3)) (T11.setTop (mkF m 33 #[.val (.ref x), .val (.ref y), .val (.ref y)] [.int cd', .int cd])) := c10.trans (st11 _ (Steps.refl _))
    by_cases hcd : cd = cd'
    · subst hcd
      have c13 : Steps p.tables e below (s₁.setTop (entryFrame m #[.ref x, .ref y] 3)) (T11.setTop (mkF m 37 #[.val (.ref x), .val (.ref y), .val (.ref y)] [.ref x])) := c12.trans (by
        refine XS.icmpNo X11.here hexec rfl (hb hbytes d33) rfl (ii_ne_f rfl) ?_
        refine XS.aloadN X11.here hexec rfl (hb hbytes d36) rfl rfl ?_
        exact Steps.refl _)
      obtain ⟨T14, X14, q14, st14⟩ := X11.hget hexec hown (wk W (.fieldLink "java/lang/String" 9 "java/lang/String" "value" "[B")) (hx.mv X11.warmed.alike hh11).2.1 (g := (mkF m 37 #[.val (.ref x), .val (.ref y), .val (.ref y)] [.ref x])) rfl (rest := []) rfl (hb hbytes d37)
      have hh14 := q14.trans hh11
      have c15 : Steps p.tables e below (s₁.setTop (entryFrame m #[.ref x, .ref y] 3)) (T14.setTop (mkF m 41 #[.val (.ref x), .val (.ref y), .val (.ref y)] [.ref y, .ref t])) := (c13.trans (st14 _ (Steps.refl _))).trans (by
        refine XS.aloadN X14.here hexec rfl (hb hbytes d40) rfl rfl ?_
        exact Steps.refl _)
      obtain ⟨T16, X16, q16, st16⟩ := X14.hget hexec hown (wk W (.fieldLink "java/lang/String" 9 "java/lang/String" "value" "[B")) (hy.mv X14.warmed.alike hh14).2.1 (g := (mkF m 41 #[.val (.ref x), .val (.ref y), .val (.ref y)] [.ref y, .ref t])) rfl (rest := [.ref t]) rfl (hb hbytes d41)
      have hh16 := q16.trans hh14
      have c17 : Steps p.tables e below (s₁.setTop (entryFrame m #[.ref x, .ref y] 3)) (T16.setTop (mkF m 44 #[.val (.ref x), .val (.ref y), .val (.ref y)] [.ref t', .ref t])) := c15.trans (st16 _ (Steps.refl _))
      obtain ⟨v18, T18, X18, E18, g18⟩ := X16.callS hexec (LEq.law l t V t' V') hown (wks W (staticW "java/lang/String" 541 LEq.yN)) (wk W LEq.tab) (W := 0) (Nat.le_of_ble_eq_true rfl) (Nat.le_of_ble_eq_true rfl) (Nat.le_refl _) (Nat.le_refl _) (g := (mkF m 44 #[.val (.ref x), .val (.ref y), .val (.ref y)] [.ref t', .ref t])) rfl (by rw [hml]; rfl) c17 (argsL := [.ref t, .ref t']) (rest := []) rfl rfl (by show 2 * 0 + 0 ≤ _; decide) (hb hbytes d44) (⟨rfl, hx.2.2.2.1.mv X16.warmed.alike hh16, hx.2.2.2.2.1.ty, hy.2.2.2.1.mv X16.warmed.alike hh16, hy.2.2.2.2.1.ty⟩)
      obtain ⟨v, rfl, q18, hv⟩ := E18
      have iff := Cod.eqv hx.2.2.2.2.1 hy.2.2.2.2.1 hx.2.2.2.2.2 hy.2.2.2.2.2
      rcases hv with ⟨rfl, he⟩ | ⟨rfl, he⟩
      · have c19 : Steps p.tables e below (s₁.setTop (entryFrame m #[.ref x, .ref y] 3)) (T18.setTop (mkF m 55 #[.val (.ref x), .val (.ref y), .val (.ref y)] [.int 1])) := Steps.trans g18 (by
          refine XS.ifNo X18.here hexec rfl (hb hbytes d47) rfl (i0_eq_f (by decide)) ?_
          refine iconstV X18.here hexec rfl 1 (hb hbytes d50) (by decide) ?_
          refine XS.goto X18.here hexec rfl (pc0 := 51) rfl (hb hbytes d51) (by decide) rfl ?_
          exact Steps.refl _)
        exact ⟨T18, some (.int 1), _, _, _, X18, rfl, rfl, rfl, (fun h => by cases h), ⟨1, rfl, q18.trans hh16, Or.inl ⟨rfl, iff.mp he⟩⟩, fun fs hl => c19.trans (X18.ireturnOut hexec hret rfl (Or.inr (Or.inl rfl)) (hb hbytes d55) hl)⟩
      · have c19 : Steps p.tables e below (s₁.setTop (entryFrame m #[.ref x, .ref y] 3)) (T18.setTop (mkF m 55 #[.val (.ref x), .val (.ref y), .val (.ref y)] [.int 0])) := Steps.trans g18 (by
          refine XS.ifYes X18.here hexec rfl (pc0 := 47) rfl (hb hbytes d47) rfl (i0_eq_t rfl) (by decide) rfl ?_
          refine iconstV X18.here hexec rfl 0 (hb hbytes d54) (by decide) ?_
          exact Steps.refl _)
        exact ⟨T18, some (.int 0), _, _, _, X18, rfl, rfl, rfl, (fun h => by cases h), ⟨0, rfl, q18.trans hh16, Or.inr ⟨rfl, fun q => he (iff.mpr q)⟩⟩, fun fs hl => c19.trans (X18.ireturnOut hexec hret rfl (Or.inr (Or.inl rfl)) (hb hbytes d55) hl)⟩
    · have c13 : Steps p.tables e below (s₁.setTop (entryFrame m #[.ref x, .ref y] 3)) (T11.setTop (mkF m 55 #[.val (.ref x), .val (.ref y), .val (.ref y)] [.int 0])) := c12.trans (by
        refine XS.icmpYes X11.here hexec rfl (pc0 := 33) rfl (hb hbytes d33) rfl (ii_ne_t hcd) (by decide) rfl ?_
        refine iconstV X11.here hexec rfl 0 (hb hbytes d54) (by decide) ?_
        exact Steps.refl _)
      exact ⟨T11, some (.int 0), _, _, _, X11, rfl, rfl, rfl, (fun h => by cases h), ⟨0, rfl, hh11, Or.inr ⟨rfl, Cod.dif hx.2.2.2.2.1 hy.2.2.2.2.1 hcd⟩⟩, fun fs hl => c13.trans (X11.ireturnOut hexec hret rfl (Or.inr (Or.inl rfl)) (hb hbytes d55) hl)⟩
theorem pays {l : Launch} {R : Room} {p : Program} {e : Env} {below : List Frame} {s : State} {sargs : Array Value} {len W : Nat} (x t : Addr) (V : Cell) (cd : Int32) (n : Nat) (f : Nat → Int32) (y t' : Addr) (V' : Cell) (cd' : Int32) (k : Nat) (g : Nat → Int32) (z : Int32) (htab : tab.before sargs s = true) (hfr : 2 ≤ R.frames) (hlo : W + 28 ≤ R.locals) :
    Back l R p e below s sargs yN len W (fun A₁ a₁ => A₁.cells + 0 ≤ R.cells ∧ A₁.slots + 0 ≤ R.slots ∧ P x t V cd n f y t' V' cd' k g z a₁ A₁.U) (fun A₁ _ v₁ B₁ => Says01 (SameT n f k g) v₁ A₁.U B₁.U ∧ B₁.locs = A₁.locs ++ [] ∧ B₁.cells = A₁.cells + 0 ∧ B₁.slots = A₁.slots + 0) :=
  (law l x t V cd n f y t' V' cd' k g z).pays htab hfr (by omega)
end SEq
end StrChars
namespace StrChars.Road
open Jvm Sem ClassFile Op Lib Jvm.Stand Jvm.Free Jvm.Free.XT
open Jvm.Lib.Cold (StaticIs)
/-- the words of String.equals(Object) -/
abbrev wordsEq : List Jvm.Cond := [.code SEq.yN SEq.yB 3 (some .boolean), .initialized ST, .classLink ST 10 ST, .fieldLink ST 38 ST "COMPACT_STRINGS" "Z", .fieldLink ST 15 ST "coder" "B", .fieldLink ST 9 ST "value" "[B", .methodLink ST 541 LEq.yN, .static LEq.yN, .code LEq.yN LEq.yB 3 (some .boolean), .initialized "java/lang/StringLatin1"]
theorem tabEq_of {a : Array Value} {s : State} (h : ∀ w ∈ wordsEq, w.before a s = true) : SEq.tab.before a s = true := by
  have hl : LEq.tab.before a s = true := unparts (wk h (.code LEq.yN LEq.yB 3 (some .boolean))) (wks h (.initialized LEq.yN.cls :: LEq.site))
  have q := consq hl h
  exact unparts (wk q (.code SEq.yN SEq.yB 3 (some .boolean))) (wks q (.initialized SEq.yN.cls :: SEq.site))
theorem movedEq {Z s : State} {a0 args : Array Value} (hZ : Z.Warmed39 s.vm) (hw : ∀ d ∈ wordsEq, d.before a0 Z = true) : ∀ d ∈ wordsEq, d.before args s = true := fun d hd => by
  have t : ∀ d ∈ wordsEq, (d.onTables && d.keepsFace) = true := by decide +kernel
  exact RoadKit.mv hZ (hw d hd) (t d hd)
/-- the road's facts of a String, as the laws ask it -/
theorem txt_of {Z U : State} {a0 : Array Value} {kI : Nat} (wi : (Jvm.Cond.instantiable ST kI).before a0 Z = true) (al : Z.vm.Alike U.vm) {x t : Addr} {kb : ClassId} {cs : List Int32} {cd N2 : Int32} {vs : List Value} (E : RoadKit.Exa Z U.heap x ST) (V : RoadKit.Fld Z U.heap x ST "value" "[B" (.ref t)) (C : RoadKit.Fld Z U.heap x ST "coder" "B" (.int cd)) (K : RoadKit.Arv Z U.heap t kb .byte N2 vs (.int 0)) (hc : CodA cs cd N2 vs) (hb : ∀ c ∈ cs, ¬ c < 0 ∧ ¬ (65535 : Int32) < c) (l2 : cs.length ≤ 4000) :
    ∃ A, Txt x t A cd cs.length (fun j => cs.getD j 0) U := by
  obtain ⟨A, K1, K2, K3, K4, K5, K6⟩ := K
  have hcod := hc.cod (by omega) K3 K5
  obtain ⟨D, fV, fC, hB, F1, F2, g1, g2, -, -⟩ := strObj wi al E V C
  exact ⟨A, ⟨_, hB.2.2.1, D, hB.1, rfl, by cases q : D.vm <;> first | rfl | exact absurd q (hB.2.1.2 _)⟩, Has.of hB F1 g1, Has.of hB F2 g2, ⟨K1.1, State.isArrayOf_alike al K1.2.1, K1.2.2, by rcases hcod with ⟨-, q, -⟩ | ⟨-, q, -⟩ <;> omega⟩, hcod, fun j hj => by
    have e : cs.getD j 0 = cs[j] := by simp [List.getD_eq_getElem?_getD, hj]
    show ¬ cs.getD j 0 < 0 ∧ ¬ 65535 < cs.getD j 0
    rw [e]; exact hb _ (List.getElem_mem _)⟩
theorem same_list (cs ds : List Int32) : SameT cs.length (fun j => cs.getD j 0) ds.length (fun j => ds.getD j 0) ↔ cs = ds := by
  constructor
  · rintro ⟨e, q⟩
    refine List.ext_getElem e fun j h1 h2 => ?_
    have := q j h1
    simpa [List.getD_eq_getElem?_getD, h1, h2] using this
  · rintro rfl
    exact ⟨rfl, fun _ _ => rfl⟩
/-- **equals(Object) OF TWO SUCH STRINGS**: 1 just where the chars are the same -/
theorem eqW {p : Program} {l : Launch} {e : Env} {R : Room} {s : State} {args : Array Value} {below : List Frame} {len W : Nat} {Z : State} {a0 : Array Value} {h : Heap} (hZ : Z.Warmed39 s.vm) (hw : ∀ d ∈ wordsEq, d.before a0 Z = true) {kI : Nat} (wi : (Jvm.Cond.instantiable ST kI).before a0 Z = true)
    {x t : Addr} {kb : ClassId} {cs : List Int32} {cd N2 : Int32} {vs : List Value} (E : RoadKit.Exa Z h x ST) (V : RoadKit.Fld Z h x ST "value" "[B" (.ref t)) (C : RoadKit.Fld Z h x ST "coder" "B" (.int cd)) (K : RoadKit.Arv Z h t kb .byte N2 vs (.int 0)) (hc : CodA cs cd N2 vs) (hb : ∀ c ∈ cs, ¬ c < 0 ∧ ¬ (65535 : Int32) < c) (l2 : cs.length ≤ 4000)
    {y t' : Addr} {kb' : ClassId} {ds : List Int32} {cd' N2' : Int32} {vs' : List Value} (E' : RoadKit.Exa Z h y ST) (V' : RoadKit.Fld Z h y ST "value" "[B" (.ref t')) (C' : RoadKit.Fld Z h y ST "coder" "B" (.int cd')) (K' : RoadKit.Arv Z h t' kb' .byte N2' vs' (.int 0)) (hc' : CodA ds cd' N2' vs') (hb' : ∀ c ∈ ds, ¬ c < 0 ∧ ¬ (65535 : Int32) < c) (l2' : ds.length ≤ 4000)
    {z : Int32} (S : RoadKit.Sta Z h ST "COMPACT_STRINGS" "Z" (.int z)) (hz : ¬ z = 0) (hfr : 2 ≤ R.frames) (hlo : W + 28 ≤ R.locals) :
    Back l R p e below s args (⟨"java/lang/String", "equals", "(Ljava/lang/Object;)Z"⟩ : MethodName) len W (fun P a => a = #[.ref x, .ref y] ∧ P.U.heap = h ∧ P.cells + 0 ≤ R.cells ∧ P.slots + 0 ≤ R.slots)
      (fun P _ v B => ∃ L, (((v = some (.int 1) ∧ cs = ds) ∨ (v = some (.int 0) ∧ ¬ cs = ds)) ∧ L = [] ∧ B.U.heap = h) ∧ B.locs = P.locs ++ L ∧ B.cells = P.cells + 0 ∧ B.slots = P.slots + 0) := by
  intro m meth c P g ig mk a X hg hsize hdg hW hn hp'
  obtain ⟨rfl, rfl, r1, r2⟩ := hp'
  have al : Z.vm.Alike P.U.vm := hZ.alike.trans X.warmed.alike
  obtain ⟨A, hx⟩ := txt_of wi al E V C K hc hb l2
  obtain ⟨A', hy⟩ := txt_of wi al E' V' C' K' hc' hb' l2'
  obtain ⟨v, B, X', ⟨⟨w, hv, hh, hq⟩, hl, hk, hs⟩, st⟩ := SEq.pays x t A cd cs.length (fun j => cs.getD j 0) y t' A' cd' ds.length (fun j => ds.getD j 0) z (tabEq_of (movedEq hZ hw)) hfr hlo m meth c P g ig mk _ X hg hsize hdg hW hn ⟨r1, r2, rfl, hx, hy, sta_is al S, hz⟩
  refine ⟨v, B, X', ⟨[], ⟨?_, rfl, hh⟩, hl, hk, hs⟩, st⟩
  rcases hq with ⟨rfl, q⟩ | ⟨rfl, q⟩
  · exact Or.inl ⟨hv, (same_list cs ds).mp q⟩
  · exact Or.inr ⟨hv, fun e => q ((same_list cs ds).mpr e)⟩
end StrChars.Road
namespace StrChars.Road
open Jvm Sem ClassFile Op Lib Jvm.Stand Jvm.Free Jvm.Free.XT
open Jvm.Lib.Cold (StaticIs)
/-- what backV says of its String, as the contracts of this text ask it: cs's low bytes, coder 0 -/
theorem codOf {cs : List Int32} {n : Nat} (hn : cs.length = n) (hb : ∀ c ∈ cs, ¬ 255 < c) : CodA cs 0 (Int32.ofNat n) ((cs.map lo8).map Value.int) := Or.inl ⟨rfl, by rw [hn], by simp [List.map_map, Function.comp_def], hb⟩
end StrChars.Road
end Jvm.Pilot.@@N@@
namespace Jvm.Pilot.@@N@@
open Jvm Jvm.ClassFile Sem Op Lib Jvm.Free Jvm.Stand Jvm.LawKit Jvm.RoadKit Jvm.Own Bundle Jvm.Pilot.@@N@@.Jvm.D
theorem hwsV (Z : State) (a0 : Array Value) (hw : ∀ d ∈ tables_1, d.before a0 Z = true) : ∀ d ∈ StrChars.Road.words, d.before a0 Z = true := fun d hd => hw d ((by decide +kernel : ∀ d ∈ StrChars.Road.words, d ∈ tables_1) d hd)
theorem hwsE (Z : State) (a0 : Array Value) (hw : ∀ d ∈ tables_1, d.before a0 Z = true) : ∀ d ∈ StrChars.Road.wordsEq, d.before a0 Z = true := fun d hd => hw d ((by decide +kernel : ∀ d ∈ StrChars.Road.wordsEq, d ∈ tables_1) d hd)
/-- x is a String of the chars cs (each 0 to 255), its cells below b -/
def Str (Z : State) (h : Heap) (b : Nat) (x : Addr) (cs : List Int32) : Prop :=
  x < b ∧ Exa Z h x "java/lang/String" ∧ Fld Z h x "java/lang/String" "coder" "B" (.int 0) ∧
    (∃ (t : Addr) (k : ClassId), t < b ∧ Fld Z h x "java/lang/String" "value" "[B" (.ref t) ∧ Arv Z h t k .byte (Int32.ofNat cs.length) ((cs.map fun c => c.toInt8.toInt32).map Value.int) (.int 0)) ∧
    (∀ c ∈ cs, ¬ c < 0 ∧ ¬ (255 : Int32) < c) ∧ cs.length ≤ 4000
section StrFacts
variable {Z : State} {h h' : Heap} {b : Nat} {x a : Addr} {cs : List Int32} {ws : List Addr} {sl : Nat} {v : Value}
theorem Str.of {t : Addr} {k : ClassId} {N : Int32} {bs : List Int32} (E : Exa Z h x "java/lang/String") (C : Fld Z h x "java/lang/String" "coder" "B" (.int 0)) (F : Fld Z h x "java/lang/String" "value" "[B" (.ref t)) (A : Arv Z h t k .byte N (bs.map Value.int) (.int 0)) (hN : N = Int32.ofNat cs.length) (hb : bs = cs.map fun c => c.toInt8.toInt32)
    (hp : ∀ c ∈ cs, ¬ c < 0 ∧ ¬ (255 : Int32) < c) (hl : cs.length ≤ 4000) : Str Z h h.size x cs := by subst hN hb; exact ⟨E.lt, E, C, ⟨t, k, A.lt, F, A⟩, hp, hl⟩
theorem Str.keep (S : Str Z h b x cs) (K : Keep h h' ws) (q : ∀ w ∈ ws, b ≤ w) : Str Z h' b x cs := by
  obtain ⟨l1, E, C, ⟨t, k, l2, F, A⟩, r⟩ := S
  have n1 : x ∉ ws := fun m => absurd (q _ m) (Nat.not_le_of_lt l1)
  have n2 : t ∉ ws := fun m => absurd (q _ m) (Nat.not_le_of_lt l2)
  exact ⟨l1, E.keep K, C.keep K n1, ⟨t, k, l2, F.keep K n1, A.keep K n2⟩, r⟩
theorem Str.wr (S : Str Z h b x cs) (W : Wr h h' a sl v) (q : b ≤ a) : Str Z h' b x cs := S.keep (Keep.of_wr W) (allS q all0)
theorem Str.ext (S : Str Z h b x cs) (E : Ext h h') : Str Z h' b x cs := by
  obtain ⟨l1, E1, C, ⟨t, k, l2, F, A⟩, r⟩ := S
  exact ⟨l1, E1.ext E, C.ext E, ⟨t, k, l2, F.ext E, A.ext E⟩, r⟩
end StrFacts
theorem pn_0 : plainName "java/lang/String" = true := by first | (simp [plainName, overriddenIn]; done) | decide +kernel
theorem d_jdk_42_m149_0 : decode jdk_42_method_149_code 0 = .ok (.aload_n 0, 1) := by decide +kernel
theorem d_jdk_42_m149_1 : decode jdk_42_method_149_code 1 = .ok (.invokespecial 1, 3) := by decide +kernel
theorem d_jdk_42_m149_4 : decode jdk_42_method_149_code 4 = .ok (.iload_n 3, 1) := by decide +kernel
theorem d_jdk_42_m149_5 : decode jdk_42_method_149_code 5 = .ok (.ifCond .ne 22, 3) := by decide +kernel
theorem d_jdk_42_m149_8 : decode jdk_42_method_149_code 8 = .ok (.aload_n 0, 1) := by decide +kernel
theorem d_jdk_42_m149_9 : decode jdk_42_method_149_code 9 = .ok (.ldc 7, 2) := by decide +kernel
theorem d_jdk_42_m149_11 : decode jdk_42_method_149_code 11 = .ok (.getfield 9, 3) := by decide +kernel
theorem d_jdk_42_m149_14 : decode jdk_42_method_149_code 14 = .ok (.putfield 9, 3) := by decide +kernel
theorem d_jdk_42_m149_17 : decode jdk_42_method_149_code 17 = .ok (.aload_n 0, 1) := by decide +kernel
theorem d_jdk_42_m149_18 : decode jdk_42_method_149_code 18 = .ok (.ldc 7, 2) := by decide +kernel
theorem d_jdk_42_m149_20 : decode jdk_42_method_149_code 20 = .ok (.getfield 15, 3) := by decide +kernel
theorem d_jdk_42_m149_23 : decode jdk_42_method_149_code 23 = .ok (.putfield 15, 3) := by decide +kernel
theorem d_jdk_42_m149_26 : decode jdk_42_method_149_code 26 = .ok (.return_, 1) := by decide +kernel
def QE1 (Z : State) (x b : Addr) (h0 : Heap) (n0 : Nat) (v : Option Value) (h : Heap) (L : List Loc) : Prop := v = none ∧ Fr n0 L ∧ Keep h0 h [x] ∧ Exa Z h x "java/lang/String" ∧ Fld Z h x "java/lang/String" "coder" "B" (.int 0) ∧ ∃ (t : Addr) (k : ClassId), Fld Z h x "java/lang/String" "value" "[B" (.ref t) ∧ Arv Z h t k .byte (0 : Int32) [] (.int (0 : Int32))
set_option maxRecDepth 65536 in
set_option maxHeartbeats 40000000 in
theorem rmE1 (l : Launch) (Z : State) (a0 : Array Value) (hw : ∀ d ∈ tables_1, d.before a0 Z = true) (ws : List Jvm.Cond) (x b : Addr) (h0 : Heap) (n0 : Nat) (X00 : Old Z n0 h0) (hEL : EW Z a0 consts_1) (wS : ∀ a ∈ Bundle.stringAtoms, a.before a0 Z = true) (ge_x : n0 ≤ x) (E : Exa Z h0 x "java/lang/String") (FV : Fld Z h0 x "java/lang/String" "value" "[B" .null) (FC : Fld Z h0 x "java/lang/String" "coder" "B" (.int (0 : Int32))) :
    MetFree l (⟨"java/lang/String", "<init>", "([CIILjava/lang/Void;)V"⟩ : MethodName) (head1 (Jvm.Cond.code (⟨"java/lang/String", "<init>", "([CIILjava/lang/Void;)V"⟩ : MethodName) jdk_42_method_149_code 6 none :: ws) ({ frames := 1, cells := 4, slots := 8, locals := 16 } : Room)) (fun aa U => aa = #[(.ref x), (.ref b), (.int (0 : Int32)), (.int (0 : Int32)), .null] ∧ Z.Warmed39 U.vm ∧ U.heap = h0 ∧ CHv Z consts_1 U.vm h0 ∧ ∀ zz ∈ ([x] : List Addr), Safe Z consts_1 U.vm h0 zz) (fun _ _ _ _ _ => True) (fun _ U o U' => ∃ v L, o = .returned v ∧ QE1 Z x b h0 n0 v U'.heap L ∧ CHr Z consts_1 U.vm U.heap U'.vm U'.heap ∧ ReturnedEndW U o U' L ({ frames := 1, cells := 4, slots := 8, locals := 16 } : Room).cells ({ frames := 1, cells := 4, slots := 8, locals := 16 } : Room).slots) := by
  refine MetFree.of_bodySF (plainFor_of_name pn_0) hisR ?_
  intro p e s m args below meth c s₁ Bd hml0 hP hK
  obtain ⟨rfl, hZ, hh, H0, hsf⟩ := hP
  have hx := Bd.exec
  have hby := Bd.bytes
  have hml : c.maxLocals = 6 := hml0
  have hown : s.vm.findClass "java/lang/String" = some m.cls := findClass_of_methodNamed Bd.named
  have hnm := (name_of_methodNamed Bd.named Bd.method).1
  have X0 : Stand p l e ({ frames := 1, cells := 4, slots := 8, locals := 16 } : Room) (s.setVm s.vm) m #[(.ref x), (.ref b), (.int (0 : Int32)), (.int (0 : Int32)), .null] below meth c s₁ [] 0 0 := Stand.of_body Bd
  have e0 : s₁.heap = h0 := by rw [← hh, Bd.state]; rfl
  have N0 := Fr.nil n0
  have K0 := Keep.refl h0 [x]
  have hS0 : s.Since s.vm h0.size := (State.WarmedH.refl s).since _
  have hk0 := Nat.le_refl h0.size
  have C0 : CHr Z consts_1 s.vm h0 s.vm h0 := CHr.refl H0
  have sx0 : Safe Z consts_1 s.vm h0 x := hsf _ (List.mem_of_getElem? (i := 0) rfl)
  have ef : entryFrame m #[(.ref x), (.ref b), (.int (0 : Int32)), (.int (0 : Int32)), .null] 6 = mkF m 0 #[.val (.ref x), .val (.ref b), .val (.int (0 : Int32)), .val (.int (0 : Int32)), .val .null, .unset] [] := (by first | (simp [entryFrame, mkF, argsToLocals, Value.category]; done) | rfl : entryFrame m #[(.ref x), (.ref b), (.int (0 : Int32)), (.int (0 : Int32)), .null] 6 = mkF m 0 #[.val (.ref x), .val (.ref b), .val (.int (0 : Int32)), .val (.int (0 : Int32)), .val .null, .unset] [])
  rw [ef]
  refine fin_of fun Kx hF => ?_
  show Go p.tables e below Kx s₁ (mkF m 0 #[.val (.ref x), .val (.ref b), .val (.int (0 : Int32)), .val (.int (0 : Int32)), .val .null, .unset] [])
  refine s_aloadN (pc' := 1) X0.here hx (hb hby d_jdk_42_m149_0) rfl rfl rfl ?_
  obtain ⟨T1, X1, e1, st1⟩ := initO X0 hx hZ hown (hw _ (List.mem_of_getElem? (i := 15) rfl)) (hw _ (List.mem_of_getElem? (i := 16) rfl)) (hw _ (List.mem_of_getElem? (i := 17) rfl)) e0 (g := (mkF m 1 #[.val (.ref x), .val (.ref b), .val (.int (0 : Int32)), .val (.int (0 : Int32)), .val .null, .unset] [(.ref x)])) rfl (by rw [hml]; rfl) rfl (hb hby d_jdk_42_m149_1) (by decide) (W := 0) (by show 2 * 0 + _ ≤ _; exact Nat.le_of_eq rfl) (by decide)
  refine Go.st st1 ?_
  show Go p.tables e below Kx T1 (mkF m 4 #[.val (.ref x), .val (.ref b), .val (.int (0 : Int32)), .val (.int (0 : Int32)), .val .null, .unset] [])
  refine s_iloadN (pc' := 5) X1.here hx (hb hby d_jdk_42_m149_4) rfl rfl ?_
  refine s_ifN (pc' := 8) X1.here hx (hb hby d_jdk_42_m149_5) rfl ((if0 _ _).trans (teq (by decide)).2) ?_
  refine s_aloadN (pc' := 9) X1.here hx (hb hby d_jdk_42_m149_8) rfl rfl rfl ?_
  obtain ⟨a2, T2, h2, k12, b2, k2, X2, e2, E2, hS2, hk2, hZ2, hown2, A2, FC2, FV2, V2, la2, lb2, Cr2, Lt2, sx2, st2⟩ := ldcCH X1 hx hZ hown (hw _ (List.mem_of_getElem? (i := 34) rfl)) wS e1 hS0 hk0 hEL (List.mem_of_getElem? (i := 0) rfl) H0 (vs := []) (z := (0 : Int32)) (by decide) (by decide) (by decide) (g := (mkF m 9 #[.val (.ref x), .val (.ref b), .val (.int (0 : Int32)), .val (.int (0 : Int32)), .val .null, .unset] [(.ref x)])) rfl (hb hby d_jdk_42_m149_9) (n := 0) (by decide) (by decide) (by decide) (by decide)
  have sf3 : Safe Z consts_1 T2.vm h2 x := Cr2.safe E.lt sx0
  have C2 := C0.trans Cr2
  have K2 : Keep h0 h2 [x] := K0.ext E2
  have O2 : Old Z n0 h2 := X00.ext E2
  refine Go.st st2 ?_
  show Go p.tables e below Kx T2 (mkF m 11 #[.val (.ref x), .val (.ref b), .val (.int (0 : Int32)), .val (.int (0 : Int32)), .val .null, .unset] [(.ref a2), (.ref x)])
  obtain ⟨T4, X4, e4, st4⟩ := getF X2 hx hZ2 hown2 (host := "") (Or.inl (hw _ (List.mem_of_getElem? (i := 32) rfl))) Via.refl e2 FV2 (g := (mkF m 11 #[.val (.ref x), .val (.ref b), .val (.int (0 : Int32)), .val (.int (0 : Int32)), .val .null, .unset] [(.ref a2), (.ref x)])) rfl rfl (hb hby d_jdk_42_m149_11)
  refine Go.st st4 ?_
  show Go p.tables e below Kx T4 (mkF m 14 #[.val (.ref x), .val (.ref b), .val (.int (0 : Int32)), .val (.int (0 : Int32)), .val .null, .unset] [(.ref b2), (.ref x)])
  have f5 : Fld Z h2 x "java/lang/String" "value" "[B" .null := (FV.ext E2)
  have f6 : Exa Z h2 x "java/lang/String" := (E.ext E2)
  obtain ⟨T7, h7, X7, e7, W7, st7⟩ := putF X4 hx hZ2 hown2 (host := "") (Or.inl (hw _ (List.mem_of_getElem? (i := 32) rfl))) Via.refl e4 f5 f6 (Or.inr ⟨(hw _ (List.mem_of_getElem? (i := 33) rfl)), rfl, hnm⟩) (hw _ (List.mem_of_getElem? (i := 5) rfl)) (ty := (.array .byte)) (by decide) rfl rfl (g := (mkF m 14 #[.val (.ref x), .val (.ref b), .val (.int (0 : Int32)), .val (.int (0 : Int32)), .val .null, .unset] [(.ref b2), (.ref x)])) rfl rfl (hb hby d_jdk_42_m149_14)
  have Fw7 : Fld Z h7 x "java/lang/String" "value" "[B" (.ref b2) := f5.same W7
  have K7 : Keep h0 h7 [x] := K2.wr W7 (Or.inl (List.mem_of_getElem? (i := 0) rfl))
  have O7 : Old Z n0 h7 := O2.wr W7 ge_x
  have sf8 : Safe Z consts_1 T2.vm h7 x := (Safe.wr W7 sf3 Cr2.1 sf3)
  have H7 : CHv Z consts_1 T2.vm h7 := Cr2.1.wr W7 sf3
  have C7 : CHr Z consts_1 s.vm h0 T2.vm h7 := C2.trans (CHr.wr W7 sf3 Cr2.1)
  have hk7 := Nat.le_trans hk2 (Nat.le_of_eq W7.size.symm)
  have N7 := Fr.snoc X7 N0 ge_x
  refine Go.st st7 ?_
  show Go p.tables e below Kx T7 (mkF m 17 #[.val (.ref x), .val (.ref b), .val (.int (0 : Int32)), .val (.int (0 : Int32)), .val .null, .unset] [])
  refine s_aloadN (pc' := 18) X7.here hx (hb hby d_jdk_42_m149_17) rfl rfl rfl ?_
  obtain ⟨a9, T9, h9, k19, b9, k9, X9, e9, E9, hS9, hk9, hZ9, hown9, A9, FC9, FV9, V9, la9, lb9, Cr9, Lt9, sx9, st9⟩ := ldcCH X7 hx hZ2 hown2 (hw _ (List.mem_of_getElem? (i := 34) rfl)) wS e7 hS2 hk7 hEL (List.mem_of_getElem? (i := 0) rfl) H7 (vs := []) (z := (0 : Int32)) (by decide) (by decide) (by decide) (g := (mkF m 18 #[.val (.ref x), .val (.ref b), .val (.int (0 : Int32)), .val (.int (0 : Int32)), .val .null, .unset] [(.ref x)])) rfl (hb hby d_jdk_42_m149_18) (n := 0) (by decide) (by decide) (by decide) (by decide)
  have sf10 : Safe Z consts_1 T9.vm h9 x := Cr9.safe (Nat.lt_of_lt_of_le E.lt (Nat.le_trans E2.1 (Nat.le_of_eq W7.size.symm))) sf8
  have C9 := C7.trans Cr9
  have K9 : Keep h0 h9 [x] := K7.ext E9
  have O9 : Old Z n0 h9 := O7.ext E9
  refine Go.st st9 ?_
  show Go p.tables e below Kx T9 (mkF m 20 #[.val (.ref x), .val (.ref b), .val (.int (0 : Int32)), .val (.int (0 : Int32)), .val .null, .unset] [(.ref a9), (.ref x)])
  obtain ⟨T11, X11, e11, st11⟩ := getF X9 hx hZ9 hown9 (host := "") (Or.inl (hw _ (List.mem_of_getElem? (i := 30) rfl))) Via.refl e9 FC9 (g := (mkF m 20 #[.val (.ref x), .val (.ref b), .val (.int (0 : Int32)), .val (.int (0 : Int32)), .val .null, .unset] [(.ref a9), (.ref x)])) rfl rfl (hb hby d_jdk_42_m149_20)
  refine Go.st st11 ?_
  show Go p.tables e below Kx T11 (mkF m 23 #[.val (.ref x), .val (.ref b), .val (.int (0 : Int32)), .val (.int (0 : Int32)), .val .null, .unset] [(.int (0 : Int32)), (.ref x)])
  have f12 : Fld Z h9 x "java/lang/String" "coder" "B" (.int (0 : Int32)) := (((FC.ext E2).other W7 (Or.inr (slot_ne (Or.inr (hw _ (List.mem_of_getElem? (i := 31) rfl))) (Or.inr (hw _ (List.mem_of_getElem? (i := 33) rfl))) (by decide) (t := .byte) (t' := (.array .byte)) (by decide) (by decide)))).ext E9)
  have f13 : Exa Z h9 x "java/lang/String" := ((f6.wr W7).ext E9)
  obtain ⟨T14, h14, X14, e14, W14, st14⟩ := putFN X11 hx hZ9 hown9 (hw _ (List.mem_of_getElem? (i := 30) rfl)) Via.refl e11 f12 f13 (Or.inr ⟨(hw _ (List.mem_of_getElem? (i := 31) rfl)), rfl, hnm⟩) (hw _ (List.mem_of_getElem? (i := 5) rfl)) (ty := .byte) (v' := (.int (0 : Int32))) (by decide) (by decide) (by decide) (g := (mkF m 23 #[.val (.ref x), .val (.ref b), .val (.int (0 : Int32)), .val (.int (0 : Int32)), .val .null, .unset] [(.int (0 : Int32)), (.ref x)])) rfl rfl (hb hby d_jdk_42_m149_23)
  have Fw14 : Fld Z h14 x "java/lang/String" "coder" "B" (.int (0 : Int32)) := f12.same W14
  have K14 : Keep h0 h14 [x] := K9.wr W14 (Or.inl (List.mem_of_getElem? (i := 0) rfl))
  have O14 : Old Z n0 h14 := O9.wr W14 ge_x
  have sf15 : Safe Z consts_1 T9.vm h14 x := (Safe.wr W14 sf10 Cr9.1 sf10)
  have H14 : CHv Z consts_1 T9.vm h14 := Cr9.1.wr W14 sf10
  have C14 : CHr Z consts_1 s.vm h0 T9.vm h14 := C9.trans (CHr.wr W14 sf10 Cr9.1)
  have hk14 := Nat.le_trans hk9 (Nat.le_of_eq W14.size.symm)
  have N14 := Fr.snoc X14 N7 ge_x
  refine Go.st st14 ?_
  show Go p.tables e below Kx T14 (mkF m 26 #[.val (.ref x), .val (.ref b), .val (.int (0 : Int32)), .val (.int (0 : Int32)), .val .null, .unset] [])
  have f16 : Exa Z h14 x "java/lang/String" := (f13.wr W14)
  have f17 : Fld Z h14 x "java/lang/String" "value" "[B" (.ref b2) := ((Fw7.ext E9).other W14 (Or.inr (slot_ne (Or.inr (hw _ (List.mem_of_getElem? (i := 33) rfl))) (Or.inr (hw _ (List.mem_of_getElem? (i := 31) rfl))) (by decide) (t := (.array .byte)) (t' := .byte) (by decide) (by decide))))
  have f18 : Arv Z h14 b2 k2 .byte (0 : Int32) [] (.int 0) := (((V2.other W7 (Ne.symm (sx2 _ sf3).2)).ext E9).other W14 (Ne.symm (sx2 _ sf3).2))
  obtain ⟨fs, hr, hrun, hended, hRW⟩ := X14.leaveW hS9 (by rw [e14]; exact hk14) (v := none) (fun _ => rfl)
  have hCx := C14.trans (CHv.at X14 hZ9 hEL H14)
  refine Go.fin (X14.returnOut hx Bd.returns (hb hby d_jdk_42_m149_26) hr) (hF _ _ hrun hended ⟨_, _, rfl, ?_, ?_, hRW.1, hRW.2.1, hRW.2.2.1, hRW.2.2.2.mono (by decide) (by decide)⟩)
  · show QE1 Z x b h0 n0 (none : Option Value) T14.heap _
    rw [e14]
    exact ⟨rfl, N14, K14, f16, Fw14, b2, _, f17, f18⟩
  · show CHr Z consts_1 s.vm s.heap T14.vm T14.heap
    rw [e14, hh]; exact hCx
theorem d_jdk_42_m3_0 : decode jdk_42_method_3_code 0 = .ok (.aload_n 0, 1) := by decide +kernel
theorem d_jdk_42_m3_1 : decode jdk_42_method_3_code 1 = .ok (.aload_n 1, 1) := by decide +kernel
theorem d_jdk_42_m3_2 : decode jdk_42_method_3_code 2 = .ok (.iconst 0, 1) := by decide +kernel
theorem d_jdk_42_m3_3 : decode jdk_42_method_3_code 3 = .ok (.aload_n 1, 1) := by decide +kernel
theorem d_jdk_42_m3_4 : decode jdk_42_method_3_code 4 = .ok (.arraylength, 1) := by decide +kernel
theorem d_jdk_42_m3_5 : decode jdk_42_method_3_code 5 = .ok (.aconst_null, 1) := by decide +kernel
theorem pd_0 : parseMethodDescriptor "([CIILjava/lang/Void;)V" = some ⟨[(.array .char), .int, .int, (.object "java/lang/Void")], none⟩ := by decide +kernel
theorem d_jdk_42_m3_6 : decode jdk_42_method_3_code 6 = .ok (.invokespecial 27, 3) := by decide +kernel
theorem d_jdk_42_m3_9 : decode jdk_42_method_3_code 9 = .ok (.return_, 1) := by decide +kernel
def QE2 (Z : State) (x b : Addr) (kc : ClassId) (h0 : Heap) (n0 : Nat) (v : Option Value) (h : Heap) (L : List Loc) : Prop := v = none ∧ Fr n0 L ∧ Keep h0 h [x] ∧ Exa Z h x "java/lang/String" ∧ Fld Z h x "java/lang/String" "coder" "B" (.int 0) ∧ ∃ (t : Addr) (k : ClassId), Fld Z h x "java/lang/String" "value" "[B" (.ref t) ∧ Arv Z h t k .byte (0 : Int32) [] (.int (0 : Int32))
set_option maxRecDepth 65536 in
set_option maxHeartbeats 40000000 in
theorem rmE2 (l : Launch) (Z : State) (a0 : Array Value) (hw : ∀ d ∈ tables_1, d.before a0 Z = true) (ws : List Jvm.Cond) (x b : Addr) (kc : ClassId) (h0 : Heap) (n0 : Nat) (X00 : Old Z n0 h0) (hEL : EW Z a0 consts_1) (wS : ∀ a ∈ Bundle.stringAtoms, a.before a0 Z = true) (ge_x : n0 ≤ x) (E : Exa Z h0 x "java/lang/String") (FV : Fld Z h0 x "java/lang/String" "value" "[B" .null) (FC : Fld Z h0 x "java/lang/String" "coder" "B" (.int (0 : Int32))) (VB : Arv Z h0 b kc .char (0 : Int32) [] (.int (0 : Int32))) :
    MetFree l (⟨"java/lang/String", "<init>", "([C)V"⟩ : MethodName) (head1 (Jvm.Cond.code (⟨"java/lang/String", "<init>", "([C)V"⟩ : MethodName) jdk_42_method_3_code 2 none :: ws) ({ frames := 2, cells := 4, slots := 8, locals := 40 } : Room)) (fun aa U => aa = #[(.ref x), (.ref b)] ∧ Z.Warmed39 U.vm ∧ U.heap = h0 ∧ CHv Z consts_1 U.vm h0 ∧ ∀ zz ∈ ([x] : List Addr), Safe Z consts_1 U.vm h0 zz) (fun _ _ _ _ _ => True) (fun _ U o U' => ∃ v L, o = .returned v ∧ QE2 Z x b kc h0 n0 v U'.heap L ∧ CHr Z consts_1 U.vm U.heap U'.vm U'.heap ∧ ReturnedEndW U o U' L ({ frames := 2, cells := 4, slots := 8, locals := 40 } : Room).cells ({ frames := 2, cells := 4, slots := 8, locals := 40 } : Room).slots) := by
  refine MetFree.of_bodySF (plainFor_of_name pn_0) hisR ?_
  intro p e s m args below meth c s₁ Bd hml0 hP hK
  obtain ⟨rfl, hZ, hh, H0, hsf⟩ := hP
  have hx := Bd.exec
  have hby := Bd.bytes
  have hml : c.maxLocals = 2 := hml0
  have hown : s.vm.findClass "java/lang/String" = some m.cls := findClass_of_methodNamed Bd.named
  have hnm := (name_of_methodNamed Bd.named Bd.method).1
  have X0 : Stand p l e ({ frames := 2, cells := 4, slots := 8, locals := 40 } : Room) (s.setVm s.vm) m #[(.ref x), (.ref b)] below meth c s₁ [] 0 0 := Stand.of_body Bd
  have e0 : s₁.heap = h0 := by rw [← hh, Bd.state]; rfl
  have N0 := Fr.nil n0
  have K0 := Keep.refl h0 [x]
  have hS0 : s.Since s.vm h0.size := (State.WarmedH.refl s).since _
  have hk0 := Nat.le_refl h0.size
  have C0 : CHr Z consts_1 s.vm h0 s.vm h0 := CHr.refl H0
  have sx0 : Safe Z consts_1 s.vm h0 x := hsf _ (List.mem_of_getElem? (i := 0) rfl)
  have ef : entryFrame m #[(.ref x), (.ref b)] 2 = mkF m 0 #[.val (.ref x), .val (.ref b)] [] := (by first | (simp [entryFrame, mkF, argsToLocals, Value.category]; done) | rfl : entryFrame m #[(.ref x), (.ref b)] 2 = mkF m 0 #[.val (.ref x), .val (.ref b)] [])
  rw [ef]
  refine fin_of fun Kx hF => ?_
  show Go p.tables e below Kx s₁ (mkF m 0 #[.val (.ref x), .val (.ref b)] [])
  refine s_aloadN (pc' := 1) X0.here hx (hb hby d_jdk_42_m3_0) rfl rfl rfl ?_
  refine s_aloadN (pc' := 2) X0.here hx (hb hby d_jdk_42_m3_1) rfl rfl rfl ?_
  refine s_iconst (pc' := 3) (v := (0 : Int32)) X0.here hx (hb hby d_jdk_42_m3_2) rfl rfl ?_
  refine s_aloadN (pc' := 4) X0.here hx (hb hby d_jdk_42_m3_3) rfl rfl rfl ?_
  obtain ⟨cl19, Ar19, Aq19, As19, An19, Ah19, Ag19⟩ := id VB
  refine Go.st (X0.arraylength hx (by rw [e0]; exact Ar19.1) (State.isArrayOf_alike hZ.alike Ar19.2.1) (g := (mkF m 4 #[.val (.ref x), .val (.ref b)] [(.ref b), (.int (0 : Int32)), (.ref b), (.ref x)])) rfl rfl (hb hby d_jdk_42_m3_4)) ?_
  rw [len_of As19 An19]
  show Go p.tables e below Kx s₁ (mkF m 5 #[.val (.ref x), .val (.ref b)] [(.int (0 : Int32)), (.int (0 : Int32)), (.ref b), (.ref x)])
  refine s_aconst_null (pc' := 6) X0.here hx (hb hby d_jdk_42_m3_5) rfl ?_
  obtain ⟨_, _, ⟨T20, L20, k20, n20⟩, -, X20, hS'20, hg'20, ⟨Lc20, hQ20, l20, y20, z20, Cr20⟩, st20⟩ := X0.specialBackS hx (y := (⟨"java/lang/String", "<init>", "([CIILjava/lang/Void;)V"⟩ : MethodName)) rfl hown (mvT hZ (hw _ (List.mem_of_getElem? (i := 11) rfl))) (mvT hZ (hw _ (List.mem_of_getElem? (i := 12) rfl))) (mvT hZ (hw _ (List.mem_of_getElem? (i := 14) rfl))) (by decide) (backX (W := 0) (rmE1 l Z a0 hw [] x b h0 n0 X00 hEL wS ge_x E FV FC) hZ (hw _ (List.mem_of_getElem? (i := 14) rfl)) (hw _ (List.mem_of_getElem? (i := 6) rfl)) (by decide) (by decide) hEL H0 (allS (P := fun zz => zz < h0.size ∧ Safe Z consts_1 s.vm h0 zz) ⟨E.lt, sx0⟩ all0)) (g := (mkF m 6 #[.val (.ref x), .val (.ref b)] [.null, (.int (0 : Int32)), (.int (0 : Int32)), (.ref b), (.ref x)])) rfl (by rw [hml]; rfl) (Steps.refl _) (a := x) (argsL := [(.ref b), (.int (0 : Int32)), (.int (0 : Int32)), .null]) (rest := []) (lenOf pd_0 rfl) rfl (by show 2 * 0 + _ ≤ _; exact Nat.le_of_eq rfl) (hb hby d_jdk_42_m3_6) (fun _ _ => ⟨rfl, e0, (by decide : 0 + 4 ≤ _), (by decide : 0 + 8 ≤ _)⟩)
  dsimp only [Pt.U, Pt.locs, Pt.cells, Pt.slots] at X20 l20 y20 z20 st20 hQ20 hS'20 hg'20 Cr20
  subst l20 y20 z20
  obtain ⟨rfl, Nq20, Kq20, q1_20, q2_20, t20, kt20, q3_20, q4_20⟩ := hQ20
  have N20 := Fr.app N0 Nq20
  have X20 : Stand p l e _ (s.setVm T20.vm) m _ below meth c T20 _ _ _ := X20
  obtain ⟨hZ20, hown20⟩ := wideOn hZ hS'20 hown
  have hS20 : s.Since T20.vm T20.heap.size := hS0.trans hS'20 (Nat.le_trans hk0 (by rw [e0] at hg'20; exact hg'20))
  have hk20 := Nat.le_refl T20.heap.size
  have sf21 : Safe Z consts_1 T20.vm T20.heap x := Cr20.safe E.lt sx0
  have C20 := C0.trans Cr20
  have K20 : Keep h0 T20.heap [x] := K0.trans Kq20 (allS (P := fun zz => zz ∈ [x] ∨ h0.size ≤ zz) (Or.inl (List.mem_of_getElem? (i := 0) rfl)) all0)
  have O20 : Old Z n0 T20.heap := X00.keep Kq20 (allS ge_x all0)
  refine Go.tr st20 ?_
  show Go p.tables e below Kx T20 (mkF m 9 #[.val (.ref x), .val (.ref b)] [])
  obtain ⟨fs, hr, hrun, hended, hRW⟩ := X20.leaveW hS20 hk20 (v := none) (fun _ => rfl)
  have hCx := C20.trans (CHv.at X20 hZ20 hEL Cr20.1)
  refine Go.fin (X20.returnOut hx Bd.returns (hb hby d_jdk_42_m3_9) hr) (hF _ _ hrun hended ⟨_, _, rfl, ?_, ?_, hRW.1, hRW.2.1, hRW.2.2.1, hRW.2.2.2.mono (by decide) (by decide)⟩)
  · show QE2 Z x b kc h0 n0 (none : Option Value) T20.heap _
    skip
    exact ⟨rfl, N20, K20, q1_20, q2_20, t20, kt20, q3_20, q4_20⟩
  · show CHr Z consts_1 s.vm s.heap T20.vm T20.heap
    rw [hh]; exact hCx
def chars (n a b : Int32) : List Int32 := if n = 0 then [] else if n = 1 then [a] else [a, b]
theorem pn_1 : plainName "com/example/data_roles/dataroles/policy/ConditionEqualsPinLaw" = true := by first | (simp [plainName, overriddenIn]; done) | decide +kernel
theorem d_m2_0 : decode method_2_code 0 = .ok (.iload_n 0, 1) := by decide +kernel
theorem d_m2_1 : decode method_2_code 1 = .ok (.ifCond .ne 14, 3) := by decide +kernel
theorem d_m2_4 : decode method_2_code 4 = .ok (.new 7, 3) := by decide +kernel
theorem d_m2_7 : decode method_2_code 7 = .ok (.dup, 1) := by decide +kernel
theorem d_m2_8 : decode method_2_code 8 = .ok (.iconst 0, 1) := by decide +kernel
theorem d_m2_9 : decode method_2_code 9 = .ok (.newarray .char, 2) := by decide +kernel
theorem pd_1 : parseMethodDescriptor "([C)V" = some ⟨[(.array .char)], none⟩ := by decide +kernel
theorem d_m2_11 : decode method_2_code 11 = .ok (.invokespecial 9, 3) := by decide +kernel
theorem d_m2_14 : decode method_2_code 14 = .ok (.areturn, 1) := by decide +kernel
theorem d_m2_15 : decode method_2_code 15 = .ok (.iload_n 0, 1) := by decide +kernel
theorem d_m2_16 : decode method_2_code 16 = .ok (.iconst 1, 1) := by decide +kernel
theorem d_m2_17 : decode method_2_code 17 = .ok (.if_icmp .ne 18, 3) := by decide +kernel
theorem d_m2_20 : decode method_2_code 20 = .ok (.new 7, 3) := by decide +kernel
theorem d_m2_23 : decode method_2_code 23 = .ok (.dup, 1) := by decide +kernel
theorem d_m2_24 : decode method_2_code 24 = .ok (.iconst 1, 1) := by decide +kernel
theorem d_m2_25 : decode method_2_code 25 = .ok (.newarray .char, 2) := by decide +kernel
theorem d_m2_27 : decode method_2_code 27 = .ok (.dup, 1) := by decide +kernel
theorem d_m2_28 : decode method_2_code 28 = .ok (.iconst 0, 1) := by decide +kernel
theorem d_m2_29 : decode method_2_code 29 = .ok (.iload_n 1, 1) := by decide +kernel
theorem d_m2_30 : decode method_2_code 30 = .ok (.castore, 1) := by decide +kernel
theorem d_m2_31 : decode method_2_code 31 = .ok (.invokespecial 9, 3) := by decide +kernel
theorem d_m2_34 : decode method_2_code 34 = .ok (.areturn, 1) := by decide +kernel
theorem d_m2_35 : decode method_2_code 35 = .ok (.new 7, 3) := by decide +kernel
theorem d_m2_38 : decode method_2_code 38 = .ok (.dup, 1) := by decide +kernel
theorem d_m2_39 : decode method_2_code 39 = .ok (.iconst 2, 1) := by decide +kernel
theorem d_m2_40 : decode method_2_code 40 = .ok (.newarray .char, 2) := by decide +kernel
theorem d_m2_42 : decode method_2_code 42 = .ok (.dup, 1) := by decide +kernel
theorem d_m2_43 : decode method_2_code 43 = .ok (.iconst 0, 1) := by decide +kernel
theorem d_m2_44 : decode method_2_code 44 = .ok (.iload_n 1, 1) := by decide +kernel
theorem d_m2_45 : decode method_2_code 45 = .ok (.castore, 1) := by decide +kernel
theorem d_m2_46 : decode method_2_code 46 = .ok (.dup, 1) := by decide +kernel
theorem d_m2_47 : decode method_2_code 47 = .ok (.iconst 1, 1) := by decide +kernel
theorem d_m2_48 : decode method_2_code 48 = .ok (.iload_n 2, 1) := by decide +kernel
theorem d_m2_49 : decode method_2_code 49 = .ok (.castore, 1) := by decide +kernel
theorem d_m2_50 : decode method_2_code 50 = .ok (.invokespecial 9, 3) := by decide +kernel
theorem d_m2_53 : decode method_2_code 53 = .ok (.areturn, 1) := by decide +kernel
def QM (Z : State) (n a b : Int32) (h0 : Heap) (n0 : Nat) (v : Option Value) (h : Heap) (L : List Loc) : Prop := ∃ x : Addr, v = some (.ref x) ∧ Fr n0 L ∧ Keep h0 h [] ∧ Str Z h h.size x (chars n a b)
set_option maxRecDepth 65536 in
set_option maxHeartbeats 40000000 in
theorem rmM (l : Launch) (Z : State) (a0 : Array Value) (hw : ∀ d ∈ tables_1, d.before a0 Z = true) (ws : List Jvm.Cond) (n a b : Int32) (h0 : Heap) (n0 : Nat) (X00 : Old Z n0 h0) (hEL : EW Z a0 consts_1) (wS : ∀ a ∈ Bundle.stringAtoms, a.before a0 Z = true) (G1 : Int32) (S1 : Sta Z Z.heap "java/lang/String" "COMPACT_STRINGS" "Z" (.int G1)) (P1 : ¬ G1 = 0) (hca : ¬ a < 0 ∧ ¬ (255 : Int32) < a) (hcb : ¬ b < 0 ∧ ¬ (255 : Int32) < b) :
    MetFree l (⟨"com/example/data_roles/dataroles/policy/ConditionEqualsPinLaw", "mk", "(ICC)Ljava/lang/String;"⟩ : MethodName) (head1 (Jvm.Cond.code (⟨"com/example/data_roles/dataroles/policy/ConditionEqualsPinLaw", "mk", "(ICC)Ljava/lang/String;"⟩ : MethodName) method_2_code 3 (some (.object "java/lang/String")) :: ws) ({ frames := 6, cells := 6, slots := 12, locals := 100 } : Room)) (fun aa U => aa = #[(.int n), (.int a), (.int b)] ∧ Z.Warmed39 U.vm ∧ U.heap = h0 ∧ CHv Z consts_1 U.vm h0) (fun _ _ _ _ _ => True) (fun _ U o U' => ∃ v L, o = .returned v ∧ QM Z n a b h0 n0 v U'.heap L ∧ CHr Z consts_1 U.vm U.heap U'.vm U'.heap ∧ ReturnedEndW U o U' L ({ frames := 6, cells := 6, slots := 12, locals := 100 } : Room).cells ({ frames := 6, cells := 6, slots := 12, locals := 100 } : Room).slots) := by
  refine MetFree.of_bodySF (plainFor_of_name pn_1) hisR ?_
  intro p e s m args below meth c s₁ Bd hml0 hP hK
  obtain ⟨rfl, hZ, hh, H0⟩ := hP
  have hx := Bd.exec
  have hby := Bd.bytes
  have hml : c.maxLocals = 3 := hml0
  have hown : s.vm.findClass "com/example/data_roles/dataroles/policy/ConditionEqualsPinLaw" = some m.cls := findClass_of_methodNamed Bd.named
  have hnm := (name_of_methodNamed Bd.named Bd.method).1
  have X0 : Stand p l e ({ frames := 6, cells := 6, slots := 12, locals := 100 } : Room) (s.setVm s.vm) m #[(.int n), (.int a), (.int b)] below meth c s₁ [] 0 0 := Stand.of_body Bd
  have e0 : s₁.heap = h0 := by rw [← hh, Bd.state]; rfl
  have N0 := Fr.nil n0
  have K0 := Keep.refl h0 []
  have hS0 : s.Since s.vm h0.size := (State.WarmedH.refl s).since _
  have hk0 := Nat.le_refl h0.size
  have C0 : CHr Z consts_1 s.vm h0 s.vm h0 := CHr.refl H0
  have ef : entryFrame m #[(.int n), (.int a), (.int b)] 3 = mkF m 0 #[.val (.int n), .val (.int a), .val (.int b)] [] := (by first | (simp [entryFrame, mkF, argsToLocals, Value.category]; done) | rfl : entryFrame m #[(.int n), (.int a), (.int b)] 3 = mkF m 0 #[.val (.int n), .val (.int a), .val (.int b)] [])
  rw [ef]
  refine fin_of fun Kx hF => ?_
  show Go p.tables e below Kx s₁ (mkF m 0 #[.val (.int n), .val (.int a), .val (.int b)] [])
  refine s_iloadN (pc' := 1) X0.here hx (hb hby d_m2_0) rfl rfl ?_
  by_cases hc22 : n = (0 : Int32)
  · skip
    refine s_ifN (pc' := 4) X0.here hx (hb hby d_m2_1) rfl ((if0 _ _).trans (teq hc22).2) ?_
    obtain ⟨T23, h23, X23, e23, E23, A23, D23, -, st23⟩ := newO X0 hx hZ hown (hw _ (List.mem_of_getElem? (i := 4) rfl)) (hw _ (List.mem_of_getElem? (i := 5) rfl)) (hw _ (List.mem_of_getElem? (i := 6) rfl)) e0 (g := (mkF m 4 #[.val (.int n), .val (.int a), .val (.int b)] [])) rfl (hb hby d_m2_4) (by decide) (by decide)
    obtain ⟨b23, g23⟩ : ∃ z, z = h0.size := ⟨_, rfl⟩
    rw [← g23] at A23 D23 st23
    have sz23 : h0.size ≤ b23 := Nat.le_trans K0.1 (Nat.le_of_eq g23.symm)
    have ge23 : n0 ≤ b23 := Nat.le_trans (X00.1 ▸ X00.2.1) (Nat.le_of_eq g23.symm)
    have sn23 : Safe Z consts_1 s.vm h0 b23 := Safe.new (Nat.le_of_eq g23.symm)
    have K23 : Keep h0 h23 [] := K0.ext E23
    have O23 : Old Z n0 h23 := X00.ext E23
    have sf24 : Safe Z consts_1 s.vm h23 b23 := (Safe.ext E23 H0 sn23)
    have H23 : CHv Z consts_1 s.vm h23 := H0.ext E23
    have C23 : CHr Z consts_1 s.vm h0 s.vm h23 := C0.trans (CHr.ext E23 H0)
    have hk23 := Nat.le_trans hk0 E23.1
    have F23_coder : Fld Z h23 b23 "java/lang/String" "coder" "B" (.int (0 : Int32)) := D23 (Or.inr (hw _ (List.mem_of_getElem? (i := 31) rfl))) (ty := .byte) (by decide)
    have F23_value : Fld Z h23 b23 "java/lang/String" "value" "[B" .null := D23 (Or.inr (hw _ (List.mem_of_getElem? (i := 33) rfl))) (ty := (.array .byte)) (by decide)
    refine Go.st st23 ?_
    show Go p.tables e below Kx T23 (mkF m 7 #[.val (.int n), .val (.int a), .val (.int b)] [(.ref b23)])
    refine s_dup (pc' := 8) X23.here hx (hb hby d_m2_7) rfl rfl ?_
    refine s_iconst (pc' := 9) (v := (0 : Int32)) X23.here hx (hb hby d_m2_8) rfl rfl ?_
    obtain ⟨T25, h25, k25, X25, e25, E25, A25, st25⟩ := newP X23 hx hZ (hw _ (List.mem_of_getElem? (i := 7) rfl)) e23 (g := (mkF m 9 #[.val (.int n), .val (.int a), .val (.int b)] [(.int (0 : Int32)), (.ref b23), (.ref b23)])) rfl (hb hby d_m2_9) rfl (by decide) (cap := 0) (by decide) (by decide) (by decide) (by decide)
    obtain ⟨b25, g25⟩ : ∃ z, z = h23.size := ⟨_, rfl⟩
    rw [← g25] at A25 st25
    have sz25 : h0.size ≤ b25 := Nat.le_trans K23.1 (Nat.le_of_eq g25.symm)
    have ge25 : n0 ≤ b25 := Nat.le_trans (O23.1 ▸ O23.2.1) (Nat.le_of_eq g25.symm)
    have sn25 : Safe Z consts_1 s.vm h23 b25 := Safe.new (Nat.le_of_eq g25.symm)
    have K25 : Keep h0 h25 [] := K23.ext E25
    have O25 : Old Z n0 h25 := O23.ext E25
    have sf26 : Safe Z consts_1 s.vm h25 b23 := (Safe.ext E25 H23 sf24)
    have sf27 : Safe Z consts_1 s.vm h25 b25 := (Safe.ext E25 H23 sn25)
    have H25 : CHv Z consts_1 s.vm h25 := H23.ext E25
    have C25 : CHr Z consts_1 s.vm h0 s.vm h25 := C23.trans (CHr.ext E25 H23)
    have hk25 := Nat.le_trans hk23 E25.1
    have V25 : Arv Z h25 b25 k25 .char (0 : Int32) [] (.int (0 : Int32)) := (Arv.new A25 (by decide)).pad (pad_rep [] (.int (0 : Int32)) 0)
    refine Go.st st25 ?_
    show Go p.tables e below Kx T25 (mkF m 11 #[.val (.int n), .val (.int a), .val (.int b)] [(.ref b25), (.ref b23), (.ref b23)])
    have f28 : Exa Z h25 b23 "java/lang/String" := (A23.ext E25)
    have f29 : Fld Z h25 b23 "java/lang/String" "value" "[B" .null := (F23_value.ext E25)
    have f30 : Fld Z h25 b23 "java/lang/String" "coder" "B" (.int (0 : Int32)) := (F23_coder.ext E25)
    obtain ⟨_, _, ⟨T31, L31, k31, n31⟩, -, X31, hS'31, hg'31, ⟨Lc31, hQ31, l31, y31, z31, Cr31⟩, st31⟩ := X25.specialBackS hx (y := (⟨"java/lang/String", "<init>", "([C)V"⟩ : MethodName)) rfl hown (mvT hZ (hw _ (List.mem_of_getElem? (i := 8) rfl))) (mvT hZ (hw _ (List.mem_of_getElem? (i := 9) rfl))) (mvT hZ (hw _ (List.mem_of_getElem? (i := 10) rfl))) (by decide) (backX (W := 1) (rmE2 l Z a0 hw [] b23 b25 k25 h25 n0 O25 hEL wS ge23 f28 f29 f30 V25) hZ (hw _ (List.mem_of_getElem? (i := 10) rfl)) (hw _ (List.mem_of_getElem? (i := 6) rfl)) (by decide) (by decide) hEL H25 (allS (P := fun zz => zz < h25.size ∧ Safe Z consts_1 s.vm h25 zz) ⟨(Nat.lt_of_lt_of_le A23.lt E25.1), sf26⟩ all0)) (g := (mkF m 11 #[.val (.int n), .val (.int a), .val (.int b)] [(.ref b25), (.ref b23), (.ref b23)])) rfl (by rw [hml]; rfl) (Steps.refl _) (a := b23) (argsL := [(.ref b25)]) (rest := [(.ref b23)]) (lenOf pd_1 rfl) rfl (by show 2 * 0 + _ ≤ _; exact Nat.le_of_eq rfl) (hb hby d_m2_11) (fun _ _ => ⟨rfl, e25, (by decide : 2 + 4 ≤ _), (by decide : 4 + 8 ≤ _)⟩)
    dsimp only [Pt.U, Pt.locs, Pt.cells, Pt.slots] at X31 l31 y31 z31 st31 hQ31 hS'31 hg'31 Cr31
    subst l31 y31 z31
    obtain ⟨rfl, Nq31, Kq31, q1_31, q2_31, t31, kt31, q3_31, q4_31⟩ := hQ31
    have N31 := Fr.app N0 Nq31
    have X31 : Stand p l e _ (s.setVm T31.vm) m _ below meth c T31 _ _ _ := X31
    obtain ⟨hZ31, hown31⟩ := wideOn hZ hS'31 hown
    have hS31 : s.Since T31.vm T31.heap.size := hS0.trans hS'31 (Nat.le_trans hk25 (by rw [e25] at hg'31; exact hg'31))
    have hk31 := Nat.le_refl T31.heap.size
    have sf32 : Safe Z consts_1 T31.vm T31.heap b23 := Cr31.safe (Nat.lt_of_lt_of_le A23.lt E25.1) sf26
    have sf33 : Safe Z consts_1 T31.vm T31.heap b25 := Cr31.safe A25.lt sf27
    have C31 := C25.trans Cr31
    have K31 : Keep h0 T31.heap [] := K25.trans Kq31 (allS (P := fun zz => zz ∈ [] ∨ h0.size ≤ zz) (Or.inr sz23) all0)
    have O31 : Old Z n0 T31.heap := O25.keep Kq31 (allS ge23 all0)
    refine Go.tr st31 ?_
    show Go p.tables e below Kx T31 (mkF m 14 #[.val (.int n), .val (.int a), .val (.int b)] [(.ref b23)])
    have St31 : Str Z T31.heap T31.heap.size b23 [] := Str.of q1_31 q2_31 q3_31 (bs := []) q4_31 rfl rfl (fun _ hc => nomatch hc) (by decide)
    obtain ⟨fs, hr, hrun, hended, hRW⟩ := X31.leaveW hS31 hk31 (v := (some (.ref b23))) (fun h => by rw [Bd.returns] at h; cases h)
    have hCx := C31.trans (CHv.at X31 hZ31 hEL Cr31.1)
    refine Go.fin (retOut X31 hx Bd.returns rfl (Or.inr (Or.inr (Or.inr (Or.inr ⟨rfl, rfl, rfl⟩)))) (hb hby d_m2_14) hr) (hF _ _ hrun hended ⟨_, _, rfl, ?_, ?_, hRW.1, hRW.2.1, hRW.2.2.1, hRW.2.2.2.mono (by decide) (by decide)⟩)
    · show QM Z n a b h0 n0 ((some (.ref b23)) : Option Value) T31.heap _
      skip
      exact ⟨b23, rfl, N31, K31, by rw [chars, if_pos hc22]; exact St31⟩
    · show CHr Z consts_1 s.vm s.heap T31.vm T31.heap
      rw [hh]; exact hCx
  · skip
    refine s_ifY (pc' := 15) X0.here hx (hb hby d_m2_1) ((if0 _ _).trans (feq hc22).2) (by decide) (by decide) ?_
    refine s_iloadN (pc' := 16) X0.here hx (hb hby d_m2_15) rfl rfl ?_
    refine s_iconst (pc' := 17) (v := (1 : Int32)) X0.here hx (hb hby d_m2_16) rfl rfl ?_
    by_cases hc34 : n = (1 : Int32)
    · skip
      refine s_icmpN (pc' := 20) X0.here hx (hb hby d_m2_17) rfl (teq hc34).2 ?_
      obtain ⟨T35, h35, X35, e35, E35, A35, D35, -, st35⟩ := newO X0 hx hZ hown (hw _ (List.mem_of_getElem? (i := 4) rfl)) (hw _ (List.mem_of_getElem? (i := 5) rfl)) (hw _ (List.mem_of_getElem? (i := 6) rfl)) e0 (g := (mkF m 20 #[.val (.int n), .val (.int a), .val (.int b)] [])) rfl (hb hby d_m2_20) (by decide) (by decide)
      obtain ⟨b35, g35⟩ : ∃ z, z = h0.size := ⟨_, rfl⟩
      rw [← g35] at A35 D35 st35
      have sz35 : h0.size ≤ b35 := Nat.le_trans K0.1 (Nat.le_of_eq g35.symm)
      have ge35 : n0 ≤ b35 := Nat.le_trans (X00.1 ▸ X00.2.1) (Nat.le_of_eq g35.symm)
      have sn35 : Safe Z consts_1 s.vm h0 b35 := Safe.new (Nat.le_of_eq g35.symm)
      have K35 : Keep h0 h35 [] := K0.ext E35
      have O35 : Old Z n0 h35 := X00.ext E35
      have sf36 : Safe Z consts_1 s.vm h35 b35 := (Safe.ext E35 H0 sn35)
      have H35 : CHv Z consts_1 s.vm h35 := H0.ext E35
      have C35 : CHr Z consts_1 s.vm h0 s.vm h35 := C0.trans (CHr.ext E35 H0)
      have hk35 := Nat.le_trans hk0 E35.1
      have F35_coder : Fld Z h35 b35 "java/lang/String" "coder" "B" (.int (0 : Int32)) := D35 (Or.inr (hw _ (List.mem_of_getElem? (i := 31) rfl))) (ty := .byte) (by decide)
      have F35_value : Fld Z h35 b35 "java/lang/String" "value" "[B" .null := D35 (Or.inr (hw _ (List.mem_of_getElem? (i := 33) rfl))) (ty := (.array .byte)) (by decide)
      refine Go.st st35 ?_
      show Go p.tables e below Kx T35 (mkF m 23 #[.val (.int n), .val (.int a), .val (.int b)] [(.ref b35)])
      refine s_dup (pc' := 24) X35.here hx (hb hby d_m2_23) rfl rfl ?_
      refine s_iconst (pc' := 25) (v := (1 : Int32)) X35.here hx (hb hby d_m2_24) rfl rfl ?_
      obtain ⟨T37, h37, k37, X37, e37, E37, A37, st37⟩ := newP X35 hx hZ (hw _ (List.mem_of_getElem? (i := 7) rfl)) e35 (g := (mkF m 25 #[.val (.int n), .val (.int a), .val (.int b)] [(.int (1 : Int32)), (.ref b35), (.ref b35)])) rfl (hb hby d_m2_25) rfl (by decide) (cap := 1) (by decide) (by decide) (by decide) (by decide)
      obtain ⟨b37, g37⟩ : ∃ z, z = h35.size := ⟨_, rfl⟩
      rw [← g37] at A37 st37
      have sz37 : h0.size ≤ b37 := Nat.le_trans K35.1 (Nat.le_of_eq g37.symm)
      have ge37 : n0 ≤ b37 := Nat.le_trans (O35.1 ▸ O35.2.1) (Nat.le_of_eq g37.symm)
      have sn37 : Safe Z consts_1 s.vm h35 b37 := Safe.new (Nat.le_of_eq g37.symm)
      have K37 : Keep h0 h37 [] := K35.ext E37
      have O37 : Old Z n0 h37 := O35.ext E37
      have sf38 : Safe Z consts_1 s.vm h37 b35 := (Safe.ext E37 H35 sf36)
      have sf39 : Safe Z consts_1 s.vm h37 b37 := (Safe.ext E37 H35 sn37)
      have H37 : CHv Z consts_1 s.vm h37 := H35.ext E37
      have C37 : CHr Z consts_1 s.vm h0 s.vm h37 := C35.trans (CHr.ext E37 H35)
      have hk37 := Nat.le_trans hk35 E37.1
      have V37 : Arv Z h37 b37 k37 .char (1 : Int32) [(.int (0 : Int32))] (.int (0 : Int32)) := (Arv.new A37 (by decide)).pad (pad_rep [] (.int (0 : Int32)) 1)
      refine Go.st st37 ?_
      show Go p.tables e below Kx T37 (mkF m 27 #[.val (.int n), .val (.int a), .val (.int b)] [(.ref b37), (.ref b35), (.ref b35)])
      refine s_dup (pc' := 28) X37.here hx (hb hby d_m2_27) rfl rfl ?_
      refine s_iconst (pc' := 29) (v := (0 : Int32)) X37.here hx (hb hby d_m2_28) rfl rfl ?_
      refine s_iloadN (pc' := 30) X37.here hx (hb hby d_m2_29) rfl rfl ?_
      obtain ⟨cl40, Ar40, Aq40, As40, An40, Ah40, Ag40⟩ := id V37
      have in41 := inb_of (j := (0 : Int32)) As40 (by decide)
      obtain ⟨T41, h41, X41, e41, W41, st41⟩ := stC X37 hx hZ e37 Ar40 (j := (0 : Int32)) in41 (g := (mkF m 30 #[.val (.int n), .val (.int a), .val (.int b)] [(.int a), (.int (0 : Int32)), (.ref b37), (.ref b37), (.ref b35), (.ref b35)])) rfl rfl (hb hby d_m2_30)
      have V41 : Arv Z h41 b37 k37 .char (1 : Int32) [(.int a)] (.int (0 : Int32)) := by
        have q := Arv.set Ar40 Aq40 As40 An40 Ah40 Ag40 (fits_nar_char _) W41 0 rfl (Nat.le_of_ble_eq_true rfl)
        rw [chr_nar hca] at q; exact q
      have K41 : Keep h0 h41 [] := K37.wr W41 (Or.inr sz37)
      have O41 : Old Z n0 h41 := O37.wr W41 ge37
      have sf42 : Safe Z consts_1 s.vm h41 b35 := (Safe.wr W41 sf39 H37 sf38)
      have sf43 : Safe Z consts_1 s.vm h41 b37 := (Safe.wr W41 sf39 H37 sf39)
      have H41 : CHv Z consts_1 s.vm h41 := H37.wr W41 sf39
      have C41 : CHr Z consts_1 s.vm h0 s.vm h41 := C37.trans (CHr.wr W41 sf39 H37)
      have hk41 := Nat.le_trans hk37 (Nat.le_of_eq W41.size.symm)
      have N41 := Fr.snoc X41 N0 ge37
      refine Go.st st41 ?_
      show Go p.tables e below Kx T41 (mkF m 31 #[.val (.int n), .val (.int a), .val (.int b)] [(.ref b37), (.ref b35), (.ref b35)])
      have f44 : Exa Z h41 b35 "java/lang/String" := ((A35.ext E37).wr W41)
      have f45 : Fld Z h41 b35 "java/lang/String" "value" "[B" .null := ((F35_value.ext E37).other W41 (Or.inl (Nat.ne_of_lt (Nat.lt_of_lt_of_le A35.lt (Nat.le_of_eq g37.symm)))))
      have f46 : Fld Z h41 b35 "java/lang/String" "coder" "B" (.int (0 : Int32)) := ((F35_coder.ext E37).other W41 (Or.inl (Nat.ne_of_lt (Nat.lt_of_lt_of_le A35.lt (Nat.le_of_eq g37.symm)))))
      have hp47 : ∀ c ∈ ([a] : List Int32), ¬ c < 0 ∧ ¬ (255 : Int32) < c := by
        intro c hc
        simp only [List.mem_cons, List.not_mem_nil, or_false] at hc
        rcases hc with rfl
        · exact hca
      obtain ⟨_, _, ⟨T48, L48, k48, n48⟩, -, X48, ⟨Lc48, hQ48, l48, y48, z48⟩, st48⟩ := X41.specialBack hx (y := (⟨"java/lang/String", "<init>", "([C)V"⟩ : MethodName)) rfl hown (mvT hZ (hw _ (List.mem_of_getElem? (i := 8) rfl))) (mvT hZ (hw _ (List.mem_of_getElem? (i := 9) rfl))) (mvT hZ (hw _ (List.mem_of_getElem? (i := 10) rfl))) (by decide) (StrChars.Road.backV (W := 1) hZ (hwsV Z a0 hw) (kI := 4) (hw _ (List.mem_of_getElem? (i := 5) rfl)) (cs := [a]) (bs := ([a] : List Int32).map (fun c => c.toInt8.toInt32)) (n := 1) ge35 (O41.1 ▸ O41.2.1) f44 f45 f46 V41 (S1.ext O41.2) P1 rfl rfl (by decide) (by decide) hp47 rfl (by decide) (by decide)) (g := (mkF m 31 #[.val (.int n), .val (.int a), .val (.int b)] [(.ref b37), (.ref b35), (.ref b35)])) rfl (by rw [hml]; rfl) (Steps.refl _) (a := b35) (argsL := [(.ref b37)]) (rest := [(.ref b35)]) (lenOf pd_1 rfl) rfl (by show 2 * 0 + _ ≤ _; exact Nat.le_of_eq rfl) (hb hby d_m2_31) (fun _ _ => ⟨rfl, e41, (by decide : 2 + 1 ≤ _), (by decide : 5 + 1 ≤ _)⟩)
      dsimp only [Pt.U, Pt.locs, Pt.cells, Pt.slots] at X48 l48 y48 z48 st48 hQ48
      subst l48 y48 z48
      obtain ⟨rfl, Nq48, Kq48, q1_48, q2_48, t48, kt48, -, -, -, q3_48, q4_48⟩ := hQ48
      have N48 := Fr.app N41 Nq48
      have K48 : Keep h0 T48.heap [] := K41.trans Kq48 (allS (P := fun zz => zz ∈ [] ∨ h0.size ≤ zz) (Or.inr sz35) all0)
      have O48 : Old Z n0 T48.heap := O41.keep Kq48 (allS ge35 all0)
      have sf49 : Safe Z consts_1 s.vm T48.heap b35 := (Safe.keep Kq48 (sfS sf42 sf0) H41 sf42)
      have sf50 : Safe Z consts_1 s.vm T48.heap b37 := (Safe.keep Kq48 (sfS sf42 sf0) H41 sf43)
      have H48 : CHv Z consts_1 s.vm T48.heap := H41.keep Kq48 (sfS sf42 sf0)
      have C48 : CHr Z consts_1 s.vm h0 s.vm T48.heap := C41.trans (CHr.keep Kq48 (sfS sf42 sf0) H41)
      have hk48 := Nat.le_trans hk41 Kq48.1
      refine Go.tr st48 ?_
      show Go p.tables e below Kx T48 (mkF m 34 #[.val (.int n), .val (.int a), .val (.int b)] [(.ref b35)])
      have St48 : Str Z T48.heap T48.heap.size b35 [a] := Str.of q1_48 q2_48 q3_48 q4_48 rfl rfl hp47 (Nat.le_of_ble_eq_true rfl)
      obtain ⟨fs, hr, hrun, hended, hRW⟩ := X48.leaveW hS0 hk48 (v := (some (.ref b35))) (fun h => by rw [Bd.returns] at h; cases h)
      have hCx := C48.trans (CHv.at X48 hZ hEL H48)
      refine Go.fin (retOut X48 hx Bd.returns rfl (Or.inr (Or.inr (Or.inr (Or.inr ⟨rfl, rfl, rfl⟩)))) (hb hby d_m2_34) hr) (hF _ _ hrun hended ⟨_, _, rfl, ?_, ?_, hRW.1, hRW.2.1, hRW.2.2.1, hRW.2.2.2.mono (by decide) (by decide)⟩)
      · show QM Z n a b h0 n0 ((some (.ref b35)) : Option Value) T48.heap _
        skip
        exact ⟨b35, rfl, N48, K48, by rw [chars, if_neg hc22, if_pos hc34]; exact St48⟩
      · show CHr Z consts_1 s.vm s.heap T48.vm T48.heap
        rw [hh]; exact hCx
    · skip
      refine s_icmpY (pc' := 35) X0.here hx (hb hby d_m2_17) (feq hc34).2 (by decide) (by decide) ?_
      obtain ⟨T51, h51, X51, e51, E51, A51, D51, -, st51⟩ := newO X0 hx hZ hown (hw _ (List.mem_of_getElem? (i := 4) rfl)) (hw _ (List.mem_of_getElem? (i := 5) rfl)) (hw _ (List.mem_of_getElem? (i := 6) rfl)) e0 (g := (mkF m 35 #[.val (.int n), .val (.int a), .val (.int b)] [])) rfl (hb hby d_m2_35) (by decide) (by decide)
      obtain ⟨b51, g51⟩ : ∃ z, z = h0.size := ⟨_, rfl⟩
      rw [← g51] at A51 D51 st51
      have sz51 : h0.size ≤ b51 := Nat.le_trans K0.1 (Nat.le_of_eq g51.symm)
      have ge51 : n0 ≤ b51 := Nat.le_trans (X00.1 ▸ X00.2.1) (Nat.le_of_eq g51.symm)
      have sn51 : Safe Z consts_1 s.vm h0 b51 := Safe.new (Nat.le_of_eq g51.symm)
      have K51 : Keep h0 h51 [] := K0.ext E51
      have O51 : Old Z n0 h51 := X00.ext E51
      have sf52 : Safe Z consts_1 s.vm h51 b51 := (Safe.ext E51 H0 sn51)
      have H51 : CHv Z consts_1 s.vm h51 := H0.ext E51
      have C51 : CHr Z consts_1 s.vm h0 s.vm h51 := C0.trans (CHr.ext E51 H0)
      have hk51 := Nat.le_trans hk0 E51.1
      have F51_coder : Fld Z h51 b51 "java/lang/String" "coder" "B" (.int (0 : Int32)) := D51 (Or.inr (hw _ (List.mem_of_getElem? (i := 31) rfl))) (ty := .byte) (by decide)
      have F51_value : Fld Z h51 b51 "java/lang/String" "value" "[B" .null := D51 (Or.inr (hw _ (List.mem_of_getElem? (i := 33) rfl))) (ty := (.array .byte)) (by decide)
      refine Go.st st51 ?_
      show Go p.tables e below Kx T51 (mkF m 38 #[.val (.int n), .val (.int a), .val (.int b)] [(.ref b51)])
      refine s_dup (pc' := 39) X51.here hx (hb hby d_m2_38) rfl rfl ?_
      refine s_iconst (pc' := 40) (v := (2 : Int32)) X51.here hx (hb hby d_m2_39) rfl rfl ?_
      obtain ⟨T53, h53, k53, X53, e53, E53, A53, st53⟩ := newP X51 hx hZ (hw _ (List.mem_of_getElem? (i := 7) rfl)) e51 (g := (mkF m 40 #[.val (.int n), .val (.int a), .val (.int b)] [(.int (2 : Int32)), (.ref b51), (.ref b51)])) rfl (hb hby d_m2_40) rfl (by decide) (cap := 2) (by decide) (by decide) (by decide) (by decide)
      obtain ⟨b53, g53⟩ : ∃ z, z = h51.size := ⟨_, rfl⟩
      rw [← g53] at A53 st53
      have sz53 : h0.size ≤ b53 := Nat.le_trans K51.1 (Nat.le_of_eq g53.symm)
      have ge53 : n0 ≤ b53 := Nat.le_trans (O51.1 ▸ O51.2.1) (Nat.le_of_eq g53.symm)
      have sn53 : Safe Z consts_1 s.vm h51 b53 := Safe.new (Nat.le_of_eq g53.symm)
      have K53 : Keep h0 h53 [] := K51.ext E53
      have O53 : Old Z n0 h53 := O51.ext E53
      have sf54 : Safe Z consts_1 s.vm h53 b51 := (Safe.ext E53 H51 sf52)
      have sf55 : Safe Z consts_1 s.vm h53 b53 := (Safe.ext E53 H51 sn53)
      have H53 : CHv Z consts_1 s.vm h53 := H51.ext E53
      have C53 : CHr Z consts_1 s.vm h0 s.vm h53 := C51.trans (CHr.ext E53 H51)
      have hk53 := Nat.le_trans hk51 E53.1
      have V53 : Arv Z h53 b53 k53 .char (2 : Int32) [(.int (0 : Int32)), (.int (0 : Int32))] (.int (0 : Int32)) := (Arv.new A53 (by decide)).pad (pad_rep [] (.int (0 : Int32)) 2)
      refine Go.st st53 ?_
      show Go p.tables e below Kx T53 (mkF m 42 #[.val (.int n), .val (.int a), .val (.int b)] [(.ref b53), (.ref b51), (.ref b51)])
      refine s_dup (pc' := 43) X53.here hx (hb hby d_m2_42) rfl rfl ?_
      refine s_iconst (pc' := 44) (v := (0 : Int32)) X53.here hx (hb hby d_m2_43) rfl rfl ?_
      refine s_iloadN (pc' := 45) X53.here hx (hb hby d_m2_44) rfl rfl ?_
      obtain ⟨cl56, Ar56, Aq56, As56, An56, Ah56, Ag56⟩ := id V53
      have in57 := inb_of (j := (0 : Int32)) As56 (by decide)
      obtain ⟨T57, h57, X57, e57, W57, st57⟩ := stC X53 hx hZ e53 Ar56 (j := (0 : Int32)) in57 (g := (mkF m 45 #[.val (.int n), .val (.int a), .val (.int b)] [(.int a), (.int (0 : Int32)), (.ref b53), (.ref b53), (.ref b51), (.ref b51)])) rfl rfl (hb hby d_m2_45)
      have V57 : Arv Z h57 b53 k53 .char (2 : Int32) [(.int a), (.int (0 : Int32))] (.int (0 : Int32)) := by
        have q := Arv.set Ar56 Aq56 As56 An56 Ah56 Ag56 (fits_nar_char _) W57 0 rfl (Nat.le_of_ble_eq_true rfl)
        rw [chr_nar hca] at q; exact q
      have K57 : Keep h0 h57 [] := K53.wr W57 (Or.inr sz53)
      have O57 : Old Z n0 h57 := O53.wr W57 ge53
      have sf58 : Safe Z consts_1 s.vm h57 b51 := (Safe.wr W57 sf55 H53 sf54)
      have sf59 : Safe Z consts_1 s.vm h57 b53 := (Safe.wr W57 sf55 H53 sf55)
      have H57 : CHv Z consts_1 s.vm h57 := H53.wr W57 sf55
      have C57 : CHr Z consts_1 s.vm h0 s.vm h57 := C53.trans (CHr.wr W57 sf55 H53)
      have hk57 := Nat.le_trans hk53 (Nat.le_of_eq W57.size.symm)
      have N57 := Fr.snoc X57 N0 ge53
      refine Go.st st57 ?_
      show Go p.tables e below Kx T57 (mkF m 46 #[.val (.int n), .val (.int a), .val (.int b)] [(.ref b53), (.ref b51), (.ref b51)])
      refine s_dup (pc' := 47) X57.here hx (hb hby d_m2_46) rfl rfl ?_
      refine s_iconst (pc' := 48) (v := (1 : Int32)) X57.here hx (hb hby d_m2_47) rfl rfl ?_
      refine s_iloadN (pc' := 49) X57.here hx (hb hby d_m2_48) rfl rfl ?_
      obtain ⟨cl60, Ar60, Aq60, As60, An60, Ah60, Ag60⟩ := id V57
      have in61 := inb_of (j := (1 : Int32)) As60 (by decide)
      obtain ⟨T61, h61, X61, e61, W61, st61⟩ := stC X57 hx hZ e57 Ar60 (j := (1 : Int32)) in61 (g := (mkF m 49 #[.val (.int n), .val (.int a), .val (.int b)] [(.int b), (.int (1 : Int32)), (.ref b53), (.ref b53), (.ref b51), (.ref b51)])) rfl rfl (hb hby d_m2_49)
      have V61 : Arv Z h61 b53 k53 .char (2 : Int32) [(.int a), (.int b)] (.int (0 : Int32)) := by
        have q := Arv.set Ar60 Aq60 As60 An60 Ah60 Ag60 (fits_nar_char _) W61 1 rfl (Nat.le_of_ble_eq_true rfl)
        rw [chr_nar hcb] at q; exact q
      have K61 : Keep h0 h61 [] := K57.wr W61 (Or.inr sz53)
      have O61 : Old Z n0 h61 := O57.wr W61 ge53
      have sf62 : Safe Z consts_1 s.vm h61 b51 := (Safe.wr W61 sf59 H57 sf58)
      have sf63 : Safe Z consts_1 s.vm h61 b53 := (Safe.wr W61 sf59 H57 sf59)
      have H61 : CHv Z consts_1 s.vm h61 := H57.wr W61 sf59
      have C61 : CHr Z consts_1 s.vm h0 s.vm h61 := C57.trans (CHr.wr W61 sf59 H57)
      have hk61 := Nat.le_trans hk57 (Nat.le_of_eq W61.size.symm)
      have N61 := Fr.snoc X61 N57 ge53
      refine Go.st st61 ?_
      show Go p.tables e below Kx T61 (mkF m 50 #[.val (.int n), .val (.int a), .val (.int b)] [(.ref b53), (.ref b51), (.ref b51)])
      have f64 : Exa Z h61 b51 "java/lang/String" := (((A51.ext E53).wr W57).wr W61)
      have f65 : Fld Z h61 b51 "java/lang/String" "value" "[B" .null := (((F51_value.ext E53).other W57 (Or.inl (Nat.ne_of_lt (Nat.lt_of_lt_of_le A51.lt (Nat.le_of_eq g53.symm))))).other W61 (Or.inl (Nat.ne_of_lt (Nat.lt_of_lt_of_le A51.lt (Nat.le_of_eq g53.symm)))))
      have f66 : Fld Z h61 b51 "java/lang/String" "coder" "B" (.int (0 : Int32)) := (((F51_coder.ext E53).other W57 (Or.inl (Nat.ne_of_lt (Nat.lt_of_lt_of_le A51.lt (Nat.le_of_eq g53.symm))))).other W61 (Or.inl (Nat.ne_of_lt (Nat.lt_of_lt_of_le A51.lt (Nat.le_of_eq g53.symm)))))
      have hp67 : ∀ c ∈ ([a, b] : List Int32), ¬ c < 0 ∧ ¬ (255 : Int32) < c := by
        intro c hc
        simp only [List.mem_cons, List.not_mem_nil, or_false] at hc
        rcases hc with rfl | rfl
        · exact hca
        · exact hcb
      obtain ⟨_, _, ⟨T68, L68, k68, n68⟩, -, X68, ⟨Lc68, hQ68, l68, y68, z68⟩, st68⟩ := X61.specialBack hx (y := (⟨"java/lang/String", "<init>", "([C)V"⟩ : MethodName)) rfl hown (mvT hZ (hw _ (List.mem_of_getElem? (i := 8) rfl))) (mvT hZ (hw _ (List.mem_of_getElem? (i := 9) rfl))) (mvT hZ (hw _ (List.mem_of_getElem? (i := 10) rfl))) (by decide) (StrChars.Road.backV (W := 1) hZ (hwsV Z a0 hw) (kI := 4) (hw _ (List.mem_of_getElem? (i := 5) rfl)) (cs := [a, b]) (bs := ([a, b] : List Int32).map (fun c => c.toInt8.toInt32)) (n := 2) ge51 (O61.1 ▸ O61.2.1) f64 f65 f66 V61 (S1.ext O61.2) P1 rfl rfl (by decide) (by decide) hp67 rfl (by decide) (by decide)) (g := (mkF m 50 #[.val (.int n), .val (.int a), .val (.int b)] [(.ref b53), (.ref b51), (.ref b51)])) rfl (by rw [hml]; rfl) (Steps.refl _) (a := b51) (argsL := [(.ref b53)]) (rest := [(.ref b51)]) (lenOf pd_1 rfl) rfl (by show 2 * 0 + _ ≤ _; exact Nat.le_of_eq rfl) (hb hby d_m2_50) (fun _ _ => ⟨rfl, e61, (by decide : 2 + 1 ≤ _), (by decide : 6 + 2 ≤ _)⟩)
      dsimp only [Pt.U, Pt.locs, Pt.cells, Pt.slots] at X68 l68 y68 z68 st68 hQ68
      subst l68 y68 z68
      obtain ⟨rfl, Nq68, Kq68, q1_68, q2_68, t68, kt68, -, -, -, q3_68, q4_68⟩ := hQ68
      have N68 := Fr.app N61 Nq68
      have K68 : Keep h0 T68.heap [] := K61.trans Kq68 (allS (P := fun zz => zz ∈ [] ∨ h0.size ≤ zz) (Or.inr sz51) all0)
      have O68 : Old Z n0 T68.heap := O61.keep Kq68 (allS ge51 all0)
      have sf69 : Safe Z consts_1 s.vm T68.heap b51 := (Safe.keep Kq68 (sfS sf62 sf0) H61 sf62)
      have sf70 : Safe Z consts_1 s.vm T68.heap b53 := (Safe.keep Kq68 (sfS sf62 sf0) H61 sf63)
      have H68 : CHv Z consts_1 s.vm T68.heap := H61.keep Kq68 (sfS sf62 sf0)
      have C68 : CHr Z consts_1 s.vm h0 s.vm T68.heap := C61.trans (CHr.keep Kq68 (sfS sf62 sf0) H61)
      have hk68 := Nat.le_trans hk61 Kq68.1
      refine Go.tr st68 ?_
      show Go p.tables e below Kx T68 (mkF m 53 #[.val (.int n), .val (.int a), .val (.int b)] [(.ref b51)])
      have St68 : Str Z T68.heap T68.heap.size b51 [a, b] := Str.of q1_68 q2_68 q3_68 q4_68 rfl rfl hp67 (Nat.le_of_ble_eq_true rfl)
      obtain ⟨fs, hr, hrun, hended, hRW⟩ := X68.leaveW hS0 hk68 (v := (some (.ref b51))) (fun h => by rw [Bd.returns] at h; cases h)
      have hCx := C68.trans (CHv.at X68 hZ hEL H68)
      refine Go.fin (retOut X68 hx Bd.returns rfl (Or.inr (Or.inr (Or.inr (Or.inr ⟨rfl, rfl, rfl⟩)))) (hb hby d_m2_53) hr) (hF _ _ hrun hended ⟨_, _, rfl, ?_, ?_, hRW.1, hRW.2.1, hRW.2.2.1, hRW.2.2.2.mono (by decide) (by decide)⟩)
      · show QM Z n a b h0 n0 ((some (.ref b51)) : Option Value) T68.heap _
        skip
        exact ⟨b51, rfl, N68, K68, by rw [chars, if_neg hc22, if_neg hc34]; exact St68⟩
      · show CHr Z consts_1 s.vm s.heap T68.vm T68.heap
        rw [hh]; exact hCx
theorem pn_2 : plainName "com/example/data_roles/dataroles/policy/Condition" = true := by first | (simp [plainName, overriddenIn]; done) | decide +kernel
theorem d_prog_11_m1_0 : decode prog_11_method_1_code 0 = .ok (.aload_n 0, 1) := by decide +kernel
theorem d_prog_11_m1_1 : decode prog_11_method_1_code 1 = .ok (.invokespecial 1, 3) := by decide +kernel
theorem d_prog_11_m1_4 : decode prog_11_method_1_code 4 = .ok (.aload_n 0, 1) := by decide +kernel
theorem d_prog_11_m1_5 : decode prog_11_method_1_code 5 = .ok (.aload_n 1, 1) := by decide +kernel
theorem d_prog_11_m1_6 : decode prog_11_method_1_code 6 = .ok (.putfield 7, 3) := by decide +kernel
theorem d_prog_11_m1_9 : decode prog_11_method_1_code 9 = .ok (.aload_n 0, 1) := by decide +kernel
theorem d_prog_11_m1_10 : decode prog_11_method_1_code 10 = .ok (.iload_n 2, 1) := by decide +kernel
theorem d_prog_11_m1_11 : decode prog_11_method_1_code 11 = .ok (.putfield 13, 3) := by decide +kernel
theorem d_prog_11_m1_14 : decode prog_11_method_1_code 14 = .ok (.return_, 1) := by decide +kernel
def QN (Z : State) (a s1 : Addr) (k : Int32) (h0 : Heap) (n0 : Nat) (v : Option Value) (h : Heap) (L : List Loc) : Prop := v = none ∧ Fr n0 L ∧ Keep h0 h [a] ∧ Exa Z h a "com/example/data_roles/dataroles/policy/Condition" ∧ Fld Z h a "com/example/data_roles/dataroles/policy/Condition" "text" "Ljava/lang/String;" (.ref s1) ∧ Fld Z h a "com/example/data_roles/dataroles/policy/Condition" "constraint" "Z" (.int k)
set_option maxRecDepth 65536 in
set_option maxHeartbeats 40000000 in
theorem rmN (l : Launch) (Z : State) (a0 : Array Value) (hw : ∀ d ∈ tables_1, d.before a0 Z = true) (ws : List Jvm.Cond) (a s1 : Addr) (k : Int32) (h0 : Heap) (n0 : Nat) (X00 : Old Z n0 h0) (hk : k = 0 ∨ k = 1) (ge_a : n0 ≤ a) (E : Exa Z h0 a "com/example/data_roles/dataroles/policy/Condition") (F1 : Fld Z h0 a "com/example/data_roles/dataroles/policy/Condition" "text" "Ljava/lang/String;" .null) (F2 : Fld Z h0 a "com/example/data_roles/dataroles/policy/Condition" "constraint" "Z" (.int (0 : Int32))) :
    MetFree l (⟨"com/example/data_roles/dataroles/policy/Condition", "<init>", "(Ljava/lang/String;Z)V"⟩ : MethodName) (head1 (Jvm.Cond.code (⟨"com/example/data_roles/dataroles/policy/Condition", "<init>", "(Ljava/lang/String;Z)V"⟩ : MethodName) prog_11_method_1_code 3 none :: ws) ({ frames := 1, cells := 0, slots := 0, locals := 20 } : Room)) (fun aa U => aa = #[(.ref a), (.ref s1), (.int k)] ∧ Z.Warmed39 U.vm ∧ U.heap = h0) (fun _ _ _ _ _ => True) (fun _ U o U' => ∃ v L, o = .returned v ∧ QN Z a s1 k h0 n0 v U'.heap L ∧ FrameEnd U o U' L ({ frames := 1, cells := 0, slots := 0, locals := 20 } : Room).cells ({ frames := 1, cells := 0, slots := 0, locals := 20 } : Room).slots) := by
  refine MetFree.of_bodySF (plainFor_of_name pn_2) hisR ?_
  intro p e s m args below meth c s₁ Bd hml0 hP hK
  obtain ⟨rfl, hZ, hh⟩ := hP
  have hx := Bd.exec
  have hby := Bd.bytes
  have hml : c.maxLocals = 3 := hml0
  have hown : s.vm.findClass "com/example/data_roles/dataroles/policy/Condition" = some m.cls := findClass_of_methodNamed Bd.named
  have hnm := (name_of_methodNamed Bd.named Bd.method).1
  have X0 : Stand p l e ({ frames := 1, cells := 0, slots := 0, locals := 20 } : Room) s m #[(.ref a), (.ref s1), (.int k)] below meth c s₁ [] 0 0 := Stand.of_body Bd
  have e0 : s₁.heap = h0 := by rw [← hh, Bd.state]; rfl
  have N0 := Fr.nil n0
  have K0 := Keep.refl h0 [a]
  have ef : entryFrame m #[(.ref a), (.ref s1), (.int k)] 3 = mkF m 0 #[.val (.ref a), .val (.ref s1), .val (.int k)] [] := (by first | (simp [entryFrame, mkF, argsToLocals, Value.category]; done) | rfl : entryFrame m #[(.ref a), (.ref s1), (.int k)] 3 = mkF m 0 #[.val (.ref a), .val (.ref s1), .val (.int k)] [])
  rw [ef]
  refine fin_of fun Kx hF => ?_
  show Go p.tables e below Kx s₁ (mkF m 0 #[.val (.ref a), .val (.ref s1), .val (.int k)] [])
  refine s_aloadN (pc' := 1) X0.here hx (hb hby d_prog_11_m1_0) rfl rfl rfl ?_
  obtain ⟨T71, X71, e71, st71⟩ := initO X0 hx hZ hown (hw _ (List.mem_of_getElem? (i := 43) rfl)) (hw _ (List.mem_of_getElem? (i := 16) rfl)) (hw _ (List.mem_of_getElem? (i := 17) rfl)) e0 (g := (mkF m 1 #[.val (.ref a), .val (.ref s1), .val (.int k)] [(.ref a)])) rfl (by rw [hml]; rfl) rfl (hb hby d_prog_11_m1_1) (by decide) (W := 0) (by show 2 * 0 + _ ≤ _; exact Nat.le_of_eq rfl) (by decide)
  refine Go.st st71 ?_
  show Go p.tables e below Kx T71 (mkF m 4 #[.val (.ref a), .val (.ref s1), .val (.int k)] [])
  refine s_aloadN (pc' := 5) X71.here hx (hb hby d_prog_11_m1_4) rfl rfl rfl ?_
  refine s_aloadN (pc' := 6) X71.here hx (hb hby d_prog_11_m1_5) rfl rfl rfl ?_
  obtain ⟨T72, h72, X72, e72, W72, st72⟩ := putF X71 hx hZ hown (host := "") (Or.inl (hw _ (List.mem_of_getElem? (i := 44) rfl))) Via.refl e71 F1 E (Or.inr ⟨(hw _ (List.mem_of_getElem? (i := 45) rfl)), rfl, hnm⟩) (hw _ (List.mem_of_getElem? (i := 38) rfl)) (ty := (.object "java/lang/String")) (by decide) rfl rfl (g := (mkF m 6 #[.val (.ref a), .val (.ref s1), .val (.int k)] [(.ref s1), (.ref a)])) rfl rfl (hb hby d_prog_11_m1_6)
  have Fw72 : Fld Z h72 a "com/example/data_roles/dataroles/policy/Condition" "text" "Ljava/lang/String;" (.ref s1) := F1.same W72
  have K72 : Keep h0 h72 [a] := K0.wr W72 (Or.inl (List.mem_of_getElem? (i := 0) rfl))
  have O72 : Old Z n0 h72 := X00.wr W72 ge_a
  have N72 := Fr.snoc X72 N0 ge_a
  refine Go.st st72 ?_
  show Go p.tables e below Kx T72 (mkF m 9 #[.val (.ref a), .val (.ref s1), .val (.int k)] [])
  refine s_aloadN (pc' := 10) X72.here hx (hb hby d_prog_11_m1_9) rfl rfl rfl ?_
  refine s_iloadN (pc' := 11) X72.here hx (hb hby d_prog_11_m1_10) rfl rfl ?_
  have f73 : Fld Z h72 a "com/example/data_roles/dataroles/policy/Condition" "constraint" "Z" (.int (0 : Int32)) := (F2.other W72 (Or.inr (slot_ne (Or.inr (hw _ (List.mem_of_getElem? (i := 47) rfl))) (Or.inr (hw _ (List.mem_of_getElem? (i := 45) rfl))) (by decide) (t := .boolean) (t' := (.object "java/lang/String")) (by decide) (by decide))))
  have f74 : Exa Z h72 a "com/example/data_roles/dataroles/policy/Condition" := (E.wr W72)
  obtain ⟨T75, h75, X75, e75, W75, st75⟩ := putFN X72 hx hZ hown (hw _ (List.mem_of_getElem? (i := 46) rfl)) Via.refl e72 f73 f74 (Or.inr ⟨(hw _ (List.mem_of_getElem? (i := 47) rfl)), rfl, hnm⟩) (hw _ (List.mem_of_getElem? (i := 38) rfl)) (ty := .boolean) (v' := (.int k)) (by decide) (narZ hk) (fitZ hk) (g := (mkF m 11 #[.val (.ref a), .val (.ref s1), .val (.int k)] [(.int k), (.ref a)])) rfl rfl (hb hby d_prog_11_m1_11)
  have Fw75 : Fld Z h75 a "com/example/data_roles/dataroles/policy/Condition" "constraint" "Z" (.int k) := f73.same W75
  have K75 : Keep h0 h75 [a] := K72.wr W75 (Or.inl (List.mem_of_getElem? (i := 0) rfl))
  have O75 : Old Z n0 h75 := O72.wr W75 ge_a
  have N75 := Fr.snoc X75 N72 ge_a
  refine Go.st st75 ?_
  show Go p.tables e below Kx T75 (mkF m 14 #[.val (.ref a), .val (.ref s1), .val (.int k)] [])
  have f76 : Exa Z h75 a "com/example/data_roles/dataroles/policy/Condition" := (f74.wr W75)
  have f77 : Fld Z h75 a "com/example/data_roles/dataroles/policy/Condition" "text" "Ljava/lang/String;" (.ref s1) := (Fw72.other W75 (Or.inr (slot_ne (Or.inr (hw _ (List.mem_of_getElem? (i := 45) rfl))) (Or.inr (hw _ (List.mem_of_getElem? (i := 47) rfl))) (by decide) (t := (.object "java/lang/String")) (t' := .boolean) (by decide) (by decide))))
  obtain ⟨fs, hr, hrun, hended, hW, hsame⟩ := X75.leave (v := none) (fun _ => rfl)
  refine Go.fin (X75.returnOut hx Bd.returns (hb hby d_prog_11_m1_14) hr) (hF _ _ hrun hended ⟨_, _, rfl, ?_, ⟨_, rfl⟩, hW, hsame.mono (by decide) (by decide)⟩)
  · show QN Z a s1 k h0 n0 (none : Option Value) T75.heap _
    rw [e75]
    exact ⟨rfl, N75, K75, f76, f77, Fw75⟩
theorem d_prog_11_m4_0 : decode prog_11_method_4_code 0 = .ok (.aload_n 1, 1) := by decide +kernel
theorem d_prog_11_m4_1 : decode prog_11_method_4_code 1 = .ok (.instanceof 8, 3) := by decide +kernel
theorem d_prog_11_m4_4 : decode prog_11_method_4_code 4 = .ok (.ifCond .eq 37, 3) := by decide +kernel
theorem d_prog_11_m4_41 : decode prog_11_method_4_code 41 = .ok (.iconst 0, 1) := by decide +kernel
theorem d_prog_11_m4_42 : decode prog_11_method_4_code 42 = .ok (.ireturn, 1) := by decide +kernel
def QQ0 (Z : State) (p0 : Addr) (h0 : Heap) (n0 : Nat) (v : Option Value) (h : Heap) (L : List Loc) : Prop := v = some (.int 0) ∧ Fr n0 L ∧ h = h0
set_option maxRecDepth 65536 in
set_option maxHeartbeats 40000000 in
theorem rmQ0 (l : Launch) (Z : State) (a0 : Array Value) (hw : ∀ d ∈ tables_1, d.before a0 Z = true) (ws : List Jvm.Cond) (p0 : Addr) (h0 : Heap) (n0 : Nat) (X00 : Old Z n0 h0)  :
    MetFree l (⟨"com/example/data_roles/dataroles/policy/Condition", "equals", "(Ljava/lang/Object;)Z"⟩ : MethodName) (head1 (Jvm.Cond.code (⟨"com/example/data_roles/dataroles/policy/Condition", "equals", "(Ljava/lang/Object;)Z"⟩ : MethodName) prog_11_method_4_code 3 (some .boolean) :: ws) ({ frames := 0, cells := 0, slots := 0, locals := 0 } : Room)) (fun aa U => aa = #[(.ref p0), .null] ∧ Z.Warmed39 U.vm ∧ U.heap = h0) (fun _ _ _ _ _ => True) (fun _ U o U' => ∃ v L, o = .returned v ∧ QQ0 Z p0 h0 n0 v U'.heap L ∧ FrameEnd U o U' L ({ frames := 0, cells := 0, slots := 0, locals := 0 } : Room).cells ({ frames := 0, cells := 0, slots := 0, locals := 0 } : Room).slots) := by
  refine MetFree.of_bodySF (plainFor_of_name pn_2) hisR ?_
  intro p e s m args below meth c s₁ Bd hml0 hP hK
  obtain ⟨rfl, hZ, hh⟩ := hP
  have hx := Bd.exec
  have hby := Bd.bytes
  have hml : c.maxLocals = 3 := hml0
  have hown : s.vm.findClass "com/example/data_roles/dataroles/policy/Condition" = some m.cls := findClass_of_methodNamed Bd.named
  have hnm := (name_of_methodNamed Bd.named Bd.method).1
  have X0 : Stand p l e ({ frames := 0, cells := 0, slots := 0, locals := 0 } : Room) s m #[(.ref p0), .null] below meth c s₁ [] 0 0 := Stand.of_body Bd
  have e0 : s₁.heap = h0 := by rw [← hh, Bd.state]; rfl
  have N0 := Fr.nil n0
  have K0 := Keep.refl h0 []
  have ef : entryFrame m #[(.ref p0), .null] 3 = mkF m 0 #[.val (.ref p0), .val .null, .unset] [] := (by first | (simp [entryFrame, mkF, argsToLocals, Value.category]; done) | rfl : entryFrame m #[(.ref p0), .null] 3 = mkF m 0 #[.val (.ref p0), .val .null, .unset] [])
  rw [ef]
  refine fin_of fun Kx hF => ?_
  show Go p.tables e below Kx s₁ (mkF m 0 #[.val (.ref p0), .val .null, .unset] [])
  refine s_aloadN (pc' := 1) X0.here hx (hb hby d_prog_11_m4_0) rfl rfl rfl ?_
  refine Go.st (X0.instanceofNull hx (g := (mkF m 1 #[.val (.ref p0), .val .null, .unset] [.null])) rfl rfl (hb hby d_prog_11_m4_1)) ?_
  show Go p.tables e below Kx s₁ (mkF m 4 #[.val (.ref p0), .val .null, .unset] [(.int (0 : Int32))])
  refine s_ifY (pc' := 41) X0.here hx (hb hby d_prog_11_m4_4) ((if0 _ _).trans (teq (by decide)).1) (by decide) (by decide) ?_
  refine s_iconst (pc' := 42) (v := (0 : Int32)) X0.here hx (hb hby d_prog_11_m4_41) rfl rfl ?_
  obtain ⟨fs, hr, hrun, hended, hW, hsame⟩ := X0.leave (v := (some (.int (0 : Int32)))) (fun h => by rw [Bd.returns] at h; cases h)
  refine Go.fin (retN X0 hx (t := .boolean) Bd.returns (by simp) (hb hby d_prog_11_m4_42) hr) (hF _ _ hrun hended ⟨_, _, rfl, ?_, ⟨_, rfl⟩, hW, hsame.mono (by decide) (by decide)⟩)
  · show QQ0 Z p0 h0 n0 ((some (.int (0 : Int32))) : Option Value) s₁.heap _
    rw [e0]
    exact ⟨rfl, N0, rfl⟩
theorem str_no (Z : State) (a0 : Array Value) (w1 : (Jvm.Cond.superclass "java/lang/String" "java/lang/Object").before a0 Z = true) (w2 : (Jvm.Cond.noSuperclass "java/lang/Object").before a0 Z = true) (w3 : (Jvm.Cond.instantiable "com/example/data_roles/dataroles/policy/Condition" 2).before a0 Z = true) :
    ∃ c t, Z.vm.findClass "java/lang/String" = some c ∧ Z.vm.findClass "com/example/data_roles/dataroles/policy/Condition" = some t ∧ Z.vm.assignable c t = false := by
  obtain ⟨cO, kO, o1, o2, o3, -, -⟩ := Cond.noSuperclass_spec w2
  obtain ⟨t, kt, g0, g2, g3, g4⟩ := Cond.instantiable_spec w3
  obtain ⟨c, h0⟩ := found_sup w1
  obtain ⟨p, k, kp, h1, h2, h3, h4, h5, -, h7⟩ := Cond.superclass_spec h0 w1
  have g7 : kt.isInterface = false := (Bool.or_eq_false_iff.mp g4.1).1
  have ne := ids_ne h0 g0 (by decide)
  have neO := ids_ne o1 g0 (by decide)
  cases o1.symm.trans h1
  refine ⟨c, t, h0, g0, ?_⟩
  have n3 : ∀ fuel, Z.vm.isSubclassAux fuel c t = false := fun fuel => by
    cases fuel with
    | zero => rfl
    | succ f =>
      have hf : Z.vm.isSubclassAux f cO t = false := by
        cases f with
        | zero => rfl
        | succ f => simp [Vm.isSubclassAux, neO, o2, o3]
      simp [Vm.isSubclassAux, ne, h2, h4, hf]
  show Z.vm.assignableAux (255 + 1) c t = false
  simp [Vm.assignableAux, ne, h2, g2, h5, g3, g7, Vm.isSubclass, n3]
def QQ1 (Z : State) (p0 s0 : Addr) (h0 : Heap) (n0 : Nat) (v : Option Value) (h : Heap) (L : List Loc) : Prop := v = some (.int 0) ∧ Fr n0 L ∧ h = h0
set_option maxRecDepth 65536 in
set_option maxHeartbeats 40000000 in
theorem rmQ1 (l : Launch) (Z : State) (a0 : Array Value) (hw : ∀ d ∈ tables_1, d.before a0 Z = true) (ws : List Jvm.Cond) (p0 s0 : Addr) (h0 : Heap) (n0 : Nat) (X00 : Old Z n0 h0) (E : Exa Z h0 s0 "java/lang/String") :
    MetFree l (⟨"com/example/data_roles/dataroles/policy/Condition", "equals", "(Ljava/lang/Object;)Z"⟩ : MethodName) (head1 (Jvm.Cond.code (⟨"com/example/data_roles/dataroles/policy/Condition", "equals", "(Ljava/lang/Object;)Z"⟩ : MethodName) prog_11_method_4_code 3 (some .boolean) :: ws) ({ frames := 0, cells := 0, slots := 0, locals := 0 } : Room)) (fun aa U => aa = #[(.ref p0), (.ref s0)] ∧ Z.Warmed39 U.vm ∧ U.heap = h0) (fun _ _ _ _ _ => True) (fun _ U o U' => ∃ v L, o = .returned v ∧ QQ1 Z p0 s0 h0 n0 v U'.heap L ∧ FrameEnd U o U' L ({ frames := 0, cells := 0, slots := 0, locals := 0 } : Room).cells ({ frames := 0, cells := 0, slots := 0, locals := 0 } : Room).slots) := by
  refine MetFree.of_bodySF (plainFor_of_name pn_2) hisR ?_
  intro p e s m args below meth c s₁ Bd hml0 hP hK
  obtain ⟨rfl, hZ, hh⟩ := hP
  have hx := Bd.exec
  have hby := Bd.bytes
  have hml : c.maxLocals = 3 := hml0
  have hown : s.vm.findClass "com/example/data_roles/dataroles/policy/Condition" = some m.cls := findClass_of_methodNamed Bd.named
  have hnm := (name_of_methodNamed Bd.named Bd.method).1
  have X0 : Stand p l e ({ frames := 0, cells := 0, slots := 0, locals := 0 } : Room) s m #[(.ref p0), (.ref s0)] below meth c s₁ [] 0 0 := Stand.of_body Bd
  have e0 : s₁.heap = h0 := by rw [← hh, Bd.state]; rfl
  have N0 := Fr.nil n0
  have K0 := Keep.refl h0 []
  have ef : entryFrame m #[(.ref p0), (.ref s0)] 3 = mkF m 0 #[.val (.ref p0), .val (.ref s0), .unset] [] := (by first | (simp [entryFrame, mkF, argsToLocals, Value.category]; done) | rfl : entryFrame m #[(.ref p0), (.ref s0)] 3 = mkF m 0 #[.val (.ref p0), .val (.ref s0), .unset] [])
  rw [ef]
  refine fin_of fun Kx hF => ?_
  show Go p.tables e below Kx s₁ (mkF m 0 #[.val (.ref p0), .val (.ref s0), .unset] [])
  refine s_aloadN (pc' := 1) X0.here hx (hb hby d_prog_11_m4_0) rfl rfl rfl ?_
  obtain ⟨T78, X78, e78, st78⟩ := instNo X0 hx hZ hown (hw _ (List.mem_of_getElem? (i := 53) rfl)) e0 E (str_no Z a0 (hw _ (List.mem_of_getElem? (i := 65) rfl)) (hw _ (List.mem_of_getElem? (i := 66) rfl)) (hw _ (List.mem_of_getElem? (i := 38) rfl))) (g := (mkF m 1 #[.val (.ref p0), .val (.ref s0), .unset] [(.ref s0)])) rfl rfl (hb hby d_prog_11_m4_1)
  refine Go.st st78 ?_
  show Go p.tables e below Kx T78 (mkF m 4 #[.val (.ref p0), .val (.ref s0), .unset] [(.int (0 : Int32))])
  refine s_ifY (pc' := 41) X78.here hx (hb hby d_prog_11_m4_4) ((if0 _ _).trans (teq (by decide)).1) (by decide) (by decide) ?_
  refine s_iconst (pc' := 42) (v := (0 : Int32)) X78.here hx (hb hby d_prog_11_m4_41) rfl rfl ?_
  obtain ⟨fs, hr, hrun, hended, hW, hsame⟩ := X78.leave (v := (some (.int (0 : Int32)))) (fun h => by rw [Bd.returns] at h; cases h)
  refine Go.fin (retN X78 hx (t := .boolean) Bd.returns (by simp) (hb hby d_prog_11_m4_42) hr) (hF _ _ hrun hended ⟨_, _, rfl, ?_, ⟨_, rfl⟩, hW, hsame.mono (by decide) (by decide)⟩)
  · show QQ1 Z p0 s0 h0 n0 ((some (.int (0 : Int32))) : Option Value) T78.heap _
    rw [e78]
    exact ⟨rfl, N0, rfl⟩
theorem d_prog_11_m4_7 : decode prog_11_method_4_code 7 = .ok (.aload_n 1, 1) := by decide +kernel
theorem d_prog_11_m4_8 : decode prog_11_method_4_code 8 = .ok (.checkcast 8, 3) := by decide +kernel
theorem d_prog_11_m4_11 : decode prog_11_method_4_code 11 = .ok (.astore_n 2, 1) := by decide +kernel
theorem d_prog_11_m4_12 : decode prog_11_method_4_code 12 = .ok (.aload_n 0, 1) := by decide +kernel
theorem d_prog_11_m4_13 : decode prog_11_method_4_code 13 = .ok (.getfield 7, 3) := by decide +kernel
theorem d_prog_11_m4_16 : decode prog_11_method_4_code 16 = .ok (.aload_n 2, 1) := by decide +kernel
theorem d_prog_11_m4_17 : decode prog_11_method_4_code 17 = .ok (.getfield 7, 3) := by decide +kernel
theorem pd_2 : parseMethodDescriptor "(Ljava/lang/Object;)Z" = some ⟨[(.object "java/lang/Object")], some .boolean⟩ := by decide +kernel
theorem d_prog_11_m4_20 : decode prog_11_method_4_code 20 = .ok (.invokevirtual 17, 3) := by decide +kernel
theorem d_prog_11_m4_23 : decode prog_11_method_4_code 23 = .ok (.ifCond .eq 18, 3) := by decide +kernel
theorem d_prog_11_m4_26 : decode prog_11_method_4_code 26 = .ok (.aload_n 0, 1) := by decide +kernel
theorem d_prog_11_m4_27 : decode prog_11_method_4_code 27 = .ok (.getfield 13, 3) := by decide +kernel
theorem d_prog_11_m4_30 : decode prog_11_method_4_code 30 = .ok (.aload_n 2, 1) := by decide +kernel
theorem d_prog_11_m4_31 : decode prog_11_method_4_code 31 = .ok (.getfield 13, 3) := by decide +kernel
theorem d_prog_11_m4_34 : decode prog_11_method_4_code 34 = .ok (.if_icmp .ne 7, 3) := by decide +kernel
theorem d_prog_11_m4_37 : decode prog_11_method_4_code 37 = .ok (.iconst 1, 1) := by decide +kernel
theorem d_prog_11_m4_38 : decode prog_11_method_4_code 38 = .ok (.goto 4, 3) := by decide +kernel
def QQ2 (Z : State) (p0 q0 s1 s2 : Addr) (b1 b2 : Nat) (cs ds : List Int32) (k1 k2 : Int32) (h0 : Heap) (n0 : Nat) (v : Option Value) (h : Heap) (L : List Loc) : Prop := (∃ r : Int32, v = some (.int r) ∧ ((r = 1 ∧ cs = ds ∧ k1 = k2) ∨ (r = 0 ∧ ¬ (cs = ds ∧ k1 = k2)))) ∧ Fr n0 L ∧ h = h0
set_option maxRecDepth 65536 in
set_option maxHeartbeats 40000000 in
theorem rmQ2 (l : Launch) (Z : State) (a0 : Array Value) (hw : ∀ d ∈ tables_1, d.before a0 Z = true) (ws : List Jvm.Cond) (p0 q0 s1 s2 : Addr) (b1 b2 : Nat) (cs ds : List Int32) (k1 k2 : Int32) (h0 : Heap) (n0 : Nat) (X00 : Old Z n0 h0) (G1 : Int32) (S1 : Sta Z Z.heap "java/lang/String" "COMPACT_STRINGS" "Z" (.int G1)) (P1 : ¬ G1 = 0) (Ep0 : Exa Z h0 p0 "com/example/data_roles/dataroles/policy/Condition") (Fp0 : Fld Z h0 p0 "com/example/data_roles/dataroles/policy/Condition" "text" "Ljava/lang/String;" (.ref s1)) (Gp0 : Fld Z h0 p0 "com/example/data_roles/dataroles/policy/Condition" "constraint" "Z" (.int k1)) (Eq0 : Exa Z h0 q0 "com/example/data_roles/dataroles/policy/Condition") (Fq0 : Fld Z h0 q0 "com/example/data_roles/dataroles/policy/Condition" "text" "Ljava/lang/String;" (.ref s2)) (Gq0 : Fld Z h0 q0 "com/example/data_roles/dataroles/policy/Condition" "constraint" "Z" (.int k2)) (T1 : Str Z h0 b1 s1 cs) (T2 : Str Z h0 b2 s2 ds) :
    MetFree l (⟨"com/example/data_roles/dataroles/policy/Condition", "equals", "(Ljava/lang/Object;)Z"⟩ : MethodName) (head1 (Jvm.Cond.code (⟨"com/example/data_roles/dataroles/policy/Condition", "equals", "(Ljava/lang/Object;)Z"⟩ : MethodName) prog_11_method_4_code 3 (some .boolean) :: ws) ({ frames := 3, cells := 0, slots := 0, locals := 40 } : Room)) (fun aa U => aa = #[(.ref p0), (.ref q0)] ∧ Z.Warmed39 U.vm ∧ U.heap = h0) (fun _ _ _ _ _ => True) (fun _ U o U' => ∃ v L, o = .returned v ∧ QQ2 Z p0 q0 s1 s2 b1 b2 cs ds k1 k2 h0 n0 v U'.heap L ∧ FrameEnd U o U' L ({ frames := 3, cells := 0, slots := 0, locals := 40 } : Room).cells ({ frames := 3, cells := 0, slots := 0, locals := 40 } : Room).slots) := by
  refine MetFree.of_bodySF (plainFor_of_name pn_2) hisR ?_
  intro p e s m args below meth c s₁ Bd hml0 hP hK
  obtain ⟨rfl, hZ, hh⟩ := hP
  have hx := Bd.exec
  have hby := Bd.bytes
  have hml : c.maxLocals = 3 := hml0
  have hown : s.vm.findClass "com/example/data_roles/dataroles/policy/Condition" = some m.cls := findClass_of_methodNamed Bd.named
  have hnm := (name_of_methodNamed Bd.named Bd.method).1
  have X0 : Stand p l e ({ frames := 3, cells := 0, slots := 0, locals := 40 } : Room) s m #[(.ref p0), (.ref q0)] below meth c s₁ [] 0 0 := Stand.of_body Bd
  have e0 : s₁.heap = h0 := by rw [← hh, Bd.state]; rfl
  have N0 := Fr.nil n0
  have K0 := Keep.refl h0 []
  have ef : entryFrame m #[(.ref p0), (.ref q0)] 3 = mkF m 0 #[.val (.ref p0), .val (.ref q0), .unset] [] := (by first | (simp [entryFrame, mkF, argsToLocals, Value.category]; done) | rfl : entryFrame m #[(.ref p0), (.ref q0)] 3 = mkF m 0 #[.val (.ref p0), .val (.ref q0), .unset] [])
  rw [ef]
  refine fin_of fun Kx hF => ?_
  show Go p.tables e below Kx s₁ (mkF m 0 #[.val (.ref p0), .val (.ref q0), .unset] [])
  refine s_aloadN (pc' := 1) X0.here hx (hb hby d_prog_11_m4_0) rfl rfl rfl ?_
  obtain ⟨T79, X79, e79, st79⟩ := instY X0 hx hZ hown (hw _ (List.mem_of_getElem? (i := 53) rfl)) e0 (Ins.self Eq0) (g := (mkF m 1 #[.val (.ref p0), .val (.ref q0), .unset] [(.ref q0)])) rfl rfl (hb hby d_prog_11_m4_1)
  refine Go.st st79 ?_
  show Go p.tables e below Kx T79 (mkF m 4 #[.val (.ref p0), .val (.ref q0), .unset] [(.int (1 : Int32))])
  refine s_ifN (pc' := 7) X79.here hx (hb hby d_prog_11_m4_4) rfl ((if0 _ _).trans (feq (by decide)).1) ?_
  refine s_aloadN (pc' := 8) X79.here hx (hb hby d_prog_11_m4_7) rfl rfl rfl ?_
  obtain ⟨T80, X80, e80, st80⟩ := castY X79 hx hZ hown (hw _ (List.mem_of_getElem? (i := 53) rfl)) e79 (Ins.self Eq0) (g := (mkF m 8 #[.val (.ref p0), .val (.ref q0), .unset] [(.ref q0)])) rfl rfl (hb hby d_prog_11_m4_8)
  refine Go.st st80 ?_
  show Go p.tables e below Kx T80 (mkF m 11 #[.val (.ref p0), .val (.ref q0), .unset] [(.ref q0)])
  refine s_astoreN (pc' := 12) (Ls' := #[.val (.ref p0), .val (.ref q0), .val (.ref q0)]) X80.here hx (hb hby d_prog_11_m4_11) rfl rfl rfl ?_
  refine s_aloadN (pc' := 13) X80.here hx (hb hby d_prog_11_m4_12) rfl rfl rfl ?_
  obtain ⟨T81, X81, e81, st81⟩ := getF X80 hx hZ hown (host := "") (Or.inl (hw _ (List.mem_of_getElem? (i := 44) rfl))) Via.refl e80 Fp0 (g := (mkF m 13 #[.val (.ref p0), .val (.ref q0), .val (.ref q0)] [(.ref p0)])) rfl rfl (hb hby d_prog_11_m4_13)
  refine Go.st st81 ?_
  show Go p.tables e below Kx T81 (mkF m 16 #[.val (.ref p0), .val (.ref q0), .val (.ref q0)] [(.ref s1)])
  refine s_aloadN (pc' := 17) X81.here hx (hb hby d_prog_11_m4_16) rfl rfl rfl ?_
  obtain ⟨T82, X82, e82, st82⟩ := getF X81 hx hZ hown (host := "") (Or.inl (hw _ (List.mem_of_getElem? (i := 44) rfl))) Via.refl e81 Fq0 (g := (mkF m 17 #[.val (.ref p0), .val (.ref q0), .val (.ref q0)] [(.ref q0), (.ref s1)])) rfl rfl (hb hby d_prog_11_m4_17)
  refine Go.st st82 ?_
  show Go p.tables e below Kx T82 (mkF m 20 #[.val (.ref p0), .val (.ref q0), .val (.ref q0)] [(.ref s2), (.ref s1)])
  obtain ⟨-, sE83, sC83, ⟨st83, sk83, -, sF83, sA83⟩, sp83, sl83⟩ := id T1
  obtain ⟨-, sE84, sC84, ⟨st84, sk84, -, sF84, sA84⟩, sp84, sl84⟩ := id T2
  obtain ⟨cq85, kq85, q85a, q85b, q85c⟩ := isOf hZ e82 sE83
  obtain ⟨_, _, ⟨T85, L85, k85, n85⟩, -, X85, ⟨Lc85, hQ85, l85, y85, z85⟩, st85⟩ := X82.virtualBack hx (y := (⟨"java/lang/String", "equals", "(Ljava/lang/Object;)Z"⟩ : MethodName)) (z := (⟨"java/lang/String", "equals", "(Ljava/lang/Object;)Z"⟩ : MethodName)) hown (mvT hZ (hw _ (List.mem_of_getElem? (i := 55) rfl))) (mvT hZ (hw _ (List.mem_of_getElem? (i := 56) rfl))) (notFace_of_selects (args := #[]) (mvT hZ (hw _ (List.mem_of_getElem? (i := 58) rfl)))) (mvT hZ (hw _ (List.mem_of_getElem? (i := 58) rfl))) (mvT hZ (hw _ (List.mem_of_getElem? (i := 57) rfl))) (by decide) (StrChars.Road.eqW (W := 0) hZ (hwsE Z a0 hw) (kI := 4) (hw _ (List.mem_of_getElem? (i := 5) rfl)) sE83 sF83 sC83 sA83 (StrChars.Road.codOf rfl (fun c hc => (sp83 c hc).2)) (chr_up sp83) sl83 sE84 sF84 sC84 sA84 (StrChars.Road.codOf rfl (fun c hc => (sp84 c hc).2)) (chr_up sp84) sl84 (S1.ext X00.2) P1 (by decide) (by decide)) q85a q85c (g := (mkF m 20 #[.val (.ref p0), .val (.ref q0), .val (.ref q0)] [(.ref s2), (.ref s1)])) rfl (by rw [hml]; rfl) (Steps.refl _) (argsL := [(.ref s2)]) (rest := []) (lenOf pd_2 rfl) rfl (by show 2 * 0 + _ ≤ _; exact Nat.le_of_eq rfl) (hb hby d_prog_11_m4_20) (fun _ _ => ⟨rfl, e82, (by decide : 0 + 0 ≤ _), (by decide : 0 + 0 ≤ _)⟩)
  dsimp only [Pt.U, Pt.locs, Pt.cells, Pt.slots] at X85 l85 y85 z85 st85 hQ85
  subst l85 y85 z85
  obtain ⟨hv85, rfl, hE85⟩ := hQ85
  rcases hv85 with ⟨rfl, hs85⟩ | ⟨rfl, hs85⟩
  · skip
    have N85 := Fr.app N0 (Fr.nil n0)
    refine Go.tr st85 ?_
    show Go p.tables e below Kx T85 (mkF m 23 #[.val (.ref p0), .val (.ref q0), .val (.ref q0)] [(.int (1 : Int32))])
    refine s_ifN (pc' := 26) X85.here hx (hb hby d_prog_11_m4_23) rfl ((if0 _ _).trans (feq (by decide)).1) ?_
    refine s_aloadN (pc' := 27) X85.here hx (hb hby d_prog_11_m4_26) rfl rfl rfl ?_
    obtain ⟨T86, X86, e86, st86⟩ := getF X85 hx hZ hown (host := "") (Or.inl (hw _ (List.mem_of_getElem? (i := 46) rfl))) Via.refl hE85 Gp0 (g := (mkF m 27 #[.val (.ref p0), .val (.ref q0), .val (.ref q0)] [(.ref p0)])) rfl rfl (hb hby d_prog_11_m4_27)
    refine Go.st st86 ?_
    show Go p.tables e below Kx T86 (mkF m 30 #[.val (.ref p0), .val (.ref q0), .val (.ref q0)] [(.int k1)])
    refine s_aloadN (pc' := 31) X86.here hx (hb hby d_prog_11_m4_30) rfl rfl rfl ?_
    obtain ⟨T87, X87, e87, st87⟩ := getF X86 hx hZ hown (host := "") (Or.inl (hw _ (List.mem_of_getElem? (i := 46) rfl))) Via.refl e86 Gq0 (g := (mkF m 31 #[.val (.ref p0), .val (.ref q0), .val (.ref q0)] [(.ref q0), (.int k1)])) rfl rfl (hb hby d_prog_11_m4_31)
    refine Go.st st87 ?_
    show Go p.tables e below Kx T87 (mkF m 34 #[.val (.ref p0), .val (.ref q0), .val (.ref q0)] [(.int k2), (.int k1)])
    by_cases hc88 : k1 = k2
    · skip
      refine s_icmpN (pc' := 37) X87.here hx (hb hby d_prog_11_m4_34) rfl (teq hc88).2 ?_
      refine s_iconst (pc' := 38) (v := (1 : Int32)) X87.here hx (hb hby d_prog_11_m4_37) rfl rfl ?_
      refine s_goto (pc' := 42) X87.here hx (hb hby d_prog_11_m4_38) (by decide) (by decide) ?_
      obtain ⟨fs, hr, hrun, hended, hW, hsame⟩ := X87.leave (v := (some (.int (1 : Int32)))) (fun h => by rw [Bd.returns] at h; cases h)
      refine Go.fin (retN X87 hx (t := .boolean) Bd.returns (by simp) (hb hby d_prog_11_m4_42) hr) (hF _ _ hrun hended ⟨_, _, rfl, ?_, ⟨_, rfl⟩, hW, hsame.mono (by decide) (by decide)⟩)
      · show QQ2 Z p0 q0 s1 s2 b1 b2 cs ds k1 k2 h0 n0 ((some (.int (1 : Int32))) : Option Value) T87.heap _
        rw [e87]
        exact ⟨⟨_, rfl, Or.inl ⟨rfl, hs85, hc88⟩⟩, N85, rfl⟩
    · skip
      refine s_icmpY (pc' := 41) X87.here hx (hb hby d_prog_11_m4_34) (feq hc88).2 (by decide) (by decide) ?_
      refine s_iconst (pc' := 42) (v := (0 : Int32)) X87.here hx (hb hby d_prog_11_m4_41) rfl rfl ?_
      obtain ⟨fs, hr, hrun, hended, hW, hsame⟩ := X87.leave (v := (some (.int (0 : Int32)))) (fun h => by rw [Bd.returns] at h; cases h)
      refine Go.fin (retN X87 hx (t := .boolean) Bd.returns (by simp) (hb hby d_prog_11_m4_42) hr) (hF _ _ hrun hended ⟨_, _, rfl, ?_, ⟨_, rfl⟩, hW, hsame.mono (by decide) (by decide)⟩)
      · show QQ2 Z p0 q0 s1 s2 b1 b2 cs ds k1 k2 h0 n0 ((some (.int (0 : Int32))) : Option Value) T87.heap _
        rw [e87]
        exact ⟨⟨_, rfl, Or.inr ⟨rfl, fun q => hc88 q.2⟩⟩, N85, rfl⟩
  · skip
    have N85 := Fr.app N0 (Fr.nil n0)
    refine Go.tr st85 ?_
    show Go p.tables e below Kx T85 (mkF m 23 #[.val (.ref p0), .val (.ref q0), .val (.ref q0)] [(.int (0 : Int32))])
    refine s_ifY (pc' := 41) X85.here hx (hb hby d_prog_11_m4_23) ((if0 _ _).trans (teq (by decide)).1) (by decide) (by decide) ?_
    refine s_iconst (pc' := 42) (v := (0 : Int32)) X85.here hx (hb hby d_prog_11_m4_41) rfl rfl ?_
    obtain ⟨fs, hr, hrun, hended, hW, hsame⟩ := X85.leave (v := (some (.int (0 : Int32)))) (fun h => by rw [Bd.returns] at h; cases h)
    refine Go.fin (retN X85 hx (t := .boolean) Bd.returns (by simp) (hb hby d_prog_11_m4_42) hr) (hF _ _ hrun hended ⟨_, _, rfl, ?_, ⟨_, rfl⟩, hW, hsame.mono (by decide) (by decide)⟩)
    · show QQ2 Z p0 q0 s1 s2 b1 b2 cs ds k1 k2 h0 n0 ((some (.int (0 : Int32))) : Option Value) T85.heap _
      rw [hE85]
      exact ⟨⟨_, rfl, Or.inr ⟨rfl, fun q => hs85 q.1⟩⟩, N85, rfl⟩
theorem mod3 (x : Int32) : (x &&& 3) % 3 = 0 ∨ (x &&& 3) % 3 = 1 ∨ (x &&& 3) % 3 = 2 := by
  have q := c_mask x 3 2 (by decide) (by decide)
  have r := (c_irem (x &&& 3) 3 3 rfl).1 (by omega)
  have e1 : (1 : Int32).toInt = 1 := rfl
  have e2 : (2 : Int32).toInt = 2 := rfl
  have e0 : (0 : Int32).toInt = 0 := rfl
  have h : ((x &&& 3) % 3).toInt = 0 ∨ ((x &&& 3) % 3).toInt = 1 ∨ ((x &&& 3) % 3).toInt = 2 := by omega
  rcases h with h | h | h
  · exact Or.inl (eq32 h)
  · exact Or.inr (Or.inl (eq32 h))
  · exact Or.inr (Or.inr (eq32 h))
/-- the law's own word for 'the same text' -/
def sameT (n1 n2 ca0 ca1 cb0 cb1 : Int32) : Prop := chars n1 ca0 ca1 = chars n2 cb0 cb1
theorem ex_one {P : Prop} {r ex : Int32} (h : (ex = 1 ∧ P) ∨ (ex = 0 ∧ ¬ P)) (hr : (r = 1 ∧ P) ∨ (r = 0 ∧ ¬ P)) : r = ex := by
  rcases h with ⟨rfl, h⟩ | ⟨rfl, h⟩ <;> rcases hr with ⟨rfl, q⟩ | ⟨rfl, q⟩ <;> first | rfl | exact absurd h q | exact absurd q h
theorem pd_3 : parseMethodDescriptor "(ICC)Ljava/lang/String;" = some ⟨[.int, .char, .char], some (.object "java/lang/String")⟩ := by decide +kernel
theorem pd_4 : parseMethodDescriptor "(Ljava/lang/String;Z)V" = some ⟨[(.object "java/lang/String"), .boolean], none⟩ := by decide +kernel
def QL (Z : State) (p0 p1 p2 : Int32) (h0 : Heap) (n0 : Nat) (v : Option Value) (h : Heap) (L : List Loc) : Prop := v = some (.int 1) ∧ Fr n0 L
set_option maxRecDepth 65536 in
set_option maxHeartbeats 40000000 in
theorem rmL (l : Launch) (Z : State) (a0 : Array Value) (hw : ∀ d ∈ tables_1, d.before a0 Z = true) (ws : List Jvm.Cond) (p0 p1 p2 : Int32) (h0 : Heap) (n0 : Nat) (X00 : Old Z n0 h0) (hEL : EW Z a0 consts_1) (wS : ∀ a ∈ Bundle.stringAtoms, a.before a0 Z = true) (G1 : Int32) (S1 : Sta Z Z.heap "java/lang/String" "COMPACT_STRINGS" "Z" (.int G1)) (P1 : ¬ G1 = 0) :
    MetFree l x (head1 (Jvm.Cond.code x code maxLocals ret :: ws) room_1) (fun aa U => aa = #[(.int p0), (.int p1), (.int p2)] ∧ Z.Warmed39 U.vm ∧ U.heap = h0 ∧ CHv Z consts_1 U.vm h0) (fun _ _ _ _ _ => True) (fun _ U o U' => ∃ v L, o = .returned v ∧ QL Z p0 p1 p2 h0 n0 v U'.heap L ∧ CHr Z consts_1 U.vm U.heap U'.vm U'.heap ∧ ReturnedEndW U o U' L room_1.cells room_1.slots) := by
  refine MetFree.of_bodySF (plainFor_of_name pn_1) hisR ?_
  intro p e s m args below meth c s₁ Bd hml0 hP hK
  obtain ⟨rfl, hZ, hh, H0⟩ := hP
  have hx := Bd.exec
  have hby := Bd.bytes
  have hml : c.maxLocals = 18 := hml0
  have hown : s.vm.findClass "com/example/data_roles/dataroles/policy/ConditionEqualsPinLaw" = some m.cls := findClass_of_methodNamed Bd.named
  have hnm := (name_of_methodNamed Bd.named Bd.method).1
  have X0 : Stand p l e room_1 (s.setVm s.vm) m #[(.int p0), (.int p1), (.int p2)] below meth c s₁ [] 0 0 := Stand.of_body Bd
  have e0 : s₁.heap = h0 := by rw [← hh, Bd.state]; rfl
  have N0 := Fr.nil n0
  have K0 := Keep.refl h0 []
  have hS0 : s.Since s.vm h0.size := (State.WarmedH.refl s).since _
  have hk0 := Nat.le_refl h0.size
  have C0 : CHr Z consts_1 s.vm h0 s.vm h0 := CHr.refl H0
  have ef : entryFrame m #[(.int p0), (.int p1), (.int p2)] maxLocals = mkF m 0 #[.val (.int p0), .val (.int p1), .val (.int p2), .unset, .unset, .unset, .unset, .unset, .unset, .unset, .unset, .unset, .unset, .unset, .unset, .unset, .unset, .unset] [] := (by first | (simp [entryFrame, mkF, argsToLocals, Value.category, maxLocals]; done) | rfl : entryFrame m #[(.int p0), (.int p1), (.int p2)] maxLocals = mkF m 0 #[.val (.int p0), .val (.int p1), .val (.int p2), .unset, .unset, .unset, .unset, .unset, .unset, .unset, .unset, .unset, .unset, .unset, .unset, .unset, .unset, .unset] [])
  rw [ef]
  refine fin_of fun Kx hF => ?_
  show Go p.tables e below Kx s₁ (mkF m 0 #[.val (.int p0), .val (.int p1), .val (.int p2), .unset, .unset, .unset, .unset, .unset, .unset, .unset, .unset, .unset, .unset, .unset, .unset, .unset, .unset, .unset] [])
  refine s_iloadN (pc' := 1) X0.here hx (hb hby at_0) rfl rfl ?_
  refine s_iconst (pc' := 2) (v := (3 : Int32)) X0.here hx (hb hby at_1) rfl rfl ?_
  refine s_iand (pc' := 3) X0.here hx (hb hby at_2) rfl rfl ?_
  refine s_iconst (pc' := 4) (v := (3 : Int32)) X0.here hx (hb hby at_3) rfl rfl ?_
  refine s_irem (pc' := 5) X0.here hx (hb hby at_4) rfl (by decide) rfl ?_
  have hn1 : ((p2 &&& (3 : Int32)) % (3 : Int32)) = 0 ∨ ((p2 &&& (3 : Int32)) % (3 : Int32)) = 1 ∨ ((p2 &&& (3 : Int32)) % (3 : Int32)) = 2 := mod3 p2
  revert hn1
  generalize ((p2 &&& (3 : Int32)) % (3 : Int32)) = n1
  intro hn1
  show Go p.tables e below Kx s₁ (mkF m 5 #[.val (.int p0), .val (.int p1), .val (.int p2), .unset, .unset, .unset, .unset, .unset, .unset, .unset, .unset, .unset, .unset, .unset, .unset, .unset, .unset, .unset] [(.int n1)])
  refine s_istoreN (pc' := 6) (Ls' := #[.val (.int p0), .val (.int p1), .val (.int p2), .val (.int n1), .unset, .unset, .unset, .unset, .unset, .unset, .unset, .unset, .unset, .unset, .unset, .unset, .unset, .unset]) X0.here hx (hb hby at_5) rfl  rfl ?_
  refine s_iloadN (pc' := 7) X0.here hx (hb hby at_6) rfl rfl ?_
  refine s_iconst (pc' := 8) (v := (2 : Int32)) X0.here hx (hb hby at_7) rfl rfl ?_
  refine s_iushr (pc' := 9) X0.here hx (hb hby at_8) rfl rfl ?_
  refine s_iconst (pc' := 10) (v := (1 : Int32)) X0.here hx (hb hby at_9) rfl rfl ?_
  refine s_iand (pc' := 11) X0.here hx (hb hby at_10) rfl rfl ?_
  suffices J90 : Go p.tables e below Kx s₁ (mkF m 25 #[.val (.int p0), .val (.int p1), .val (.int p2), .val (.int n1), .unset, .unset, .unset, .unset, .unset, .unset, .unset, .unset, .unset, .unset, .unset, .unset, .unset, .unset] [(.int (if (((p2.toUInt32 >>> ((2 : Int32) &&& 31).toUInt32).toInt32) &&& (1 : Int32)) = (0 : Int32) then ((((p2.toUInt32 >>> ((3 : Int32) &&& 31).toUInt32).toInt32) &&& (3 : Int32)) % (3 : Int32)) else n1))]) by
    by_cases hc89 : (((p2.toUInt32 >>> ((2 : Int32) &&& 31).toUInt32).toInt32) &&& (1 : Int32)) = (0 : Int32)
    · skip
      simp only [if_pos hc89] at J90
      refine s_ifY (pc' := 18) X0.here hx (hb hby at_11) ((if0 _ _).trans (teq hc89).1) (by decide) (by decide) ?_
      refine s_iloadN (pc' := 19) X0.here hx (hb hby at_18) rfl rfl ?_
      refine s_iconst (pc' := 20) (v := (3 : Int32)) X0.here hx (hb hby at_19) rfl rfl ?_
      refine s_iushr (pc' := 21) X0.here hx (hb hby at_20) rfl rfl ?_
      refine s_iconst (pc' := 22) (v := (3 : Int32)) X0.here hx (hb hby at_21) rfl rfl ?_
      refine s_iand (pc' := 23) X0.here hx (hb hby at_22) rfl rfl ?_
      refine s_iconst (pc' := 24) (v := (3 : Int32)) X0.here hx (hb hby at_23) rfl rfl ?_
      refine s_irem (pc' := 25) X0.here hx (hb hby at_24) rfl (by decide) rfl ?_
      exact J90
    · skip
      simp only [if_neg hc89] at J90
      refine s_ifN (pc' := 14) X0.here hx (hb hby at_11) rfl ((if0 _ _).trans (feq hc89).1) ?_
      refine s_iloadN (pc' := 15) X0.here hx (hb hby at_14) rfl rfl ?_
      refine s_goto (pc' := 25) X0.here hx (hb hby at_15) (by decide) (by decide) ?_
      exact J90
  have hn2 : (if (((p2.toUInt32 >>> ((2 : Int32) &&& 31).toUInt32).toInt32) &&& (1 : Int32)) = (0 : Int32) then ((((p2.toUInt32 >>> ((3 : Int32) &&& 31).toUInt32).toInt32) &&& (3 : Int32)) % (3 : Int32)) else n1) = 0 ∨ (if (((p2.toUInt32 >>> ((2 : Int32) &&& 31).toUInt32).toInt32) &&& (1 : Int32)) = (0 : Int32) then ((((p2.toUInt32 >>> ((3 : Int32) &&& 31).toUInt32).toInt32) &&& (3 : Int32)) % (3 : Int32)) else n1) = 1 ∨ (if (((p2.toUInt32 >>> ((2 : Int32) &&& 31).toUInt32).toInt32) &&& (1 : Int32)) = (0 : Int32) then ((((p2.toUInt32 >>> ((3 : Int32) &&& 31).toUInt32).toInt32) &&& (3 : Int32)) % (3 : Int32)) else n1) = 2 := by split; exact mod3 _; exact hn1
  revert hn2
  generalize (if (((p2.toUInt32 >>> ((2 : Int32) &&& 31).toUInt32).toInt32) &&& (1 : Int32)) = (0 : Int32) then ((((p2.toUInt32 >>> ((3 : Int32) &&& 31).toUInt32).toInt32) &&& (3 : Int32)) % (3 : Int32)) else n1) = n2
  intro hn2
  show Go p.tables e below Kx s₁ (mkF m 25 #[.val (.int p0), .val (.int p1), .val (.int p2), .val (.int n1), .unset, .unset, .unset, .unset, .unset, .unset, .unset, .unset, .unset, .unset, .unset, .unset, .unset, .unset] [(.int n2)])
  refine s_istore (pc' := 27) (Ls' := #[.val (.int p0), .val (.int p1), .val (.int p2), .val (.int n1), .val (.int n2), .unset, .unset, .unset, .unset, .unset, .unset, .unset, .unset, .unset, .unset, .unset, .unset, .unset]) X0.here hx (hb hby at_25) rfl  rfl ?_
  refine s_iloadN (pc' := 28) X0.here hx (hb hby at_27) rfl rfl ?_
  refine s_sipush (pc' := 31) (v := (255 : Int32)) X0.here hx (hb hby at_28) rfl rfl ?_
  refine s_iand (pc' := 32) X0.here hx (hb hby at_31) rfl rfl ?_
  have ch91 := chr_mask p0
  refine s_i2c (pc' := 33) (z := (p0 &&& (255 : Int32))) X0.here hx (hb hby at_32) rfl (chr_i2c ch91) ?_
  have hca0 : ¬ (p0 &&& (255 : Int32)) < 0 ∧ ¬ (255 : Int32) < (p0 &&& (255 : Int32)) := ch91
  revert hca0
  generalize (p0 &&& (255 : Int32)) = ca0
  intro hca0
  show Go p.tables e below Kx s₁ (mkF m 33 #[.val (.int p0), .val (.int p1), .val (.int p2), .val (.int n1), .val (.int n2), .unset, .unset, .unset, .unset, .unset, .unset, .unset, .unset, .unset, .unset, .unset, .unset, .unset] [(.int ca0)])
  refine s_istore (pc' := 35) (Ls' := #[.val (.int p0), .val (.int p1), .val (.int p2), .val (.int n1), .val (.int n2), .val (.int ca0), .unset, .unset, .unset, .unset, .unset, .unset, .unset, .unset, .unset, .unset, .unset, .unset]) X0.here hx (hb hby at_33) rfl  rfl ?_
  refine s_iloadN (pc' := 36) X0.here hx (hb hby at_35) rfl rfl ?_
  refine s_bipush (pc' := 38) (v := (8 : Int32)) X0.here hx (hb hby at_36) rfl rfl ?_
  refine s_iushr (pc' := 39) X0.here hx (hb hby at_38) rfl rfl ?_
  refine s_sipush (pc' := 42) (v := (255 : Int32)) X0.here hx (hb hby at_39) rfl rfl ?_
  refine s_iand (pc' := 43) X0.here hx (hb hby at_42) rfl rfl ?_
  have ch92 := chr_mask ((p0.toUInt32 >>> ((8 : Int32) &&& 31).toUInt32).toInt32)
  refine s_i2c (pc' := 44) (z := (((p0.toUInt32 >>> ((8 : Int32) &&& 31).toUInt32).toInt32) &&& (255 : Int32))) X0.here hx (hb hby at_43) rfl (chr_i2c ch92) ?_
  have hca1 : ¬ (((p0.toUInt32 >>> ((8 : Int32) &&& 31).toUInt32).toInt32) &&& (255 : Int32)) < 0 ∧ ¬ (255 : Int32) < (((p0.toUInt32 >>> ((8 : Int32) &&& 31).toUInt32).toInt32) &&& (255 : Int32)) := ch92
  revert hca1
  generalize (((p0.toUInt32 >>> ((8 : Int32) &&& 31).toUInt32).toInt32) &&& (255 : Int32)) = ca1
  intro hca1
  show Go p.tables e below Kx s₁ (mkF m 44 #[.val (.int p0), .val (.int p1), .val (.int p2), .val (.int n1), .val (.int n2), .val (.int ca0), .unset, .unset, .unset, .unset, .unset, .unset, .unset, .unset, .unset, .unset, .unset, .unset] [(.int ca1)])
  refine s_istore (pc' := 46) (Ls' := #[.val (.int p0), .val (.int p1), .val (.int p2), .val (.int n1), .val (.int n2), .val (.int ca0), .val (.int ca1), .unset, .unset, .unset, .unset, .unset, .unset, .unset, .unset, .unset, .unset, .unset]) X0.here hx (hb hby at_44) rfl  rfl ?_
  refine s_iloadN (pc' := 47) X0.here hx (hb hby at_46) rfl rfl ?_
  refine s_iconst (pc' := 48) (v := (5 : Int32)) X0.here hx (hb hby at_47) rfl rfl ?_
  refine s_iushr (pc' := 49) X0.here hx (hb hby at_48) rfl rfl ?_
  refine s_iconst (pc' := 50) (v := (1 : Int32)) X0.here hx (hb hby at_49) rfl rfl ?_
  refine s_iand (pc' := 51) X0.here hx (hb hby at_50) rfl rfl ?_
  suffices J95 : Go p.tables e below Kx s₁ (mkF m 65 #[.val (.int p0), .val (.int p1), .val (.int p2), .val (.int n1), .val (.int n2), .val (.int ca0), .val (.int ca1), .unset, .unset, .unset, .unset, .unset, .unset, .unset, .unset, .unset, .unset, .unset] [(.int (if (((p2.toUInt32 >>> ((5 : Int32) &&& 31).toUInt32).toInt32) &&& (1 : Int32)) = (0 : Int32) then (p1 &&& (255 : Int32)) else ca0))]) by
    by_cases hc93 : (((p2.toUInt32 >>> ((5 : Int32) &&& 31).toUInt32).toInt32) &&& (1 : Int32)) = (0 : Int32)
    · skip
      simp only [if_pos hc93] at J95
      refine s_ifY (pc' := 59) X0.here hx (hb hby at_51) ((if0 _ _).trans (teq hc93).1) (by decide) (by decide) ?_
      refine s_iloadN (pc' := 60) X0.here hx (hb hby at_59) rfl rfl ?_
      refine s_sipush (pc' := 63) (v := (255 : Int32)) X0.here hx (hb hby at_60) rfl rfl ?_
      refine s_iand (pc' := 64) X0.here hx (hb hby at_63) rfl rfl ?_
      have ch94 := chr_mask p1
      refine s_i2c (pc' := 65) (z := (p1 &&& (255 : Int32))) X0.here hx (hb hby at_64) rfl (chr_i2c ch94) ?_
      exact J95
    · skip
      simp only [if_neg hc93] at J95
      refine s_ifN (pc' := 54) X0.here hx (hb hby at_51) rfl ((if0 _ _).trans (feq hc93).1) ?_
      refine s_iload (pc' := 56) X0.here hx (hb hby at_54) rfl rfl ?_
      refine s_goto (pc' := 65) X0.here hx (hb hby at_56) (by decide) (by decide) ?_
      exact J95
  have hcb0 : ¬ (if (((p2.toUInt32 >>> ((5 : Int32) &&& 31).toUInt32).toInt32) &&& (1 : Int32)) = (0 : Int32) then (p1 &&& (255 : Int32)) else ca0) < 0 ∧ ¬ (255 : Int32) < (if (((p2.toUInt32 >>> ((5 : Int32) &&& 31).toUInt32).toInt32) &&& (1 : Int32)) = (0 : Int32) then (p1 &&& (255 : Int32)) else ca0) := by split; exact chr_mask _; exact hca0
  revert hcb0
  generalize (if (((p2.toUInt32 >>> ((5 : Int32) &&& 31).toUInt32).toInt32) &&& (1 : Int32)) = (0 : Int32) then (p1 &&& (255 : Int32)) else ca0) = cb0
  intro hcb0
  show Go p.tables e below Kx s₁ (mkF m 65 #[.val (.int p0), .val (.int p1), .val (.int p2), .val (.int n1), .val (.int n2), .val (.int ca0), .val (.int ca1), .unset, .unset, .unset, .unset, .unset, .unset, .unset, .unset, .unset, .unset, .unset] [(.int cb0)])
  refine s_istore (pc' := 67) (Ls' := #[.val (.int p0), .val (.int p1), .val (.int p2), .val (.int n1), .val (.int n2), .val (.int ca0), .val (.int ca1), .val (.int cb0), .unset, .unset, .unset, .unset, .unset, .unset, .unset, .unset, .unset, .unset]) X0.here hx (hb hby at_65) rfl  rfl ?_
  refine s_iloadN (pc' := 68) X0.here hx (hb hby at_67) rfl rfl ?_
  refine s_bipush (pc' := 70) (v := (6 : Int32)) X0.here hx (hb hby at_68) rfl rfl ?_
  refine s_iushr (pc' := 71) X0.here hx (hb hby at_70) rfl rfl ?_
  refine s_iconst (pc' := 72) (v := (1 : Int32)) X0.here hx (hb hby at_71) rfl rfl ?_
  refine s_iand (pc' := 73) X0.here hx (hb hby at_72) rfl rfl ?_
  suffices J98 : Go p.tables e below Kx s₁ (mkF m 90 #[.val (.int p0), .val (.int p1), .val (.int p2), .val (.int n1), .val (.int n2), .val (.int ca0), .val (.int ca1), .val (.int cb0), .unset, .unset, .unset, .unset, .unset, .unset, .unset, .unset, .unset, .unset] [(.int (if (((p2.toUInt32 >>> ((6 : Int32) &&& 31).toUInt32).toInt32) &&& (1 : Int32)) = (0 : Int32) then (((p1.toUInt32 >>> ((8 : Int32) &&& 31).toUInt32).toInt32) &&& (255 : Int32)) else ca1))]) by
    by_cases hc96 : (((p2.toUInt32 >>> ((6 : Int32) &&& 31).toUInt32).toInt32) &&& (1 : Int32)) = (0 : Int32)
    · skip
      simp only [if_pos hc96] at J98
      refine s_ifY (pc' := 81) X0.here hx (hb hby at_73) ((if0 _ _).trans (teq hc96).1) (by decide) (by decide) ?_
      refine s_iloadN (pc' := 82) X0.here hx (hb hby at_81) rfl rfl ?_
      refine s_bipush (pc' := 84) (v := (8 : Int32)) X0.here hx (hb hby at_82) rfl rfl ?_
      refine s_iushr (pc' := 85) X0.here hx (hb hby at_84) rfl rfl ?_
      refine s_sipush (pc' := 88) (v := (255 : Int32)) X0.here hx (hb hby at_85) rfl rfl ?_
      refine s_iand (pc' := 89) X0.here hx (hb hby at_88) rfl rfl ?_
      have ch97 := chr_mask ((p1.toUInt32 >>> ((8 : Int32) &&& 31).toUInt32).toInt32)
      refine s_i2c (pc' := 90) (z := (((p1.toUInt32 >>> ((8 : Int32) &&& 31).toUInt32).toInt32) &&& (255 : Int32))) X0.here hx (hb hby at_89) rfl (chr_i2c ch97) ?_
      exact J98
    · skip
      simp only [if_neg hc96] at J98
      refine s_ifN (pc' := 76) X0.here hx (hb hby at_73) rfl ((if0 _ _).trans (feq hc96).1) ?_
      refine s_iload (pc' := 78) X0.here hx (hb hby at_76) rfl rfl ?_
      refine s_goto (pc' := 90) X0.here hx (hb hby at_78) (by decide) (by decide) ?_
      exact J98
  have hcb1 : ¬ (if (((p2.toUInt32 >>> ((6 : Int32) &&& 31).toUInt32).toInt32) &&& (1 : Int32)) = (0 : Int32) then (((p1.toUInt32 >>> ((8 : Int32) &&& 31).toUInt32).toInt32) &&& (255 : Int32)) else ca1) < 0 ∧ ¬ (255 : Int32) < (if (((p2.toUInt32 >>> ((6 : Int32) &&& 31).toUInt32).toInt32) &&& (1 : Int32)) = (0 : Int32) then (((p1.toUInt32 >>> ((8 : Int32) &&& 31).toUInt32).toInt32) &&& (255 : Int32)) else ca1) := by split; exact chr_mask _; exact hca1
  revert hcb1
  generalize (if (((p2.toUInt32 >>> ((6 : Int32) &&& 31).toUInt32).toInt32) &&& (1 : Int32)) = (0 : Int32) then (((p1.toUInt32 >>> ((8 : Int32) &&& 31).toUInt32).toInt32) &&& (255 : Int32)) else ca1) = cb1
  intro hcb1
  show Go p.tables e below Kx s₁ (mkF m 90 #[.val (.int p0), .val (.int p1), .val (.int p2), .val (.int n1), .val (.int n2), .val (.int ca0), .val (.int ca1), .val (.int cb0), .unset, .unset, .unset, .unset, .unset, .unset, .unset, .unset, .unset, .unset] [(.int cb1)])
  refine s_istore (pc' := 92) (Ls' := #[.val (.int p0), .val (.int p1), .val (.int p2), .val (.int n1), .val (.int n2), .val (.int ca0), .val (.int ca1), .val (.int cb0), .val (.int cb1), .unset, .unset, .unset, .unset, .unset, .unset, .unset, .unset, .unset]) X0.here hx (hb hby at_90) rfl  rfl ?_
  refine s_iloadN (pc' := 93) X0.here hx (hb hby at_92) rfl rfl ?_
  refine s_bipush (pc' := 95) (v := (7 : Int32)) X0.here hx (hb hby at_93) rfl rfl ?_
  refine s_iushr (pc' := 96) X0.here hx (hb hby at_95) rfl rfl ?_
  refine s_iconst (pc' := 97) (v := (1 : Int32)) X0.here hx (hb hby at_96) rfl rfl ?_
  refine s_iand (pc' := 98) X0.here hx (hb hby at_97) rfl rfl ?_
  suffices J100 : Go p.tables e below Kx s₁ (mkF m 106 #[.val (.int p0), .val (.int p1), .val (.int p2), .val (.int n1), .val (.int n2), .val (.int ca0), .val (.int ca1), .val (.int cb0), .val (.int cb1), .unset, .unset, .unset, .unset, .unset, .unset, .unset, .unset, .unset] [(.int (if (((p2.toUInt32 >>> ((7 : Int32) &&& 31).toUInt32).toInt32) &&& (1 : Int32)) = (0 : Int32) then (0 : Int32) else (1 : Int32)))]) by
    by_cases hc99 : (((p2.toUInt32 >>> ((7 : Int32) &&& 31).toUInt32).toInt32) &&& (1 : Int32)) = (0 : Int32)
    · skip
      simp only [if_pos hc99] at J100
      refine s_ifY (pc' := 105) X0.here hx (hb hby at_98) ((if0 _ _).trans (teq hc99).1) (by decide) (by decide) ?_
      refine s_iconst (pc' := 106) (v := (0 : Int32)) X0.here hx (hb hby at_105) rfl rfl ?_
      exact J100
    · skip
      simp only [if_neg hc99] at J100
      refine s_ifN (pc' := 101) X0.here hx (hb hby at_98) rfl ((if0 _ _).trans (feq hc99).1) ?_
      refine s_iconst (pc' := 102) (v := (1 : Int32)) X0.here hx (hb hby at_101) rfl rfl ?_
      refine s_goto (pc' := 106) X0.here hx (hb hby at_102) (by decide) (by decide) ?_
      exact J100
  have hk1 : (if (((p2.toUInt32 >>> ((7 : Int32) &&& 31).toUInt32).toInt32) &&& (1 : Int32)) = (0 : Int32) then (0 : Int32) else (1 : Int32)) = 0 ∨ (if (((p2.toUInt32 >>> ((7 : Int32) &&& 31).toUInt32).toInt32) &&& (1 : Int32)) = (0 : Int32) then (0 : Int32) else (1 : Int32)) = 1 := bit01 _
  revert hk1
  generalize (if (((p2.toUInt32 >>> ((7 : Int32) &&& 31).toUInt32).toInt32) &&& (1 : Int32)) = (0 : Int32) then (0 : Int32) else (1 : Int32)) = k1
  intro hk1
  show Go p.tables e below Kx s₁ (mkF m 106 #[.val (.int p0), .val (.int p1), .val (.int p2), .val (.int n1), .val (.int n2), .val (.int ca0), .val (.int ca1), .val (.int cb0), .val (.int cb1), .unset, .unset, .unset, .unset, .unset, .unset, .unset, .unset, .unset] [(.int k1)])
  refine s_istore (pc' := 108) (Ls' := #[.val (.int p0), .val (.int p1), .val (.int p2), .val (.int n1), .val (.int n2), .val (.int ca0), .val (.int ca1), .val (.int cb0), .val (.int cb1), .val (.int k1), .unset, .unset, .unset, .unset, .unset, .unset, .unset, .unset]) X0.here hx (hb hby at_106) rfl  rfl ?_
  refine s_iloadN (pc' := 109) X0.here hx (hb hby at_108) rfl rfl ?_
  refine s_bipush (pc' := 111) (v := (8 : Int32)) X0.here hx (hb hby at_109) rfl rfl ?_
  refine s_iushr (pc' := 112) X0.here hx (hb hby at_111) rfl rfl ?_
  refine s_iconst (pc' := 113) (v := (1 : Int32)) X0.here hx (hb hby at_112) rfl rfl ?_
  refine s_iand (pc' := 114) X0.here hx (hb hby at_113) rfl rfl ?_
  suffices J102 : Go p.tables e below Kx s₁ (mkF m 122 #[.val (.int p0), .val (.int p1), .val (.int p2), .val (.int n1), .val (.int n2), .val (.int ca0), .val (.int ca1), .val (.int cb0), .val (.int cb1), .val (.int k1), .unset, .unset, .unset, .unset, .unset, .unset, .unset, .unset] [(.int (if (((p2.toUInt32 >>> ((8 : Int32) &&& 31).toUInt32).toInt32) &&& (1 : Int32)) = (0 : Int32) then (0 : Int32) else (1 : Int32)))]) by
    by_cases hc101 : (((p2.toUInt32 >>> ((8 : Int32) &&& 31).toUInt32).toInt32) &&& (1 : Int32)) = (0 : Int32)
    · skip
      simp only [if_pos hc101] at J102
      refine s_ifY (pc' := 121) X0.here hx (hb hby at_114) ((if0 _ _).trans (teq hc101).1) (by decide) (by decide) ?_
      refine s_iconst (pc' := 122) (v := (0 : Int32)) X0.here hx (hb hby at_121) rfl rfl ?_
      exact J102
    · skip
      simp only [if_neg hc101] at J102
      refine s_ifN (pc' := 117) X0.here hx (hb hby at_114) rfl ((if0 _ _).trans (feq hc101).1) ?_
      refine s_iconst (pc' := 118) (v := (1 : Int32)) X0.here hx (hb hby at_117) rfl rfl ?_
      refine s_goto (pc' := 122) X0.here hx (hb hby at_118) (by decide) (by decide) ?_
      exact J102
  have hk2 : (if (((p2.toUInt32 >>> ((8 : Int32) &&& 31).toUInt32).toInt32) &&& (1 : Int32)) = (0 : Int32) then (0 : Int32) else (1 : Int32)) = 0 ∨ (if (((p2.toUInt32 >>> ((8 : Int32) &&& 31).toUInt32).toInt32) &&& (1 : Int32)) = (0 : Int32) then (0 : Int32) else (1 : Int32)) = 1 := bit01 _
  revert hk2
  generalize (if (((p2.toUInt32 >>> ((8 : Int32) &&& 31).toUInt32).toInt32) &&& (1 : Int32)) = (0 : Int32) then (0 : Int32) else (1 : Int32)) = k2
  intro hk2
  show Go p.tables e below Kx s₁ (mkF m 122 #[.val (.int p0), .val (.int p1), .val (.int p2), .val (.int n1), .val (.int n2), .val (.int ca0), .val (.int ca1), .val (.int cb0), .val (.int cb1), .val (.int k1), .unset, .unset, .unset, .unset, .unset, .unset, .unset, .unset] [(.int k2)])
  refine s_istore (pc' := 124) (Ls' := #[.val (.int p0), .val (.int p1), .val (.int p2), .val (.int n1), .val (.int n2), .val (.int ca0), .val (.int ca1), .val (.int cb0), .val (.int cb1), .val (.int k1), .val (.int k2), .unset, .unset, .unset, .unset, .unset, .unset, .unset]) X0.here hx (hb hby at_122) rfl  rfl ?_
  refine s_iloadN (pc' := 125) X0.here hx (hb hby at_124) rfl rfl ?_
  refine s_bipush (pc' := 127) (v := (9 : Int32)) X0.here hx (hb hby at_125) rfl rfl ?_
  refine s_iushr (pc' := 128) X0.here hx (hb hby at_127) rfl rfl ?_
  refine s_iconst (pc' := 129) (v := (3 : Int32)) X0.here hx (hb hby at_128) rfl rfl ?_
  refine s_iand (pc' := 130) X0.here hx (hb hby at_129) rfl rfl ?_
  generalize (((p2.toUInt32 >>> ((9 : Int32) &&& 31).toUInt32).toInt32) &&& (3 : Int32)) = kd
  show Go p.tables e below Kx s₁ (mkF m 130 #[.val (.int p0), .val (.int p1), .val (.int p2), .val (.int n1), .val (.int n2), .val (.int ca0), .val (.int ca1), .val (.int cb0), .val (.int cb1), .val (.int k1), .val (.int k2), .unset, .unset, .unset, .unset, .unset, .unset, .unset] [(.int kd)])
  refine s_istore (pc' := 132) (Ls' := #[.val (.int p0), .val (.int p1), .val (.int p2), .val (.int n1), .val (.int n2), .val (.int ca0), .val (.int ca1), .val (.int cb0), .val (.int cb1), .val (.int k1), .val (.int k2), .val (.int kd), .unset, .unset, .unset, .unset, .unset, .unset]) X0.here hx (hb hby at_130) rfl  rfl ?_
  refine s_iloadN (pc' := 133) X0.here hx (hb hby at_132) rfl rfl ?_
  refine s_iload (pc' := 135) X0.here hx (hb hby at_133) rfl rfl ?_
  refine s_iload (pc' := 137) X0.here hx (hb hby at_135) rfl rfl ?_
  obtain ⟨_, _, ⟨T103, L103, k103, n103⟩, -, X103, hS'103, hg'103, ⟨Lc103, hQ103, l103, y103, z103, Cr103⟩, st103⟩ := callSS X0 hx (y := (⟨"com/example/data_roles/dataroles/policy/ConditionEqualsPinLaw", "mk", "(ICC)Ljava/lang/String;"⟩ : MethodName)) hown (mvT hZ (hw _ (List.mem_of_getElem? (i := 0) rfl))) (mvT hZ (hw _ (List.mem_of_getElem? (i := 1) rfl))) (mvT hZ (hw _ (List.mem_of_getElem? (i := 2) rfl))) (mvT hZ (hw _ (List.mem_of_getElem? (i := 3) rfl))) (by decide) (backOfSH (W := 0) (rmM l Z a0 hw [] n1 ca0 ca1 h0 n0 X00 hEL wS G1 S1 P1 hca0 hca1) hZ (hw _ (List.mem_of_getElem? (i := 3) rfl)) (hw _ (List.mem_of_getElem? (i := 2) rfl)) (by decide) (by decide) hEL H0) (g := (mkF m 137 #[.val (.int p0), .val (.int p1), .val (.int p2), .val (.int n1), .val (.int n2), .val (.int ca0), .val (.int ca1), .val (.int cb0), .val (.int cb1), .val (.int k1), .val (.int k2), .val (.int kd), .unset, .unset, .unset, .unset, .unset, .unset] [(.int ca1), (.int ca0), (.int n1)])) rfl (by rw [hml]; rfl) (argsL := [(.int n1), (.int ca0), (.int ca1)]) (rest := []) (lenOf pd_3 rfl) rfl (by show 2 * 0 + _ ≤ _; exact Nat.le_of_eq rfl) (hb hby at_137) (fun _ _ => ⟨rfl, e0, (by decide : 0 + 6 ≤ _), (by decide : 0 + 12 ≤ _)⟩)
  dsimp only [Pt.U, Pt.locs, Pt.cells, Pt.slots] at X103 l103 y103 z103 st103 hQ103 hS'103 hg'103 Cr103
  subst l103 y103 z103
  obtain ⟨x103, rfl, Nq103, Kq103, Sq103⟩ := hQ103
  have N103 := Fr.app N0 Nq103
  have X103 : Stand p l e _ (s.setVm T103.vm) m _ below meth c T103 _ _ _ := X103
  obtain ⟨hZ103, hown103⟩ := wideOn hZ hS'103 hown
  have hS103 : s.Since T103.vm T103.heap.size := hS0.trans hS'103 (Nat.le_trans hk0 (by rw [e0] at hg'103; exact hg'103))
  have hk103 := Nat.le_refl T103.heap.size
  have C103 := C0.trans Cr103
  have K103 : Keep h0 T103.heap [] := K0.trans Kq103 all0
  have O103 : Old Z n0 T103.heap := X00.keep Kq103 all0
  refine Go.tr st103 ?_
  show Go p.tables e below Kx T103 (mkF m 140 #[.val (.int p0), .val (.int p1), .val (.int p2), .val (.int n1), .val (.int n2), .val (.int ca0), .val (.int ca1), .val (.int cb0), .val (.int cb1), .val (.int k1), .val (.int k2), .val (.int kd), .unset, .unset, .unset, .unset, .unset, .unset] [(.ref x103)])
  refine s_astore (pc' := 142) (Ls' := #[.val (.int p0), .val (.int p1), .val (.int p2), .val (.int n1), .val (.int n2), .val (.int ca0), .val (.int ca1), .val (.int cb0), .val (.int cb1), .val (.int k1), .val (.int k2), .val (.int kd), .val (.ref x103), .unset, .unset, .unset, .unset, .unset]) X103.here hx (hb hby at_140) rfl rfl rfl ?_
  refine s_iload (pc' := 144) X103.here hx (hb hby at_142) rfl rfl ?_
  refine s_iload (pc' := 146) X103.here hx (hb hby at_144) rfl rfl ?_
  refine s_iload (pc' := 148) X103.here hx (hb hby at_146) rfl rfl ?_
  obtain ⟨_, _, ⟨T104, L104, k104, n104⟩, -, X104, hS'104, hg'104, ⟨Lc104, hQ104, l104, y104, z104, Cr104⟩, st104⟩ := callSS X103 hx (y := (⟨"com/example/data_roles/dataroles/policy/ConditionEqualsPinLaw", "mk", "(ICC)Ljava/lang/String;"⟩ : MethodName)) hown103 (mvT hZ103 (hw _ (List.mem_of_getElem? (i := 0) rfl))) (mvT hZ103 (hw _ (List.mem_of_getElem? (i := 1) rfl))) (mvT hZ103 (hw _ (List.mem_of_getElem? (i := 2) rfl))) (mvT hZ103 (hw _ (List.mem_of_getElem? (i := 3) rfl))) (by decide) (backOfSH (W := 0) (rmM l Z a0 hw [] n2 cb0 cb1 T103.heap n0 O103 hEL wS G1 S1 P1 hcb0 hcb1) hZ103 (hw _ (List.mem_of_getElem? (i := 3) rfl)) (hw _ (List.mem_of_getElem? (i := 2) rfl)) (by decide) (by decide) hEL Cr103.1) (g := (mkF m 148 #[.val (.int p0), .val (.int p1), .val (.int p2), .val (.int n1), .val (.int n2), .val (.int ca0), .val (.int ca1), .val (.int cb0), .val (.int cb1), .val (.int k1), .val (.int k2), .val (.int kd), .val (.ref x103), .unset, .unset, .unset, .unset, .unset] [(.int cb1), (.int cb0), (.int n2)])) rfl (by rw [hml]; rfl) (argsL := [(.int n2), (.int cb0), (.int cb1)]) (rest := []) (lenOf pd_3 rfl) rfl (by show 2 * 0 + _ ≤ _; exact Nat.le_of_eq rfl) (hb hby at_148) (fun _ _ => ⟨rfl, rfl, (by decide : 6 + 6 ≤ _), (by decide : 12 + 12 ≤ _)⟩)
  dsimp only [Pt.U, Pt.locs, Pt.cells, Pt.slots] at X104 l104 y104 z104 st104 hQ104 hS'104 hg'104 Cr104
  subst l104 y104 z104
  obtain ⟨x104, rfl, Nq104, Kq104, Sq104⟩ := hQ104
  have N104 := Fr.app N103 Nq104
  have X104 : Stand p l e _ (s.setVm T104.vm) m _ below meth c T104 _ _ _ := X104
  obtain ⟨hZ104, hown104⟩ := wideOn hZ103 hS'104 hown103
  have hS104 : s.Since T104.vm T104.heap.size := hS103.trans hS'104 (Nat.le_trans hk103 hg'104)
  have hk104 := Nat.le_refl T104.heap.size
  have C104 := C103.trans Cr104
  have K104 : Keep h0 T104.heap [] := K103.trans Kq104 all0
  have O104 : Old Z n0 T104.heap := O103.keep Kq104 all0
  refine Go.tr st104 ?_
  show Go p.tables e below Kx T104 (mkF m 151 #[.val (.int p0), .val (.int p1), .val (.int p2), .val (.int n1), .val (.int n2), .val (.int ca0), .val (.int ca1), .val (.int cb0), .val (.int cb1), .val (.int k1), .val (.int k2), .val (.int kd), .val (.ref x103), .unset, .unset, .unset, .unset, .unset] [(.ref x104)])
  refine s_astore (pc' := 153) (Ls' := #[.val (.int p0), .val (.int p1), .val (.int p2), .val (.int n1), .val (.int n2), .val (.int ca0), .val (.int ca1), .val (.int cb0), .val (.int cb1), .val (.int k1), .val (.int k2), .val (.int kd), .val (.ref x103), .val (.ref x104), .unset, .unset, .unset, .unset]) X104.here hx (hb hby at_151) rfl rfl rfl ?_
  obtain ⟨T105, h105, X105, e105, E105, A105, D105, -, st105⟩ := newO X104 hx hZ104 hown104 (hw _ (List.mem_of_getElem? (i := 37) rfl)) (hw _ (List.mem_of_getElem? (i := 38) rfl)) (hw _ (List.mem_of_getElem? (i := 39) rfl)) rfl (g := (mkF m 153 #[.val (.int p0), .val (.int p1), .val (.int p2), .val (.int n1), .val (.int n2), .val (.int ca0), .val (.int ca1), .val (.int cb0), .val (.int cb1), .val (.int k1), .val (.int k2), .val (.int kd), .val (.ref x103), .val (.ref x104), .unset, .unset, .unset, .unset] [])) rfl (hb hby at_153) (by decide) (by decide)
  obtain ⟨b105, g105⟩ : ∃ z, z = T104.heap.size := ⟨_, rfl⟩
  rw [← g105] at A105 D105 st105
  have sz105 : h0.size ≤ b105 := Nat.le_trans K104.1 (Nat.le_of_eq g105.symm)
  have ge105 : n0 ≤ b105 := Nat.le_trans (O104.1 ▸ O104.2.1) (Nat.le_of_eq g105.symm)
  have sn105 : Safe Z consts_1 T104.vm T104.heap b105 := Safe.new (Nat.le_of_eq g105.symm)
  have K105 : Keep h0 h105 [] := K104.ext E105
  have O105 : Old Z n0 h105 := O104.ext E105
  have sf106 : Safe Z consts_1 T104.vm h105 b105 := (Safe.ext E105 Cr104.1 sn105)
  have H105 : CHv Z consts_1 T104.vm h105 := Cr104.1.ext E105
  have C105 : CHr Z consts_1 s.vm h0 T104.vm h105 := C104.trans (CHr.ext E105 Cr104.1)
  have hk105 := Nat.le_trans hk104 E105.1
  have F105_text : Fld Z h105 b105 "com/example/data_roles/dataroles/policy/Condition" "text" "Ljava/lang/String;" .null := D105 (Or.inr (hw _ (List.mem_of_getElem? (i := 45) rfl))) (ty := (.object "java/lang/String")) (by decide)
  have F105_constraint : Fld Z h105 b105 "com/example/data_roles/dataroles/policy/Condition" "constraint" "Z" (.int (0 : Int32)) := D105 (Or.inr (hw _ (List.mem_of_getElem? (i := 47) rfl))) (ty := .boolean) (by decide)
  refine Go.st st105 ?_
  show Go p.tables e below Kx T105 (mkF m 156 #[.val (.int p0), .val (.int p1), .val (.int p2), .val (.int n1), .val (.int n2), .val (.int ca0), .val (.int ca1), .val (.int cb0), .val (.int cb1), .val (.int k1), .val (.int k2), .val (.int kd), .val (.ref x103), .val (.ref x104), .unset, .unset, .unset, .unset] [(.ref b105)])
  refine s_dup (pc' := 157) X105.here hx (hb hby at_156) rfl rfl ?_
  refine s_aload (pc' := 159) X105.here hx (hb hby at_157) rfl rfl rfl ?_
  refine s_iload (pc' := 161) X105.here hx (hb hby at_159) rfl rfl ?_
  obtain ⟨_, _, ⟨T107, L107, k107, n107⟩, -, X107, ⟨Lc107, hQ107, l107, y107, z107⟩, st107⟩ := X105.specialBack hx (y := (⟨"com/example/data_roles/dataroles/policy/Condition", "<init>", "(Ljava/lang/String;Z)V"⟩ : MethodName)) rfl hown104 (mvT hZ104 (hw _ (List.mem_of_getElem? (i := 40) rfl))) (mvT hZ104 (hw _ (List.mem_of_getElem? (i := 41) rfl))) (mvT hZ104 (hw _ (List.mem_of_getElem? (i := 42) rfl))) (by decide) (backOf (W := 1) (rmN l Z a0 hw [] b105 x103 k1 h105 n0 O105 hk1 ge105 A105 F105_text F105_constraint) hZ104 (hw _ (List.mem_of_getElem? (i := 42) rfl)) (hw _ (List.mem_of_getElem? (i := 39) rfl)) (by decide) (by decide)) (g := (mkF m 161 #[.val (.int p0), .val (.int p1), .val (.int p2), .val (.int n1), .val (.int n2), .val (.int ca0), .val (.int ca1), .val (.int cb0), .val (.int cb1), .val (.int k1), .val (.int k2), .val (.int kd), .val (.ref x103), .val (.ref x104), .unset, .unset, .unset, .unset] [(.int k1), (.ref x103), (.ref b105), (.ref b105)])) rfl (by rw [hml]; rfl) (Steps.refl _) (a := b105) (argsL := [(.ref x103), (.int k1)]) (rest := [(.ref b105)]) (lenOf pd_4 rfl) rfl (by show 2 * 0 + _ ≤ _; exact Nat.le_of_eq rfl) (hb hby at_161) (fun _ _ => ⟨rfl, e105, (by decide : 13 + 0 ≤ _), (by decide : 26 + 0 ≤ _)⟩)
  dsimp only [Pt.U, Pt.locs, Pt.cells, Pt.slots] at X107 l107 y107 z107 st107 hQ107
  subst l107 y107 z107
  obtain ⟨rfl, Nq107, Kq107, q1_107, q2_107, q3_107⟩ := hQ107
  have N107 := Fr.app N104 Nq107
  have K107 : Keep h0 T107.heap [] := K105.trans Kq107 (allS (P := fun zz => zz ∈ [] ∨ h0.size ≤ zz) (Or.inr sz105) all0)
  have O107 : Old Z n0 T107.heap := O105.keep Kq107 (allS ge105 all0)
  have sf108 : Safe Z consts_1 T104.vm T107.heap b105 := (Safe.keep Kq107 (sfS sf106 sf0) H105 sf106)
  have H107 : CHv Z consts_1 T104.vm T107.heap := H105.keep Kq107 (sfS sf106 sf0)
  have C107 : CHr Z consts_1 s.vm h0 T104.vm T107.heap := C105.trans (CHr.keep Kq107 (sfS sf106 sf0) H105)
  have hk107 := Nat.le_trans hk105 Kq107.1
  refine Go.tr st107 ?_
  show Go p.tables e below Kx T107 (mkF m 164 #[.val (.int p0), .val (.int p1), .val (.int p2), .val (.int n1), .val (.int n2), .val (.int ca0), .val (.int ca1), .val (.int cb0), .val (.int cb1), .val (.int k1), .val (.int k2), .val (.int kd), .val (.ref x103), .val (.ref x104), .unset, .unset, .unset, .unset] [(.ref b105)])
  refine s_astore (pc' := 166) (Ls' := #[.val (.int p0), .val (.int p1), .val (.int p2), .val (.int n1), .val (.int n2), .val (.int ca0), .val (.int ca1), .val (.int cb0), .val (.int cb1), .val (.int k1), .val (.int k2), .val (.int kd), .val (.ref x103), .val (.ref x104), .val (.ref b105), .unset, .unset, .unset]) X107.here hx (hb hby at_164) rfl rfl rfl ?_
  obtain ⟨T109, h109, X109, e109, E109, A109, D109, -, st109⟩ := newO X107 hx hZ104 hown104 (hw _ (List.mem_of_getElem? (i := 37) rfl)) (hw _ (List.mem_of_getElem? (i := 38) rfl)) (hw _ (List.mem_of_getElem? (i := 39) rfl)) rfl (g := (mkF m 166 #[.val (.int p0), .val (.int p1), .val (.int p2), .val (.int n1), .val (.int n2), .val (.int ca0), .val (.int ca1), .val (.int cb0), .val (.int cb1), .val (.int k1), .val (.int k2), .val (.int kd), .val (.ref x103), .val (.ref x104), .val (.ref b105), .unset, .unset, .unset] [])) rfl (hb hby at_166) (by decide) (by decide)
  obtain ⟨b109, g109⟩ : ∃ z, z = T107.heap.size := ⟨_, rfl⟩
  rw [← g109] at A109 D109 st109
  have sz109 : h0.size ≤ b109 := Nat.le_trans K107.1 (Nat.le_of_eq g109.symm)
  have ge109 : n0 ≤ b109 := Nat.le_trans (O107.1 ▸ O107.2.1) (Nat.le_of_eq g109.symm)
  have sn109 : Safe Z consts_1 T104.vm T107.heap b109 := Safe.new (Nat.le_of_eq g109.symm)
  have K109 : Keep h0 h109 [] := K107.ext E109
  have O109 : Old Z n0 h109 := O107.ext E109
  have sf110 : Safe Z consts_1 T104.vm h109 b105 := (Safe.ext E109 H107 sf108)
  have sf111 : Safe Z consts_1 T104.vm h109 b109 := (Safe.ext E109 H107 sn109)
  have H109 : CHv Z consts_1 T104.vm h109 := H107.ext E109
  have C109 : CHr Z consts_1 s.vm h0 T104.vm h109 := C107.trans (CHr.ext E109 H107)
  have hk109 := Nat.le_trans hk107 E109.1
  have F109_text : Fld Z h109 b109 "com/example/data_roles/dataroles/policy/Condition" "text" "Ljava/lang/String;" .null := D109 (Or.inr (hw _ (List.mem_of_getElem? (i := 45) rfl))) (ty := (.object "java/lang/String")) (by decide)
  have F109_constraint : Fld Z h109 b109 "com/example/data_roles/dataroles/policy/Condition" "constraint" "Z" (.int (0 : Int32)) := D109 (Or.inr (hw _ (List.mem_of_getElem? (i := 47) rfl))) (ty := .boolean) (by decide)
  refine Go.st st109 ?_
  show Go p.tables e below Kx T109 (mkF m 169 #[.val (.int p0), .val (.int p1), .val (.int p2), .val (.int n1), .val (.int n2), .val (.int ca0), .val (.int ca1), .val (.int cb0), .val (.int cb1), .val (.int k1), .val (.int k2), .val (.int kd), .val (.ref x103), .val (.ref x104), .val (.ref b105), .unset, .unset, .unset] [(.ref b109)])
  refine s_dup (pc' := 170) X109.here hx (hb hby at_169) rfl rfl ?_
  refine s_aload (pc' := 172) X109.here hx (hb hby at_170) rfl rfl rfl ?_
  refine s_iload (pc' := 174) X109.here hx (hb hby at_172) rfl rfl ?_
  obtain ⟨_, _, ⟨T112, L112, k112, n112⟩, -, X112, ⟨Lc112, hQ112, l112, y112, z112⟩, st112⟩ := X109.specialBack hx (y := (⟨"com/example/data_roles/dataroles/policy/Condition", "<init>", "(Ljava/lang/String;Z)V"⟩ : MethodName)) rfl hown104 (mvT hZ104 (hw _ (List.mem_of_getElem? (i := 40) rfl))) (mvT hZ104 (hw _ (List.mem_of_getElem? (i := 41) rfl))) (mvT hZ104 (hw _ (List.mem_of_getElem? (i := 42) rfl))) (by decide) (backOf (W := 1) (rmN l Z a0 hw [] b109 x104 k2 h109 n0 O109 hk2 ge109 A109 F109_text F109_constraint) hZ104 (hw _ (List.mem_of_getElem? (i := 42) rfl)) (hw _ (List.mem_of_getElem? (i := 39) rfl)) (by decide) (by decide)) (g := (mkF m 174 #[.val (.int p0), .val (.int p1), .val (.int p2), .val (.int n1), .val (.int n2), .val (.int ca0), .val (.int ca1), .val (.int cb0), .val (.int cb1), .val (.int k1), .val (.int k2), .val (.int kd), .val (.ref x103), .val (.ref x104), .val (.ref b105), .unset, .unset, .unset] [(.int k2), (.ref x104), (.ref b109), (.ref b109)])) rfl (by rw [hml]; rfl) (Steps.refl _) (a := b109) (argsL := [(.ref x104), (.int k2)]) (rest := [(.ref b109)]) (lenOf pd_4 rfl) rfl (by show 2 * 0 + _ ≤ _; exact Nat.le_of_eq rfl) (hb hby at_174) (fun _ _ => ⟨rfl, e109, (by decide : 14 + 0 ≤ _), (by decide : 28 + 0 ≤ _)⟩)
  dsimp only [Pt.U, Pt.locs, Pt.cells, Pt.slots] at X112 l112 y112 z112 st112 hQ112
  subst l112 y112 z112
  obtain ⟨rfl, Nq112, Kq112, q1_112, q2_112, q3_112⟩ := hQ112
  have N112 := Fr.app N107 Nq112
  have K112 : Keep h0 T112.heap [] := K109.trans Kq112 (allS (P := fun zz => zz ∈ [] ∨ h0.size ≤ zz) (Or.inr sz109) all0)
  have O112 : Old Z n0 T112.heap := O109.keep Kq112 (allS ge109 all0)
  have sf113 : Safe Z consts_1 T104.vm T112.heap b105 := (Safe.keep Kq112 (sfS sf111 sf0) H109 sf110)
  have sf114 : Safe Z consts_1 T104.vm T112.heap b109 := (Safe.keep Kq112 (sfS sf111 sf0) H109 sf111)
  have H112 : CHv Z consts_1 T104.vm T112.heap := H109.keep Kq112 (sfS sf111 sf0)
  have C112 : CHr Z consts_1 s.vm h0 T104.vm T112.heap := C109.trans (CHr.keep Kq112 (sfS sf111 sf0) H109)
  have hk112 := Nat.le_trans hk109 Kq112.1
  refine Go.tr st112 ?_
  show Go p.tables e below Kx T112 (mkF m 177 #[.val (.int p0), .val (.int p1), .val (.int p2), .val (.int n1), .val (.int n2), .val (.int ca0), .val (.int ca1), .val (.int cb0), .val (.int cb1), .val (.int k1), .val (.int k2), .val (.int kd), .val (.ref x103), .val (.ref x104), .val (.ref b105), .unset, .unset, .unset] [(.ref b109)])
  refine s_astore (pc' := 179) (Ls' := #[.val (.int p0), .val (.int p1), .val (.int p2), .val (.int n1), .val (.int n2), .val (.int ca0), .val (.int ca1), .val (.int cb0), .val (.int cb1), .val (.int k1), .val (.int k2), .val (.int kd), .val (.ref x103), .val (.ref x104), .val (.ref b105), .val (.ref b109), .unset, .unset]) X112.here hx (hb hby at_177) rfl rfl rfl ?_
  refine s_iload (pc' := 181) X112.here hx (hb hby at_179) rfl rfl ?_
  refine s_iconst (pc' := 182) (v := (1 : Int32)) X112.here hx (hb hby at_181) rfl rfl ?_
  by_cases hc115 : kd = (1 : Int32)
  · skip
    refine s_icmpN (pc' := 185) X112.here hx (hb hby at_182) rfl (teq hc115).2 ?_
    refine s_aconst_null (pc' := 186) X112.here hx (hb hby at_185) rfl ?_
    refine s_astore (pc' := 188) (Ls' := #[.val (.int p0), .val (.int p1), .val (.int p2), .val (.int n1), .val (.int n2), .val (.int ca0), .val (.int ca1), .val (.int cb0), .val (.int cb1), .val (.int k1), .val (.int k2), .val (.int kd), .val (.ref x103), .val (.ref x104), .val (.ref b105), .val (.ref b109), .val .null, .unset]) X112.here hx (hb hby at_186) rfl rfl rfl ?_
    refine s_aload (pc' := 190) X112.here hx (hb hby at_188) rfl rfl rfl ?_
    refine s_aload (pc' := 192) X112.here hx (hb hby at_190) rfl rfl rfl ?_
    have f117 : Exa Z T112.heap b105 "com/example/data_roles/dataroles/policy/Condition" := ((q1_107.ext E109).keep Kq112)
    obtain ⟨cq116, kq116, q116a, q116b, q116c⟩ := isOf hZ104 rfl f117
    obtain ⟨_, _, ⟨T116, L116, k116, n116⟩, -, X116, ⟨Lc116, hQ116, l116, y116, z116⟩, st116⟩ := X112.virtualBack hx (y := (⟨"com/example/data_roles/dataroles/policy/Condition", "equals", "(Ljava/lang/Object;)Z"⟩ : MethodName)) (z := (⟨"com/example/data_roles/dataroles/policy/Condition", "equals", "(Ljava/lang/Object;)Z"⟩ : MethodName)) hown104 (mvT hZ104 (hw _ (List.mem_of_getElem? (i := 48) rfl))) (mvT hZ104 (hw _ (List.mem_of_getElem? (i := 49) rfl))) (notFace_of_selects (args := #[]) (mvT hZ104 (hw _ (List.mem_of_getElem? (i := 51) rfl)))) (mvT hZ104 (hw _ (List.mem_of_getElem? (i := 51) rfl))) (mvT hZ104 (hw _ (List.mem_of_getElem? (i := 50) rfl))) (by decide) (backOf (W := 0) (rmQ0 l Z a0 hw [] b105 T112.heap n0 O112 ) hZ104 (hw _ (List.mem_of_getElem? (i := 52) rfl)) (hw _ (List.mem_of_getElem? (i := 39) rfl)) (by decide) (by decide)) q116a q116c (g := (mkF m 192 #[.val (.int p0), .val (.int p1), .val (.int p2), .val (.int n1), .val (.int n2), .val (.int ca0), .val (.int ca1), .val (.int cb0), .val (.int cb1), .val (.int k1), .val (.int k2), .val (.int kd), .val (.ref x103), .val (.ref x104), .val (.ref b105), .val (.ref b109), .val .null, .unset] [.null, (.ref b105)])) rfl (by rw [hml]; rfl) (Steps.refl _) (argsL := [.null]) (rest := []) (lenOf pd_2 rfl) rfl (by show 2 * 0 + _ ≤ _; exact Nat.le_of_eq rfl) (hb hby at_192) (fun _ _ => ⟨rfl, rfl, (by decide : 14 + 0 ≤ _), (by decide : 28 + 0 ≤ _)⟩)
    dsimp only [Pt.U, Pt.locs, Pt.cells, Pt.slots] at X116 l116 y116 z116 st116 hQ116
    subst l116 y116 z116
    obtain ⟨rfl, Nq116, hE116⟩ := hQ116
    have N116 := Fr.app N112 Nq116
    refine Go.tr st116 ?_
    show Go p.tables e below Kx T116 (mkF m 195 #[.val (.int p0), .val (.int p1), .val (.int p2), .val (.int n1), .val (.int n2), .val (.int ca0), .val (.int ca1), .val (.int cb0), .val (.int cb1), .val (.int k1), .val (.int k2), .val (.int kd), .val (.ref x103), .val (.ref x104), .val (.ref b105), .val (.ref b109), .val .null, .unset] [(.int (0 : Int32))])
    refine s_ifN (pc' := 198) X116.here hx (hb hby at_195) rfl ((if0 _ _).trans (teq (by decide)).2) ?_
    refine s_aload (pc' := 200) X116.here hx (hb hby at_198) rfl rfl rfl ?_
    refine s_aload (pc' := 202) X116.here hx (hb hby at_200) rfl rfl rfl ?_
    have f118 : Fld Z T112.heap b105 "com/example/data_roles/dataroles/policy/Condition" "text" "Ljava/lang/String;" (.ref x103) := ((q2_107.ext E109).keep Kq112 (ninS (Nat.ne_of_lt (Nat.lt_of_lt_of_le (Nat.lt_of_lt_of_le A105.lt Kq107.1) (Nat.le_of_eq g109.symm))) nin0))
    have f119 : Fld Z T112.heap b105 "com/example/data_roles/dataroles/policy/Condition" "constraint" "Z" (.int k1) := ((q3_107.ext E109).keep Kq112 (ninS (Nat.ne_of_lt (Nat.lt_of_lt_of_le (Nat.lt_of_lt_of_le A105.lt Kq107.1) (Nat.le_of_eq g109.symm))) nin0))
    have f120 : Str Z T112.heap T103.heap.size x103 (chars n1 ca0 ca1) := (((((Sq103.keep Kq104 all0).ext E105).keep Kq107 (allS (Nat.le_trans Kq104.1 (Nat.le_of_eq g105.symm)) all0)).ext E109).keep Kq112 (allS (Nat.le_trans (Nat.le_trans (Nat.le_trans Kq104.1 E105.1) Kq107.1) (Nat.le_of_eq g109.symm)) all0))
    obtain ⟨cq121, kq121, q121a, q121b, q121c⟩ := isOf hZ104 hE116 f117
    obtain ⟨_, _, ⟨T121, L121, k121, n121⟩, -, X121, ⟨Lc121, hQ121, l121, y121, z121⟩, st121⟩ := X116.virtualBack hx (y := (⟨"com/example/data_roles/dataroles/policy/Condition", "equals", "(Ljava/lang/Object;)Z"⟩ : MethodName)) (z := (⟨"com/example/data_roles/dataroles/policy/Condition", "equals", "(Ljava/lang/Object;)Z"⟩ : MethodName)) hown104 (mvT hZ104 (hw _ (List.mem_of_getElem? (i := 48) rfl))) (mvT hZ104 (hw _ (List.mem_of_getElem? (i := 49) rfl))) (notFace_of_selects (args := #[]) (mvT hZ104 (hw _ (List.mem_of_getElem? (i := 51) rfl)))) (mvT hZ104 (hw _ (List.mem_of_getElem? (i := 51) rfl))) (mvT hZ104 (hw _ (List.mem_of_getElem? (i := 50) rfl))) (by decide) (backOf (W := 0) (rmQ2 l Z a0 hw [] b105 b105 x103 x103 _ _ (chars n1 ca0 ca1) (chars n1 ca0 ca1) k1 k1 T112.heap n0 O112 G1 S1 P1 f117 f118 f119 f117 f118 f119 f120 f120) hZ104 (hw _ (List.mem_of_getElem? (i := 52) rfl)) (hw _ (List.mem_of_getElem? (i := 39) rfl)) (by decide) (by decide)) q121a q121c (g := (mkF m 202 #[.val (.int p0), .val (.int p1), .val (.int p2), .val (.int n1), .val (.int n2), .val (.int ca0), .val (.int ca1), .val (.int cb0), .val (.int cb1), .val (.int k1), .val (.int k2), .val (.int kd), .val (.ref x103), .val (.ref x104), .val (.ref b105), .val (.ref b109), .val .null, .unset] [(.ref b105), (.ref b105)])) rfl (by rw [hml]; rfl) (Steps.refl _) (argsL := [(.ref b105)]) (rest := []) (lenOf pd_2 rfl) rfl (by show 2 * 0 + _ ≤ _; exact Nat.le_of_eq rfl) (hb hby at_202) (fun _ _ => ⟨rfl, hE116, (by decide : 14 + 0 ≤ _), (by decide : 28 + 0 ≤ _)⟩)
    dsimp only [Pt.U, Pt.locs, Pt.cells, Pt.slots] at X121 l121 y121 z121 st121 hQ121
    subst l121 y121 z121
    obtain ⟨⟨r121, rfl, hr121⟩, Nq121, hE121⟩ := hQ121
    have hr121 : r121 = 1 := by
      rcases hr121 with ⟨q, -⟩ | ⟨-, q⟩
      · exact q
      · exact absurd ⟨rfl, rfl⟩ q
    subst hr121
    have N121 := Fr.app N116 Nq121
    refine Go.tr st121 ?_
    show Go p.tables e below Kx T121 (mkF m 205 #[.val (.int p0), .val (.int p1), .val (.int p2), .val (.int n1), .val (.int n2), .val (.int ca0), .val (.int ca1), .val (.int cb0), .val (.int cb1), .val (.int k1), .val (.int k2), .val (.int kd), .val (.ref x103), .val (.ref x104), .val (.ref b105), .val (.ref b109), .val .null, .unset] [(.int (1 : Int32))])
    refine s_ifN (pc' := 208) X121.here hx (hb hby at_205) rfl ((if0 _ _).trans (feq (by decide)).1) ?_
    refine s_iconst (pc' := 209) (v := (1 : Int32)) X121.here hx (hb hby at_208) rfl rfl ?_
    refine s_goto (pc' := 213) X121.here hx (hb hby at_209) (by decide) (by decide) ?_
    obtain ⟨fs, hr, hrun, hended, hRW⟩ := X121.leaveW hS104 (by rw [hE121]; exact hk112) (v := (some (.int (1 : Int32)))) (fun h => by rw [Bd.returns] at h; cases h)
    have hCx := C112.trans (CHv.at X121 hZ104 hEL H112)
    refine Go.fin (retN X121 hx (t := .boolean) Bd.returns (by simp) (hb hby at_213) hr) (hF _ _ hrun hended ⟨_, _, rfl, ?_, ?_, hRW.1, hRW.2.1, hRW.2.2.1, hRW.2.2.2.mono (by decide) (by decide)⟩)
    · show QL Z p0 p1 p2 h0 n0 ((some (.int (1 : Int32))) : Option Value) T121.heap _
      rw [hE121]
      exact ⟨rfl, N121⟩
    · show CHr Z consts_1 s.vm s.heap T121.vm T121.heap
      rw [hE121, hh]; exact hCx
  · skip
    refine s_icmpY (pc' := 214) X112.here hx (hb hby at_182) (feq hc115).2 (by decide) (by decide) ?_
    refine s_iload (pc' := 216) X112.here hx (hb hby at_214) rfl rfl ?_
    refine s_iconst (pc' := 217) (v := (2 : Int32)) X112.here hx (hb hby at_216) rfl rfl ?_
    by_cases hc122 : kd = (2 : Int32)
    · skip
      refine s_icmpN (pc' := 220) X112.here hx (hb hby at_217) rfl (teq hc122).2 ?_
      refine s_aload (pc' := 222) X112.here hx (hb hby at_220) rfl rfl rfl ?_
      refine s_astore (pc' := 224) (Ls' := #[.val (.int p0), .val (.int p1), .val (.int p2), .val (.int n1), .val (.int n2), .val (.int ca0), .val (.int ca1), .val (.int cb0), .val (.int cb1), .val (.int k1), .val (.int k2), .val (.int kd), .val (.ref x103), .val (.ref x104), .val (.ref b105), .val (.ref b109), .val (.ref x103), .unset]) X112.here hx (hb hby at_222) rfl rfl rfl ?_
      refine s_aload (pc' := 226) X112.here hx (hb hby at_224) rfl rfl rfl ?_
      refine s_aload (pc' := 228) X112.here hx (hb hby at_226) rfl rfl rfl ?_
      have f123 : Exa Z T112.heap x103 "java/lang/String" := (((((Sq103.2.1.keep Kq104).ext E105).keep Kq107).ext E109).keep Kq112)
      have f125 : Exa Z T112.heap b105 "com/example/data_roles/dataroles/policy/Condition" := ((q1_107.ext E109).keep Kq112)
      obtain ⟨cq124, kq124, q124a, q124b, q124c⟩ := isOf hZ104 rfl f125
      obtain ⟨_, _, ⟨T124, L124, k124, n124⟩, -, X124, ⟨Lc124, hQ124, l124, y124, z124⟩, st124⟩ := X112.virtualBack hx (y := (⟨"com/example/data_roles/dataroles/policy/Condition", "equals", "(Ljava/lang/Object;)Z"⟩ : MethodName)) (z := (⟨"com/example/data_roles/dataroles/policy/Condition", "equals", "(Ljava/lang/Object;)Z"⟩ : MethodName)) hown104 (mvT hZ104 (hw _ (List.mem_of_getElem? (i := 48) rfl))) (mvT hZ104 (hw _ (List.mem_of_getElem? (i := 49) rfl))) (notFace_of_selects (args := #[]) (mvT hZ104 (hw _ (List.mem_of_getElem? (i := 51) rfl)))) (mvT hZ104 (hw _ (List.mem_of_getElem? (i := 51) rfl))) (mvT hZ104 (hw _ (List.mem_of_getElem? (i := 50) rfl))) (by decide) (backOf (W := 0) (rmQ1 l Z a0 hw [] b105 x103 T112.heap n0 O112 f123) hZ104 (hw _ (List.mem_of_getElem? (i := 52) rfl)) (hw _ (List.mem_of_getElem? (i := 39) rfl)) (by decide) (by decide)) q124a q124c (g := (mkF m 228 #[.val (.int p0), .val (.int p1), .val (.int p2), .val (.int n1), .val (.int n2), .val (.int ca0), .val (.int ca1), .val (.int cb0), .val (.int cb1), .val (.int k1), .val (.int k2), .val (.int kd), .val (.ref x103), .val (.ref x104), .val (.ref b105), .val (.ref b109), .val (.ref x103), .unset] [(.ref x103), (.ref b105)])) rfl (by rw [hml]; rfl) (Steps.refl _) (argsL := [(.ref x103)]) (rest := []) (lenOf pd_2 rfl) rfl (by show 2 * 0 + _ ≤ _; exact Nat.le_of_eq rfl) (hb hby at_228) (fun _ _ => ⟨rfl, rfl, (by decide : 14 + 0 ≤ _), (by decide : 28 + 0 ≤ _)⟩)
      dsimp only [Pt.U, Pt.locs, Pt.cells, Pt.slots] at X124 l124 y124 z124 st124 hQ124
      subst l124 y124 z124
      obtain ⟨rfl, Nq124, hE124⟩ := hQ124
      have N124 := Fr.app N112 Nq124
      refine Go.tr st124 ?_
      show Go p.tables e below Kx T124 (mkF m 231 #[.val (.int p0), .val (.int p1), .val (.int p2), .val (.int n1), .val (.int n2), .val (.int ca0), .val (.int ca1), .val (.int cb0), .val (.int cb1), .val (.int k1), .val (.int k2), .val (.int kd), .val (.ref x103), .val (.ref x104), .val (.ref b105), .val (.ref b109), .val (.ref x103), .unset] [(.int (0 : Int32))])
      refine s_ifN (pc' := 234) X124.here hx (hb hby at_231) rfl ((if0 _ _).trans (teq (by decide)).2) ?_
      refine s_aload (pc' := 236) X124.here hx (hb hby at_234) rfl rfl rfl ?_
      refine s_aload (pc' := 238) X124.here hx (hb hby at_236) rfl rfl rfl ?_
      have f126 : Fld Z T112.heap b105 "com/example/data_roles/dataroles/policy/Condition" "text" "Ljava/lang/String;" (.ref x103) := ((q2_107.ext E109).keep Kq112 (ninS (Nat.ne_of_lt (Nat.lt_of_lt_of_le (Nat.lt_of_lt_of_le A105.lt Kq107.1) (Nat.le_of_eq g109.symm))) nin0))
      have f127 : Fld Z T112.heap b105 "com/example/data_roles/dataroles/policy/Condition" "constraint" "Z" (.int k1) := ((q3_107.ext E109).keep Kq112 (ninS (Nat.ne_of_lt (Nat.lt_of_lt_of_le (Nat.lt_of_lt_of_le A105.lt Kq107.1) (Nat.le_of_eq g109.symm))) nin0))
      have f128 : Str Z T112.heap T103.heap.size x103 (chars n1 ca0 ca1) := (((((Sq103.keep Kq104 all0).ext E105).keep Kq107 (allS (Nat.le_trans Kq104.1 (Nat.le_of_eq g105.symm)) all0)).ext E109).keep Kq112 (allS (Nat.le_trans (Nat.le_trans (Nat.le_trans Kq104.1 E105.1) Kq107.1) (Nat.le_of_eq g109.symm)) all0))
      obtain ⟨cq129, kq129, q129a, q129b, q129c⟩ := isOf hZ104 hE124 f125
      obtain ⟨_, _, ⟨T129, L129, k129, n129⟩, -, X129, ⟨Lc129, hQ129, l129, y129, z129⟩, st129⟩ := X124.virtualBack hx (y := (⟨"com/example/data_roles/dataroles/policy/Condition", "equals", "(Ljava/lang/Object;)Z"⟩ : MethodName)) (z := (⟨"com/example/data_roles/dataroles/policy/Condition", "equals", "(Ljava/lang/Object;)Z"⟩ : MethodName)) hown104 (mvT hZ104 (hw _ (List.mem_of_getElem? (i := 48) rfl))) (mvT hZ104 (hw _ (List.mem_of_getElem? (i := 49) rfl))) (notFace_of_selects (args := #[]) (mvT hZ104 (hw _ (List.mem_of_getElem? (i := 51) rfl)))) (mvT hZ104 (hw _ (List.mem_of_getElem? (i := 51) rfl))) (mvT hZ104 (hw _ (List.mem_of_getElem? (i := 50) rfl))) (by decide) (backOf (W := 0) (rmQ2 l Z a0 hw [] b105 b105 x103 x103 _ _ (chars n1 ca0 ca1) (chars n1 ca0 ca1) k1 k1 T112.heap n0 O112 G1 S1 P1 f125 f126 f127 f125 f126 f127 f128 f128) hZ104 (hw _ (List.mem_of_getElem? (i := 52) rfl)) (hw _ (List.mem_of_getElem? (i := 39) rfl)) (by decide) (by decide)) q129a q129c (g := (mkF m 238 #[.val (.int p0), .val (.int p1), .val (.int p2), .val (.int n1), .val (.int n2), .val (.int ca0), .val (.int ca1), .val (.int cb0), .val (.int cb1), .val (.int k1), .val (.int k2), .val (.int kd), .val (.ref x103), .val (.ref x104), .val (.ref b105), .val (.ref b109), .val (.ref x103), .unset] [(.ref b105), (.ref b105)])) rfl (by rw [hml]; rfl) (Steps.refl _) (argsL := [(.ref b105)]) (rest := []) (lenOf pd_2 rfl) rfl (by show 2 * 0 + _ ≤ _; exact Nat.le_of_eq rfl) (hb hby at_238) (fun _ _ => ⟨rfl, hE124, (by decide : 14 + 0 ≤ _), (by decide : 28 + 0 ≤ _)⟩)
      dsimp only [Pt.U, Pt.locs, Pt.cells, Pt.slots] at X129 l129 y129 z129 st129 hQ129
      subst l129 y129 z129
      obtain ⟨⟨r129, rfl, hr129⟩, Nq129, hE129⟩ := hQ129
      have hr129 : r129 = 1 := by
        rcases hr129 with ⟨q, -⟩ | ⟨-, q⟩
        · exact q
        · exact absurd ⟨rfl, rfl⟩ q
      subst hr129
      have N129 := Fr.app N124 Nq129
      refine Go.tr st129 ?_
      show Go p.tables e below Kx T129 (mkF m 241 #[.val (.int p0), .val (.int p1), .val (.int p2), .val (.int n1), .val (.int n2), .val (.int ca0), .val (.int ca1), .val (.int cb0), .val (.int cb1), .val (.int k1), .val (.int k2), .val (.int kd), .val (.ref x103), .val (.ref x104), .val (.ref b105), .val (.ref b109), .val (.ref x103), .unset] [(.int (1 : Int32))])
      refine s_ifN (pc' := 244) X129.here hx (hb hby at_241) rfl ((if0 _ _).trans (feq (by decide)).1) ?_
      refine s_iconst (pc' := 245) (v := (1 : Int32)) X129.here hx (hb hby at_244) rfl rfl ?_
      refine s_goto (pc' := 249) X129.here hx (hb hby at_245) (by decide) (by decide) ?_
      obtain ⟨fs, hr, hrun, hended, hRW⟩ := X129.leaveW hS104 (by rw [hE129]; exact hk112) (v := (some (.int (1 : Int32)))) (fun h => by rw [Bd.returns] at h; cases h)
      have hCx := C112.trans (CHv.at X129 hZ104 hEL H112)
      refine Go.fin (retN X129 hx (t := .boolean) Bd.returns (by simp) (hb hby at_249) hr) (hF _ _ hrun hended ⟨_, _, rfl, ?_, ?_, hRW.1, hRW.2.1, hRW.2.2.1, hRW.2.2.2.mono (by decide) (by decide)⟩)
      · show QL Z p0 p1 p2 h0 n0 ((some (.int (1 : Int32))) : Option Value) T129.heap _
        rw [hE129]
        exact ⟨rfl, N129⟩
      · show CHr Z consts_1 s.vm s.heap T129.vm T129.heap
        rw [hE129, hh]; exact hCx
    · skip
      refine s_icmpY (pc' := 250) X112.here hx (hb hby at_217) (feq hc122).2 (by decide) (by decide) ?_
      have J285 : ∀ (sm : Int32) (TJ285 : State) (LJ285 : List Loc), Stand p l e room_1 (s.setVm T104.vm) m #[(.int p0), (.int p1), (.int p2)] below meth c TJ285 LJ285 14 28 → Fr n0 LJ285 → TJ285.heap = T112.heap → ((sm = 1 ∧ (chars n1 ca0 ca1 = chars n2 cb0 cb1)) ∨ (sm = 0 ∧ ¬ (chars n1 ca0 ca1 = chars n2 cb0 cb1))) → Go p.tables e below Kx TJ285 (mkF m 285 #[.val (.int p0), .val (.int p1), .val (.int p2), .val (.int n1), .val (.int n2), .val (.int ca0), .val (.int ca1), .val (.int cb0), .val (.int cb1), .val (.int k1), .val (.int k2), .val (.int kd), .val (.ref x103), .val (.ref x104), .val (.ref b105), .val (.ref b109), .unset, .unset] [(.int sm)]) := by
        intro sm TJ285 LJ285 XJ285 NJ285 eJ285 hsm
        refine s_istore (pc' := 287) (Ls' := #[.val (.int p0), .val (.int p1), .val (.int p2), .val (.int n1), .val (.int n2), .val (.int ca0), .val (.int ca1), .val (.int cb0), .val (.int cb1), .val (.int k1), .val (.int k2), .val (.int kd), .val (.ref x103), .val (.ref x104), .val (.ref b105), .val (.ref b109), .val (.int sm), .unset]) XJ285.here hx (hb hby at_285) rfl  rfl ?_
        have J304 : ∀ (ex : Int32) (TJ304 : State) (LJ304 : List Loc), Stand p l e room_1 (s.setVm T104.vm) m #[(.int p0), (.int p1), (.int p2)] below meth c TJ304 LJ304 14 28 → Fr n0 LJ304 → TJ304.heap = T112.heap → ((ex = 1 ∧ ((chars n1 ca0 ca1 = chars n2 cb0 cb1) ∧ k1 = k2)) ∨ (ex = 0 ∧ ¬ ((chars n1 ca0 ca1 = chars n2 cb0 cb1) ∧ k1 = k2))) → Go p.tables e below Kx TJ304 (mkF m 304 #[.val (.int p0), .val (.int p1), .val (.int p2), .val (.int n1), .val (.int n2), .val (.int ca0), .val (.int ca1), .val (.int cb0), .val (.int cb1), .val (.int k1), .val (.int k2), .val (.int kd), .val (.ref x103), .val (.ref x104), .val (.ref b105), .val (.ref b109), .val (.int sm), .unset] [(.int ex)]) := by
          intro ex TJ304 LJ304 XJ304 NJ304 eJ304 hex
          have hex1 : ∀ r : Int32, ((r = 1 ∧ (chars n1 ca0 ca1 = chars n2 cb0 cb1) ∧ k1 = k2) ∨ (r = 0 ∧ ¬ ((chars n1 ca0 ca1 = chars n2 cb0 cb1) ∧ k1 = k2))) → r = ex := fun r hr => ex_one hex (by simpa [and_assoc] using hr)
          have hex2 : ∀ r : Int32, ((r = 1 ∧ (chars n2 cb0 cb1 = chars n1 ca0 ca1) ∧ k2 = k1) ∨ (r = 0 ∧ ¬ ((chars n2 cb0 cb1 = chars n1 ca0 ca1) ∧ k2 = k1))) → r = ex := fun r hr => ex_one hex (by rw [eq_comm (a := chars n1 ca0 ca1), eq_comm (a := k1)]; simpa [and_assoc] using hr)
          refine s_istore (pc' := 306) (Ls' := #[.val (.int p0), .val (.int p1), .val (.int p2), .val (.int n1), .val (.int n2), .val (.int ca0), .val (.int ca1), .val (.int cb0), .val (.int cb1), .val (.int k1), .val (.int k2), .val (.int kd), .val (.ref x103), .val (.ref x104), .val (.ref b105), .val (.ref b109), .val (.int sm), .val (.int ex)]) XJ304.here hx (hb hby at_304) rfl  rfl ?_
          refine s_aload (pc' := 308) XJ304.here hx (hb hby at_306) rfl rfl rfl ?_
          refine s_aload (pc' := 310) XJ304.here hx (hb hby at_308) rfl rfl rfl ?_
          have f130 : Exa Z T112.heap b105 "com/example/data_roles/dataroles/policy/Condition" := ((q1_107.ext E109).keep Kq112)
          have f131 : Fld Z T112.heap b105 "com/example/data_roles/dataroles/policy/Condition" "text" "Ljava/lang/String;" (.ref x103) := ((q2_107.ext E109).keep Kq112 (ninS (Nat.ne_of_lt (Nat.lt_of_lt_of_le (Nat.lt_of_lt_of_le A105.lt Kq107.1) (Nat.le_of_eq g109.symm))) nin0))
          have f132 : Fld Z T112.heap b105 "com/example/data_roles/dataroles/policy/Condition" "constraint" "Z" (.int k1) := ((q3_107.ext E109).keep Kq112 (ninS (Nat.ne_of_lt (Nat.lt_of_lt_of_le (Nat.lt_of_lt_of_le A105.lt Kq107.1) (Nat.le_of_eq g109.symm))) nin0))
          have f133 : Str Z T112.heap T103.heap.size x103 (chars n1 ca0 ca1) := (((((Sq103.keep Kq104 all0).ext E105).keep Kq107 (allS (Nat.le_trans Kq104.1 (Nat.le_of_eq g105.symm)) all0)).ext E109).keep Kq112 (allS (Nat.le_trans (Nat.le_trans (Nat.le_trans Kq104.1 E105.1) Kq107.1) (Nat.le_of_eq g109.symm)) all0))
          have f134 : Str Z T112.heap T104.heap.size x104 (chars n2 cb0 cb1) := ((((Sq104.ext E105).keep Kq107 (allS (Nat.le_of_eq g105.symm) all0)).ext E109).keep Kq112 (allS (Nat.le_trans (Nat.le_trans E105.1 Kq107.1) (Nat.le_of_eq g109.symm)) all0))
          obtain ⟨cq135, kq135, q135a, q135b, q135c⟩ := isOf hZ104 eJ304 f130
          obtain ⟨_, _, ⟨T135, L135, k135, n135⟩, -, X135, ⟨Lc135, hQ135, l135, y135, z135⟩, st135⟩ := XJ304.virtualBack hx (y := (⟨"com/example/data_roles/dataroles/policy/Condition", "equals", "(Ljava/lang/Object;)Z"⟩ : MethodName)) (z := (⟨"com/example/data_roles/dataroles/policy/Condition", "equals", "(Ljava/lang/Object;)Z"⟩ : MethodName)) hown104 (mvT hZ104 (hw _ (List.mem_of_getElem? (i := 48) rfl))) (mvT hZ104 (hw _ (List.mem_of_getElem? (i := 49) rfl))) (notFace_of_selects (args := #[]) (mvT hZ104 (hw _ (List.mem_of_getElem? (i := 51) rfl)))) (mvT hZ104 (hw _ (List.mem_of_getElem? (i := 51) rfl))) (mvT hZ104 (hw _ (List.mem_of_getElem? (i := 50) rfl))) (by decide) (backOf (W := 0) (rmQ2 l Z a0 hw [] b105 b109 x103 x104 _ _ (chars n1 ca0 ca1) (chars n2 cb0 cb1) k1 k2 T112.heap n0 O112 G1 S1 P1 f130 f131 f132 q1_112 q2_112 q3_112 f133 f134) hZ104 (hw _ (List.mem_of_getElem? (i := 52) rfl)) (hw _ (List.mem_of_getElem? (i := 39) rfl)) (by decide) (by decide)) q135a q135c (g := (mkF m 310 #[.val (.int p0), .val (.int p1), .val (.int p2), .val (.int n1), .val (.int n2), .val (.int ca0), .val (.int ca1), .val (.int cb0), .val (.int cb1), .val (.int k1), .val (.int k2), .val (.int kd), .val (.ref x103), .val (.ref x104), .val (.ref b105), .val (.ref b109), .val (.int sm), .val (.int ex)] [(.ref b109), (.ref b105)])) rfl (by rw [hml]; rfl) (Steps.refl _) (argsL := [(.ref b109)]) (rest := []) (lenOf pd_2 rfl) rfl (by show 2 * 0 + _ ≤ _; exact Nat.le_of_eq rfl) (hb hby at_310) (fun _ _ => ⟨rfl, eJ304, (by decide : 14 + 0 ≤ _), (by decide : 28 + 0 ≤ _)⟩)
          dsimp only [Pt.U, Pt.locs, Pt.cells, Pt.slots] at X135 l135 y135 z135 st135 hQ135
          subst l135 y135 z135
          obtain ⟨⟨r135, rfl, hr135⟩, Nq135, hE135⟩ := hQ135
          have hr135 : ex = r135 := (hex1 _ hr135).symm
          subst hr135
          have N135 := Fr.app NJ304 Nq135
          refine Go.tr st135 ?_
          show Go p.tables e below Kx T135 (mkF m 313 #[.val (.int p0), .val (.int p1), .val (.int p2), .val (.int n1), .val (.int n2), .val (.int ca0), .val (.int ca1), .val (.int cb0), .val (.int cb1), .val (.int k1), .val (.int k2), .val (.int kd), .val (.ref x103), .val (.ref x104), .val (.ref b105), .val (.ref b109), .val (.int sm), .val (.int ex)] [(.int ex)])
          refine s_iload (pc' := 315) X135.here hx (hb hby at_313) rfl rfl ?_
          refine s_icmpN (pc' := 318) X135.here hx (hb hby at_315) rfl (teq rfl).2 ?_
          refine s_aload (pc' := 320) X135.here hx (hb hby at_318) rfl rfl rfl ?_
          refine s_aload (pc' := 322) X135.here hx (hb hby at_320) rfl rfl rfl ?_
          obtain ⟨cq136, kq136, q136a, q136b, q136c⟩ := isOf hZ104 hE135 q1_112
          obtain ⟨_, _, ⟨T136, L136, k136, n136⟩, -, X136, ⟨Lc136, hQ136, l136, y136, z136⟩, st136⟩ := X135.virtualBack hx (y := (⟨"com/example/data_roles/dataroles/policy/Condition", "equals", "(Ljava/lang/Object;)Z"⟩ : MethodName)) (z := (⟨"com/example/data_roles/dataroles/policy/Condition", "equals", "(Ljava/lang/Object;)Z"⟩ : MethodName)) hown104 (mvT hZ104 (hw _ (List.mem_of_getElem? (i := 48) rfl))) (mvT hZ104 (hw _ (List.mem_of_getElem? (i := 49) rfl))) (notFace_of_selects (args := #[]) (mvT hZ104 (hw _ (List.mem_of_getElem? (i := 51) rfl)))) (mvT hZ104 (hw _ (List.mem_of_getElem? (i := 51) rfl))) (mvT hZ104 (hw _ (List.mem_of_getElem? (i := 50) rfl))) (by decide) (backOf (W := 0) (rmQ2 l Z a0 hw [] b109 b105 x104 x103 _ _ (chars n2 cb0 cb1) (chars n1 ca0 ca1) k2 k1 T112.heap n0 O112 G1 S1 P1 q1_112 q2_112 q3_112 f130 f131 f132 f134 f133) hZ104 (hw _ (List.mem_of_getElem? (i := 52) rfl)) (hw _ (List.mem_of_getElem? (i := 39) rfl)) (by decide) (by decide)) q136a q136c (g := (mkF m 322 #[.val (.int p0), .val (.int p1), .val (.int p2), .val (.int n1), .val (.int n2), .val (.int ca0), .val (.int ca1), .val (.int cb0), .val (.int cb1), .val (.int k1), .val (.int k2), .val (.int kd), .val (.ref x103), .val (.ref x104), .val (.ref b105), .val (.ref b109), .val (.int sm), .val (.int ex)] [(.ref b105), (.ref b109)])) rfl (by rw [hml]; rfl) (Steps.refl _) (argsL := [(.ref b105)]) (rest := []) (lenOf pd_2 rfl) rfl (by show 2 * 0 + _ ≤ _; exact Nat.le_of_eq rfl) (hb hby at_322) (fun _ _ => ⟨rfl, hE135, (by decide : 14 + 0 ≤ _), (by decide : 28 + 0 ≤ _)⟩)
          dsimp only [Pt.U, Pt.locs, Pt.cells, Pt.slots] at X136 l136 y136 z136 st136 hQ136
          subst l136 y136 z136
          obtain ⟨⟨r136, rfl, hr136⟩, Nq136, hE136⟩ := hQ136
          have hr136 : ex = r136 := (hex2 _ hr136).symm
          subst hr136
          have N136 := Fr.app N135 Nq136
          refine Go.tr st136 ?_
          show Go p.tables e below Kx T136 (mkF m 325 #[.val (.int p0), .val (.int p1), .val (.int p2), .val (.int n1), .val (.int n2), .val (.int ca0), .val (.int ca1), .val (.int cb0), .val (.int cb1), .val (.int k1), .val (.int k2), .val (.int kd), .val (.ref x103), .val (.ref x104), .val (.ref b105), .val (.ref b109), .val (.int sm), .val (.int ex)] [(.int ex)])
          refine s_iload (pc' := 327) X136.here hx (hb hby at_325) rfl rfl ?_
          refine s_icmpN (pc' := 330) X136.here hx (hb hby at_327) rfl (teq rfl).2 ?_
          refine s_aload (pc' := 332) X136.here hx (hb hby at_330) rfl rfl rfl ?_
          refine s_aload (pc' := 334) X136.here hx (hb hby at_332) rfl rfl rfl ?_
          obtain ⟨cq137, kq137, q137a, q137b, q137c⟩ := isOf hZ104 hE136 f130
          obtain ⟨_, _, ⟨T137, L137, k137, n137⟩, -, X137, ⟨Lc137, hQ137, l137, y137, z137⟩, st137⟩ := X136.virtualBack hx (y := (⟨"com/example/data_roles/dataroles/policy/Condition", "equals", "(Ljava/lang/Object;)Z"⟩ : MethodName)) (z := (⟨"com/example/data_roles/dataroles/policy/Condition", "equals", "(Ljava/lang/Object;)Z"⟩ : MethodName)) hown104 (mvT hZ104 (hw _ (List.mem_of_getElem? (i := 48) rfl))) (mvT hZ104 (hw _ (List.mem_of_getElem? (i := 49) rfl))) (notFace_of_selects (args := #[]) (mvT hZ104 (hw _ (List.mem_of_getElem? (i := 51) rfl)))) (mvT hZ104 (hw _ (List.mem_of_getElem? (i := 51) rfl))) (mvT hZ104 (hw _ (List.mem_of_getElem? (i := 50) rfl))) (by decide) (backOf (W := 0) (rmQ2 l Z a0 hw [] b105 b105 x103 x103 _ _ (chars n1 ca0 ca1) (chars n1 ca0 ca1) k1 k1 T112.heap n0 O112 G1 S1 P1 f130 f131 f132 f130 f131 f132 f133 f133) hZ104 (hw _ (List.mem_of_getElem? (i := 52) rfl)) (hw _ (List.mem_of_getElem? (i := 39) rfl)) (by decide) (by decide)) q137a q137c (g := (mkF m 334 #[.val (.int p0), .val (.int p1), .val (.int p2), .val (.int n1), .val (.int n2), .val (.int ca0), .val (.int ca1), .val (.int cb0), .val (.int cb1), .val (.int k1), .val (.int k2), .val (.int kd), .val (.ref x103), .val (.ref x104), .val (.ref b105), .val (.ref b109), .val (.int sm), .val (.int ex)] [(.ref b105), (.ref b105)])) rfl (by rw [hml]; rfl) (Steps.refl _) (argsL := [(.ref b105)]) (rest := []) (lenOf pd_2 rfl) rfl (by show 2 * 0 + _ ≤ _; exact Nat.le_of_eq rfl) (hb hby at_334) (fun _ _ => ⟨rfl, hE136, (by decide : 14 + 0 ≤ _), (by decide : 28 + 0 ≤ _)⟩)
          dsimp only [Pt.U, Pt.locs, Pt.cells, Pt.slots] at X137 l137 y137 z137 st137 hQ137
          subst l137 y137 z137
          obtain ⟨⟨r137, rfl, hr137⟩, Nq137, hE137⟩ := hQ137
          have hr137 : r137 = 1 := by
            rcases hr137 with ⟨q, -⟩ | ⟨-, q⟩
            · exact q
            · exact absurd ⟨rfl, rfl⟩ q
          subst hr137
          have N137 := Fr.app N136 Nq137
          refine Go.tr st137 ?_
          show Go p.tables e below Kx T137 (mkF m 337 #[.val (.int p0), .val (.int p1), .val (.int p2), .val (.int n1), .val (.int n2), .val (.int ca0), .val (.int ca1), .val (.int cb0), .val (.int cb1), .val (.int k1), .val (.int k2), .val (.int kd), .val (.ref x103), .val (.ref x104), .val (.ref b105), .val (.ref b109), .val (.int sm), .val (.int ex)] [(.int (1 : Int32))])
          refine s_ifN (pc' := 340) X137.here hx (hb hby at_337) rfl ((if0 _ _).trans (feq (by decide)).1) ?_
          refine s_iconst (pc' := 341) (v := (1 : Int32)) X137.here hx (hb hby at_340) rfl rfl ?_
          refine s_goto (pc' := 345) X137.here hx (hb hby at_341) (by decide) (by decide) ?_
          obtain ⟨fs, hr, hrun, hended, hRW⟩ := X137.leaveW hS104 (by rw [hE137]; exact hk112) (v := (some (.int (1 : Int32)))) (fun h => by rw [Bd.returns] at h; cases h)
          have hCx := C112.trans (CHv.at X137 hZ104 hEL H112)
          refine Go.fin (retN X137 hx (t := .boolean) Bd.returns (by simp) (hb hby at_345) hr) (hF _ _ hrun hended ⟨_, _, rfl, ?_, ?_, hRW.1, hRW.2.1, hRW.2.2.1, hRW.2.2.2.mono (by decide) (by decide)⟩)
          · show QL Z p0 p1 p2 h0 n0 ((some (.int (1 : Int32))) : Option Value) T137.heap _
            rw [hE137]
            exact ⟨rfl, N137⟩
          · show CHr Z consts_1 s.vm s.heap T137.vm T137.heap
            rw [hE137, hh]; exact hCx
        refine s_iload (pc' := 289) XJ285.here hx (hb hby at_287) rfl rfl ?_
        by_cases hc138 : sm = (0 : Int32)
        · skip
          refine s_ifY (pc' := 303) XJ285.here hx (hb hby at_289) ((if0 _ _).trans (teq hc138).1) (by decide) (by decide) ?_
          refine s_iconst (pc' := 304) (v := (0 : Int32)) XJ285.here hx (hb hby at_303) rfl rfl ?_
          exact J304 _ _ _ XJ285 NJ285 eJ285 (Or.inr ⟨rfl, fun q => by rcases hsm with ⟨z, -⟩ | ⟨-, z⟩; rw [hc138] at z; exact absurd z (by decide); exact z q.1⟩)
        · skip
          refine s_ifN (pc' := 292) XJ285.here hx (hb hby at_289) rfl ((if0 _ _).trans (feq hc138).1) ?_
          refine s_iload (pc' := 294) XJ285.here hx (hb hby at_292) rfl rfl ?_
          refine s_iload (pc' := 296) XJ285.here hx (hb hby at_294) rfl rfl ?_
          by_cases hc139 : k1 = k2
          · skip
            refine s_icmpN (pc' := 299) XJ285.here hx (hb hby at_296) rfl (teq hc139).2 ?_
            refine s_iconst (pc' := 300) (v := (1 : Int32)) XJ285.here hx (hb hby at_299) rfl rfl ?_
            refine s_goto (pc' := 304) XJ285.here hx (hb hby at_300) (by decide) (by decide) ?_
            have hS : (chars n1 ca0 ca1 = chars n2 cb0 cb1) := by rcases hsm with ⟨-, z⟩ | ⟨z, -⟩; exact z; exact absurd z hc138
            exact J304 _ _ _ XJ285 NJ285 eJ285 (Or.inl ⟨rfl, hS, hc139⟩)
          · skip
            refine s_icmpY (pc' := 303) XJ285.here hx (hb hby at_296) (feq hc139).2 (by decide) (by decide) ?_
            refine s_iconst (pc' := 304) (v := (0 : Int32)) XJ285.here hx (hb hby at_303) rfl rfl ?_
            have hS : (chars n1 ca0 ca1 = chars n2 cb0 cb1) := by rcases hsm with ⟨-, z⟩ | ⟨z, -⟩; exact z; exact absurd z hc138
            exact J304 _ _ _ XJ285 NJ285 eJ285 (Or.inr ⟨rfl, fun q => hc139 q.2⟩)
      refine s_iloadN (pc' := 251) X112.here hx (hb hby at_250) rfl rfl ?_
      refine s_iload (pc' := 253) X112.here hx (hb hby at_251) rfl rfl ?_
      by_cases hc140 : n1 = n2
      · skip
        refine s_icmpN (pc' := 256) X112.here hx (hb hby at_253) rfl (teq hc140).2 ?_
        refine s_iloadN (pc' := 257) X112.here hx (hb hby at_256) rfl rfl ?_
        refine s_iconst (pc' := 258) (v := (1 : Int32)) X112.here hx (hb hby at_257) rfl rfl ?_
        by_cases hc141 : n1 < (1 : Int32)
        · skip
          refine s_icmpY (pc' := 268) X112.here hx (hb hby at_258) (tlt hc141).1 (by decide) (by decide) ?_
          refine s_iloadN (pc' := 269) X112.here hx (hb hby at_268) rfl rfl ?_
          refine s_iconst (pc' := 270) (v := (2 : Int32)) X112.here hx (hb hby at_269) rfl rfl ?_
          by_cases hc142 : n1 < (2 : Int32)
          · skip
            refine s_icmpY (pc' := 280) X112.here hx (hb hby at_270) (tlt hc142).1 (by decide) (by decide) ?_
            refine s_iconst (pc' := 281) (v := (1 : Int32)) X112.here hx (hb hby at_280) rfl rfl ?_
            refine s_goto (pc' := 285) X112.here hx (hb hby at_281) (by decide) (by decide) ?_
            have hJ : (((1 : Int32) = 1 ∧ (chars n1 ca0 ca1 = chars n2 cb0 cb1)) ∨ ((1 : Int32) = 0 ∧ ¬ (chars n1 ca0 ca1 = chars n2 cb0 cb1))) := by
              clear J285
              rcases hn1 with rfl | rfl | rfl <;> rcases hn2 with rfl | rfl | rfl <;> simp_all [chars]
            exact J285 _ _ _ X112 N112 rfl hJ
          · skip
            refine s_icmpN (pc' := 273) X112.here hx (hb hby at_270) rfl (flt hc142).1 ?_
            refine s_iload (pc' := 275) X112.here hx (hb hby at_273) rfl rfl ?_
            refine s_iload (pc' := 277) X112.here hx (hb hby at_275) rfl rfl ?_
            by_cases hc143 : ca1 = cb1
            · skip
              refine s_icmpN (pc' := 280) X112.here hx (hb hby at_277) rfl (teq hc143).2 ?_
              refine s_iconst (pc' := 281) (v := (1 : Int32)) X112.here hx (hb hby at_280) rfl rfl ?_
              refine s_goto (pc' := 285) X112.here hx (hb hby at_281) (by decide) (by decide) ?_
              have hJ : (((1 : Int32) = 1 ∧ (chars n1 ca0 ca1 = chars n2 cb0 cb1)) ∨ ((1 : Int32) = 0 ∧ ¬ (chars n1 ca0 ca1 = chars n2 cb0 cb1))) := by
                clear J285
                rcases hn1 with rfl | rfl | rfl <;> rcases hn2 with rfl | rfl | rfl <;> simp_all [chars]
              exact J285 _ _ _ X112 N112 rfl hJ
            · skip
              refine s_icmpY (pc' := 284) X112.here hx (hb hby at_277) (feq hc143).2 (by decide) (by decide) ?_
              refine s_iconst (pc' := 285) (v := (0 : Int32)) X112.here hx (hb hby at_284) rfl rfl ?_
              have hJ : (((0 : Int32) = 1 ∧ (chars n1 ca0 ca1 = chars n2 cb0 cb1)) ∨ ((0 : Int32) = 0 ∧ ¬ (chars n1 ca0 ca1 = chars n2 cb0 cb1))) := by
                clear J285
                rcases hn1 with rfl | rfl | rfl <;> rcases hn2 with rfl | rfl | rfl <;> simp_all [chars]
              exact J285 _ _ _ X112 N112 rfl hJ
        · skip
          refine s_icmpN (pc' := 261) X112.here hx (hb hby at_258) rfl (flt hc141).1 ?_
          refine s_iload (pc' := 263) X112.here hx (hb hby at_261) rfl rfl ?_
          refine s_iload (pc' := 265) X112.here hx (hb hby at_263) rfl rfl ?_
          by_cases hc144 : ca0 = cb0
          · skip
            refine s_icmpN (pc' := 268) X112.here hx (hb hby at_265) rfl (teq hc144).2 ?_
            refine s_iloadN (pc' := 269) X112.here hx (hb hby at_268) rfl rfl ?_
            refine s_iconst (pc' := 270) (v := (2 : Int32)) X112.here hx (hb hby at_269) rfl rfl ?_
            by_cases hc145 : n1 < (2 : Int32)
            · skip
              refine s_icmpY (pc' := 280) X112.here hx (hb hby at_270) (tlt hc145).1 (by decide) (by decide) ?_
              refine s_iconst (pc' := 281) (v := (1 : Int32)) X112.here hx (hb hby at_280) rfl rfl ?_
              refine s_goto (pc' := 285) X112.here hx (hb hby at_281) (by decide) (by decide) ?_
              have hJ : (((1 : Int32) = 1 ∧ (chars n1 ca0 ca1 = chars n2 cb0 cb1)) ∨ ((1 : Int32) = 0 ∧ ¬ (chars n1 ca0 ca1 = chars n2 cb0 cb1))) := by
                clear J285
                rcases hn1 with rfl | rfl | rfl <;> rcases hn2 with rfl | rfl | rfl <;> simp_all [chars]
              exact J285 _ _ _ X112 N112 rfl hJ
            · skip
              refine s_icmpN (pc' := 273) X112.here hx (hb hby at_270) rfl (flt hc145).1 ?_
              refine s_iload (pc' := 275) X112.here hx (hb hby at_273) rfl rfl ?_
              refine s_iload (pc' := 277) X112.here hx (hb hby at_275) rfl rfl ?_
              by_cases hc146 : ca1 = cb1
              · skip
                refine s_icmpN (pc' := 280) X112.here hx (hb hby at_277) rfl (teq hc146).2 ?_
                refine s_iconst (pc' := 281) (v := (1 : Int32)) X112.here hx (hb hby at_280) rfl rfl ?_
                refine s_goto (pc' := 285) X112.here hx (hb hby at_281) (by decide) (by decide) ?_
                have hJ : (((1 : Int32) = 1 ∧ (chars n1 ca0 ca1 = chars n2 cb0 cb1)) ∨ ((1 : Int32) = 0 ∧ ¬ (chars n1 ca0 ca1 = chars n2 cb0 cb1))) := by
                  clear J285
                  rcases hn1 with rfl | rfl | rfl <;> rcases hn2 with rfl | rfl | rfl <;> simp_all [chars]
                exact J285 _ _ _ X112 N112 rfl hJ
              · skip
                refine s_icmpY (pc' := 284) X112.here hx (hb hby at_277) (feq hc146).2 (by decide) (by decide) ?_
                refine s_iconst (pc' := 285) (v := (0 : Int32)) X112.here hx (hb hby at_284) rfl rfl ?_
                have hJ : (((0 : Int32) = 1 ∧ (chars n1 ca0 ca1 = chars n2 cb0 cb1)) ∨ ((0 : Int32) = 0 ∧ ¬ (chars n1 ca0 ca1 = chars n2 cb0 cb1))) := by
                  clear J285
                  rcases hn1 with rfl | rfl | rfl <;> rcases hn2 with rfl | rfl | rfl <;> simp_all [chars]
                exact J285 _ _ _ X112 N112 rfl hJ
          · skip
            refine s_icmpY (pc' := 284) X112.here hx (hb hby at_265) (feq hc144).2 (by decide) (by decide) ?_
            refine s_iconst (pc' := 285) (v := (0 : Int32)) X112.here hx (hb hby at_284) rfl rfl ?_
            have hJ : (((0 : Int32) = 1 ∧ (chars n1 ca0 ca1 = chars n2 cb0 cb1)) ∨ ((0 : Int32) = 0 ∧ ¬ (chars n1 ca0 ca1 = chars n2 cb0 cb1))) := by
              clear J285
              rcases hn1 with rfl | rfl | rfl <;> rcases hn2 with rfl | rfl | rfl <;> simp_all [chars]
            exact J285 _ _ _ X112 N112 rfl hJ
      · skip
        refine s_icmpY (pc' := 284) X112.here hx (hb hby at_253) (feq hc140).2 (by decide) (by decide) ?_
        refine s_iconst (pc' := 285) (v := (0 : Int32)) X112.here hx (hb hby at_284) rfl rfl ?_
        have hJ : (((0 : Int32) = 1 ∧ (chars n1 ca0 ca1 = chars n2 cb0 cb1)) ∨ ((0 : Int32) = 0 ∧ ¬ (chars n1 ca0 ca1 = chars n2 cb0 cb1))) := by
          clear J285
          rcases hn1 with rfl | rfl | rfl <;> rcases hn2 with rfl | rfl | rfl <;> simp_all [chars]
        exact J285 _ _ _ X112 N112 rfl hJ
set_option maxRecDepth 65536 in
set_option maxHeartbeats 40000000 in
theorem comes_1 {Post : Tables → Env → Array Value → State → Outcome → State → Prop} (hpost : ∀ tb e args s v u, (limb_1_1.after args s (.returned v) u = true ∧ limb_1_2.after args s (.returned v) u = true ∧ True) → ReturnedEndW s (.returned v) u (Jvm.fieldLocs frame_1_writes args s ++ Jvm.arrayLocs frame_1_arrays args s ++ Jvm.staticLocs frame_1_statics s) 32 1152 → Post tb e args s (.returned v) u) :
    ArmFor flags0 classFile x code maxLocals ret World_1 tables_1 room_1 Calls_1 rest_1 Pre_1 Post := by
  intro l hfl _ _ p e ha hc hk s m args below hf hA hF happ hP
  obtain ⟨hcalls, hrest, hpre⟩ := hP
  obtain ⟨-, -, -, hnamed, -, -, -, hat⟩ := (Spec.applies_iff hf).mp happ
  obtain ⟨hg, hn⟩ := and_e (Cond.before_iff.mp (show (Jvm.Cond.and given_1 narrow_1).before args s = true from hpre))
  obtain ⟨hcount, hgs⟩ := and_e hg
  obtain ⟨hi0, hgs'⟩ := and_e hgs
  obtain ⟨hi1, hgs''⟩ := and_e hgs'
  have hi2 := hgs''
  obtain ⟨w0, w1, w2, rfl⟩ : ∃ w0 w1 w2 : Value, args = #[w0, w1, w2] := by
    have hs : args.size = 3 := by simpa [Cond.value, given_1] using hcount
    obtain ⟨L⟩ := args
    match L, hs with
    | [w0, w1, w2], _ => exact ⟨w0, w1, w2, rfl⟩
  have hw := fun d (hd : d ∈ tables_1) => atoms_spec (ws := Jvm.Cond.code x code maxLocals ret :: tables_1) hat d (List.mem_cons_of_mem _ hd)
  have hfit : Fit s := fun {y c} hc i hi => by
    obtain ⟨ha, rfl⟩ := Array.getElem?_eq_some_iff.mp hc
    have q := List.all_eq_true.mp ((Array.all_eq_true_iff_forall_mem.mp hF) _ (Array.getElem_mem ha)) i (List.mem_range.mpr hi)
    simpa [Array.getElem?_eq_getElem hi] using q
  obtain ⟨hsets, hown0⟩ := atoms_of _ (rest_1_c_eq ▸ (show rest_1_c.before _ s = true from hrest))
  obtain ⟨i0, ei0⟩ := is_v hi0
  obtain rfl : w0 = (.int i0) := Option.some.inj ei0
  obtain ⟨i1, ei1⟩ := is_v hi1
  obtain rfl : w1 = (.int i1) := Option.some.inj ei1
  obtain ⟨i2, ei2⟩ := is_v hi2
  obtain rfl : w2 = (.int i2) := Option.some.inj ei2
  obtain ⟨G1, eG1⟩ := is_v (Cond.before_iff.mp (hsets _ (List.mem_of_getElem? (i := 1) rfl)))
  have S1 : Sta s s.heap "java/lang/String" "COMPACT_STRINGS" "Z" (.int G1) := Sta.start eG1 (Or.inl (hsets _ (List.mem_of_getElem? (i := 0) rfl)))
  have P1 : ¬ (G1 = (0 : Int32)) := gotF (Cond.eq_ints eG1 (Term.int_eval (0))) (not_v (Cond.before_iff.mp (hsets _ (List.mem_of_getElem? (i := 2) rfl))))
  have wS : ∀ a ∈ Bundle.stringAtoms, a.before #[(.int i0), (.int i1), (.int i2)] s = true := fun d hd => hw d ((by decide +kernel : ∀ d ∈ Bundle.stringAtoms, d ∈ tables_1) d hd)
  have hEL : EW s #[(.int i0), (.int i1), (.int i2)] consts_1 := (EW.cons (hw _ (List.mem_of_getElem? (i := 34) rfl)) (by decide) EW.nil)
  have hCH : CHv s consts_1 s.vm s.heap := CHv.start hEL hcalls.1 (hsets _ (List.mem_of_getElem? (i := 2) rfl)) (wS _ (by simp [Bundle.stringAtoms])) (wS _ (by simp [Bundle.stringAtoms, Bundle.sN]))
  obtain ⟨n, o, h1, h2, h3, _, L, rfl, ⟨rfl, N⟩, hq⟩ := rmL l s _ hw tables_1 i0 i1 i2 s.heap s.heap.size (Old.start s) hEL wS G1 S1 P1 p e ha hc hk s m _ below hf ((Spec.applies_iff_loose hf).mp happ).1 ⟨rfl, State.Warmed39.refl s, rfl, hCH⟩ trivial
  refine ⟨n, _, h1, h2, h3, hpost _ _ _ _ _ _ ⟨Cond.after_iff.mpr rfl, Cond.after_iff.mpr (eq_i res_at (Term.int_eval (1)) rfl), trivial⟩ ⟨hq.2.1, hq.2.2.1, hq.2.2.2.1, (hq.2.2.2.2.sift fun y hy => Or.inr (N y hy)).mono (by decide) (by decide)⟩⟩
theorem main_1_1 : Claimed_1_1 := comes_1 fun _ _ _ _ _ _ h hF => ⟨h.1, hF⟩
theorem main_1_2 : Claimed_1_2 := comes_1 fun _ _ _ _ _ _ h hF => ⟨h.2.1, hF⟩
end Jvm.Pilot.@@N@@
namespace Jvm.Pilot.@@N@@
open Jvm Jvm.ClassFile Sem Op Lib Jvm.Free Jvm.Stand Jvm.Pilot.@@N@@.Jvm.D
/-! MADE BY PROGRAM (witnessworld.py) out of the Statement's table words and the real class files: 20 classes; the members and pool entries that the words name. The judged class is class 1, her method 2. -/
namespace start1
open Jvm.ClassFile
def u (s : String) : CpInfo := .utf8 (stringToUtf16 s)
/-- a pool by its gaps: so many unusable entries, then the entry; so many at the end -/
def gap : Nat → List CpInfo → List CpInfo
  | 0, r => r
  | n + 1, r => .unusable :: gap n r
def poolList (es : List (Nat × CpInfo)) (last : Nat) : List CpInfo := es.foldr (fun e r => gap e.1 (e.2 :: r)) (gap last [])
def pool (es : List (Nat × CpInfo)) (last : Nat) : Array CpInfo := ⟨poolList es last⟩
def fileOf (pool : Array CpInfo) (this : Nat) (attrs : Array Attribute := #[]) (ms : Array MethodInfo := #[]) (fl : Nat := 33) (sup : Nat := 0) (ifs : Array Nat := #[]) (fds : Array FieldInfo := #[]) : ClassFile where
  minorVersion := 0
  majorVersion := 65
  constantPool := pool
  accessFlags := fl
  thisClass := this
  superClass := sup
  interfaces := ifs
  fields := fds
  methods := ms
  attributes := attrs
def plain (name : String) (sup : Option ClassId) : Class where
  name := name
  kind := .ordinary
  loader := none
  accessFlags := 33
  super := sup
  interfaces := #[]
  cf := none
  fields := #[]
  methods := #[]
  instanceTypes := #[]
  staticTypes := #[]
  resolved := #[]
  callSites := []
  init := .initialized
  statics := none
  mirror := none

def pool0 : Array CpInfo := pool [(5, u "<init>"), (0, u "()V"), (1, .class_ 10), (1, u "java/lang/Object")] 113

def k0c0 : Code := { maxStack := 0, maxLocals := 1, code := object_method_1_code, exceptionTable := #[], attributes := #[] }
def k0m0 : Method := { name := "<init>", desc := "()V", sig := { parameters := [], returnType := none }, accessFlags := 1, code := some k0c0 }
/-- java/lang/Object -/
def k0 : Class := { plain "java/lang/Object" none with
  accessFlags := 33
  interfaces := #[]
  cf := some (fileOf pool0 8 #[] #[{ accessFlags := 1, nameIndex := 5, descriptorIndex := 6, attributes := #[] }] 33 0 #[] #[])
  fields := #[]
  methods := #[k0m0]
  instanceTypes := #[]
  staticTypes := #[]
  resolved := Array.replicate 124 none
  statics := none }

def pool1 : Array CpInfo := pool [(2, .class_ 4), (1, u "java/lang/Object"), (0, u "<init>"), (0, u "()V"), (0, .class_ 8), (0, u "java/lang/String"), (0, .methodref 7 10), (0, .nameAndType 5 11), (0, u "([C)V"), (0, .methodref 13 14), (0, .class_ 15), (0, .nameAndType 16 17), (0, u "com/example/data_roles/dataroles/policy/ConditionEqualsPinLaw"), (0, u "mk"), (0, u "(ICC)Ljava/lang/String;"), (0, .class_ 19), (0, u "com/example/data_roles/dataroles/policy/Condition"), (0, .methodref 18 21), (0, .nameAndType 5 22), (0, u "(Ljava/lang/String;Z)V"), (0, .methodref 18 24), (0, .nameAndType 25 26), (0, u "equals"), (0, u "(Ljava/lang/Object;)Z"), (3, u "law"), (0, u "(III)Z")] 2

def k1m0 : Method := { name := "<init>", desc := "()V", sig := { parameters := [], returnType := none }, accessFlags := 1, code := none }
def k1c1 : Code := { maxStack := 6, maxLocals := 3, code := method_2_code, exceptionTable := #[], attributes := #[] }
def k1m1 : Method := { name := "mk", desc := "(ICC)Ljava/lang/String;", sig := { parameters := [.int, .char, .char], returnType := some (.object "java/lang/String") }, accessFlags := 10, code := some k1c1 }
def k1c2 : Code := { maxStack := 4, maxLocals := 18, code := code, exceptionTable := #[], attributes := #[] }
def k1m2 : Method := { name := "law", desc := "(III)Z", sig := { parameters := [.int, .int, .int], returnType := some .boolean }, accessFlags := 9, code := some k1c2 }
/-- com/example/data_roles/dataroles/policy/ConditionEqualsPinLaw -/
def k1 : Class := { plain "com/example/data_roles/dataroles/policy/ConditionEqualsPinLaw" (some 0) with
  accessFlags := 49
  interfaces := #[]
  cf := some (fileOf pool1 13 #[] #[{ accessFlags := 1, nameIndex := 5, descriptorIndex := 6, attributes := #[] }, { accessFlags := 10, nameIndex := 16, descriptorIndex := 17, attributes := #[] }, { accessFlags := 9, nameIndex := 30, descriptorIndex := 31, attributes := #[] }] 49 2 #[] #[])
  fields := #[]
  methods := #[k1m0, k1m1, k1m2]
  instanceTypes := #[]
  staticTypes := #[]
  resolved := Array.replicate 34 none
  statics := none }

def pool2 : Array CpInfo := pool [(1, .class_ 2), (0, u "java/io/Serializable"), (0, .class_ 4), (0, u "java/lang/Object")] 2

/-- java/io/Serializable -/
def k2 : Class := { plain "java/io/Serializable" (some 0) with
  accessFlags := 1537
  interfaces := #[]
  cf := some (fileOf pool2 1 #[] #[] 1537 3 #[] #[])
  fields := #[]
  methods := #[]
  instanceTypes := #[]
  staticTypes := #[]
  resolved := Array.replicate 7 none
  statics := none }

def pool3 : Array CpInfo := pool [(1, .class_ 2), (0, u "java/lang/Comparable"), (0, .class_ 4), (0, u "java/lang/Object")] 7

/-- java/lang/Comparable -/
def k3 : Class := { plain "java/lang/Comparable" (some 0) with
  accessFlags := 1537
  interfaces := #[]
  cf := some (fileOf pool3 1 #[] #[] 1537 3 #[] #[])
  fields := #[]
  methods := #[]
  instanceTypes := #[]
  staticTypes := #[]
  resolved := Array.replicate 12 none
  statics := none }

def pool4 : Array CpInfo := pool [(2, .class_ 4), (1, u "java/lang/CharSequence"), (42, .class_ 48), (0, u "java/lang/CharSequence$1CodePointIterator"), (10, .class_ 60), (0, u "java/lang/CharSequence$1CharIterator"), (5, .class_ 67), (0, u "java/lang/Object")] 63

/-- java/lang/CharSequence -/
def k4 : Class := { plain "java/lang/CharSequence" (some 0) with
  accessFlags := 1537
  interfaces := #[]
  cf := some (fileOf pool4 2 #[.nestMembers #[47, 59]] #[] 1537 66 #[] #[])
  fields := #[]
  methods := #[]
  instanceTypes := #[]
  staticTypes := #[]
  resolved := Array.replicate 131 none
  statics := none }

def pool5 : Array CpInfo := pool [(1, .class_ 2), (0, u "java/lang/constant/Constable"), (0, .class_ 4), (0, u "java/lang/Object")] 6

/-- java/lang/constant/Constable -/
def k5 : Class := { plain "java/lang/constant/Constable" (some 0) with
  accessFlags := 1537
  interfaces := #[]
  cf := some (fileOf pool5 1 #[] #[] 1537 3 #[] #[])
  fields := #[]
  methods := #[]
  instanceTypes := #[]
  staticTypes := #[]
  resolved := Array.replicate 11 none
  statics := none }

def pool6 : Array CpInfo := pool [(1, .class_ 2), (0, u "java/lang/constant/ConstantDesc"), (0, .class_ 4), (0, u "java/lang/Object")] 32

/-- java/lang/constant/ConstantDesc -/
def k6 : Class := { plain "java/lang/constant/ConstantDesc" (some 0) with
  accessFlags := 1537
  interfaces := #[]
  cf := some (fileOf pool6 1 #[] #[] 1537 3 #[] #[])
  fields := #[]
  methods := #[]
  instanceTypes := #[]
  staticTypes := #[]
  resolved := Array.replicate 37 none
  statics := none }

def pool7 : Array CpInfo := pool [(1, .methodref 2 3), (0, .class_ 4), (0, .nameAndType 5 6), (0, u "java/lang/Object"), (0, u "<init>"), (0, u "()V"), (0, .string 8), (0, u ""), (0, .fieldref 10 11), (0, .class_ 12), (0, .nameAndType 13 14), (0, u "java/lang/String"), (0, u "value"), (0, u "[B"), (0, .fieldref 10 16), (0, .nameAndType 17 18), (0, u "coder"), (0, u "B"), (2, u "hash"), (0, u "I"), (2, u "hashIsZero"), (0, u "Z"), (0, .methodref 10 28), (0, .nameAndType 5 29), (0, u "([CIILjava/lang/Void;)V"), (8, .fieldref 10 39), (0, .nameAndType 40 26), (0, u "COMPACT_STRINGS"), (1, .class_ 44), (1, u "java/lang/StringUTF16"), (0, u "compress"), (1, .methodref 42 48), (0, .nameAndType 49 50), (0, u "coderFromArrayLen"), (0, u "([BI)B"), (56, .class_ 109), (1, u "java/lang/StringLatin1"), (67, .methodref 42 178), (0, .nameAndType 45 179), (0, u "([CII)[B"), (361, .methodref 107 542), (0, .nameAndType 543 544), (0, u "equals"), (0, u "([B[B)Z"), (28, u "(Ljava/lang/Object;)Z"), (1, .class_ 576), (0, u "java/lang/CharSequence"), (22, u "CASE_INSENSITIVE_ORDER"), (0, u "Ljava/util/Comparator;"), (409, u "([C)V"), (90, u "serialPersistentFields"), (0, u "[Ljava/io/ObjectStreamField;"), (0, .class_ 1104), (0, u "java/lang/String$CaseInsensitiveComparator"), (1, .class_ 1107), (0, u "java/io/Serializable"), (0, .class_ 1109), (0, u "java/lang/Comparable"), (0, .class_ 1111), (0, u "java/lang/constant/Constable"), (0, .class_ 1113), (0, u "java/lang/constant/ConstantDesc"), (2, u "serialVersionUID"), (0, u "J"), (3, u "REPL"), (0, u "C"), (2, u "LATIN1"), (1, u "UTF16")] 323

def k7m0 : Method := { name := "<init>", desc := "()V", sig := { parameters := [], returnType := none }, accessFlags := 1, code := none }
def k7c1 : Code := { maxStack := 5, maxLocals := 2, code := jdk_42_method_3_code, exceptionTable := #[], attributes := #[] }
def k7m1 : Method := { name := "<init>", desc := "([C)V", sig := { parameters := [(.array .char)], returnType := none }, accessFlags := 1, code := some k7c1 }
def k7c2 : Code := { maxStack := 2, maxLocals := 3, code := jdk_42_method_66_code, exceptionTable := #[], attributes := #[] }
def k7m2 : Method := { name := "equals", desc := "(Ljava/lang/Object;)Z", sig := { parameters := [(.object "java/lang/Object")], returnType := some .boolean }, accessFlags := 1, code := some k7c2 }
def k7c3 : Code := { maxStack := 4, maxLocals := 6, code := jdk_42_method_149_code, exceptionTable := #[], attributes := #[] }
def k7m3 : Method := { name := "<init>", desc := "([CIILjava/lang/Void;)V", sig := { parameters := [(.array .char), .int, .int, (.object "java/lang/Void")], returnType := none }, accessFlags := 2, code := some k7c3 }
/-- java/lang/String -/
def k7 : Class := { plain "java/lang/String" (some 0) with
  accessFlags := 49
  interfaces := #[2, 3, 4, 5, 6]
  cf := some (fileOf pool7 10 #[.nestMembers #[1103]] #[{ accessFlags := 1, nameIndex := 5, descriptorIndex := 6, attributes := #[] }, { accessFlags := 1, nameIndex := 5, descriptorIndex := 1010, attributes := #[] }, { accessFlags := 1, nameIndex := 543, descriptorIndex := 573, attributes := #[] }, { accessFlags := 2, nameIndex := 5, descriptorIndex := 29, attributes := #[] }] 49 2 #[1106, 1108, 575, 1110, 1112] #[{ accessFlags := 18, nameIndex := 13, descriptorIndex := 14, attributes := #[] }, { accessFlags := 18, nameIndex := 17, descriptorIndex := 18, attributes := #[] }, { accessFlags := 2, nameIndex := 21, descriptorIndex := 22, attributes := #[] }, { accessFlags := 2, nameIndex := 25, descriptorIndex := 26, attributes := #[] }, { accessFlags := 26, nameIndex := 1116, descriptorIndex := 1117, attributes := #[] }, { accessFlags := 24, nameIndex := 40, descriptorIndex := 26, attributes := #[] }, { accessFlags := 26, nameIndex := 1101, descriptorIndex := 1102, attributes := #[] }, { accessFlags := 26, nameIndex := 1121, descriptorIndex := 1122, attributes := #[] }, { accessFlags := 25, nameIndex := 599, descriptorIndex := 600, attributes := #[] }, { accessFlags := 24, nameIndex := 1125, descriptorIndex := 18, attributes := #[] }, { accessFlags := 24, nameIndex := 1127, descriptorIndex := 18, attributes := #[] }])
  fields := #[{ name := "value", type := (.array .byte), accessFlags := 18, slot := 0, constantValue := 0 }, { name := "coder", type := .byte, accessFlags := 18, slot := 1, constantValue := 0 }, { name := "hash", type := .int, accessFlags := 2, slot := 2, constantValue := 0 }, { name := "hashIsZero", type := .boolean, accessFlags := 2, slot := 3, constantValue := 0 }, { name := "serialVersionUID", type := .long, accessFlags := 26, slot := 0, constantValue := 0 }, { name := "COMPACT_STRINGS", type := .boolean, accessFlags := 24, slot := 1, constantValue := 0 }, { name := "serialPersistentFields", type := (.array (.object "java/io/ObjectStreamField")), accessFlags := 26, slot := 2, constantValue := 0 }, { name := "REPL", type := .char, accessFlags := 26, slot := 3, constantValue := 0 }, { name := "CASE_INSENSITIVE_ORDER", type := (.object "java/util/Comparator"), accessFlags := 25, slot := 4, constantValue := 0 }, { name := "LATIN1", type := .byte, accessFlags := 24, slot := 5, constantValue := 0 }, { name := "UTF16", type := .byte, accessFlags := 24, slot := 6, constantValue := 0 }]
  methods := #[k7m0, k7m1, k7m2, k7m3]
  instanceTypes := #[(.array .byte), .byte, .int, .boolean]
  staticTypes := #[.long, .boolean, (.array (.object "java/io/ObjectStreamField")), .char, (.object "java/util/Comparator"), .byte, .byte]
  resolved := Array.replicate 1451 none
  statics := some 0 }

def pool8 : Array CpInfo := pool [(6, .class_ 8), (1, u "java/lang/Object"), (0, u "<init>"), (0, u "()V"), (1, .class_ 14), (1, u "java/lang/StringUTF16"), (31, u "$assertionsDisabled"), (0, u "Z"), (13, u "HI_BYTE_SHIFT"), (0, u "I"), (2, u "LO_BYTE_SHIFT"), (49, .methodref 12 116), (0, .nameAndType 117 118), (0, u "compress"), (0, u "([CI[BII)I"), (3, u "([CII)[B"), (138, u "coderFromArrayLen"), (0, u "([BI)B"), (106, .class_ 371), (1, u "java/lang/StringUTF16$LinesSpliterator"), (58, u "MAX_LENGTH"), (196, .class_ 628), (0, u "java/lang/StringUTF16$CodePointsSpliterator"), (0, .class_ 630), (0, u "java/lang/StringUTF16$CharsSpliterator")] 4

def k8m0 : Method := { name := "<init>", desc := "()V", sig := { parameters := [], returnType := none }, accessFlags := 0, code := none }
def k8c1 : Code := { maxStack := 2, maxLocals := 2, code := jdk_52_method_15_code, exceptionTable := #[], attributes := #[] }
def k8m1 : Method := { name := "coderFromArrayLen", desc := "([BI)B", sig := { parameters := [(.array .byte), .int], returnType := some .byte }, accessFlags := 8, code := some k8c1 }
def k8c2 : Code := { maxStack := 5, maxLocals := 6, code := jdk_52_method_16_code, exceptionTable := #[], attributes := #[] }
def k8m2 : Method := { name := "compress", desc := "([CII)[B", sig := { parameters := [(.array .char), .int, .int], returnType := some (.array .byte) }, accessFlags := 9, code := some k8c2 }
def k8c3 : Code := { maxStack := 3, maxLocals := 7, code := jdk_52_method_21_code, exceptionTable := #[], attributes := #[] }
def k8m3 : Method := { name := "compress", desc := "([CI[BII)I", sig := { parameters := [(.array .char), .int, (.array .byte), .int, .int], returnType := some .int }, accessFlags := 9, code := some k8c3 }
/-- java/lang/StringUTF16 -/
def k8 : Class := { plain "java/lang/StringUTF16" (some 0) with
  accessFlags := 48
  interfaces := #[]
  cf := some (fileOf pool8 12 #[.nestMembers #[627, 629, 369]] #[{ accessFlags := 0, nameIndex := 9, descriptorIndex := 10, attributes := #[] }, { accessFlags := 8, nameIndex := 261, descriptorIndex := 262, attributes := #[] }, { accessFlags := 9, nameIndex := 117, descriptorIndex := 122, attributes := #[] }, { accessFlags := 9, nameIndex := 117, descriptorIndex := 118, attributes := #[] }] 48 6 #[] #[{ accessFlags := 26, nameIndex := 61, descriptorIndex := 62, attributes := #[] }, { accessFlags := 26, nameIndex := 65, descriptorIndex := 62, attributes := #[] }, { accessFlags := 24, nameIndex := 430, descriptorIndex := 62, attributes := #[] }, { accessFlags := 4120, nameIndex := 46, descriptorIndex := 47, attributes := #[] }])
  fields := #[{ name := "HI_BYTE_SHIFT", type := .int, accessFlags := 26, slot := 0, constantValue := 0 }, { name := "LO_BYTE_SHIFT", type := .int, accessFlags := 26, slot := 1, constantValue := 0 }, { name := "MAX_LENGTH", type := .int, accessFlags := 24, slot := 2, constantValue := 0 }, { name := "$assertionsDisabled", type := .boolean, accessFlags := 4120, slot := 3, constantValue := 0 }]
  methods := #[k8m0, k8m1, k8m2, k8m3]
  instanceTypes := #[]
  staticTypes := #[.int, .int, .int, .boolean]
  resolved := Array.replicate 635 none
  statics := none }

def pool9 : Array CpInfo := pool [(1, .methodref 2 3), (0, .class_ 4), (0, .nameAndType 5 6), (0, u "java/lang/Object"), (0, u "<init>"), (0, u "()V"), (0, .fieldref 8 9), (0, .class_ 10), (0, .nameAndType 11 12), (0, u "com/example/data_roles/dataroles/policy/Condition"), (0, u "text"), (0, u "Ljava/lang/String;"), (0, .fieldref 8 14), (0, .nameAndType 15 16), (0, u "constraint"), (0, u "Z"), (0, .methodref 18 19), (0, .class_ 20), (0, .nameAndType 21 22), (0, u "java/lang/String"), (0, u "equals"), (0, u "(Ljava/lang/Object;)Z"), (12, u "(Ljava/lang/String;Z)V")] 10

def k9c0 : Code := { maxStack := 2, maxLocals := 3, code := prog_11_method_1_code, exceptionTable := #[], attributes := #[] }
def k9m0 : Method := { name := "<init>", desc := "(Ljava/lang/String;Z)V", sig := { parameters := [(.object "java/lang/String"), .boolean], returnType := none }, accessFlags := 0, code := some k9c0 }
def k9c1 : Code := { maxStack := 2, maxLocals := 3, code := prog_11_method_4_code, exceptionTable := #[], attributes := #[] }
def k9m1 : Method := { name := "equals", desc := "(Ljava/lang/Object;)Z", sig := { parameters := [(.object "java/lang/Object")], returnType := some .boolean }, accessFlags := 1, code := some k9c1 }
/-- com/example/data_roles/dataroles/policy/Condition -/
def k9 : Class := { plain "com/example/data_roles/dataroles/policy/Condition" (some 0) with
  accessFlags := 49
  interfaces := #[]
  cf := some (fileOf pool9 8 #[] #[{ accessFlags := 0, nameIndex := 5, descriptorIndex := 35, attributes := #[] }, { accessFlags := 1, nameIndex := 21, descriptorIndex := 22, attributes := #[] }] 49 2 #[] #[{ accessFlags := 18, nameIndex := 11, descriptorIndex := 12, attributes := #[] }, { accessFlags := 18, nameIndex := 15, descriptorIndex := 16, attributes := #[] }])
  fields := #[{ name := "text", type := (.object "java/lang/String"), accessFlags := 18, slot := 0, constantValue := 0 }, { name := "constraint", type := .boolean, accessFlags := 18, slot := 1, constantValue := 0 }]
  methods := #[k9m0, k9m1]
  instanceTypes := #[(.object "java/lang/String"), .boolean]
  staticTypes := #[]
  resolved := Array.replicate 46 none
  statics := none }

def pool10 : Array CpInfo := pool [(4, .class_ 6), (1, u "java/lang/Object"), (0, u "<init>"), (0, u "()V"), (5, .class_ 16), (1, u "java/lang/StringLatin1"), (104, u "$assertionsDisabled"), (0, u "Z"), (98, .class_ 223), (1, u "java/lang/StringLatin1$LinesSpliterator"), (57, u "equals"), (0, u "([B[B)Z"), (107, .class_ 391), (0, u "java/lang/StringLatin1$CharsSpliterator")] 3

def k10m0 : Method := { name := "<init>", desc := "()V", sig := { parameters := [], returnType := none }, accessFlags := 0, code := none }
def k10c1 : Code := { maxStack := 3, maxLocals := 3, code := jdk_43_method_13_code, exceptionTable := #[], attributes := #[] }
def k10m1 : Method := { name := "equals", desc := "([B[B)Z", sig := { parameters := [(.array .byte), (.array .byte)], returnType := some .boolean }, accessFlags := 9, code := some k10c1 }
/-- java/lang/StringLatin1 -/
def k10 : Class := { plain "java/lang/StringLatin1" (some 0) with
  accessFlags := 48
  interfaces := #[]
  cf := some (fileOf pool10 14 #[.nestMembers #[390, 221]] #[{ accessFlags := 0, nameIndex := 7, descriptorIndex := 8, attributes := #[] }, { accessFlags := 9, nameIndex := 281, descriptorIndex := 282, attributes := #[] }] 48 4 #[] #[{ accessFlags := 4120, nameIndex := 121, descriptorIndex := 122, attributes := #[] }])
  fields := #[{ name := "$assertionsDisabled", type := .boolean, accessFlags := 4120, slot := 0, constantValue := 0 }]
  methods := #[k10m0, k10m1]
  instanceTypes := #[]
  staticTypes := #[.boolean]
  resolved := Array.replicate 395 none
  statics := none }

def pool11 : Array CpInfo := pool [(2, .class_ 4), (1, u "java/lang/Object"), (0, u "<init>"), (0, u "()V"), (17, .class_ 26), (1, u "jdk/internal/util/Preconditions"), (28, .class_ 56), (0, u "jdk/internal/util/Preconditions$4"), (57, .class_ 115), (0, u "jdk/internal/util/Preconditions$1"), (7, u "SIOOBE_FORMATTER"), (0, u "Ljava/util/function/BiFunction;"), (0, .class_ 126), (0, u "jdk/internal/util/Preconditions$2"), (3, u "AIOOBE_FORMATTER"), (0, .class_ 132), (0, u "jdk/internal/util/Preconditions$3"), (3, u "IOOBE_FORMATTER")] 57

def k11m0 : Method := { name := "<init>", desc := "()V", sig := { parameters := [], returnType := none }, accessFlags := 1, code := none }
/-- jdk/internal/util/Preconditions -/
def k11 : Class := { plain "jdk/internal/util/Preconditions" (some 0) with
  accessFlags := 33
  interfaces := #[]
  cf := some (fileOf pool11 24 #[.nestMembers #[55, 131, 125, 114]] #[{ accessFlags := 1, nameIndex := 5, descriptorIndex := 6, attributes := #[] }] 33 2 #[] #[{ accessFlags := 25, nameIndex := 123, descriptorIndex := 124, attributes := #[] }, { accessFlags := 25, nameIndex := 130, descriptorIndex := 124, attributes := #[] }, { accessFlags := 25, nameIndex := 136, descriptorIndex := 124, attributes := #[] }])
  fields := #[{ name := "SIOOBE_FORMATTER", type := (.object "java/util/function/BiFunction"), accessFlags := 25, slot := 0, constantValue := 0 }, { name := "AIOOBE_FORMATTER", type := (.object "java/util/function/BiFunction"), accessFlags := 25, slot := 1, constantValue := 0 }, { name := "IOOBE_FORMATTER", type := (.object "java/util/function/BiFunction"), accessFlags := 25, slot := 2, constantValue := 0 }]
  methods := #[k11m0]
  instanceTypes := #[]
  staticTypes := #[(.object "java/util/function/BiFunction"), (.object "java/util/function/BiFunction"), (.object "java/util/function/BiFunction")]
  resolved := Array.replicate 194 none
  statics := some 1 }

def pool12 : Array CpInfo := pool [(9, u "<init>"), (6, .class_ 18), (1, u "java/lang/Object"), (0, u "()V"), (1, .class_ 23), (1, u "jdk/internal/util/ArraysSupport"), (0, u "LOG2_ARRAY_LONG_INDEX_SCALE"), (0, u "I"), (2, u "U"), (0, u "Ljdk/internal/misc/Unsafe;"), (8, u "BIG_ENDIAN"), (0, u "Z"), (8, u "LOG2_BYTE_BIT_SIZE"), (4, u "LOG2_ARRAY_INT_INDEX_SCALE"), (54, u "JLA"), (0, u "Ljdk/internal/access/JavaLangAccess;"), (11, u "LOG2_ARRAY_BOOLEAN_INDEX_SCALE"), (9, u "LOG2_ARRAY_BYTE_INDEX_SCALE"), (5, u "LOG2_ARRAY_CHAR_INDEX_SCALE"), (5, u "LOG2_ARRAY_SHORT_INDEX_SCALE"), (18, u "LOG2_ARRAY_FLOAT_INDEX_SCALE"), (24, u "LOG2_ARRAY_DOUBLE_INDEX_SCALE"), (89, u "T_BOOLEAN"), (2, u "T_CHAR"), (1, u "T_FLOAT"), (1, u "T_DOUBLE"), (1, u "T_BYTE"), (1, u "T_SHORT"), (1, u "T_INT"), (1, u "T_LONG"), (1, u "SOFT_MAX_ARRAY_LENGTH")] 83

def k12m0 : Method := { name := "<init>", desc := "()V", sig := { parameters := [], returnType := none }, accessFlags := 2, code := none }
/-- jdk/internal/util/ArraysSupport -/
def k12 : Class := { plain "jdk/internal/util/ArraysSupport" (some 0) with
  accessFlags := 33
  interfaces := #[]
  cf := some (fileOf pool12 21 #[] #[{ accessFlags := 2, nameIndex := 9, descriptorIndex := 19, attributes := #[] }] 33 16 #[] #[{ accessFlags := 24, nameIndex := 28, descriptorIndex := 29, attributes := #[] }, { accessFlags := 26, nameIndex := 38, descriptorIndex := 39, attributes := #[] }, { accessFlags := 25, nameIndex := 121, descriptorIndex := 25, attributes := #[] }, { accessFlags := 25, nameIndex := 131, descriptorIndex := 25, attributes := #[] }, { accessFlags := 25, nameIndex := 137, descriptorIndex := 25, attributes := #[] }, { accessFlags := 25, nameIndex := 143, descriptorIndex := 25, attributes := #[] }, { accessFlags := 25, nameIndex := 53, descriptorIndex := 25, attributes := #[] }, { accessFlags := 25, nameIndex := 24, descriptorIndex := 25, attributes := #[] }, { accessFlags := 25, nameIndex := 162, descriptorIndex := 25, attributes := #[] }, { accessFlags := 25, nameIndex := 187, descriptorIndex := 25, attributes := #[] }, { accessFlags := 26, nameIndex := 48, descriptorIndex := 25, attributes := #[] }, { accessFlags := 25, nameIndex := 277, descriptorIndex := 25, attributes := #[] }, { accessFlags := 25, nameIndex := 280, descriptorIndex := 25, attributes := #[] }, { accessFlags := 25, nameIndex := 282, descriptorIndex := 25, attributes := #[] }, { accessFlags := 25, nameIndex := 284, descriptorIndex := 25, attributes := #[] }, { accessFlags := 25, nameIndex := 286, descriptorIndex := 25, attributes := #[] }, { accessFlags := 25, nameIndex := 288, descriptorIndex := 25, attributes := #[] }, { accessFlags := 25, nameIndex := 290, descriptorIndex := 25, attributes := #[] }, { accessFlags := 25, nameIndex := 292, descriptorIndex := 25, attributes := #[] }, { accessFlags := 26, nameIndex := 108, descriptorIndex := 109, attributes := #[] }, { accessFlags := 25, nameIndex := 294, descriptorIndex := 25, attributes := #[] }])
  fields := #[{ name := "U", type := (.object "jdk/internal/misc/Unsafe"), accessFlags := 24, slot := 0, constantValue := 0 }, { name := "BIG_ENDIAN", type := .boolean, accessFlags := 26, slot := 1, constantValue := 0 }, { name := "LOG2_ARRAY_BOOLEAN_INDEX_SCALE", type := .int, accessFlags := 25, slot := 2, constantValue := 0 }, { name := "LOG2_ARRAY_BYTE_INDEX_SCALE", type := .int, accessFlags := 25, slot := 3, constantValue := 0 }, { name := "LOG2_ARRAY_CHAR_INDEX_SCALE", type := .int, accessFlags := 25, slot := 4, constantValue := 0 }, { name := "LOG2_ARRAY_SHORT_INDEX_SCALE", type := .int, accessFlags := 25, slot := 5, constantValue := 0 }, { name := "LOG2_ARRAY_INT_INDEX_SCALE", type := .int, accessFlags := 25, slot := 6, constantValue := 0 }, { name := "LOG2_ARRAY_LONG_INDEX_SCALE", type := .int, accessFlags := 25, slot := 7, constantValue := 0 }, { name := "LOG2_ARRAY_FLOAT_INDEX_SCALE", type := .int, accessFlags := 25, slot := 8, constantValue := 0 }, { name := "LOG2_ARRAY_DOUBLE_INDEX_SCALE", type := .int, accessFlags := 25, slot := 9, constantValue := 0 }, { name := "LOG2_BYTE_BIT_SIZE", type := .int, accessFlags := 26, slot := 10, constantValue := 0 }, { name := "T_BOOLEAN", type := .int, accessFlags := 25, slot := 11, constantValue := 0 }, { name := "T_CHAR", type := .int, accessFlags := 25, slot := 12, constantValue := 0 }, { name := "T_FLOAT", type := .int, accessFlags := 25, slot := 13, constantValue := 0 }, { name := "T_DOUBLE", type := .int, accessFlags := 25, slot := 14, constantValue := 0 }, { name := "T_BYTE", type := .int, accessFlags := 25, slot := 15, constantValue := 0 }, { name := "T_SHORT", type := .int, accessFlags := 25, slot := 16, constantValue := 0 }, { name := "T_INT", type := .int, accessFlags := 25, slot := 17, constantValue := 0 }, { name := "T_LONG", type := .int, accessFlags := 25, slot := 18, constantValue := 0 }, { name := "JLA", type := (.object "jdk/internal/access/JavaLangAccess"), accessFlags := 26, slot := 19, constantValue := 0 }, { name := "SOFT_MAX_ARRAY_LENGTH", type := .int, accessFlags := 25, slot := 20, constantValue := 0 }]
  methods := #[k12m0]
  instanceTypes := #[]
  staticTypes := #[(.object "jdk/internal/misc/Unsafe"), .boolean, .int, .int, .int, .int, .int, .int, .int, .int, .int, .int, .int, .int, .int, .int, .int, .int, .int, (.object "jdk/internal/access/JavaLangAccess"), .int]
  resolved := Array.replicate 378 none
  statics := none }

def pool13 : Array CpInfo := pool [(1, u "java/lang/Cloneable"), (0, .class_ 1), (0, u "java/lang/Object"), (0, .class_ 3)] 3

/-- java/lang/Cloneable -/
def k13 : Class := { plain "java/lang/Cloneable" (some 0) with
  accessFlags := 1537
  interfaces := #[]
  cf := some (fileOf pool13 2 #[] #[] 1537 4 #[] #[])
  fields := #[]
  methods := #[]
  instanceTypes := #[]
  staticTypes := #[]
  resolved := Array.replicate 8 none
  statics := none }

/-- the primitive byte -/
def k14 : Class := { plain "byte" none with kind := .primitive 'B', accessFlags := 0x411 }
/-- [B -/
def k15 : Class := { plain "[B" (some 0) with kind := .array 14 .byte, interfaces := #[13, 2], accessFlags := 1041 }

/-- the primitive char -/
def k16 : Class := { plain "char" none with kind := .primitive 'C', accessFlags := 0x411 }
/-- [C -/
def k17 : Class := { plain "[C" (some 0) with kind := .array 16 .char, interfaces := #[13, 2], accessFlags := 1041 }

/-- the primitive int -/
def k18 : Class := { plain "int" none with kind := .primitive 'I', accessFlags := 0x411 }
/-- [I -/
def k19 : Class := { plain "[I" (some 0) with kind := .array 18 .int, interfaces := #[13, 2], accessFlags := 1041 }

def heap : Heap := #[{ cls := 7, slots := #[.long 0, .int 1, .null, .int 0, .null, .int 0, .int 0], vm := .statics 7 },
  { cls := 11, slots := #[.null, .null, .null], vm := .statics 11 }]
def classes : Array Class := #[k0, k1, k2, k3, k4, k5, k6, k7, k8, k9, k10, k11, k12, k13, k14, k15, k16, k17, k18, k19]
def interned : List (Array UInt16 × Addr) := []
def slotsUsed : Nat := 10
def theMethod : MethodId := ⟨1, 2⟩
def args0 : Array Value := #[.int 5, .int 7, .int 9]
def aboutOver (below : List Frame) : State where
  vm := { classes := classes, interned := interned.toArray }
  heap := heap
  slotsUsed := slotsUsed
  threads := #[{ frames := .invoking theMethod args0 :: below }]
def below0 : List Frame := [.native { method := ⟨0, 0⟩, args := #[] }]
def about1 : State := aboutOver below0
def p0 : Program := .bare "" "" ""
def e0 : Env := launch0.env 0 0 0
theorem w_frames : about1.frames = Frame.invoking theMethod args0 :: below0 := rfl
set_option maxRecDepth 65536 in
theorem w_args : argsFit about1.vm theMethod args0 = true := by decide +kernel
set_option maxRecDepth 65536 in
theorem w_heap : heapFits about1 = true := by decide +kernel
set_option maxRecDepth 65536 in
theorem w_runnable : about1.curStatus? = some .runnable := by decide +kernel
set_option maxRecDepth 65536 in
theorem w_alone : about1.alone = true := by decide +kernel
set_option maxRecDepth 65536 in
theorem w_named : about1.methodNamed? x = some theMethod := by decide +kernel
set_option maxRecDepth 65536 in
theorem w_hears : about1.hears theMethod below0 = true := by decide +kernel
set_option maxRecDepth 65536 in
theorem w_ripe : about1.ripe theMethod args0 below0 = true := by decide +kernel
theorem w_running : about1.status = .running := rfl
set_option maxRecDepth 65536 in
theorem w_room : about1.hasRoom e0.platform room_1 = true :=
  launch0.hasRoom_least _ room_1 (by decide +kernel) (by decide +kernel) (by decide +kernel) (by decide +kernel) (by decide +kernel) (by decide +kernel)
theorem allAtoms_all (ts : List Jvm.Cond) (a : Array Jvm.Value) (st : Jvm.State) : (allAtoms ts).before a st = ts.all (fun c => c.before a st) := by
  induction ts with
  | nil => rfl
  | cons c t ih =>
    show (Jvm.Cond.and c (allAtoms t)).before a st = _
    rw [Jvm.Cond.before_and, ih, List.all_cons]
def words1 : List Jvm.Cond := Jvm.Cond.code x code maxLocals ret :: tables_1
/-- a 'code' word, met by the world's own term for the bytes: nothing is compared byte by byte -/
theorem code_word {y : MethodName} {bytes : ByteArray} {mx : Nat} {rt : Option FieldType} {a : Array Value} {s : State} {m : MethodId} {meth : Method} {c : Code} (h1 : s.methodNamed? y = some m) (h2 : s.vm.method? m = some meth) (h3 : meth.code = some c) (h4 : c.code = bytes)
    (h5 : (c.maxLocals == mx && c.exceptionTable.isEmpty && decide (c.maxStack ≤ mostOperands) && decide (meth.sig.returnType = rt) && !meth.locks && decide (parseMethodDescriptor y.desc = some meth.sig)) = true) : (Jvm.Cond.code y bytes mx rt).before a s = true := by
  simp only [Bool.and_eq_true, beq_iff_eq, Bool.not_eq_true', decide_eq_true_eq] at h5
  obtain ⟨⟨⟨⟨⟨g1, g2⟩, g3⟩, g4⟩, g5⟩, g6⟩ := h5
  simp [Cond.before, Cond.holds, Cond.value, h1, h2, h3, h4, g1, g2, g3, g4, g5, g6]
def isCode : Jvm.Cond → Bool
  | .code _ _ _ _ => true
  | _ => false
theorem all_split {L : List Jvm.Cond} {P : Jvm.Cond → Bool} (h1 : L.all (fun c => isCode c || P c) = true) (h2 : ∀ c ∈ L.filter isCode, P c = true) : L.all P = true := by
  refine List.all_eq_true.mpr fun c hc => ?_
  have h := List.all_eq_true.mp h1 c hc
  rcases Bool.eq_false_or_eq_true (isCode c) with hi | hi
  · exact h2 c (List.mem_filter.mpr ⟨hc, hi⟩)
  · simpa [hi] using h
set_option maxRecDepth 65536 in
theorem w_c0 : (Jvm.Cond.code x code maxLocals ret).before args0 about1 = true := code_word (m := ⟨1, 2⟩) (meth := k1m2) (c := k1c2) (by decide +kernel) rfl rfl rfl (by decide +kernel)
set_option maxRecDepth 65536 in
theorem w_c1 : (Jvm.Cond.code ({ cls := "com/example/data_roles/dataroles/policy/ConditionEqualsPinLaw", name := "mk", desc := "(ICC)Ljava/lang/String;" } : Jvm.MethodName) method_2_code (3 : Nat) (Option.some (Jvm.ClassFile.FieldType.object "java/lang/String"))).before args0 about1 = true := code_word (m := ⟨1, 1⟩) (meth := k1m1) (c := k1c1) (by decide +kernel) rfl rfl rfl (by decide +kernel)
set_option maxRecDepth 65536 in
theorem w_c2 : (Jvm.Cond.code ({ cls := "java/lang/String", name := "<init>", desc := "([C)V" } : Jvm.MethodName) jdk_42_method_3_code (2 : Nat) (Option.none : Option Jvm.ClassFile.FieldType)).before args0 about1 = true := code_word (m := ⟨7, 1⟩) (meth := k7m1) (c := k7c1) (by decide +kernel) rfl rfl rfl (by decide +kernel)
set_option maxRecDepth 65536 in
theorem w_c3 : (Jvm.Cond.code ({ cls := "java/lang/String", name := "<init>", desc := "([CIILjava/lang/Void;)V" } : Jvm.MethodName) jdk_42_method_149_code (6 : Nat) (Option.none : Option Jvm.ClassFile.FieldType)).before args0 about1 = true := code_word (m := ⟨7, 3⟩) (meth := k7m3) (c := k7c3) (by decide +kernel) rfl rfl rfl (by decide +kernel)
set_option maxRecDepth 65536 in
theorem w_c4 : (Jvm.Cond.code ({ cls := "java/lang/Object", name := "<init>", desc := "()V" } : Jvm.MethodName) object_method_1_code (1 : Nat) (Option.none : Option Jvm.ClassFile.FieldType)).before args0 about1 = true := code_word (m := ⟨0, 0⟩) (meth := k0m0) (c := k0c0) (by decide +kernel) rfl rfl rfl (by decide +kernel)
set_option maxRecDepth 65536 in
theorem w_c5 : (Jvm.Cond.code ({ cls := "java/lang/StringUTF16", name := "compress", desc := "([CII)[B" } : Jvm.MethodName) jdk_52_method_16_code (6 : Nat) (Option.some (Jvm.ClassFile.FieldType.array Jvm.ClassFile.FieldType.byte))).before args0 about1 = true := code_word (m := ⟨8, 2⟩) (meth := k8m2) (c := k8c2) (by decide +kernel) rfl rfl rfl (by decide +kernel)
set_option maxRecDepth 65536 in
theorem w_c6 : (Jvm.Cond.code ({ cls := "java/lang/StringUTF16", name := "compress", desc := "([CI[BII)I" } : Jvm.MethodName) jdk_52_method_21_code (7 : Nat) (Option.some Jvm.ClassFile.FieldType.int)).before args0 about1 = true := code_word (m := ⟨8, 3⟩) (meth := k8m3) (c := k8c3) (by decide +kernel) rfl rfl rfl (by decide +kernel)
set_option maxRecDepth 65536 in
theorem w_c7 : (Jvm.Cond.code ({ cls := "java/lang/StringUTF16", name := "coderFromArrayLen", desc := "([BI)B" } : Jvm.MethodName) jdk_52_method_15_code (2 : Nat) (Option.some Jvm.ClassFile.FieldType.byte)).before args0 about1 = true := code_word (m := ⟨8, 1⟩) (meth := k8m1) (c := k8c1) (by decide +kernel) rfl rfl rfl (by decide +kernel)
set_option maxRecDepth 65536 in
theorem w_c8 : (Jvm.Cond.code ({ cls := "com/example/data_roles/dataroles/policy/Condition", name := "<init>", desc := "(Ljava/lang/String;Z)V" } : Jvm.MethodName) prog_11_method_1_code (3 : Nat) (Option.none : Option Jvm.ClassFile.FieldType)).before args0 about1 = true := code_word (m := ⟨9, 0⟩) (meth := k9m0) (c := k9c0) (by decide +kernel) rfl rfl rfl (by decide +kernel)
set_option maxRecDepth 65536 in
theorem w_c9 : (Jvm.Cond.code ({ cls := "com/example/data_roles/dataroles/policy/Condition", name := "equals", desc := "(Ljava/lang/Object;)Z" } : Jvm.MethodName) prog_11_method_4_code (3 : Nat) (Option.some Jvm.ClassFile.FieldType.boolean)).before args0 about1 = true := code_word (m := ⟨9, 1⟩) (meth := k9m1) (c := k9c1) (by decide +kernel) rfl rfl rfl (by decide +kernel)
set_option maxRecDepth 65536 in
theorem w_c10 : (Jvm.Cond.code ({ cls := "java/lang/String", name := "equals", desc := "(Ljava/lang/Object;)Z" } : Jvm.MethodName) jdk_42_method_66_code (3 : Nat) (Option.some Jvm.ClassFile.FieldType.boolean)).before args0 about1 = true := code_word (m := ⟨7, 2⟩) (meth := k7m2) (c := k7c2) (by decide +kernel) rfl rfl rfl (by decide +kernel)
set_option maxRecDepth 65536 in
theorem w_c11 : (Jvm.Cond.code ({ cls := "java/lang/StringLatin1", name := "equals", desc := "([B[B)Z" } : Jvm.MethodName) jdk_43_method_13_code (3 : Nat) (Option.some Jvm.ClassFile.FieldType.boolean)).before args0 about1 = true := code_word (m := ⟨10, 1⟩) (meth := k10m1) (c := k10c1) (by decide +kernel) rfl rfl rfl (by decide +kernel)
def codes1 : List Jvm.Cond := [Jvm.Cond.code x code maxLocals ret, Jvm.Cond.code ({ cls := "com/example/data_roles/dataroles/policy/ConditionEqualsPinLaw", name := "mk", desc := "(ICC)Ljava/lang/String;" } : Jvm.MethodName) method_2_code (3 : Nat) (Option.some (Jvm.ClassFile.FieldType.object "java/lang/String")), Jvm.Cond.code ({ cls := "java/lang/String", name := "<init>", desc := "([C)V" } : Jvm.MethodName) jdk_42_method_3_code (2 : Nat) (Option.none : Option Jvm.ClassFile.FieldType), Jvm.Cond.code ({ cls := "java/lang/String", name := "<init>", desc := "([CIILjava/lang/Void;)V" } : Jvm.MethodName) jdk_42_method_149_code (6 : Nat) (Option.none : Option Jvm.ClassFile.FieldType), Jvm.Cond.code ({ cls := "java/lang/Object", name := "<init>", desc := "()V" } : Jvm.MethodName) object_method_1_code (1 : Nat) (Option.none : Option Jvm.ClassFile.FieldType), Jvm.Cond.code ({ cls := "java/lang/StringUTF16", name := "compress", desc := "([CII)[B" } : Jvm.MethodName) jdk_52_method_16_code (6 : Nat) (Option.some (Jvm.ClassFile.FieldType.array Jvm.ClassFile.FieldType.byte)), Jvm.Cond.code ({ cls := "java/lang/StringUTF16", name := "compress", desc := "([CI[BII)I" } : Jvm.MethodName) jdk_52_method_21_code (7 : Nat) (Option.some Jvm.ClassFile.FieldType.int), Jvm.Cond.code ({ cls := "java/lang/StringUTF16", name := "coderFromArrayLen", desc := "([BI)B" } : Jvm.MethodName) jdk_52_method_15_code (2 : Nat) (Option.some Jvm.ClassFile.FieldType.byte), Jvm.Cond.code ({ cls := "com/example/data_roles/dataroles/policy/Condition", name := "<init>", desc := "(Ljava/lang/String;Z)V" } : Jvm.MethodName) prog_11_method_1_code (3 : Nat) (Option.none : Option Jvm.ClassFile.FieldType), Jvm.Cond.code ({ cls := "com/example/data_roles/dataroles/policy/Condition", name := "equals", desc := "(Ljava/lang/Object;)Z" } : Jvm.MethodName) prog_11_method_4_code (3 : Nat) (Option.some Jvm.ClassFile.FieldType.boolean), Jvm.Cond.code ({ cls := "java/lang/String", name := "equals", desc := "(Ljava/lang/Object;)Z" } : Jvm.MethodName) jdk_42_method_66_code (3 : Nat) (Option.some Jvm.ClassFile.FieldType.boolean), Jvm.Cond.code ({ cls := "java/lang/StringLatin1", name := "equals", desc := "([B[B)Z" } : Jvm.MethodName) jdk_43_method_13_code (3 : Nat) (Option.some Jvm.ClassFile.FieldType.boolean)]
set_option maxRecDepth 65536 in
theorem codes_eq : words1.filter isCode = codes1 := rfl
theorem w_codes : ∀ c ∈ words1.filter isCode, c.before args0 about1 = true := by
  rw [codes_eq]
  intro c hc
  simp only [codes1, List.mem_cons, List.not_mem_nil, or_false] at hc
  rcases hc with rfl | rfl | rfl | rfl | rfl | rfl | rfl | rfl | rfl | rfl | rfl | rfl
  · exact w_c0
  · exact w_c1
  · exact w_c2
  · exact w_c3
  · exact w_c4
  · exact w_c5
  · exact w_c6
  · exact w_c7
  · exact w_c8
  · exact w_c9
  · exact w_c10
  · exact w_c11
set_option maxRecDepth 65536 in
theorem w_t1 : (words1.take 24).all (fun c => isCode c || c.before args0 about1) = true := by decide +kernel
set_option maxRecDepth 65536 in
theorem w_t2 : ((words1.drop 24).take 24).all (fun c => isCode c || c.before args0 about1) = true := by decide +kernel
set_option maxRecDepth 65536 in
theorem w_t3 : ((words1.drop 24).drop 24).all (fun c => isCode c || c.before args0 about1) = true := by decide +kernel
theorem w_tables : (allAtoms (Jvm.Cond.code x code maxLocals ret :: tables_1)).before args0 about1 = true := by
  rw [allAtoms_all]
  show words1.all (fun c => c.before args0 about1) = true
  refine all_split ?_ w_codes
  rw [← List.take_append_drop 24 words1, List.all_append, w_t1, ← List.take_append_drop 24 (words1.drop 24), List.all_append, w_t2, w_t3]
  rfl
set_option maxRecDepth 65536 in
theorem w_rest : rest_1_c.before args0 about1 = true := by decide +kernel
set_option maxRecDepth 65536 in
theorem w_case : (Jvm.Cond.and given_1 narrow_1).before args0 about1 = true := by decide +kernel
set_option maxRecDepth 65536 in
theorem w_consts : constsHeld consts_1 about1 := Jvm.Lit.constsHeldB_iff.mp (by decide +kernel)
theorem w_applies : (headSpec (Jvm.Cond.code x code maxLocals ret :: tables_1) room_1).applies x e0.platform about1 = true :=
  (Spec.applies_iff w_frames).mpr ⟨w_running, w_runnable, w_alone, w_named, w_hears, w_ripe, w_room, w_tables⟩
theorem atStart : AtStart classFile x code maxLocals ret World_1 tables_1 room_1 Calls_1 rest_1 Pre_1 launch0 p0 e0 about1 theMethod args0 below0 :=
  ⟨lists_1, trivial, launch0.admits_env _ _ _, launch0.least_env, fairChoices_fair.cas, fairChoices_fair.clock, w_frames, w_args, w_heap, w_applies, ⟨w_consts, trivial⟩, w_rest, w_case⟩
end start1
theorem witness_1 : WitnessClaimed_1 := ⟨start1.p0, start1.e0, start1.about1, start1.theMethod, start1.args0, start1.below0, start1.atStart⟩
end Jvm.Pilot.@@N@@

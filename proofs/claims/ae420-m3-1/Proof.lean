import JvmDerived
import JvmDerived.Pilot.@@N@@Statement
import JvmDerived.Pilot.@@N@@Code
set_option linter.unusedVariables false
set_option linter.unusedSimpArgs false
namespace Jvm.RoadKit
open Sem ClassFile Op Lib Jvm.Stand Jvm.Free Jvm.LawKit
section New
variable {p : Program} {l : Launch} {e : Env} {R : Room} {s : State} {m : MethodId} {args : Array Value} {below : List Frame} {meth : Method} {c : Code} {T : State} {locs : List Loc} {cells slots : Nat}
theorem retI (X : Stand p l e R s m args below meth c T locs cells slots) (hx : p.tables.exec = Jvm.exec) {pc : Nat} {Ls : Array Slot} {z : Int32} {rest : List Value} (hret : meth.sig.returnType = some .int) (hd : decode c.code pc = .ok (.ireturn, 1)) {fs : List Frame}
    (hl : ∀ (f : JFrame) (acts : List Action), f.method = m → f.locked = none → f.entered = [] → (doReturn e (T.setTop f) acts (some (.int z))).1 = T.setFrames fs) : Steps p.tables e below (T.setTop (mkF m pc Ls (.int z :: rest))) (T.setFrames fs) :=
  retOut X hx hret rfl (Or.inl ⟨rfl, Or.inl rfl, _, rfl⟩) hd hl
end New
end Jvm.RoadKit
namespace Jvm.Own
open Sem ClassFile Op Lib Jvm.Stand Jvm.Free Jvm.LawKit Jvm.RoadKit
/-- from here the run comes to a state that meets F -/
def Go (tb : Tables) (e : Env) (below : List Frame) (F : State → Prop) (T : State) (g : JFrame) : Prop := ∃ t, Steps tb e below (T.setTop g) t ∧ F t
section Steps0
variable {tb : Tables} {e : Env} {below : List Frame} {F : State → Prop} {T T' : State} {g g' : JFrame}
theorem Go.st (q : ∀ t, Steps tb e below (T'.setTop g') t → Steps tb e below (T.setTop g) t) (k : Go tb e below F T' g') : Go tb e below F T g := by
  obtain ⟨t, h1, h2⟩ := k
  exact ⟨t, q t h1, h2⟩
theorem Go.tr (q : Steps tb e below (T.setTop g) (T'.setTop g')) (k : Go tb e below F T' g') : Go tb e below F T g := by
  obtain ⟨t, h1, h2⟩ := k
  exact ⟨t, q.trans h1, h2⟩
end Steps0
section Steps
variable {tb : Tables} [Ours tb] {e : Env} {below : List Frame} {F : State → Prop} {T T' : State} {m : MethodId} {c : Code} {pc pc' : Nat} {Ls Ls' : Array Slot} {sk : List Value}
theorem s_iload (h : At T m c below) (hx : tb.exec = Jvm.exec) {k : Nat} {v : Int32} (hd : decode c.code pc = .ok (.iload k, 2)) (hp : pc + 2 = pc') (hl : Ls[k]? = some (.val (.int v)))  (q : Go tb e below F T (mkF m pc' Ls ((.int v) :: sk))) : Go tb e below F T (mkF m pc Ls (sk)) := by
  subst hp; exact Go.st (fun _ r => XS.iload (g := mkF m pc Ls (sk)) h hx rfl hd hl  r) q
theorem s_iloadN (h : At T m c below) (hx : tb.exec = Jvm.exec) {k : Fin 4} {v : Int32} (hd : decode c.code pc = .ok (.iload_n k, 1)) (hp : pc + 1 = pc') (hl : Ls[k.val]? = some (.val (.int v)))  (q : Go tb e below F T (mkF m pc' Ls ((.int v) :: sk))) : Go tb e below F T (mkF m pc Ls (sk)) := by
  subst hp; exact Go.st (fun _ r => XS.iloadN (g := mkF m pc Ls (sk)) h hx rfl hd hl  r) q
theorem s_istore (h : At T m c below) (hx : tb.exec = Jvm.exec) {k : Nat} {v : Int32} (hd : decode c.code pc = .ok (.istore k, 2)) (hp : pc + 2 = pc')  (hl : storeLocals Ls k (.int v) = some Ls') (q : Go tb e below F T (mkF m pc' Ls' (sk))) : Go tb e below F T (mkF m pc Ls ((.int v) :: sk)) := by
  subst hp; exact Go.st (fun _ r => XS.istore (g := mkF m pc Ls ((.int v) :: sk)) h hx rfl hd rfl  hl r) q
theorem s_istoreN (h : At T m c below) (hx : tb.exec = Jvm.exec) {k : Fin 4} {v : Int32} (hd : decode c.code pc = .ok (.istore_n k, 1)) (hp : pc + 1 = pc')  (hl : storeLocals Ls k.val (.int v) = some Ls') (q : Go tb e below F T (mkF m pc' Ls' (sk))) : Go tb e below F T (mkF m pc Ls ((.int v) :: sk)) := by
  subst hp; exact Go.st (fun _ r => XS.istoreN (g := mkF m pc Ls ((.int v) :: sk)) h hx rfl hd rfl  hl r) q
theorem s_lload (h : At T m c below) (hx : tb.exec = Jvm.exec) {k : Nat} {v : Int64} (hd : decode c.code pc = .ok (.lload k, 2)) (hp : pc + 2 = pc') (hl : Ls[k]? = some (.val (.long v)))  (q : Go tb e below F T (mkF m pc' Ls ((.long v) :: sk))) : Go tb e below F T (mkF m pc Ls (sk)) := by
  subst hp; exact Go.st (fun _ r => XS.lload (g := mkF m pc Ls (sk)) h hx rfl hd hl  r) q
theorem s_lloadN (h : At T m c below) (hx : tb.exec = Jvm.exec) {k : Fin 4} {v : Int64} (hd : decode c.code pc = .ok (.lload_n k, 1)) (hp : pc + 1 = pc') (hl : Ls[k.val]? = some (.val (.long v)))  (q : Go tb e below F T (mkF m pc' Ls ((.long v) :: sk))) : Go tb e below F T (mkF m pc Ls (sk)) := by
  subst hp; exact Go.st (fun _ r => XS.lloadN (g := mkF m pc Ls (sk)) h hx rfl hd hl  r) q
theorem s_lstore (h : At T m c below) (hx : tb.exec = Jvm.exec) {k : Nat} {v : Int64} (hd : decode c.code pc = .ok (.lstore k, 2)) (hp : pc + 2 = pc')  (hl : storeLocals Ls k (.long v) = some Ls') (q : Go tb e below F T (mkF m pc' Ls' (sk))) : Go tb e below F T (mkF m pc Ls ((.long v) :: sk)) := by
  subst hp; exact Go.st (fun _ r => XS.lstore (g := mkF m pc Ls ((.long v) :: sk)) h hx rfl hd rfl  hl r) q
theorem s_lstoreN (h : At T m c below) (hx : tb.exec = Jvm.exec) {k : Fin 4} {v : Int64} (hd : decode c.code pc = .ok (.lstore_n k, 1)) (hp : pc + 1 = pc')  (hl : storeLocals Ls k.val (.long v) = some Ls') (q : Go tb e below F T (mkF m pc' Ls' (sk))) : Go tb e below F T (mkF m pc Ls ((.long v) :: sk)) := by
  subst hp; exact Go.st (fun _ r => XS.lstoreN (g := mkF m pc Ls ((.long v) :: sk)) h hx rfl hd rfl  hl r) q
theorem s_dload (h : At T m c below) (hx : tb.exec = Jvm.exec) {k : Nat} {v : UInt64} (hd : decode c.code pc = .ok (.dload k, 2)) (hp : pc + 2 = pc') (hl : Ls[k]? = some (.val (.double v)))  (q : Go tb e below F T (mkF m pc' Ls ((.double v) :: sk))) : Go tb e below F T (mkF m pc Ls (sk)) := by
  subst hp; exact Go.st (fun _ r => XS.dload (g := mkF m pc Ls (sk)) h hx rfl hd hl  r) q
theorem s_dloadN (h : At T m c below) (hx : tb.exec = Jvm.exec) {k : Fin 4} {v : UInt64} (hd : decode c.code pc = .ok (.dload_n k, 1)) (hp : pc + 1 = pc') (hl : Ls[k.val]? = some (.val (.double v)))  (q : Go tb e below F T (mkF m pc' Ls ((.double v) :: sk))) : Go tb e below F T (mkF m pc Ls (sk)) := by
  subst hp; exact Go.st (fun _ r => XS.dloadN (g := mkF m pc Ls (sk)) h hx rfl hd hl  r) q
theorem s_dstore (h : At T m c below) (hx : tb.exec = Jvm.exec) {k : Nat} {v : UInt64} (hd : decode c.code pc = .ok (.dstore k, 2)) (hp : pc + 2 = pc')  (hl : storeLocals Ls k (.double v) = some Ls') (q : Go tb e below F T (mkF m pc' Ls' (sk))) : Go tb e below F T (mkF m pc Ls ((.double v) :: sk)) := by
  subst hp; exact Go.st (fun _ r => XS.dstore (g := mkF m pc Ls ((.double v) :: sk)) h hx rfl hd rfl  hl r) q
theorem s_dstoreN (h : At T m c below) (hx : tb.exec = Jvm.exec) {k : Fin 4} {v : UInt64} (hd : decode c.code pc = .ok (.dstore_n k, 1)) (hp : pc + 1 = pc')  (hl : storeLocals Ls k.val (.double v) = some Ls') (q : Go tb e below F T (mkF m pc' Ls' (sk))) : Go tb e below F T (mkF m pc Ls ((.double v) :: sk)) := by
  subst hp; exact Go.st (fun _ r => XS.dstoreN (g := mkF m pc Ls ((.double v) :: sk)) h hx rfl hd rfl  hl r) q
theorem s_aload (h : At T m c below) (hx : tb.exec = Jvm.exec) {k : Nat} {v : Value} (hd : decode c.code pc = .ok (.aload k, 2)) (hp : pc + 2 = pc') (hl : Ls[k]? = some (.val (v))) (hv : v.isRef = true) (q : Go tb e below F T (mkF m pc' Ls ((v) :: sk))) : Go tb e below F T (mkF m pc Ls (sk)) := by
  subst hp; exact Go.st (fun _ r => XS.aload (g := mkF m pc Ls (sk)) h hx rfl hd hl hv r) q
theorem s_aloadN (h : At T m c below) (hx : tb.exec = Jvm.exec) {k : Fin 4} {v : Value} (hd : decode c.code pc = .ok (.aload_n k, 1)) (hp : pc + 1 = pc') (hl : Ls[k.val]? = some (.val (v))) (hv : v.isRef = true) (q : Go tb e below F T (mkF m pc' Ls ((v) :: sk))) : Go tb e below F T (mkF m pc Ls (sk)) := by
  subst hp; exact Go.st (fun _ r => XS.aloadN (g := mkF m pc Ls (sk)) h hx rfl hd hl hv r) q
theorem s_astore (h : At T m c below) (hx : tb.exec = Jvm.exec) {k : Nat} {v : Value} (hd : decode c.code pc = .ok (.astore k, 2)) (hp : pc + 2 = pc') (hv : v.isRef = true) (hl : storeLocals Ls k (v) = some Ls') (q : Go tb e below F T (mkF m pc' Ls' (sk))) : Go tb e below F T (mkF m pc Ls ((v) :: sk)) := by
  subst hp; exact Go.st (fun _ r => XS.astore (g := mkF m pc Ls ((v) :: sk)) h hx rfl hd rfl hv hl r) q
theorem s_astoreN (h : At T m c below) (hx : tb.exec = Jvm.exec) {k : Fin 4} {v : Value} (hd : decode c.code pc = .ok (.astore_n k, 1)) (hp : pc + 1 = pc') (hv : v.isRef = true) (hl : storeLocals Ls k.val (v) = some Ls') (q : Go tb e below F T (mkF m pc' Ls' (sk))) : Go tb e below F T (mkF m pc Ls ((v) :: sk)) := by
  subst hp; exact Go.st (fun _ r => XS.astoreN (g := mkF m pc Ls ((v) :: sk)) h hx rfl hd rfl hv hl r) q
theorem s_iconst (h : At T m c below) (hx : tb.exec = Jvm.exec) {i : Int} {v : Int32} (hd : decode c.code pc = .ok (.iconst i, 1)) (hp : pc + 1 = pc') (hv : Int32.ofInt i = v) (q : Go tb e below F T (mkF m pc' Ls ((.int v) :: sk))) : Go tb e below F T (mkF m pc Ls sk) := by
  subst hp hv; exact Go.st (fun _ r => XS.iconst (g := mkF m pc Ls sk) h hx rfl hd r) q
theorem s_bipush (h : At T m c below) (hx : tb.exec = Jvm.exec) {i : Int} {v : Int32} (hd : decode c.code pc = .ok (.bipush i, 2)) (hp : pc + 2 = pc') (hv : (Int8.ofInt i).toInt32 = v) (q : Go tb e below F T (mkF m pc' Ls ((.int v) :: sk))) : Go tb e below F T (mkF m pc Ls sk) := by
  subst hp hv; exact Go.st (fun _ r => XS.bipush (g := mkF m pc Ls sk) h hx rfl hd r) q
theorem s_sipush (h : At T m c below) (hx : tb.exec = Jvm.exec) {i : Int} {v : Int32} (hd : decode c.code pc = .ok (.sipush i, 3)) (hp : pc + 3 = pc') (hv : (Int16.ofInt i).toInt32 = v) (q : Go tb e below F T (mkF m pc' Ls ((.int v) :: sk))) : Go tb e below F T (mkF m pc Ls sk) := by
  subst hp hv; exact Go.st (fun _ r => XS.sipush (g := mkF m pc Ls sk) h hx rfl hd r) q
theorem s_aconst_null (h : At T m c below) (hx : tb.exec = Jvm.exec) (hd : decode c.code pc = .ok (.aconst_null, 1)) (hp : pc + 1 = pc') (q : Go tb e below F T (mkF m pc' Ls (.null :: sk))) : Go tb e below F T (mkF m pc Ls sk) := by
  subst hp; exact Go.st (fun _ r => XS.aconstNull (g := mkF m pc Ls sk) h hx rfl hd r) q
theorem s_iadd (h : At T m c below) (hx : tb.exec = Jvm.exec) {x y z : Int32} (hd : decode c.code pc = .ok (.iadd, 1)) (hp : pc + 1 = pc') (hv : x + y = z) (q : Go tb e below F T (mkF m pc' Ls (.int z :: sk))) : Go tb e below F T (mkF m pc Ls (.int y :: .int x :: sk)) := by
  subst hp hv; exact Go.st (fun _ r => XS.iadd (g := mkF m pc Ls (.int y :: .int x :: sk)) h hx rfl hd rfl r) q
theorem s_isub (h : At T m c below) (hx : tb.exec = Jvm.exec) {x y z : Int32} (hd : decode c.code pc = .ok (.isub, 1)) (hp : pc + 1 = pc') (hv : x - y = z) (q : Go tb e below F T (mkF m pc' Ls (.int z :: sk))) : Go tb e below F T (mkF m pc Ls (.int y :: .int x :: sk)) := by
  subst hp hv; exact Go.st (fun _ r => XS.isub (g := mkF m pc Ls (.int y :: .int x :: sk)) h hx rfl hd rfl r) q
theorem s_imul (h : At T m c below) (hx : tb.exec = Jvm.exec) {x y z : Int32} (hd : decode c.code pc = .ok (.imul, 1)) (hp : pc + 1 = pc') (hv : x * y = z) (q : Go tb e below F T (mkF m pc' Ls (.int z :: sk))) : Go tb e below F T (mkF m pc Ls (.int y :: .int x :: sk)) := by
  subst hp hv; exact Go.st (fun _ r => XS.imul (g := mkF m pc Ls (.int y :: .int x :: sk)) h hx rfl hd rfl r) q
theorem s_iand (h : At T m c below) (hx : tb.exec = Jvm.exec) {x y z : Int32} (hd : decode c.code pc = .ok (.iand, 1)) (hp : pc + 1 = pc') (hv : x &&& y = z) (q : Go tb e below F T (mkF m pc' Ls (.int z :: sk))) : Go tb e below F T (mkF m pc Ls (.int y :: .int x :: sk)) := by
  subst hp hv; exact Go.st (fun _ r => XS.iand (g := mkF m pc Ls (.int y :: .int x :: sk)) h hx rfl hd rfl r) q
theorem s_ior (h : At T m c below) (hx : tb.exec = Jvm.exec) {x y z : Int32} (hd : decode c.code pc = .ok (.ior, 1)) (hp : pc + 1 = pc') (hv : x ||| y = z) (q : Go tb e below F T (mkF m pc' Ls (.int z :: sk))) : Go tb e below F T (mkF m pc Ls (.int y :: .int x :: sk)) := by
  subst hp hv; exact Go.st (fun _ r => XS.ior (g := mkF m pc Ls (.int y :: .int x :: sk)) h hx rfl hd rfl r) q
theorem s_ixor (h : At T m c below) (hx : tb.exec = Jvm.exec) {x y z : Int32} (hd : decode c.code pc = .ok (.ixor, 1)) (hp : pc + 1 = pc') (hv : x ^^^ y = z) (q : Go tb e below F T (mkF m pc' Ls (.int z :: sk))) : Go tb e below F T (mkF m pc Ls (.int y :: .int x :: sk)) := by
  subst hp hv; exact Go.st (fun _ r => XS.ixor (g := mkF m pc Ls (.int y :: .int x :: sk)) h hx rfl hd rfl r) q
theorem s_ishl (h : At T m c below) (hx : tb.exec = Jvm.exec) {x y z : Int32} (hd : decode c.code pc = .ok (.ishl, 1)) (hp : pc + 1 = pc') (hv : x <<< (y &&& 31) = z) (q : Go tb e below F T (mkF m pc' Ls (.int z :: sk))) : Go tb e below F T (mkF m pc Ls (.int y :: .int x :: sk)) := by
  subst hp hv; exact Go.st (fun _ r => XS.ishl (g := mkF m pc Ls (.int y :: .int x :: sk)) h hx rfl hd rfl r) q
theorem s_ishr (h : At T m c below) (hx : tb.exec = Jvm.exec) {x y z : Int32} (hd : decode c.code pc = .ok (.ishr, 1)) (hp : pc + 1 = pc') (hv : x >>> (y &&& 31) = z) (q : Go tb e below F T (mkF m pc' Ls (.int z :: sk))) : Go tb e below F T (mkF m pc Ls (.int y :: .int x :: sk)) := by
  subst hp hv; exact Go.st (fun _ r => XS.ishr (g := mkF m pc Ls (.int y :: .int x :: sk)) h hx rfl hd rfl r) q
theorem s_iushr (h : At T m c below) (hx : tb.exec = Jvm.exec) {x y z : Int32} (hd : decode c.code pc = .ok (.iushr, 1)) (hp : pc + 1 = pc') (hv : (x.toUInt32 >>> (y &&& 31).toUInt32).toInt32 = z) (q : Go tb e below F T (mkF m pc' Ls (.int z :: sk))) : Go tb e below F T (mkF m pc Ls (.int y :: .int x :: sk)) := by
  subst hp hv; exact Go.st (fun _ r => XS.iushr (g := mkF m pc Ls (.int y :: .int x :: sk)) h hx rfl hd rfl r) q
theorem s_ladd (h : At T m c below) (hx : tb.exec = Jvm.exec) {x y z : Int64} (hd : decode c.code pc = .ok (.ladd, 1)) (hp : pc + 1 = pc') (hv : x + y = z) (q : Go tb e below F T (mkF m pc' Ls (.long z :: sk))) : Go tb e below F T (mkF m pc Ls (.long y :: .long x :: sk)) := by
  subst hp hv; exact Go.st (fun _ r => XS.ladd (g := mkF m pc Ls (.long y :: .long x :: sk)) h hx rfl hd rfl r) q
theorem s_lsub (h : At T m c below) (hx : tb.exec = Jvm.exec) {x y z : Int64} (hd : decode c.code pc = .ok (.lsub, 1)) (hp : pc + 1 = pc') (hv : x - y = z) (q : Go tb e below F T (mkF m pc' Ls (.long z :: sk))) : Go tb e below F T (mkF m pc Ls (.long y :: .long x :: sk)) := by
  subst hp hv; exact Go.st (fun _ r => XS.lsub (g := mkF m pc Ls (.long y :: .long x :: sk)) h hx rfl hd rfl r) q
theorem s_lmul (h : At T m c below) (hx : tb.exec = Jvm.exec) {x y z : Int64} (hd : decode c.code pc = .ok (.lmul, 1)) (hp : pc + 1 = pc') (hv : x * y = z) (q : Go tb e below F T (mkF m pc' Ls (.long z :: sk))) : Go tb e below F T (mkF m pc Ls (.long y :: .long x :: sk)) := by
  subst hp hv; exact Go.st (fun _ r => XS.lmul (g := mkF m pc Ls (.long y :: .long x :: sk)) h hx rfl hd rfl r) q
theorem s_land (h : At T m c below) (hx : tb.exec = Jvm.exec) {x y z : Int64} (hd : decode c.code pc = .ok (.land, 1)) (hp : pc + 1 = pc') (hv : x &&& y = z) (q : Go tb e below F T (mkF m pc' Ls (.long z :: sk))) : Go tb e below F T (mkF m pc Ls (.long y :: .long x :: sk)) := by
  subst hp hv; exact Go.st (fun _ r => XS.land (g := mkF m pc Ls (.long y :: .long x :: sk)) h hx rfl hd rfl r) q
theorem s_lor (h : At T m c below) (hx : tb.exec = Jvm.exec) {x y z : Int64} (hd : decode c.code pc = .ok (.lor, 1)) (hp : pc + 1 = pc') (hv : x ||| y = z) (q : Go tb e below F T (mkF m pc' Ls (.long z :: sk))) : Go tb e below F T (mkF m pc Ls (.long y :: .long x :: sk)) := by
  subst hp hv; exact Go.st (fun _ r => XS.lor (g := mkF m pc Ls (.long y :: .long x :: sk)) h hx rfl hd rfl r) q
theorem s_lxor (h : At T m c below) (hx : tb.exec = Jvm.exec) {x y z : Int64} (hd : decode c.code pc = .ok (.lxor, 1)) (hp : pc + 1 = pc') (hv : x ^^^ y = z) (q : Go tb e below F T (mkF m pc' Ls (.long z :: sk))) : Go tb e below F T (mkF m pc Ls (.long y :: .long x :: sk)) := by
  subst hp hv; exact Go.st (fun _ r => XS.lxor (g := mkF m pc Ls (.long y :: .long x :: sk)) h hx rfl hd rfl r) q
theorem s_lshl (h : At T m c below) (hx : tb.exec = Jvm.exec) {x z : Int64} {y : Int32} (hd : decode c.code pc = .ok (.lshl, 1)) (hp : pc + 1 = pc') (hv : x <<< (y &&& 0x3f).toInt64 = z) (q : Go tb e below F T (mkF m pc' Ls (.long z :: sk))) : Go tb e below F T (mkF m pc Ls (.int y :: .long x :: sk)) := by
  subst hp hv; exact Go.st (fun _ r => XS.lshl (g := mkF m pc Ls (.int y :: .long x :: sk)) h hx rfl hd rfl r) q
theorem s_lshr (h : At T m c below) (hx : tb.exec = Jvm.exec) {x z : Int64} {y : Int32} (hd : decode c.code pc = .ok (.lshr, 1)) (hp : pc + 1 = pc') (hv : x >>> (y &&& 0x3f).toInt64 = z) (q : Go tb e below F T (mkF m pc' Ls (.long z :: sk))) : Go tb e below F T (mkF m pc Ls (.int y :: .long x :: sk)) := by
  subst hp hv; exact Go.st (fun _ r => XS.lshr (g := mkF m pc Ls (.int y :: .long x :: sk)) h hx rfl hd rfl r) q
theorem s_lushr (h : At T m c below) (hx : tb.exec = Jvm.exec) {x z : Int64} {y : Int32} (hd : decode c.code pc = .ok (.lushr, 1)) (hp : pc + 1 = pc') (hv : (x.toUInt64 >>> (y &&& 0x3f).toInt64.toUInt64).toInt64 = z) (q : Go tb e below F T (mkF m pc' Ls (.long z :: sk))) : Go tb e below F T (mkF m pc Ls (.int y :: .long x :: sk)) := by
  subst hp hv; exact Go.st (fun _ r => XS.lushr (g := mkF m pc Ls (.int y :: .long x :: sk)) h hx rfl hd rfl r) q
theorem s_ineg (h : At T m c below) (hx : tb.exec = Jvm.exec) {x : Int32} {z : Int32} (hd : decode c.code pc = .ok (.ineg, 1)) (hp : pc + 1 = pc') (hv : -x = z) (q : Go tb e below F T (mkF m pc' Ls (.int z :: sk))) : Go tb e below F T (mkF m pc Ls (.int x :: sk)) := by
  subst hp hv; exact Go.st (fun _ r => XS.ineg (g := mkF m pc Ls (.int x :: sk)) h hx rfl hd rfl r) q
theorem s_lneg (h : At T m c below) (hx : tb.exec = Jvm.exec) {x : Int64} {z : Int64} (hd : decode c.code pc = .ok (.lneg, 1)) (hp : pc + 1 = pc') (hv : -x = z) (q : Go tb e below F T (mkF m pc' Ls (.long z :: sk))) : Go tb e below F T (mkF m pc Ls (.long x :: sk)) := by
  subst hp hv; exact Go.st (fun _ r => XS.lneg (g := mkF m pc Ls (.long x :: sk)) h hx rfl hd rfl r) q
theorem s_i2l (h : At T m c below) (hx : tb.exec = Jvm.exec) {x : Int32} {z : Int64} (hd : decode c.code pc = .ok (.i2l, 1)) (hp : pc + 1 = pc') (hv : x.toInt64 = z) (q : Go tb e below F T (mkF m pc' Ls (.long z :: sk))) : Go tb e below F T (mkF m pc Ls (.int x :: sk)) := by
  subst hp hv; exact Go.st (fun _ r => XS.i2l (g := mkF m pc Ls (.int x :: sk)) h hx rfl hd rfl r) q
theorem s_l2i (h : At T m c below) (hx : tb.exec = Jvm.exec) {x : Int64} {z : Int32} (hd : decode c.code pc = .ok (.l2i, 1)) (hp : pc + 1 = pc') (hv : x.toInt32 = z) (q : Go tb e below F T (mkF m pc' Ls (.int z :: sk))) : Go tb e below F T (mkF m pc Ls (.long x :: sk)) := by
  subst hp hv; exact Go.st (fun _ r => XS.l2i (g := mkF m pc Ls (.long x :: sk)) h hx rfl hd rfl r) q
theorem s_i2b (h : At T m c below) (hx : tb.exec = Jvm.exec) {x : Int32} {z : Int32} (hd : decode c.code pc = .ok (.i2b, 1)) (hp : pc + 1 = pc') (hv : x.toInt8.toInt32 = z) (q : Go tb e below F T (mkF m pc' Ls (.int z :: sk))) : Go tb e below F T (mkF m pc Ls (.int x :: sk)) := by
  subst hp hv; exact Go.st (fun _ r => XS.i2b (g := mkF m pc Ls (.int x :: sk)) h hx rfl hd rfl r) q
theorem s_i2s (h : At T m c below) (hx : tb.exec = Jvm.exec) {x : Int32} {z : Int32} (hd : decode c.code pc = .ok (.i2s, 1)) (hp : pc + 1 = pc') (hv : x.toInt16.toInt32 = z) (q : Go tb e below F T (mkF m pc' Ls (.int z :: sk))) : Go tb e below F T (mkF m pc Ls (.int x :: sk)) := by
  subst hp hv; exact Go.st (fun _ r => XS.i2s (g := mkF m pc Ls (.int x :: sk)) h hx rfl hd rfl r) q
theorem s_i2c (h : At T m c below) (hx : tb.exec = Jvm.exec) {x : Int32} {z : Int32} (hd : decode c.code pc = .ok (.i2c, 1)) (hp : pc + 1 = pc') (hv : x.toUInt32.toUInt16.toUInt32.toInt32 = z) (q : Go tb e below F T (mkF m pc' Ls (.int z :: sk))) : Go tb e below F T (mkF m pc Ls (.int x :: sk)) := by
  subst hp hv; exact Go.st (fun _ r => XS.i2c (g := mkF m pc Ls (.int x :: sk)) h hx rfl hd rfl r) q
theorem s_lcmp (h : At T m c below) (hx : tb.exec = Jvm.exec) {x y : Int64} {z : Int32} (hd : decode c.code pc = .ok (.lcmp, 1)) (hp : pc + 1 = pc') (hv : lcmpW x y = z) (q : Go tb e below F T (mkF m pc' Ls (.int z :: sk))) : Go tb e below F T (mkF m pc Ls (.long y :: .long x :: sk)) := by
  subst hp hv; exact Go.st (fun _ r => XS.lcmp (g := mkF m pc Ls (.long y :: .long x :: sk)) h hx rfl hd rfl r) q
theorem s_idiv (h : At T m c below) (hx : tb.exec = Jvm.exec) {x y z : Int32} (hd : decode c.code pc = .ok (.idiv, 1)) (hp : pc + 1 = pc') (hy : ¬ y = 0) (hv : x / y = z) (q : Go tb e below F T (mkF m pc' Ls (.int z :: sk))) : Go tb e below F T (mkF m pc Ls (.int y :: .int x :: sk)) := by
  subst hp hv; exact Go.st (fun _ r => XS.idiv (g := mkF m pc Ls (.int y :: .int x :: sk)) h hx rfl hd rfl hy r) q
theorem s_irem (h : At T m c below) (hx : tb.exec = Jvm.exec) {x y z : Int32} (hd : decode c.code pc = .ok (.irem, 1)) (hp : pc + 1 = pc') (hy : ¬ y = 0) (hv : x % y = z) (q : Go tb e below F T (mkF m pc' Ls (.int z :: sk))) : Go tb e below F T (mkF m pc Ls (.int y :: .int x :: sk)) := by
  subst hp; rw [← irem_eq_mod x y] at hv; subst hv; exact Go.st (fun _ r => XS.irem (g := mkF m pc Ls (.int y :: .int x :: sk)) h hx rfl hd rfl hy r) q
theorem s_ldiv (h : At T m c below) (hx : tb.exec = Jvm.exec) {x y z : Int64} (hd : decode c.code pc = .ok (.ldiv, 1)) (hp : pc + 1 = pc') (hy : ¬ y = 0) (hv : x / y = z) (q : Go tb e below F T (mkF m pc' Ls (.long z :: sk))) : Go tb e below F T (mkF m pc Ls (.long y :: .long x :: sk)) := by
  subst hp hv; exact Go.st (fun _ r => XS.ldiv (g := mkF m pc Ls (.long y :: .long x :: sk)) h hx rfl hd rfl hy r) q
theorem s_lrem (h : At T m c below) (hx : tb.exec = Jvm.exec) {x y z : Int64} (hd : decode c.code pc = .ok (.lrem, 1)) (hp : pc + 1 = pc') (hy : ¬ y = 0) (hv : x % y = z) (q : Go tb e below F T (mkF m pc' Ls (.long z :: sk))) : Go tb e below F T (mkF m pc Ls (.long y :: .long x :: sk)) := by
  subst hp; rw [← lrem_mod x y] at hv; subst hv; exact Go.st (fun _ r => XS.lrem (g := mkF m pc Ls (.long y :: .long x :: sk)) h hx rfl hd rfl hy r) q
theorem s_dup (h : At T m c below) (hx : tb.exec = Jvm.exec) {v : Value} (hd : decode c.code pc = .ok (.dup, 1)) (hp : pc + 1 = pc') (hc : v.category = 1) (q : Go tb e below F T (mkF m pc' Ls (v :: v :: sk))) : Go tb e below F T (mkF m pc Ls (v :: sk)) := by
  subst hp; exact Go.st (fun _ r => XS.dup (g := mkF m pc Ls (v :: sk)) h hx rfl hd rfl hc r) q
theorem s_pop (h : At T m c below) (hx : tb.exec = Jvm.exec) {v : Value} (hd : decode c.code pc = .ok (.pop, 1)) (hp : pc + 1 = pc') (hc : v.category = 1) (q : Go tb e below F T (mkF m pc' Ls (sk))) : Go tb e below F T (mkF m pc Ls (v :: sk)) := by
  subst hp; exact Go.st (fun _ r => XS.pop (g := mkF m pc Ls (v :: sk)) h hx rfl hd rfl hc r) q
theorem s_dup_x1 (h : At T m c below) (hx : tb.exec = Jvm.exec) {v w : Value} (hd : decode c.code pc = .ok (.dup_x1, 1)) (hp : pc + 1 = pc') (hc : v.category = 1) (hc' : w.category = 1) (q : Go tb e below F T (mkF m pc' Ls (v :: w :: v :: sk))) : Go tb e below F T (mkF m pc Ls (v :: w :: sk)) := by
  subst hp; exact Go.st (fun _ r => XS.dupX1 (g := mkF m pc Ls (v :: w :: sk)) h hx rfl hd rfl hc hc' r) q
theorem s_iinc (h : At T m c below) (hx : tb.exec = Jvm.exec) {k : Nat} {i : Int} (hd : decode c.code pc = .ok (.iinc k i, 3)) (hp : pc + 3 = pc') {x z : Int32} (hl : Ls[k]? = some (.val (.int x))) (hv : x + Int32.ofInt i = z) (hs : storeLocals Ls k (.int z) = some Ls') (q : Go tb e below F T (mkF m pc' Ls' (sk))) : Go tb e below F T (mkF m pc Ls (sk)) := by
  subst hp hv; exact Go.st (fun _ r => XS.iinc (g := mkF m pc Ls (sk)) h hx rfl hd hl hs r) q
theorem s_lconst (h : At T m c below) (hx : tb.exec = Jvm.exec) {i : Fin 2} {v : Int64} (hd : decode c.code pc = .ok (.lconst i, 1)) (hp : pc + 1 = pc') (hv : Int64.ofNat i = v) (q : Go tb e below F T (mkF m pc' Ls (.long v :: sk))) : Go tb e below F T (mkF m pc Ls (sk)) := by
  subst hp hv; exact Go.st (fun _ r => XS.lconst (g := mkF m pc Ls (sk)) h hx rfl hd  r) q
theorem s_i2d (h : At T m c below) (hx : tb.exec = Jvm.exec) {x : Int32} {z : UInt64} (hd : decode c.code pc = .ok (.i2d, 1)) (hp : pc + 1 = pc') (hv : FP.i2d x = z) (q : Go tb e below F T (mkF m pc' Ls (.double z :: sk))) : Go tb e below F T (mkF m pc Ls (.int x :: sk)) := by
  subst hp; exact Go.st (fun _ r => XS.i2dS (g := mkF m pc Ls (.int x :: sk)) h hx rfl hd rfl hv r) q
theorem s_l2d (h : At T m c below) (hx : tb.exec = Jvm.exec) {x : Int64} {z : UInt64} (hd : decode c.code pc = .ok (.l2d, 1)) (hp : pc + 1 = pc') (hv : FP.l2d x = z) (q : Go tb e below F T (mkF m pc' Ls (.double z :: sk))) : Go tb e below F T (mkF m pc Ls (.long x :: sk)) := by
  subst hp; exact Go.st (fun _ r => XS.l2dS (g := mkF m pc Ls (.long x :: sk)) h hx rfl hd rfl hv r) q
theorem s_d2i (h : At T m c below) (hx : tb.exec = Jvm.exec) {x : UInt64} {z : Int32} (hd : decode c.code pc = .ok (.d2i, 1)) (hp : pc + 1 = pc') (hv : FP.d2i x = z) (q : Go tb e below F T (mkF m pc' Ls (.int z :: sk))) : Go tb e below F T (mkF m pc Ls (.double x :: sk)) := by
  subst hp; exact Go.st (fun _ r => XS.d2iS (g := mkF m pc Ls (.double x :: sk)) h hx rfl hd rfl hv r) q
theorem s_d2l (h : At T m c below) (hx : tb.exec = Jvm.exec) {x : UInt64} {z : Int64} (hd : decode c.code pc = .ok (.d2l, 1)) (hp : pc + 1 = pc') (hv : FP.d2l x = z) (q : Go tb e below F T (mkF m pc' Ls (.long z :: sk))) : Go tb e below F T (mkF m pc Ls (.double x :: sk)) := by
  subst hp; exact Go.st (fun _ r => XS.d2lS (g := mkF m pc Ls (.double x :: sk)) h hx rfl hd rfl hv r) q
theorem s_dneg (h : At T m c below) (hx : tb.exec = Jvm.exec) {x z : UInt64} (hd : decode c.code pc = .ok (.dneg, 1)) (hp : pc + 1 = pc') (hv : FP.dneg x = z) (q : Go tb e below F T (mkF m pc' Ls (.double z :: sk))) : Go tb e below F T (mkF m pc Ls (.double x :: sk)) := by
  subst hp; exact Go.st (fun _ r => XS.dnegS (g := mkF m pc Ls (.double x :: sk)) h hx rfl hd rfl hv r) q
theorem s_dcmpl (h : At T m c below) (hx : tb.exec = Jvm.exec) {x y : UInt64} {z : Int32} (hd : decode c.code pc = .ok (.dcmp .l, 1)) (hp : pc + 1 = pc') (hv : cmpValue (FP.dcmp x y) .l = z) (q : Go tb e below F T (mkF m pc' Ls (.int z :: sk))) : Go tb e below F T (mkF m pc Ls (.double y :: .double x :: sk)) := by
  subst hp; exact Go.st (fun _ r => XS.dcmpS (g := mkF m pc Ls (.double y :: .double x :: sk)) h hx rfl hd rfl hv r) q
theorem s_dcmpg (h : At T m c below) (hx : tb.exec = Jvm.exec) {x y : UInt64} {z : Int32} (hd : decode c.code pc = .ok (.dcmp .g, 1)) (hp : pc + 1 = pc') (hv : cmpValue (FP.dcmp x y) .g = z) (q : Go tb e below F T (mkF m pc' Ls (.int z :: sk))) : Go tb e below F T (mkF m pc Ls (.double y :: .double x :: sk)) := by
  subst hp; exact Go.st (fun _ r => XS.dcmpS (g := mkF m pc Ls (.double y :: .double x :: sk)) h hx rfl hd rfl hv r) q
theorem s_dadd (h : At T m c below) (hx : tb.exec = Jvm.exec) {x y z : UInt64} (hd : decode c.code pc = .ok (.dadd, 1)) (hp : pc + 1 = pc') (hn : Jvm.Free.Fl.NoNaN64 (FP.dadd x y)) (hv : FP.dadd x y = z) (q : Go tb e below F T (mkF m pc' Ls (.double z :: sk))) : Go tb e below F T (mkF m pc Ls (.double y :: .double x :: sk)) := by
  subst hp; exact Go.st (fun _ r => XS.daddS (g := mkF m pc Ls (.double y :: .double x :: sk)) h hx rfl hd rfl hn hv r) q
theorem s_dsub (h : At T m c below) (hx : tb.exec = Jvm.exec) {x y z : UInt64} (hd : decode c.code pc = .ok (.dsub, 1)) (hp : pc + 1 = pc') (hn : Jvm.Free.Fl.NoNaN64 (FP.dsub x y)) (hv : FP.dsub x y = z) (q : Go tb e below F T (mkF m pc' Ls (.double z :: sk))) : Go tb e below F T (mkF m pc Ls (.double y :: .double x :: sk)) := by
  subst hp; exact Go.st (fun _ r => XS.dsubS (g := mkF m pc Ls (.double y :: .double x :: sk)) h hx rfl hd rfl hn hv r) q
theorem s_dmul (h : At T m c below) (hx : tb.exec = Jvm.exec) {x y z : UInt64} (hd : decode c.code pc = .ok (.dmul, 1)) (hp : pc + 1 = pc') (hn : Jvm.Free.Fl.NoNaN64 (FP.dmul x y)) (hv : FP.dmul x y = z) (q : Go tb e below F T (mkF m pc' Ls (.double z :: sk))) : Go tb e below F T (mkF m pc Ls (.double y :: .double x :: sk)) := by
  subst hp; exact Go.st (fun _ r => XS.dmulS (g := mkF m pc Ls (.double y :: .double x :: sk)) h hx rfl hd rfl hn hv r) q
theorem s_ddiv (h : At T m c below) (hx : tb.exec = Jvm.exec) {x y z : UInt64} (hd : decode c.code pc = .ok (.ddiv, 1)) (hp : pc + 1 = pc') (hn : Jvm.Free.Fl.NoNaN64 (FP.ddiv x y)) (hv : FP.ddiv x y = z) (q : Go tb e below F T (mkF m pc' Ls (.double z :: sk))) : Go tb e below F T (mkF m pc Ls (.double y :: .double x :: sk)) := by
  subst hp; exact Go.st (fun _ r => XS.ddivS (g := mkF m pc Ls (.double y :: .double x :: sk)) h hx rfl hd rfl hn hv r) q
theorem s_dconst0 (h : At T m c below) (hx : tb.exec = Jvm.exec) {v : UInt64} (hd : decode c.code pc = .ok (.dconst 0, 1)) (hp : pc + 1 = pc') (hv : FP.dconst0 = v) (q : Go tb e below F T (mkF m pc' Ls (.double v :: sk))) : Go tb e below F T (mkF m pc Ls (sk)) := by
  subst hp; exact Go.st (fun _ r => XS.dconst0 (g := mkF m pc Ls (sk)) h hx rfl hd hv r) q
theorem s_dconst1 (h : At T m c below) (hx : tb.exec = Jvm.exec) {v : UInt64} (hd : decode c.code pc = .ok (.dconst 1, 1)) (hp : pc + 1 = pc') (hv : FP.dconst1 = v) (q : Go tb e below F T (mkF m pc' Ls (.double v :: sk))) : Go tb e below F T (mkF m pc Ls (sk)) := by
  subst hp; exact Go.st (fun _ r => XS.dconst1 (g := mkF m pc Ls (sk)) h hx rfl hd hv r) q
theorem s_goto (h : At T m c below) (hx : tb.exec = Jvm.exec) {o : Int} (hd : decode c.code pc = .ok (.goto o, 3)) (ho : 0 ≤ (pc : Int) + o) (hp : ((pc : Int) + o).toNat = pc') (q : Go tb e below F T (mkF m pc' Ls sk)) : Go tb e below F T (mkF m pc Ls sk) :=
  Go.st (fun _ r => XS.goto (g := mkF m pc Ls sk) h hx rfl (pc0 := pc) (pc' := pc') rfl hd ho hp r) q
theorem s_ifY (h : At T m c below) (hx : tb.exec = Jvm.exec) {cd : ClassFile.Cond} {o : Int} {x : Int32} (hd : decode c.code pc = .ok (.ifCond cd o, 3)) (hc : ifCond.holds cd x = true) (ho : 0 ≤ (pc : Int) + o) (hp : ((pc : Int) + o).toNat = pc') (q : Go tb e below F T (mkF m pc' Ls sk)) : Go tb e below F T (mkF m pc Ls (.int x :: sk)) :=
  Go.st (fun _ r => XS.ifYes (g := mkF m pc Ls (.int x :: sk)) h hx rfl (pc0 := pc) (pc' := pc') rfl hd rfl hc ho hp r) q
theorem s_ifN (h : At T m c below) (hx : tb.exec = Jvm.exec) {cd : ClassFile.Cond} {o : Int} {x : Int32} (hd : decode c.code pc = .ok (.ifCond cd o, 3)) (hp : pc + 3 = pc') (hc : ifCond.holds cd x = false) (q : Go tb e below F T (mkF m pc' Ls sk)) : Go tb e below F T (mkF m pc Ls (.int x :: sk)) := by
  subst hp; exact Go.st (fun _ r => XS.ifNo (g := mkF m pc Ls (.int x :: sk)) h hx rfl hd rfl hc r) q
theorem s_icmpY (h : At T m c below) (hx : tb.exec = Jvm.exec) {cd : ClassFile.Cond} {o : Int} {x y : Int32} (hd : decode c.code pc = .ok (.if_icmp cd o, 3)) (hc : if_icmp.holds cd x y = true) (ho : 0 ≤ (pc : Int) + o) (hp : ((pc : Int) + o).toNat = pc') (q : Go tb e below F T (mkF m pc' Ls sk)) : Go tb e below F T (mkF m pc Ls (.int y :: .int x :: sk)) :=
  Go.st (fun _ r => XS.icmpYes (g := mkF m pc Ls (.int y :: .int x :: sk)) h hx rfl (pc0 := pc) (pc' := pc') rfl hd rfl hc ho hp r) q
theorem s_icmpN (h : At T m c below) (hx : tb.exec = Jvm.exec) {cd : ClassFile.Cond} {o : Int} {x y : Int32} (hd : decode c.code pc = .ok (.if_icmp cd o, 3)) (hp : pc + 3 = pc') (hc : if_icmp.holds cd x y = false) (q : Go tb e below F T (mkF m pc' Ls sk)) : Go tb e below F T (mkF m pc Ls (.int y :: .int x :: sk)) := by
  subst hp; exact Go.st (fun _ r => XS.icmpNo (g := mkF m pc Ls (.int y :: .int x :: sk)) h hx rfl hd rfl hc r) q
theorem s_ifnullY (h : At T m c below) (hx : tb.exec = Jvm.exec) {o : Int} (hd : decode c.code pc = .ok (.ifnull o, 3)) (ho : 0 ≤ (pc : Int) + o) (hp : ((pc : Int) + o).toNat = pc') (q : Go tb e below F T (mkF m pc' Ls sk)) : Go tb e below F T (mkF m pc Ls (.null :: sk)) :=
  Go.st (fun _ r => XS.ifnullYes (g := mkF m pc Ls (.null :: sk)) h hx rfl (pc0 := pc) (pc' := pc') rfl hd rfl ho hp r) q
theorem s_ifnullN (h : At T m c below) (hx : tb.exec = Jvm.exec) {o : Int} {b : Addr} (hd : decode c.code pc = .ok (.ifnull o, 3)) (hp : pc + 3 = pc') (q : Go tb e below F T (mkF m pc' Ls sk)) : Go tb e below F T (mkF m pc Ls ((.ref b) :: sk)) := by
  subst hp; exact Go.st (fun _ r => XS.ifnullNo (g := mkF m pc Ls ((.ref b) :: sk)) h hx rfl hd rfl r) q
theorem s_ifnonnullY (h : At T m c below) (hx : tb.exec = Jvm.exec) {o : Int} {b : Addr} (hd : decode c.code pc = .ok (.ifnonnull o, 3)) (ho : 0 ≤ (pc : Int) + o) (hp : ((pc : Int) + o).toNat = pc') (q : Go tb e below F T (mkF m pc' Ls sk)) : Go tb e below F T (mkF m pc Ls ((.ref b) :: sk)) :=
  Go.st (fun _ r => XS.ifnonnullYes (g := mkF m pc Ls ((.ref b) :: sk)) h hx rfl (pc0 := pc) (pc' := pc') rfl hd rfl ho hp r) q
theorem s_ifnonnullN (h : At T m c below) (hx : tb.exec = Jvm.exec) {o : Int} (hd : decode c.code pc = .ok (.ifnonnull o, 3)) (hp : pc + 3 = pc') (q : Go tb e below F T (mkF m pc' Ls sk)) : Go tb e below F T (mkF m pc Ls (.null :: sk)) := by
  subst hp; exact Go.st (fun _ r => XS.ifnonnullNo (g := mkF m pc Ls (.null :: sk)) h hx rfl hd rfl r) q
end Steps
end Jvm.Own
namespace Jvm.Own
open Sem ClassFile Op Lib Bundle Jvm.Stand Jvm.Free Jvm.LawKit Jvm.RoadKit
section Ends
variable {tb : Tables} {e : Env} {below : List Frame} {F : State → Prop} {T t : State} {g : JFrame}
theorem Go.fin (h : Steps tb e below (T.setTop g) t) (k : F t) : Go tb e below F T g := ⟨t, h, k⟩
theorem fin_of {P : State → Outcome → Prop} (k : ∀ F : State → Prop, (∀ t o, t.status = .running → Ended t below o → P t o → F t) → Go tb e below F T g) : ∃ s₂ o, Steps tb e below (T.setTop g) s₂ ∧ s₂.status = .running ∧ Ended s₂ below o ∧ P s₂ o := by
  obtain ⟨t, h1, o, h2, h3, h4⟩ := k (fun t => ∃ o, t.status = .running ∧ Ended t below o ∧ P t o) fun t o h2 h3 h4 => ⟨o, h2, h3, h4⟩
  exact ⟨t, o, h1, h2, h3, h4⟩
end Ends
theorem cat_of_ref {v : Value} (h : v.isRef = true) : v.category = 1 := by rcases ref_cases h with rfl | ⟨a, rfl⟩ <;> rfl
theorem own_fits_ref {v : Value} {t : FieldType} (ht : t.isReference = true) (h : v.isRef = true) : fits t v = true := by rcases ref_cases h with rfl | ⟨a, rfl⟩ <;> cases t <;> first | rfl | (cases ht)
theorem own_narrow_ref {v : Value} {t : FieldType} (h : v.isRef = true) : narrow t v = v := by rcases ref_cases h with rfl | ⟨a, rfl⟩ <;> cases t <;> rfl
theorem wideOn {Z s : State} {vm0 vm1 : Vm} {n : Nat} {own : String} {k : ClassId} (hZ : Z.Warmed39 vm0) (hS : (s.setVm vm0).Since vm1 n) (hown : vm0.findClass own = some k) : Z.Warmed39 vm1 ∧ vm1.findClass own = some k :=
  ⟨State.Warmed39.trans (t := s.setVm vm0) hZ hS.1, by rw [hS.1.alike.findClass]; exact hown⟩
section BackX
variable {p : Program} {l : Launch} {e : Env} {R : Room} {s : State} {args : Array Value} {below : List Frame} {Z : State} {a0 : Array Value} {EL : List (String × Nat)} {h : Heap} {vm0 : Vm}
/-- what pays a call of a body that may load literals, whose objects xs are no literal's -/
theorem backX {y : MethodName} {bytes : ByteArray} {maxL : Nat} {ret : Option FieldType} {rm : Room} {len W : Nat} {as' : Array Value} {Q : Option Value → Heap → List Loc → Prop} {xs : List Addr}
    (hM : MetFree l y (head1 [Cond.code y bytes maxL ret] rm) (fun a U => a = as' ∧ Z.Warmed39 U.vm ∧ U.heap = h ∧ CHv Z EL U.vm h ∧ ∀ x ∈ xs, Safe Z EL U.vm h x) (fun _ _ _ _ _ => True) (fun _ U o U' => ∃ v L, o = .returned v ∧ Q v U'.heap L ∧ CHr Z EL U.vm U.heap U'.vm U'.heap ∧ ReturnedEndW U o U' L rm.cells rm.slots))
    (hZ : Z.Warmed39 vm0) (wc : (Cond.code y bytes maxL ret).before a0 Z = true) (wz : (Cond.initialized y.cls).before a0 Z = true) (hf : rm.frames + 1 ≤ R.frames) (hl : W + (maxL + 11) + rm.locals ≤ R.locals) (hEL : EW Z a0 EL) (H : CHv Z EL vm0 h) (hs : ∀ x ∈ xs, x < h.size ∧ Safe Z EL vm0 h x) :
    BackS l R p e below (s.setVm vm0) args y len W (fun A a => a = as' ∧ A.U.heap = h ∧ A.cells + rm.cells ≤ R.cells ∧ A.slots + rm.slots ≤ R.slots)
      (fun A _ v B => ∃ L, Q v B.U.heap L ∧ B.locs = A.locs ++ L ∧ B.cells = A.cells + rm.cells ∧ B.slots = A.slots + rm.slots ∧ CHr Z EL vm0 h B.U.vm B.U.heap) := by
  refine BackS.of_freeW (bytes := bytes) (maxL := maxL) (ret := ret) (E := fun _ first o t L k n => k = rm.cells ∧ n = rm.slots ∧ (∃ v, o = .returned v ∧ Q v t.heap L) ∧ CHr Z EL first.vm first.heap t.vm t.heap) hM hf hl ?_ ?_ (fun _ _ _ _ _ _ _ _ _ => trivial) ?_ ?_
  · intro m meth c A a Y hp
    have hU : Z.Warmed39 A.U.vm := wtrans (s := s.setVm vm0) hZ Y.warmed
    exact ⟨by show (Cond.and _ .tt).before a A.U = true; rw [Cond.before_and, mv hU wc]; rfl, mv hU wc, mv hU wz, hp.2.2.1, hp.2.2.2⟩
  · intro m meth c A a g mk Y hp
    have K := CHv.at Y hZ hEL H
    exact ⟨hp.1, wtrans (s := s.setVm vm0) hZ Y.warmed, hp.2.1, K.1, fun x hx => K.safe (hs x hx).1 (hs x hx).2⟩
  · intro _ _ _ _ ⟨v, L, h1, h2, h3, h4⟩
    exact ⟨L, _, _, h4, rfl, rfl, ⟨v, h1, h2⟩, h3⟩
  · intro m meth c A a g mk v t L k n Y hp _ _ ⟨e1, e2, ⟨v', e3, e4⟩, e5⟩
    cases e3; subst e1 e2
    refine ⟨L, e4, rfl, rfl, rfl, (CHv.at Y hZ hEL H).trans ?_⟩
    rw [← hp.2.1]; exact e5
end BackX
/-! small numbers -/
theorem eq32 {a b : Int32} (h : a.toInt = b.toInt) : a = b := Int32.toInt_inj.mp h
theorem chr_nar {c : Int32} (h : ¬ c < 0 ∧ ¬ (255 : Int32) < c) : nar .char c = c := by
  have q := c_i2c c
  have e1 : (255 : Int32).toInt = 255 := rfl
  have e0 : (0 : Int32).toInt = 0 := rfl
  have h1 := h.1; have h2 := h.2
  rw [Int32.lt_iff_toInt_lt] at h1 h2
  exact eq32 (by show c.toUInt32.toUInt16.toUInt32.toInt32.toInt = _; omega)
theorem chr_i2c {c : Int32} (h : ¬ c < 0 ∧ ¬ (255 : Int32) < c) : c.toUInt32.toUInt16.toUInt32.toInt32 = c := chr_nar h
theorem chr_mask (x : Int32) : ¬ (x &&& 255) < 0 ∧ ¬ (255 : Int32) < (x &&& 255) := by
  have q := c_mask x 255 8 (by decide) (by decide)
  have e1 : (255 : Int32).toInt = 255 := rfl
  have e0 : (0 : Int32).toInt = 0 := rfl
  rw [Int32.lt_iff_toInt_lt, Int32.lt_iff_toInt_lt]
  omega
theorem chr_lit {k : Nat} (h : k < 256) : ¬ (Int32.ofNat k) < 0 ∧ ¬ (255 : Int32) < (Int32.ofNat k) := by
  have q : (Int32.ofNat k).toInt = k := Int32.toInt_ofNat_small (by omega)
  have e1 : (255 : Int32).toInt = 255 := rfl
  have e0 : (0 : Int32).toInt = 0 := rfl
  rw [Int32.lt_iff_toInt_lt, Int32.lt_iff_toInt_lt]
  omega
theorem chr_up {cs : List Int32} (h : ∀ c ∈ cs, ¬ c < 0 ∧ ¬ (255 : Int32) < c) : ∀ c ∈ cs, ¬ c < 0 ∧ ¬ (65535 : Int32) < c := fun c hc => ⟨(h c hc).1, fun q => (h c hc).2 (by rw [Int32.lt_iff_toInt_lt] at q ⊢; have e1 : (65535 : Int32).toInt = 65535 := rfl; have e2 : (255 : Int32).toInt = 255 := rfl; omega)⟩
theorem bit01 (P : Prop) [Decidable P] : (if P then (0 : Int32) else 1) = 0 ∨ (if P then (0 : Int32) else 1) = 1 := by by_cases h : P <;> simp [h]
theorem nar_b {x : Int32} (h : x = 0 ∨ x = 1) : nar .boolean x = x := by rcases h with rfl | rfl <;> decide
theorem narZ {k : Int32} (h : k = 0 ∨ k = 1) : narrow .boolean (.int k) = .int k := by rcases h with rfl | rfl <;> decide
theorem fitZ {k : Int32} (h : k = 0 ∨ k = 1) : fits .boolean (.int k) = true := by rcases h with rfl | rfl <;> decide
end Jvm.Own
/- laws to paste: Road.backV, Road.eqW, Road.codOf (cut by pick.py; bodies as the Statement names them) -/
namespace Jvm.Pilot.@@N@@
namespace StrChars
open Jvm Sem ClassFile Op Lib Jvm.Stand Jvm.Free.XT Jvm.Free.ALB Jvm.Free.JM Jvm.Free
open Jvm.Lib.Cold (StaticIs)
/-- a char array whose places are chars -/
def Ch (a : Addr) (A : Cell) (U : State) : Prop := Arr .char a A U ∧ Typed .char A
theorem Ch.mv {a : Addr} {A : Cell} {U U' : State} (h : Ch a A U) (hal : U.vm.Alike U'.vm) (hh : U'.heap = U.heap) : Ch a A U' := ⟨h.1.mv hal hh, h.2⟩
theorem Ch.keep {a : Addr} {A : Cell} {U U' : State} (h : Ch a A U) (hal : U.vm.Alike U'.vm) (hk : U'.heap[a]? = some A) : Ch a A U' := ⟨h.1.keep hal hk, h.2⟩
/-- what place i of a char[]'s cell holds -/
def cv (A : Cell) (i : Nat) : Int32 := match A.slots[i]? with | some (.int x) => x | _ => 0
theorem Ch.get {a : Addr} {A : Cell} {U : State} (h : Ch a A U) {i : Nat} (hi : i < A.slots.size) : A.slots[i]? = some (.int (cv A i)) := by
  have e := Array.getElem?_eq_getElem hi
  have f := h.2 i _ e
  unfold cv; rw [e]
  generalize A.slots[i] = v at f
  cases v <;> simp [fits] at f ⊢
/-- the byte that i2b leaves of a char -/
def lo8 (x : Int32) : Int32 := x.toInt8.toInt32
theorem fits_lo8 (y : Int32) : fits .byte (.int (lo8 y)) = true := by
  have h1 := y.toInt8.le_toInt
  have h2 := y.toInt8.toInt_lt
  simp only [lo8, fits, Bool.and_eq_true, decide_eq_true_eq, Int32.le_iff_toInt_le, Int8.toInt_toInt32, show (-128 : Int32).toInt = -128 from by decide, show (127 : Int32).toInt = 127 from by decide]
  omega
/-- A' is A but that each place j of lo .. hi - 1 holds f j -/
def Laid (A A' : Cell) (lo hi : Nat) (f : Nat → Value) : Prop := A'.cls = A.cls ∧ A'.vm = A.vm ∧ A'.slots.size = A.slots.size ∧ ∀ i, A'.slots[i]? = if lo ≤ i ∧ i < hi then some (f i) else A.slots[i]?
theorem Laid.zero (A : Cell) (lo : Nat) (f : Nat → Value) : Laid A A lo (lo + 0) f := ⟨rfl, rfl, rfl, fun i => by rw [if_neg (by omega)]⟩
theorem Laid.step {A Ak : Cell} {lo k : Nat} {f : Nat → Value} {v : Value} (h : Laid A Ak lo k f) (hlo : lo ≤ k) (hk : k < Ak.slots.size) (hv : v = f k) : Laid A (Ak.setSlot k v) lo (k + 1) f := by
  refine ⟨h.1, h.2.1, by simpa [Cell.setSlot] using h.2.2.1, fun i => ?_⟩
  by_cases e : k = i
  · subst e; rw [Cell.slots_setSlot_self v hk, if_pos (by omega), hv]
  · rw [Cell.slots_setSlot_ne v e, h.2.2.2 i]
    by_cases q : lo ≤ i ∧ i < k
    · rw [if_pos q, if_pos (by omega)]
    · rw [if_neg q, if_neg (by omega)]
def U16 : String := "java/lang/StringUTF16"
namespace Cmp5
def yN : MethodName := ⟨"java/lang/StringUTF16", "compress", "([CI[BII)I"⟩
abbrev yB : ByteArray := jdk_52_method_21_code
theorem d0 : decode yB 0 = .ok (.iconst 0, 1) := by decide +kernel
theorem d1 : decode yB 1 = .ok (.istore 5, 2) := by decide +kernel
theorem d3 : decode yB 3 = .ok (.iload 5, 2) := by decide +kernel
theorem d5 : decode yB 5 = .ok (.iload 4, 2) := by decide +kernel
theorem d7 : decode yB 7 = .ok (.if_icmp (.ge) 37, 3) := by decide +kernel
theorem d10 : decode yB 10 = .ok (.aload_n 0, 1) := by decide +kernel
theorem d11 : decode yB 11 = .ok (.iload_n 1, 1) := by decide +kernel
theorem d12 : decode yB 12 = .ok (.caload, 1) := by decide +kernel
theorem d13 : decode yB 13 = .ok (.istore 6, 2) := by decide +kernel
theorem d15 : decode yB 15 = .ok (.iload 6, 2) := by decide +kernel
theorem d17 : decode yB 17 = .ok (.sipush 255, 3) := by decide +kernel
theorem d20 : decode yB 20 = .ok (.if_icmp (.le) 6, 3) := by decide +kernel
theorem d26 : decode yB 26 = .ok (.aload_n 2, 1) := by decide +kernel
theorem d27 : decode yB 27 = .ok (.iload_n 3, 1) := by decide +kernel
theorem d28 : decode yB 28 = .ok (.iload 6, 2) := by decide +kernel
theorem d30 : decode yB 30 = .ok (.i2b, 1) := by decide +kernel
theorem d31 : decode yB 31 = .ok (.bastore, 1) := by decide +kernel
theorem d32 : decode yB 32 = .ok (.iinc 1 1, 3) := by decide +kernel
theorem d35 : decode yB 35 = .ok (.iinc 3 1, 3) := by decide +kernel
theorem d38 : decode yB 38 = .ok (.iinc 5 1, 3) := by decide +kernel
theorem d41 : decode yB 41 = .ok (.goto (-38), 3) := by decide +kernel
theorem d44 : decode yB 44 = .ok (.iload 4, 2) := by decide +kernel
theorem d46 : decode yB 46 = .ok (.ireturn, 1) := by decide +kernel
def site : List Cond := []
def tab : Cond := tabOf yN yB 7 (some .int) site
def P (b : Addr) (A : Cell) (d : Addr) (B : Cell) (o q len : Nat) (args : Array Value) (s : State) : Prop := args = #[.ref b, .int (Int32.ofNat o), .ref d, .int (Int32.ofNat q), .int (Int32.ofNat len)] ∧ Ch b A s ∧ Arr .byte d B s ∧ b ≠ d ∧ o + len ≤ A.slots.size ∧ q + len ≤ B.slots.size ∧ ∀ i, i < len → ¬ 255 < cv A (o + i)
def E (b : Addr) (A : Cell) (d : Addr) (B : Cell) (o q len : Nat) (r : Option Value) (s u : State) : Prop := r = some (.int (Int32.ofNat len)) ∧ ∃ B', Put d B' s u ∧ Laid B B' q (q + len) (fun j => Value.int (lo8 (cv A (o + (j - q)))))
/-- no char of the range above 255: len; the places written hold each char's low byte -/
theorem law (l : Launch) (b : Addr) (A : Cell) (d : Addr) (B : Cell) (o q len : Nat) : Law l yN 5 5 0 0 yB 7 (some .int) site (P b A d B o q len) (E b A d B o q len) (copyLocs d q len) 0 0 := by
  refine Law.of_walk (plainFor_of_name (by decide +kernel)) (by decide +kernel) (by decide +kernel) (by decide) (fun _ _ h => by rw [h.1]; rfl) (fun _ U U' hal hh h => ⟨h.1, h.2.1.mv hal hh, h.2.2.1.mv hal hh, h.2.2.2⟩) (fun r U U' V V' h1 hal h2 h => ⟨h.1, h.2.elim fun B' q => ⟨B', q.1.mv h1 h2, q.2⟩⟩) ?_
  intro p e s m args below meth c s₁ X0 hexec hbytes hml hret hlk hnm hown hh0 W hP
  obtain ⟨rfl, hA, hB, hne, l1, l2, hp⟩ := hP
  have c1 : Steps p.tables e below (s₁.setTop (entryFrame m #[.ref b, .int (Int32.ofNat o), .ref d, .int (Int32.ofNat q), .int (Int32.ofNat len)] 7)) (s₁.setTop (mkF m 0 #[.val (.ref b), .val (.int (Int32.ofNat o)), .val (.ref d), .val (.int (Int32.ofNat q)), .val (.int (Int32.ofNat len)), .unset, .unset] [])) := entry rfl
  have hA0 := hA.1.mv X0.warmed.alike hh0
  have hB0 := hB.mv X0.warmed.alike hh0
  have a31 := hA.1.2.2.2
  have c2 : Steps p.tables e below (s₁.setTop (entryFrame m #[.ref b, .int (Int32.ofNat o), .ref d, .int (Int32.ofNat q), .int (Int32.ofNat len)] 7)) (s₁.setTop (mkF m 3 #[.val (.ref b), .val (.int (Int32.ofNat o)), .val (.ref d), .val (.int (Int32.ofNat q)), .val (.int (Int32.ofNat len)), .val (.int 0), .unset] [])) := c1.trans (by
    refine iconstV X0.here hexec rfl 0 (hb hbytes d0) (by decide) ?_
    refine XS.istore X0.here hexec rfl (hb hbytes d1) rfl rfl ?_
    exact Steps.refl _)
  have loop : ∀ (r i : Nat), i + r = len → ∀ (z : Slot), (z = .unset ∨ ∃ w, z = .val w ∧ w.category = 1) → ∀ (Tl : State) (Bk : Cell), Stand p l e { frames := 0, locals := 0, cells := 0, slots := 0 } s m #[.ref b, .int (Int32.ofNat o), .ref d, .int (Int32.ofNat q), .int (Int32.ofNat len)] below meth c Tl ([] ++ copyLocs d q i) 0 0 → Put d Bk s₁ Tl → Laid B Bk q (q + i) (fun j => Value.int (lo8 (cv A (o + (j - q))))) →
      Steps p.tables e below (s₁.setTop (entryFrame m #[.ref b, .int (Int32.ofNat o), .ref d, .int (Int32.ofNat q), .int (Int32.ofNat len)] 7)) (Tl.setTop (mkF m 3 #[.val (.ref b), .val (.int (Int32.ofNat (o + i))), .val (.ref d), .val (.int (Int32.ofNat (q + i))), .val (.int (Int32.ofNat len)), .val (.int (Int32.ofNat i)), z] [])) → ∃ (T' : State) (B' : Cell) (z' : Slot), Stand p l e { frames := 0, locals := 0, cells := 0, slots := 0 } s m #[.ref b, .int (Int32.ofNat o), .ref d, .int (Int32.ofNat q), .int (Int32.ofNat len)] below meth c T' ([] ++ copyLocs d q len) 0 0 ∧ Put d B' s₁ T' ∧ Laid B B' q (q + len) (fun j => Value.int (lo8 (cv A (o + (j - q))))) ∧
      Steps p.tables e below (s₁.setTop (entryFrame m #[.ref b, .int (Int32.ofNat o), .ref d, .int (Int32.ofNat q), .int (Int32.ofNat len)] 7)) (T'.setTop (mkF m 3 #[.val (.ref b), .val (.int (Int32.ofNat (o + len))), .val (.ref d), .val (.int (Int32.ofNat (q + len))), .val (.int (Int32.ofNat len)), .val (.int (Int32.ofNat len)), z'] [])) := by
    intro r
    induction r with
    | zero =>
      intro i hi z hz Tl Bk Xl pl fl cl
      have hil : i = len := by omega
      rw [hil] at Xl fl cl
      exact ⟨Tl, Bk, z, Xl, pl, fl, cl⟩
    | succ r ih =>
      intro i hi z hz Tl Bk Xl pl fl cl
      have all := X0.warmed.alike.symm.trans Xl.warmed.alike
      have hAl := hA0.keep all (pl.other hne hA0.1)
      have hBk := hB0.like all pl.1 fl.1 fl.2.1 fl.2.2.1
      have hlt : q + i < Bk.slots.size := by rw [fl.2.2.1]; omega
      have c3 : Steps p.tables e below (s₁.setTop (entryFrame m #[.ref b, .int (Int32.ofNat o), .ref d, .int (Int32.ofNat q), .int (Int32.ofNat len)] 7)) (Tl.setTop (mkF m 12 #[.val (.ref b), .val (.int (Int32.ofNat (o + i))), .val (.ref d), .val (.int (Int32.ofNat (q + i))), .val (.int (Int32.ofNat len)), .val (.int (Int32.ofNat i)), z] [.int (Int32.ofNat (o + i)), .ref b])) := cl.trans (by
        refine XS.iload Xl.here hexec rfl (hb hbytes d3) rfl ?_
        refine XS.iload Xl.here hexec rfl (hb hbytes d5) rfl ?_
        refine XS.icmpNo Xl.here hexec rfl (hb hbytes d7) rfl (ii_ge_f (lt32 (by omega) (by omega))) ?_
        refine XS.aloadN Xl.here hexec rfl (hb hbytes d10) rfl rfl ?_
        refine XS.iloadN Xl.here hexec rfl (hb hbytes d11) rfl ?_
        exact Steps.refl _)
      have c4 : Steps p.tables e below (s₁.setTop (entryFrame m #[.ref b, .int (Int32.ofNat o), .ref d, .int (Int32.ofNat q), .int (Int32.ofNat len)] 7)) (Tl.setTop (mkF m 13 #[.val (.ref b), .val (.int (Int32.ofNat (o + i))), .val (.ref d), .val (.int (Int32.ofNat (q + i))), .val (.int (Int32.ofNat len)), .val (.int (Int32.ofNat i)), z] [.int (cv A (o + i))])) := c3.trans (by
        refine Xl.aget hexec hAl rfl (hA.get (i := o + i) (by omega)) rfl rfl (hb hbytes d12) ?_
        exact Steps.refl _)
      have c5 : Steps p.tables e below (s₁.setTop (entryFrame m #[.ref b, .int (Int32.ofNat o), .ref d, .int (Int32.ofNat q), .int (Int32.ofNat len)] 7)) (Tl.setTop (mkF m 15 #[.val (.ref b), .val (.int (Int32.ofNat (o + i))), .val (.ref d), .val (.int (Int32.ofNat (q + i))), .val (.int (Int32.ofNat len)), .val (.int (Int32.ofNat i)), .val (.int (cv A (o + i)))] [])) := c4.trans (by
        refine XS.istoreS Xl.here hexec rfl (hb hbytes d13) rfl rfl hz ?_
        exact Steps.refl _)
      have c6 : Steps p.tables e below (s₁.setTop (entryFrame m #[.ref b, .int (Int32.ofNat o), .ref d, .int (Int32.ofNat q), .int (Int32.ofNat len)] 7)) (Tl.setTop (mkF m 31 #[.val (.ref b), .val (.int (Int32.ofNat (o + i))), .val (.ref d), .val (.int (Int32.ofNat (q + i))), .val (.int (Int32.ofNat len)), .val (.int (Int32.ofNat i)), .val (.int (cv A (o + i)))] [.int (lo8 (cv A (o + i))), .int (Int32.ofNat (q + i)), .ref d])) := c5.trans (by
        refine XS.iload Xl.here hexec rfl (hb hbytes d15) rfl ?_
        refine sipushV Xl.here hexec rfl 255 (hb hbytes d17) (by decide) ?_
        refine XS.icmpYes Xl.here hexec rfl (pc0 := 20) rfl (hb hbytes d20) rfl (ii_le_t (hp i (by omega))) (by decide) rfl ?_
        refine XS.aloadN Xl.here hexec rfl (hb hbytes d26) rfl rfl ?_
        refine XS.iloadN Xl.here hexec rfl (hb hbytes d27) rfl ?_
        refine XS.iload Xl.here hexec rfl (hb hbytes d28) rfl ?_
        refine i2b Xl.here hexec rfl (hb hbytes d30) rfl ?_
        exact Steps.refl _)
      obtain ⟨T7, X7, p7, st7⟩ := Xl.aput hexec hBk rfl hlt rfl (fits_lo8 (cv A (o + i))) (g := (mkF m 31 #[.val (.ref b), .val (.int (Int32.ofNat (o + i))), .val (.ref d), .val (.int (Int32.ofNat (q + i))), .val (.int (Int32.ofNat len)), .val (.int (Int32.ofNat i)), .val (.int (cv A (o + i)))] [.int (lo8 (cv A (o + i))), .int (Int32.ofNat (q + i)), .ref d])) rfl (rest := []) rfl (hb hbytes d31)
      have c8 : Steps p.tables e below (s₁.setTop (entryFrame m #[.ref b, .int (Int32.ofNat o), .ref d, .int (Int32.ofNat q), .int (Int32.ofNat len)] 7)) (T7.setTop (mkF m 32 #[.val (.ref b), .val (.int (Int32.ofNat (o + i))), .val (.ref d), .val (.int (Int32.ofNat (q + i))), .val (.int (Int32.ofNat len)), .val (.int (Int32.ofNat i)), .val (.int (cv A (o + i)))] [])) := c6.trans (st7 _ (Steps.refl _))
      have c9 : Steps p.tables e below (s₁.setTop (entryFrame m #[.ref b, .int (Int32.ofNat o), .ref d, .int (Int32.ofNat q), .int (Int32.ofNat len)] 7)) (T7.setTop (mkF m 3 #[.val (.ref b), .val (.int (Int32.ofNat (o + i) + 1)), .val (.ref d), .val (.int (Int32.ofNat (q + i) + 1)), .val (.int (Int32.ofNat len)), .val (.int (Int32.ofNat i + 1)), .val (.int (cv A (o + i)))] [])) := c8.trans (by
        refine iincV X7.here hexec rfl 1 (hb hbytes d32) (by decide) rfl rfl ?_
        refine iincV X7.here hexec rfl 1 (hb hbytes d35) (by decide) rfl rfl ?_
        refine iincV X7.here hexec rfl 1 (hb hbytes d38) (by decide) rfl rfl ?_
        refine XS.goto X7.here hexec rfl (pc0 := 41) rfl (hb hbytes d41) (by decide) rfl ?_
        exact Steps.refl _)
      have c10 : Steps p.tables e below (s₁.setTop (entryFrame m #[.ref b, .int (Int32.ofNat o), .ref d, .int (Int32.ofNat q), .int (Int32.ofNat len)] 7)) (T7.setTop (mkF m 3 #[.val (.ref b), .val (.int (Int32.ofNat (o + (i + 1)))), .val (.ref d), .val (.int (Int32.ofNat (q + (i + 1)))), .val (.int (Int32.ofNat len)), .val (.int (Int32.ofNat (i + 1))), .val (.int (cv A (o + i)))] [])) := by
        have := c9
        rw [succ32, succ32, succ32] at this
        exact this
      exact ih (i + 1) (by omega) _ (Or.inr ⟨_, rfl, rfl⟩) T7 _ (by rw [copyLocs_step, ← List.append_assoc]; exact X7) (pl.trans p7) (fl.step (by omega) hlt (by simp)) c10
  obtain ⟨T9, B9, z9, X9, p9, f9, g9⟩ := loop len 0 (by omega) .unset (Or.inl rfl) s₁ B (by simpa [copyLocs] using X0) ⟨hB0.1, fun _ _ => rfl, rfl⟩ (Laid.zero _ _ _) c2
  have c11 : Steps p.tables e below (s₁.setTop (entryFrame m #[.ref b, .int (Int32.ofNat o), .ref d, .int (Int32.ofNat q), .int (Int32.ofNat len)] 7)) (T9.setTop (mkF m 46 #[.val (.ref b), .val (.int (Int32.ofNat (o + len))), .val (.ref d), .val (.int (Int32.ofNat (q + len))), .val (.int (Int32.ofNat len)), .val (.int (Int32.ofNat len)), z9] [.int (Int32.ofNat len)])) := g9.trans (by
    refine XS.iload X9.here hexec rfl (hb hbytes d3) rfl ?_
    refine XS.iload X9.here hexec rfl (hb hbytes d5) rfl ?_
    refine XS.icmpYes X9.here hexec rfl (pc0 := 7) rfl (hb hbytes d7) rfl (ii_ge_t (nlt32 (by omega) (Nat.le_refl _))) (by decide) rfl ?_
    refine XS.iload X9.here hexec rfl (hb hbytes d44) rfl ?_
    exact Steps.refl _)
  exact ⟨T9, some (.int (Int32.ofNat len)), _, _, _, X9, by simp, rfl, rfl, (fun h => by cases h), ⟨rfl, B9, p9.from hh0, f9⟩, fun fs hl => c11.trans (X9.ireturnOut hexec hret rfl (Or.inl rfl) (hb hbytes d46) hl)⟩
end Cmp5
namespace Cmp3
def yN : MethodName := ⟨"java/lang/StringUTF16", "compress", "([CII)[B"⟩
abbrev yB : ByteArray := jdk_52_method_16_code
theorem d0 : decode yB 0 = .ok (.iload_n 2, 1) := by decide +kernel
theorem d1 : decode yB 1 = .ok (.newarray .byte, 2) := by decide +kernel
theorem d3 : decode yB 3 = .ok (.astore_n 3, 1) := by decide +kernel
theorem d4 : decode yB 4 = .ok (.aload_n 0, 1) := by decide +kernel
theorem d5 : decode yB 5 = .ok (.iload_n 1, 1) := by decide +kernel
theorem d6 : decode yB 6 = .ok (.aload_n 3, 1) := by decide +kernel
theorem d7 : decode yB 7 = .ok (.iconst 0, 1) := by decide +kernel
theorem d8 : decode yB 8 = .ok (.iload_n 2, 1) := by decide +kernel
theorem d9 : decode yB 9 = .ok (.invokestatic 115, 3) := by decide +kernel
theorem d12 : decode yB 12 = .ok (.istore 4, 2) := by decide +kernel
theorem d14 : decode yB 14 = .ok (.iload 4, 2) := by decide +kernel
theorem d16 : decode yB 16 = .ok (.iload_n 2, 1) := by decide +kernel
theorem d17 : decode yB 17 = .ok (.if_icmp (.eq) 40, 3) := by decide +kernel
theorem d57 : decode yB 57 = .ok (.aload_n 3, 1) := by decide +kernel
theorem d58 : decode yB 58 = .ok (.areturn, 1) := by decide +kernel
def site : List Cond := [.arrayClass .byte, Cmp5.tab] ++ staticW U16 115 Cmp5.yN
def tab : Cond := tabOf yN yB 6 (some (.array .byte)) site
def P (b : Addr) (A : Cell) (o len : Nat) (args : Array Value) (s : State) : Prop := args = #[.ref b, .int (Int32.ofNat o), .int (Int32.ofNat len)] ∧ Ch b A s ∧ o + len ≤ A.slots.size ∧ len ≤ 536870912 ∧ ∀ i, i < len → ¬ 255 < cv A (o + i)
def E (b : Addr) (A : Cell) (o len : Nat) (r : Option Value) (s u : State) : Prop := NewArr .byte "[B" len (fun j => .int (lo8 (cv A (o + j)))) r s u ∧ u.heap.size = s.heap.size + 1
/-- no char of the range above 255: a new byte[] of their low bytes -/
theorem law (l : Launch) (b : Addr) (A : Cell) (o len : Nat) : Law l yN 3 3 1 18 yB 6 (some (.array .byte)) site (P b A o len) (E b A o len) [] 1 len := by
  refine Law.of_walk (plainFor_of_name (by decide +kernel)) (by decide +kernel) (by decide +kernel) (by decide) (fun _ _ h => by rw [h.1]; rfl) (fun _ U U' hal hh h => ⟨h.1, h.2.1.mv hal hh, h.2.2⟩) (fun r U U' V V' h1 hal h2 h => ⟨NewArr.mv r U U' V V' h1 hal h2 h.1, by rw [h1, h2]; exact h.2⟩) ?_
  intro p e s m args below meth c s₁ X0 hexec hbytes hml hret hlk hnm hown hh0 W hP
  obtain ⟨rfl, hA, l1, l2, hp⟩ := hP
  have a31 := hA.1.2.2.2
  have c1 : Steps p.tables e below (s₁.setTop (entryFrame m #[.ref b, .int (Int32.ofNat o), .int (Int32.ofNat len)] 6)) (s₁.setTop (mkF m 0 #[.val (.ref b), .val (.int (Int32.ofNat o)), .val (.int (Int32.ofNat len)), .unset, .unset, .unset] [])) := entry rfl
  have c2 : Steps p.tables e below (s₁.setTop (entryFrame m #[.ref b, .int (Int32.ofNat o), .int (Int32.ofNat len)] 6)) (s₁.setTop (mkF m 1 #[.val (.ref b), .val (.int (Int32.ofNat o)), .val (.int (Int32.ofNat len)), .unset, .unset, .unset] [.int (Int32.ofNat len)])) := c1.trans (by
    refine XS.iloadN X0.here hexec rfl (hb hbytes d0) rfl ?_
    exact Steps.refl _)
  obtain ⟨T3, B3, X3, ba3, bs3, bv3, bh3, bf3, st3⟩ := X0.anew hexec (atype := .byte) (wk W (.arrayClass .byte)) rfl (by show len * 1 ≤ _; omega) (by omega) (g := (mkF m 1 #[.val (.ref b), .val (.int (Int32.ofNat o)), .val (.int (Int32.ofNat len)), .unset, .unset, .unset] [.int (Int32.ofNat len)])) rfl (hb hbytes d1) (rest := []) rfl (Nat.le_refl _) (by show 0 + len ≤ len; omega)
  rw [hh0] at ba3 st3
  have kp3 : XT.Kept s T3 := (XT.Kept.of_eq hh0).push bh3
  have hA3 := hA.keep X3.warmed.alike (kp3 _ _ hA.1.1)
  have hne : b ≠ s.heap.size := hA.1.ne
  have c4 : Steps p.tables e below (s₁.setTop (entryFrame m #[.ref b, .int (Int32.ofNat o), .int (Int32.ofNat len)] 6)) (T3.setTop (mkF m 3 #[.val (.ref b), .val (.int (Int32.ofNat o)), .val (.int (Int32.ofNat len)), .unset, .unset, .unset] [.ref s.heap.size])) := c2.trans (st3 _ (Steps.refl _))
  have c5 : Steps p.tables e below (s₁.setTop (entryFrame m #[.ref b, .int (Int32.ofNat o), .int (Int32.ofNat len)] 6)) (T3.setTop (mkF m 9 #[.val (.ref b), .val (.int (Int32.ofNat o)), .val (.int (Int32.ofNat len)), .val (.ref s.heap.size), .unset, .unset] [.int (Int32.ofNat len), .int 0, .ref s.heap.size, .int (Int32.ofNat o), .ref b])) := c4.trans (by
    refine XS.astoreN X3.here hexec rfl (hb hbytes d3) rfl rfl rfl ?_
    refine XS.aloadN X3.here hexec rfl (hb hbytes d4) rfl rfl ?_
    refine XS.iloadN X3.here hexec rfl (hb hbytes d5) rfl ?_
    refine XS.aloadN X3.here hexec rfl (hb hbytes d6) rfl rfl ?_
    refine iconstV X3.here hexec rfl 0 (hb hbytes d7) (by decide) ?_
    refine XS.iloadN X3.here hexec rfl (hb hbytes d8) rfl ?_
    exact Steps.refl _)
  obtain ⟨v6, T6, X6, E6, g6⟩ := X3.callS hexec (Cmp5.law l b A s.heap.size B3 o 0 len) hown (wks W (staticW U16 115 Cmp5.yN)) (wk W Cmp5.tab) (W := 0) (Nat.le_of_ble_eq_true rfl) (Nat.le_of_ble_eq_true rfl) (Nat.le_refl _) (by show 0 + len + 0 ≤ len; omega) (g := (mkF m 9 #[.val (.ref b), .val (.int (Int32.ofNat o)), .val (.int (Int32.ofNat len)), .val (.ref s.heap.size), .unset, .unset] [.int (Int32.ofNat len), .int (Int32.ofNat 0), .ref s.heap.size, .int (Int32.ofNat o), .ref b])) rfl (by rw [hml]; rfl) c5 (argsL := [.ref b, .int (Int32.ofNat o), .ref s.heap.size, .int (Int32.ofNat 0), .int (Int32.ofNat len)]) (rest := []) rfl rfl (by show 2 * 0 + 0 ≤ _; decide) (hb hbytes d9) (⟨rfl, hA3, ba3, hne, l1, by rw [bs3]; simp, hp⟩)
  obtain ⟨rfl, B6, p6, f6⟩ := E6
  have c7 : Steps p.tables e below (s₁.setTop (entryFrame m #[.ref b, .int (Int32.ofNat o), .int (Int32.ofNat len)] 6)) (T6.setTop (mkF m 12 #[.val (.ref b), .val (.int (Int32.ofNat o)), .val (.int (Int32.ofNat len)), .val (.ref s.heap.size), .unset, .unset] [.int (Int32.ofNat len)])) := g6
  have c8 : Steps p.tables e below (s₁.setTop (entryFrame m #[.ref b, .int (Int32.ofNat o), .int (Int32.ofNat len)] 6)) (T6.setTop (mkF m 58 #[.val (.ref b), .val (.int (Int32.ofNat o)), .val (.int (Int32.ofNat len)), .val (.ref s.heap.size), .val (.int (Int32.ofNat len)), .unset] [.ref s.heap.size])) := c7.trans (by
    refine XS.istore X6.here hexec rfl (hb hbytes d12) rfl rfl ?_
    refine XS.iload X6.here hexec rfl (hb hbytes d14) rfl ?_
    refine XS.iloadN X6.here hexec rfl (hb hbytes d16) rfl ?_
    refine XS.icmpYes X6.here hexec rfl (pc0 := 17) rfl (hb hbytes d17) rfl (ii_eq_t rfl) (by decide) rfl ?_
    refine XS.aloadN X6.here hexec rfl (hb hbytes d57) rfl rfl ?_
    exact Steps.refl _)
  have X8 := X6.wide (L' := []) (cells' := 1) (slots' := len) (fun x hx hlt => by
    simp only [List.nil_append, copyLocs, List.mem_map, List.mem_range] at hx
    obtain ⟨i, -, rfl⟩ := hx
    exact absurd hlt (Nat.lt_irrefl _)) (Nat.le_refl _) (by omega)
  exact ⟨T6, some (.ref s.heap.size), _, _, _, X8, rfl, rfl, rfl, (fun h => by cases h), ⟨⟨rfl, B6, ba3.like (X3.warmed.alike.symm.trans X6.warmed.alike) p6.1 f6.1 f6.2.1 f6.2.2.1, f6.2.1.trans bv3, by rw [X6.warmed.alike.findClass, f6.1]; exact bf3, by rw [f6.2.2.1, bs3]; simp, fun j hj => by rw [f6.2.2.2 j, if_pos (by omega)]; rfl, kp3.put p6 (Nat.le_refl _)⟩, by rw [p6.2.2, bh3, hh0]; simp⟩, fun fs hl => c8.trans (X8.areturnOut hexec rfl hret rfl (hb hbytes d58) hl)⟩
end Cmp3
namespace CodL
def yN : MethodName := ⟨"java/lang/StringUTF16", "coderFromArrayLen", "([BI)B"⟩
abbrev yB : ByteArray := jdk_52_method_15_code
theorem d0 : decode yB 0 = .ok (.iload_n 1, 1) := by decide +kernel
theorem d1 : decode yB 1 = .ok (.aload_n 0, 1) := by decide +kernel
theorem d2 : decode yB 2 = .ok (.arraylength, 1) := by decide +kernel
theorem d3 : decode yB 3 = .ok (.isub, 1) := by decide +kernel
theorem d4 : decode yB 4 = .ok (.bipush 31, 2) := by decide +kernel
theorem d6 : decode yB 6 = .ok (.iushr, 1) := by decide +kernel
theorem d7 : decode yB 7 = .ok (.i2b, 1) := by decide +kernel
theorem d8 : decode yB 8 = .ok (.ireturn, 1) := by decide +kernel
def site : List Cond := []
def tab : Cond := tabOf yN yB 2 (some .byte) site
def P (d : Addr) (B : Cell) (args : Array Value) (s : State) : Prop := args = #[.ref d, .int (Int32.ofNat B.slots.size)] ∧ Arr .byte d B s
def E (r : Option Value) (s u : State) : Prop := XT.PureE (some (.int 0)) r s u
/-- an array as long as the number of chars: LATIN1 -/
theorem law (l : Launch) (d : Addr) (B : Cell) : Law l yN 2 2 0 0 yB 2 (some .byte) site (P d B) E [] 0 0 := by
  refine Law.of_walk (plainFor_of_name (by decide +kernel)) (by decide +kernel) (by decide +kernel) (by decide) (fun _ _ h => by rw [h.1]; rfl) (fun _ U U' hal hh h => ⟨h.1, h.2.mv hal hh⟩) (fun r U U' V V' h1 hal h2 h => XT.PureE.mv r U U' V V' h1 hal h2 h) ?_
  intro p e s m args below meth c s₁ X0 hexec hbytes hml hret hlk hnm hown hh0 W hP
  obtain ⟨rfl, hB⟩ := hP
  have hB0 := hB.mv X0.warmed.alike hh0
  have c1 : Steps p.tables e below (s₁.setTop (entryFrame m #[.ref d, .int (Int32.ofNat B.slots.size)] 2)) (s₁.setTop (mkF m 0 #[.val (.ref d), .val (.int (Int32.ofNat B.slots.size))] [])) := entry rfl
  have c2 : Steps p.tables e below (s₁.setTop (entryFrame m #[.ref d, .int (Int32.ofNat B.slots.size)] 2)) (s₁.setTop (mkF m 2 #[.val (.ref d), .val (.int (Int32.ofNat B.slots.size))] [.ref d, .int (Int32.ofNat B.slots.size)])) := c1.trans (by
    refine XS.iloadN X0.here hexec rfl (hb hbytes d0) rfl ?_
    refine XS.aloadN X0.here hexec rfl (hb hbytes d1) rfl rfl ?_
    exact Steps.refl _)
  have c3 : Steps p.tables e below (s₁.setTop (entryFrame m #[.ref d, .int (Int32.ofNat B.slots.size)] 2)) (s₁.setTop (mkF m 8 #[.val (.ref d), .val (.int (Int32.ofNat B.slots.size))] [.int (lo8 (ushr (Int32.ofNat B.slots.size - Int32.ofNat B.slots.size) 31))])) := c2.trans (by
    refine X0.alen hexec hB0 rfl rfl (hb hbytes d2) ?_
    refine XS.isub X0.here hexec rfl (hb hbytes d3) rfl ?_
    refine bipushV X0.here hexec rfl 31 (hb hbytes d4) (by decide) ?_
    refine iushr X0.here hexec rfl (hb hbytes d6) rfl ?_
    refine i2b X0.here hexec rfl (hb hbytes d7) rfl ?_
    exact Steps.refl _)
  have e0 : lo8 (ushr (Int32.ofNat B.slots.size - Int32.ofNat B.slots.size) 31) = 0 := by rw [Int32.sub_self]; decide
  rw [e0] at c3
  exact ⟨s₁, some (.int 0), _, _, _, X0, rfl, rfl, rfl, (fun h => by cases h), ⟨rfl, hh0⟩, fun fs hl => c3.trans (X0.ireturnOut hexec hret rfl (Or.inr (Or.inr (Or.inl rfl))) (hb hbytes d8) hl)⟩
end CodL
/-- the String at a is Latin-1 over a new byte[] (the heap's one new cell): the low bytes of the len chars of A from o on; every cell but a is kept -/
def Got (a : Addr) (D : Cell) (fV fC : Field) (A : Cell) (o len : Nat) (r : Option Value) (s u : State) : Prop := r = none ∧ ∃ D' V : Cell, Blank "java/lang/String" a D' u ∧ Same D D' [fV.slot, fC.slot] ∧ D'.slots[fV.slot]? = some (.ref s.heap.size) ∧ D'.slots[fC.slot]? = some (.int 0) ∧ Arr .byte s.heap.size V u ∧ V.vm = .none ∧ u.vm.findClass "[B" = some V.cls ∧ V.slots.size = len ∧ (∀ j, j < len → V.slots[j]? = some (.int (lo8 (cv A (o + j))))) ∧ (∀ (y : Addr) (c : Cell), y ≠ a → s.heap[y]? = some c → u.heap[y]? = some c) ∧ u.heap.size = s.heap.size + 1
theorem Got.mv {a : Addr} {D A : Cell} {fV fC : Field} {o len : Nat} : ∀ r (U U' V V' : State), U'.heap = U.heap → V.vm.Alike V'.vm → V'.heap = V.heap → Got a D fV fC A o len r U V → Got a D fV fC A o len r U' V' :=
  fun r U U' V V' h1 hal h2 ⟨e0, D', X, a1, a2, a3, a4, a5, a6, a7, a8, a9, a10, a11⟩ => ⟨e0, D', X, a1.mv hal h2, a2, by rw [h1]; exact a3, a4, by rw [h1]; exact a5.mv hal h2, a6, by rw [hal.findClass]; exact a7, a8, a9, by rw [h1, h2]; exact a10, by rw [h1, h2]; exact a11⟩
namespace New4
def yN : MethodName := ⟨"java/lang/String", "<init>", "([CIILjava/lang/Void;)V"⟩
abbrev yB : ByteArray := jdk_42_method_149_code
theorem d0 : decode yB 0 = .ok (.aload_n 0, 1) := by decide +kernel
theorem d1 : decode yB 1 = .ok (.invokespecial 1, 3) := by decide +kernel
theorem d4 : decode yB 4 = .ok (.iload_n 3, 1) := by decide +kernel
theorem d5 : decode yB 5 = .ok (.ifCond (.ne) 22, 3) := by decide +kernel
theorem d27 : decode yB 27 = .ok (.getstatic 38, 3) := by decide +kernel
theorem d30 : decode yB 30 = .ok (.ifCond (.eq) 28, 3) := by decide +kernel
theorem d33 : decode yB 33 = .ok (.aload_n 1, 1) := by decide +kernel
theorem d34 : decode yB 34 = .ok (.iload_n 2, 1) := by decide +kernel
theorem d35 : decode yB 35 = .ok (.iload_n 3, 1) := by decide +kernel
theorem d36 : decode yB 36 = .ok (.invokestatic 177, 3) := by decide +kernel
theorem d39 : decode yB 39 = .ok (.astore 5, 2) := by decide +kernel
theorem d41 : decode yB 41 = .ok (.aload_n 0, 1) := by decide +kernel
theorem d42 : decode yB 42 = .ok (.aload 5, 2) := by decide +kernel
theorem d44 : decode yB 44 = .ok (.iload_n 3, 1) := by decide +kernel
theorem d45 : decode yB 45 = .ok (.invokestatic 47, 3) := by decide +kernel
theorem d48 : decode yB 48 = .ok (.putfield 15, 3) := by decide +kernel
theorem d51 : decode yB 51 = .ok (.aload_n 0, 1) := by decide +kernel
theorem d52 : decode yB 52 = .ok (.aload 5, 2) := by decide +kernel
theorem d54 : decode yB 54 = .ok (.putfield 9, 3) := by decide +kernel
theorem d57 : decode yB 57 = .ok (.return_, 1) := by decide +kernel
def site : List Cond := [.fieldLink "java/lang/String" 38 "java/lang/String" "COMPACT_STRINGS" "Z", Cmp3.tab, CodL.tab, .laysFinal "java/lang/String" "java/lang/String" "value" "[B", .fieldLink "java/lang/String" 9 "java/lang/String" "value" "[B", .laysFinal "java/lang/String" "java/lang/String" "coder" "B", .fieldLink "java/lang/String" 15 "java/lang/String" "coder" "B"] ++ objW "java/lang/String" 1 ++ staticW "java/lang/String" 177 Cmp3.yN ++ staticW "java/lang/String" 47 CodL.yN
def tab : Cond := tabOf yN yB 6 none site
def P (a : Addr) (D : Cell) (fV fC : Field) (b : Addr) (A : Cell) (z : Int32) (o len : Nat) (args : Array Value) (s : State) : Prop := args = #[.ref a, .ref b, .int (Int32.ofNat o), .int (Int32.ofNat len), .null] ∧ Blank "java/lang/String" a D s ∧ Found "java/lang/String" "value" "[B" fV s ∧ Found "java/lang/String" "coder" "B" fC s ∧ Ch b A s ∧ StaticIs s "java/lang/String" "COMPACT_STRINGS" "Z" (.int z) ∧ ¬ z = 0 ∧ 0 < len ∧ o + len ≤ A.slots.size ∧ len ≤ 536870912 ∧ ∀ i, i < len → ¬ 255 < cv A (o + i)
def E (a : Addr) (D : Cell) (fV fC : Field) (A : Cell) (o len : Nat) (r : Option Value) (s u : State) : Prop := Got a D fV fC A o len r s u
/-- len > 0, no char of the range above 255: a Latin-1 String of their low bytes -/
theorem law (l : Launch) (a : Addr) (D : Cell) (fV fC : Field) (b : Addr) (A : Cell) (z : Int32) (o len : Nat) : Law l yN 5 4 2 35 yB 6 none site (P a D fV fC b A z o len) (E a D fV fC A o len) [⟨a, fC.slot⟩, ⟨a, fV.slot⟩] 1 len := by
  refine Law.of_walk (plainFor_of_name (by decide +kernel)) (by decide +kernel) (by decide +kernel) (by decide) (fun _ _ h => by rw [h.1]; rfl) (fun _ U U' hal hh h => ⟨h.1, h.2.1.mv hal hh, h.2.2.1.al hal, h.2.2.2.1.al hal, h.2.2.2.2.1.mv hal hh, h.2.2.2.2.2.1.there hal hh, h.2.2.2.2.2.2⟩) (fun r U U' V V' h1 hal h2 h => Got.mv r U U' V V' h1 hal h2 h) ?_
  intro p e s m args below meth c s₁ X0 hexec hbytes hml hret hlk hnm hown hh0 W hP
  obtain ⟨rfl, hB, f1, f2, hA, s1, hz, l0, l1, l2, hp⟩ := hP
  have a31 := hA.1.2.2.2
  have c1 : Steps p.tables e below (s₁.setTop (entryFrame m #[.ref a, .ref b, .int (Int32.ofNat o), .int (Int32.ofNat len), .null] 6)) (s₁.setTop (mkF m 0 #[.val (.ref a), .val (.ref b), .val (.int (Int32.ofNat o)), .val (.int (Int32.ofNat len)), .val .null, .unset] [])) := entry rfl
  have c2 : Steps p.tables e below (s₁.setTop (entryFrame m #[.ref a, .ref b, .int (Int32.ofNat o), .int (Int32.ofNat len), .null] 6)) (s₁.setTop (mkF m 1 #[.val (.ref a), .val (.ref b), .val (.int (Int32.ofNat o)), .val (.int (Int32.ofNat len)), .val .null, .unset] [.ref a])) := c1.trans (by
    refine XS.aloadN X0.here hexec rfl (hb hbytes d0) rfl rfl ?_
    exact Steps.refl _)
  obtain ⟨T3, X3, q3, st3⟩ := X0.oinit hexec hown (wks W (objW "java/lang/String" 1)) (g := (mkF m 1 #[.val (.ref a), .val (.ref b), .val (.int (Int32.ofNat o)), .val (.int (Int32.ofNat len)), .val .null, .unset] [.ref a])) rfl (by rw [hml]; rfl) (rest := []) rfl (hb hbytes d1) (W := 0) (by show 2 * 0 + 0 ≤ _; decide) (Nat.le_of_ble_eq_true rfl) (Nat.le_of_ble_eq_true rfl)
  have hh3 := q3.trans hh0
  have c4 : Steps p.tables e below (s₁.setTop (entryFrame m #[.ref a, .ref b, .int (Int32.ofNat o), .int (Int32.ofNat len), .null] 6)) (T3.setTop (mkF m 27 #[.val (.ref a), .val (.ref b), .val (.int (Int32.ofNat o)), .val (.int (Int32.ofNat len)), .val .null, .unset] [])) := (c2.trans (st3 _ (Steps.refl _))).trans (by
    refine XS.iloadN X3.here hexec rfl (hb hbytes d4) rfl ?_
    refine XS.ifYes X3.here hexec rfl (pc0 := 5) rfl (hb hbytes d5) rfl (i0_ne_t (nz32 (by omega) l0)) (by decide) rfl ?_
    exact Steps.refl _)
  obtain ⟨T5, X5, q5, st5⟩ := X3.sget hexec hown (wk W (.fieldLink "java/lang/String" 38 "java/lang/String" "COMPACT_STRINGS" "Z")) s1 (fun _ _ h => by rw [hh3]; exact h) (g := (mkF m 27 #[.val (.ref a), .val (.ref b), .val (.int (Int32.ofNat o)), .val (.int (Int32.ofNat len)), .val .null, .unset] [])) rfl (hb hbytes d27)
  have hh5 := q5.trans hh3
  have c6 : Steps p.tables e below (s₁.setTop (entryFrame m #[.ref a, .ref b, .int (Int32.ofNat o), .int (Int32.ofNat len), .null] 6)) (T5.setTop (mkF m 30 #[.val (.ref a), .val (.ref b), .val (.int (Int32.ofNat o)), .val (.int (Int32.ofNat len)), .val .null, .unset] [.int z])) := c4.trans (st5 _ (Steps.refl _))
  have c7 : Steps p.tables e below (s₁.setTop (entryFrame m #[.ref a, .ref b, .int (Int32.ofNat o), .int (Int32.ofNat len), .null] 6)) (T5.setTop (mkF m 36 #[.val (.ref a), .val (.ref b), .val (.int (Int32.ofNat o)), .val (.int (Int32.ofNat len)), .val .null, .unset] [.int (Int32.ofNat len), .int (Int32.ofNat o), .ref b])) := c6.trans (by
    refine XS.ifNo X5.here hexec rfl (hb hbytes d30) rfl (i0_eq_f hz) ?_
    refine XS.aloadN X5.here hexec rfl (hb hbytes d33) rfl rfl ?_
    refine XS.iloadN X5.here hexec rfl (hb hbytes d34) rfl ?_
    refine XS.iloadN X5.here hexec rfl (hb hbytes d35) rfl ?_
    exact Steps.refl _)
  obtain ⟨v8, T8, X8, E8, g8⟩ := X5.callS hexec (Cmp3.law l b A o len) hown (wks W (staticW "java/lang/String" 177 Cmp3.yN)) (wk W Cmp3.tab) (W := 0) (Nat.le_of_ble_eq_true rfl) (Nat.le_of_ble_eq_true rfl) (Nat.le_refl _) (by show 0 + len ≤ len; omega) (g := (mkF m 36 #[.val (.ref a), .val (.ref b), .val (.int (Int32.ofNat o)), .val (.int (Int32.ofNat len)), .val .null, .unset] [.int (Int32.ofNat len), .int (Int32.ofNat o), .ref b])) rfl (by rw [hml]; rfl) c7 (argsL := [.ref b, .int (Int32.ofNat o), .int (Int32.ofNat len)]) (rest := []) rfl rfl (by show 2 * 0 + 0 ≤ _; decide) (hb hbytes d36) (⟨rfl, hA.mv X5.warmed.alike hh5, l1, l2, hp⟩)
  obtain ⟨e8, z8⟩ := E8
  obtain ⟨rfl, N, n1, n2, n3, n4, n5, n6⟩ := NewArr.mv _ T5 s _ _ hh5.symm (Vm.Alike.refl _) rfl e8
  rw [hh5] at z8
  have hB1 := hB.keep X8.warmed.alike (n6 _ _ hB.1)
  have hne : s.heap.size ≠ a := (Nat.ne_of_lt (Array.getElem?_eq_some_iff.mp hB.1).1).symm
  have c9 : Steps p.tables e below (s₁.setTop (entryFrame m #[.ref a, .ref b, .int (Int32.ofNat o), .int (Int32.ofNat len), .null] 6)) (T8.setTop (mkF m 39 #[.val (.ref a), .val (.ref b), .val (.int (Int32.ofNat o)), .val (.int (Int32.ofNat len)), .val .null, .unset] [.ref s.heap.size])) := g8
  have c10 : Steps p.tables e below (s₁.setTop (entryFrame m #[.ref a, .ref b, .int (Int32.ofNat o), .int (Int32.ofNat len), .null] 6)) (T8.setTop (mkF m 45 #[.val (.ref a), .val (.ref b), .val (.int (Int32.ofNat o)), .val (.int (Int32.ofNat len)), .val .null, .val (.ref s.heap.size)] [.int (Int32.ofNat N.slots.size), .ref s.heap.size, .ref a])) := by
    have hc : Steps p.tables e below (s₁.setTop (entryFrame m #[.ref a, .ref b, .int (Int32.ofNat o), .int (Int32.ofNat len), .null] 6)) (T8.setTop (mkF m 45 #[.val (.ref a), .val (.ref b), .val (.int (Int32.ofNat o)), .val (.int (Int32.ofNat len)), .val .null, .val (.ref s.heap.size)] [.int (Int32.ofNat len), .ref s.heap.size, .ref a])) := c9.trans (by
      refine XS.astore X8.here hexec rfl (hb hbytes d39) rfl rfl rfl ?_
      refine XS.aloadN X8.here hexec rfl (hb hbytes d41) rfl rfl ?_
      refine XS.aload X8.here hexec rfl (hb hbytes d42) rfl rfl ?_
      refine XS.iloadN X8.here hexec rfl (hb hbytes d44) rfl ?_
      exact Steps.refl _)
    rw [n4]; exact hc
  obtain ⟨v11, T11, X11, E11, g11⟩ := X8.callS hexec (CodL.law l s.heap.size N) hown (wks W (staticW "java/lang/String" 47 CodL.yN)) (wk W CodL.tab) (W := 1) (Nat.le_of_ble_eq_true rfl) (Nat.le_of_ble_eq_true rfl) (Nat.le_refl _) (by show 0 + len + 0 ≤ len; omega) (g := (mkF m 45 #[.val (.ref a), .val (.ref b), .val (.int (Int32.ofNat o)), .val (.int (Int32.ofNat len)), .val .null, .val (.ref s.heap.size)] [.int (Int32.ofNat N.slots.size), .ref s.heap.size, .ref a])) rfl (by rw [hml]; rfl) c10 (argsL := [.ref s.heap.size, .int (Int32.ofNat N.slots.size)]) (rest := [.ref a]) rfl rfl (by show 2 * 0 + (1 + 0) ≤ _; decide) (hb hbytes d45) (⟨rfl, n1⟩)
  obtain ⟨rfl, q11⟩ := E11
  have hB11 := hB1.mv (X8.warmed.alike.symm.trans X11.warmed.alike) q11
  have c12 : Steps p.tables e below (s₁.setTop (entryFrame m #[.ref a, .ref b, .int (Int32.ofNat o), .int (Int32.ofNat len), .null] 6)) (T11.setTop (mkF m 48 #[.val (.ref a), .val (.ref b), .val (.int (Int32.ofNat o)), .val (.int (Int32.ofNat len)), .val .null, .val (.ref s.heap.size)] [.int 0, .ref a])) := g11
  obtain ⟨T13, X13, p13, bl13, sl13, st13⟩ := X11.finit hexec hown (wk W (.fieldLink "java/lang/String" 15 "java/lang/String" "coder" "B")) (Or.inr ⟨_, (wk W (.laysFinal "java/lang/String" "java/lang/String" "coder" "B"))⟩) (Or.inl ⟨rfl, hnm⟩) f2 (Or.inl rfl) hB11 (t := .byte) (by decide +kernel) rfl (g := (mkF m 48 #[.val (.ref a), .val (.ref b), .val (.int (Int32.ofNat o)), .val (.int (Int32.ofNat len)), .val .null, .val (.ref s.heap.size)] [.int 0, .ref a])) rfl (rest := []) rfl (hb hbytes d48)
  have c14 : Steps p.tables e below (s₁.setTop (entryFrame m #[.ref a, .ref b, .int (Int32.ofNat o), .int (Int32.ofNat len), .null] 6)) (T13.setTop (mkF m 54 #[.val (.ref a), .val (.ref b), .val (.int (Int32.ofNat o)), .val (.int (Int32.ofNat len)), .val .null, .val (.ref s.heap.size)] [.ref s.heap.size, .ref a])) := (c12.trans (st13 _ (Steps.refl _))).trans (by
    refine XS.aloadN X13.here hexec rfl (hb hbytes d51) rfl rfl ?_
    refine XS.aload X13.here hexec rfl (hb hbytes d52) rfl rfl ?_
    exact Steps.refl _)
  obtain ⟨T15, X15, p15, bl15, sl15, st15⟩ := X13.finit hexec hown (wk W (.fieldLink "java/lang/String" 9 "java/lang/String" "value" "[B")) (Or.inr ⟨_, (wk W (.laysFinal "java/lang/String" "java/lang/String" "value" "[B"))⟩) (Or.inl ⟨rfl, hnm⟩) f1 (Or.inl rfl) bl13 (t := (.array .byte)) (by decide +kernel) rfl (g := (mkF m 54 #[.val (.ref a), .val (.ref b), .val (.int (Int32.ofNat o)), .val (.int (Int32.ofNat len)), .val .null, .val (.ref s.heap.size)] [.ref s.heap.size, .ref a])) rfl (rest := []) rfl (hb hbytes d54)
  have c16 : Steps p.tables e below (s₁.setTop (entryFrame m #[.ref a, .ref b, .int (Int32.ofNat o), .int (Int32.ofNat len), .null] 6)) (T15.setTop (mkF m 57 #[.val (.ref a), .val (.ref b), .val (.int (Int32.ofNat o)), .val (.int (Int32.ofNat len)), .val .null, .val (.ref s.heap.size)] [])) := c14.trans (st15 _ (Steps.refl _))
  have ap := apart (Or.inr ⟨_, (wk W (.laysFinal "java/lang/String" "java/lang/String" "value" "[B"))⟩) (Or.inr ⟨_, (wk W (.laysFinal "java/lang/String" "java/lang/String" "coder" "B"))⟩) f1 f2 (t₁ := .array .byte) (t₂ := .byte) (by decide +kernel) (by decide +kernel) (by decide)
  have al := X8.warmed.alike.symm.trans X15.warmed.alike
  have n7 : T11.heap[s.heap.size]? = some N := by rw [q11]; exact n1.1
  exact ⟨T15, none, _, _, _, X15, by simp, rfl, by omega, (fun _ => rfl), ⟨rfl, _, N, bl15, ((Same.refl D _).set _ (by simp)).set _ (by simp), sl15, (Cell.slots_setSlot_ne _ ap).trans sl13, n1.keep al (p15.other hne (p13.other hne n7)), n2, by rw [al.findClass]; exact n3, n4, n5, fun y c h1 h2 => p15.other h1 (p13.other h1 (by rw [q11]; exact n6 y c h2)), by rw [p15.2.2, p13.2.2, q11]; exact z8⟩, fun fs hl => c16.trans (X15.returnOut hexec hret (hb hbytes d57) hl)⟩
end New4
namespace New1
def yN : MethodName := ⟨"java/lang/String", "<init>", "([C)V"⟩
abbrev yB : ByteArray := jdk_42_method_3_code
theorem d0 : decode yB 0 = .ok (.aload_n 0, 1) := by decide +kernel
theorem d1 : decode yB 1 = .ok (.aload_n 1, 1) := by decide +kernel
theorem d2 : decode yB 2 = .ok (.iconst 0, 1) := by decide +kernel
theorem d3 : decode yB 3 = .ok (.aload_n 1, 1) := by decide +kernel
theorem d4 : decode yB 4 = .ok (.arraylength, 1) := by decide +kernel
theorem d5 : decode yB 5 = .ok (.aconst_null, 1) := by decide +kernel
theorem d6 : decode yB 6 = .ok (.invokespecial 27, 3) := by decide +kernel
theorem d9 : decode yB 9 = .ok (.return_, 1) := by decide +kernel
def site : List Cond := [New4.tab] ++ initW "java/lang/String" 27 New4.yN
def tab : Cond := tabOf yN yB 2 none site
def P (a : Addr) (D : Cell) (fV fC : Field) (b : Addr) (A : Cell) (z : Int32) (args : Array Value) (s : State) : Prop := args = #[.ref a, .ref b] ∧ Blank "java/lang/String" a D s ∧ Found "java/lang/String" "value" "[B" fV s ∧ Found "java/lang/String" "coder" "B" fC s ∧ Ch b A s ∧ StaticIs s "java/lang/String" "COMPACT_STRINGS" "Z" (.int z) ∧ ¬ z = 0 ∧ 0 < A.slots.size ∧ A.slots.size ≤ 536870912 ∧ ∀ i, i < A.slots.size → ¬ 255 < cv A i
def E (a : Addr) (D : Cell) (fV fC : Field) (A : Cell) (r : Option Value) (s u : State) : Prop := Got a D fV fC A 0 A.slots.size r s u
/-- new String(chars), not empty, no char above 255: a Latin-1 String of their low bytes -/
theorem law (l : Launch) (a : Addr) (D : Cell) (fV fC : Field) (b : Addr) (A : Cell) (z : Int32) : Law l yN 2 1 3 52 yB 2 none site (P a D fV fC b A z) (E a D fV fC A) [⟨a, fC.slot⟩, ⟨a, fV.slot⟩] 1 A.slots.size := by
  refine Law.of_walk (plainFor_of_name (by decide +kernel)) (by decide +kernel) (by decide +kernel) (by decide) (fun _ _ h => by rw [h.1]; rfl) (fun _ U U' hal hh h => ⟨h.1, h.2.1.mv hal hh, h.2.2.1.al hal, h.2.2.2.1.al hal, h.2.2.2.2.1.mv hal hh, h.2.2.2.2.2.1.there hal hh, h.2.2.2.2.2.2⟩) (fun r U U' V V' h1 hal h2 h => Got.mv r U U' V V' h1 hal h2 h) ?_
  intro p e s m args below meth c s₁ X0 hexec hbytes hml hret hlk hnm hown hh0 W hP
  obtain ⟨rfl, hB, f1, f2, hA, s1, hz, l0, l2, hp⟩ := hP
  have c1 : Steps p.tables e below (s₁.setTop (entryFrame m #[.ref a, .ref b] 2)) (s₁.setTop (mkF m 0 #[.val (.ref a), .val (.ref b)] [])) := entry rfl
  have c2 : Steps p.tables e below (s₁.setTop (entryFrame m #[.ref a, .ref b] 2)) (s₁.setTop (mkF m 6 #[.val (.ref a), .val (.ref b)] [.null, .int (Int32.ofNat A.slots.size), .int 0, .ref b, .ref a])) := c1.trans (by
    refine XS.aloadN X0.here hexec rfl (hb hbytes d0) rfl rfl ?_
    refine XS.aloadN X0.here hexec rfl (hb hbytes d1) rfl rfl ?_
    refine iconstV X0.here hexec rfl 0 (hb hbytes d2) (by decide) ?_
    refine XS.aloadN X0.here hexec rfl (hb hbytes d3) rfl rfl ?_
    refine X0.alen hexec (hA.1.mv X0.warmed.alike hh0) rfl rfl (hb hbytes d4) ?_
    refine XS.aconstNull X0.here hexec rfl (hb hbytes d5) ?_
    exact Steps.refl _)
  obtain ⟨v3, T3, X3, E3, g3⟩ := X0.callN hexec (New4.law l a D fV fC b A z 0 A.slots.size) rfl hown (wks W (initW "java/lang/String" 27 New4.yN)) (W New4.tab (by simp only [site, List.mem_cons, List.mem_append, true_or, or_true])) (W := 0) (Nat.le_of_ble_eq_true rfl) (Nat.le_of_ble_eq_true rfl) (Nat.le_refl _) (by show 0 + A.slots.size ≤ A.slots.size; omega) (g := (mkF m 6 #[.val (.ref a), .val (.ref b)] [.null, .int (Int32.ofNat A.slots.size), .int (Int32.ofNat 0), .ref b, .ref a])) rfl (by rw [hml]; rfl) c2 (argsL := [.ref b, .int (Int32.ofNat 0), .int (Int32.ofNat A.slots.size), .null]) (rest := []) rfl rfl (by show 2 * 0 + 0 ≤ _; decide) (hb hbytes d6) (⟨rfl, hB.mv X0.warmed.alike hh0, f1.al X0.warmed.alike, f2.al X0.warmed.alike, hA.mv X0.warmed.alike hh0, s1.there X0.warmed.alike hh0, hz, l0, by omega, l2, fun i hi => by rw [Nat.zero_add]; exact hp i hi⟩)
  have e0 := Got.mv _ s₁ s _ _ hh0.symm (Vm.Alike.refl _) rfl E3
  obtain rfl := e0.1
  have c4 : Steps p.tables e below (s₁.setTop (entryFrame m #[.ref a, .ref b] 2)) (T3.setTop (mkF m 9 #[.val (.ref a), .val (.ref b)] [])) := g3
  exact ⟨T3, none, _, _, _, X3, by simp, rfl, by omega, (fun _ => rfl), e0, fun fs hl => c4.trans (X3.returnOut hexec hret (hb hbytes d9) hl)⟩
theorem pays {l : Launch} {R : Room} {p : Program} {e : Env} {below : List Frame} {s : State} {sargs : Array Value} {len W : Nat} (a : Addr) (D : Cell) (fV fC : Field) (b : Addr) (A : Cell) (z : Int32) (htab : tab.before sargs s = true) (hfr : 4 ≤ R.frames) (hlo : W + 65 ≤ R.locals) :
    Back l R p e below s sargs yN len W (fun A₁ a₁ => A₁.cells + 1 ≤ R.cells ∧ A₁.slots + A.slots.size ≤ R.slots ∧ P a D fV fC b A z a₁ A₁.U) (fun A₁ _ v₁ B₁ => E a D fV fC A v₁ A₁.U B₁.U ∧ B₁.locs = A₁.locs ++ [⟨a, fC.slot⟩, ⟨a, fV.slot⟩] ∧ B₁.cells = A₁.cells + 1 ∧ B₁.slots = A₁.slots + A.slots.size) :=
  (law l a D fV fC b A z).pays htab hfr (by omega)
end New1
/-- the byte, read back as charAt reads it, is the char -/
theorem lo8_mask {x : Int32} (h0 : ¬ x < 0) (h1 : ¬ 255 < x) : lo8 x &&& 255 = x := by
  have t : ∀ k : Fin 256, lo8 (Int32.ofNat k.val) &&& 255 = Int32.ofNat k.val := by decide +kernel
  rw [Int32.lt_iff_toInt_lt] at h0 h1
  have e0 : (0 : Int32).toInt = 0 := rfl
  have e1 : (255 : Int32).toInt = 255 := rfl
  obtain ⟨k, hk⟩ : ∃ k : Nat, x.toInt = k := ⟨x.toInt.toNat, by omega⟩
  have hx : x = Int32.ofNat k := Int32.toInt_inj.mp (by rw [hk, Int32.toInt_ofNat_small (by omega)])
  rw [hx]
  exact t ⟨k, by omega⟩
end StrChars
namespace StrChars.Road
open Jvm Sem ClassFile Op Lib Jvm.Stand Jvm.Free Jvm.Free.XT
open Jvm.Lib.Cold (StaticIs)
abbrev ST : String := "java/lang/String"
/-- every table word that New1's law asks, flat -/
abbrev words : List Jvm.Cond := [.code New1.yN New1.yB 2 none, .initialized ST, .methodLink ST 27 New4.yN, .instanceMethod New4.yN,
  .code New4.yN New4.yB 6 none, .fieldLink ST 38 ST "COMPACT_STRINGS" "Z", .laysFinal ST ST "value" "[B", .fieldLink ST 9 ST "value" "[B", .laysFinal ST ST "coder" "B", .fieldLink ST 15 ST "coder" "B",
  .methodLink ST 1 Lib.objectInit, .instanceMethod Lib.objectInit, .code Lib.objectInit ⟨#[0xb1]⟩ 1 none, .methodLink ST 177 Cmp3.yN, .static Cmp3.yN, .methodLink ST 47 CodL.yN, .static CodL.yN,
  .code Cmp3.yN Cmp3.yB 6 (some (.array .byte)), .initialized U16, .arrayClass .byte, .methodLink U16 115 Cmp5.yN, .static Cmp5.yN, .code Cmp5.yN Cmp5.yB 7 (some .int), .code CodL.yN CodL.yB 2 (some .byte)]
theorem tab_of {a : Array Value} {s : State} (h : ∀ w ∈ words, w.before a s = true) : New1.tab.before a s = true := by
  have h5 : Cmp5.tab.before a s = true := unparts (wk h (.code Cmp5.yN Cmp5.yB 7 (some .int))) (wks h (.initialized Cmp5.yN.cls :: Cmp5.site))
  have hc : CodL.tab.before a s = true := unparts (wk h (.code CodL.yN CodL.yB 2 (some .byte))) (wks h (.initialized CodL.yN.cls :: CodL.site))
  have q5 : ∀ w ∈ Cmp5.tab :: words, w.before a s = true := fun w hw => (List.mem_cons.mp hw).elim (fun e => e ▸ h5) (h w)
  have h3 : Cmp3.tab.before a s = true := unparts (wk q5 (.code Cmp3.yN Cmp3.yB 6 (some (.array .byte)))) (wks q5 (.initialized Cmp3.yN.cls :: Cmp3.site))
  have q3 : ∀ w ∈ Cmp3.tab :: CodL.tab :: words, w.before a s = true := fun w hw => (List.mem_cons.mp hw).elim (fun e => e ▸ h3) fun hw => (List.mem_cons.mp hw).elim (fun e => e ▸ hc) (h w)
  have h4 : New4.tab.before a s = true := unparts (wk q3 (.code New4.yN New4.yB 6 none)) (wks q3 (.initialized New4.yN.cls :: New4.site))
  have q4 : ∀ w ∈ New4.tab :: words, w.before a s = true := fun w hw => (List.mem_cons.mp hw).elim (fun e => e ▸ h4) (h w)
  exact unparts (wk q4 (.code New1.yN New1.yB 2 none)) (wks q4 (.initialized New1.yN.cls :: New1.site))
/-- the words ride from the start Z to the walk's own state -/
theorem moved {Z s : State} {a0 args : Array Value} (hZ : Z.Warmed39 s.vm) (hw : ∀ d ∈ words, d.before a0 Z = true) : ∀ d ∈ words, d.before args s = true := fun d hd => by
  have q := hw d hd
  have t : ∀ d ∈ words, d = .arrayClass .byte ∨ (d.onTables && d.keepsFace) = true := by decide +kernel
  rcases t d hd with rfl | t
  · exact RoadKit.mvA hZ q
  · exact RoadKit.mv hZ q t
/-- WHAT COMES BACK, over the tables of the start Z: h the heap at the call, h' behind it -/
def Q (Z : State) (x : Addr) (A : Cell) (h : Heap) (v : Option Value) (h' : Heap) (L : List Loc) : Prop := v = none ∧ (∀ y ∈ L, y.base = x) ∧ RoadKit.Keep h h' [x] ∧ h'.size = h.size + 1 ∧ RoadKit.Exa Z h' x ST ∧ RoadKit.Fld Z h' x ST "value" "[B" (.ref h.size) ∧ RoadKit.Fld Z h' x ST "coder" "B" (.int 0) ∧
  (∃ V : Cell, RoadKit.Arr Z h' h.size V .byte ∧ V.vm = .none ∧ Z.vm.findClass "[B" = some V.cls ∧ V.slots.size = A.slots.size ∧ ∀ j, j < A.slots.size → V.slots[j]? = some (.int (lo8 (cv A j)))) ∧
  ∀ (O n d : String) (w : Value), RoadKit.Fld Z h x O n d w → RoadKit.slotOf Z O n d ≠ RoadKit.slotOf Z ST "value" "[B" → RoadKit.slotOf Z O n d ≠ RoadKit.slotOf Z ST "coder" "B" → RoadKit.Fld Z h' x O n d w
/-- **new String(chars) AT A CALL, IN THE ROAD'S FORM**: for specialBack behind newO: x the fresh String, b the char[] with the cell A -/
theorem back {p : Program} {l : Launch} {e : Env} {R : Room} {s : State} {args : Array Value} {below : List Frame} {len W : Nat} {Z : State} {a0 : Array Value} {h : Heap} (hZ : Z.Warmed39 s.vm) (hw : ∀ d ∈ words, d.before a0 Z = true) {kI : Nat} (wi : (Jvm.Cond.instantiable ST kI).before a0 Z = true)
    {x b : Addr} {A : Cell} {z : Int32} {v0 c0 : Value} (E : RoadKit.Exa Z h x ST) (V : RoadKit.Fld Z h x ST "value" "[B" v0) (C : RoadKit.Fld Z h x ST "coder" "B" c0) (K : RoadKit.Arr Z h b A .char) (hty : Typed .char A) (S : RoadKit.Sta Z h ST "COMPACT_STRINGS" "Z" (.int z)) (hz : ¬ z = 0)
    (l0 : 0 < A.slots.size) (l2 : A.slots.size ≤ 536870912) (hp : ∀ i, i < A.slots.size → ¬ 255 < cv A i) (hfr : 4 ≤ R.frames) (hlo : W + 65 ≤ R.locals) :
    Back l R p e below s args New1.yN len W (fun P a => a = #[.ref x, .ref b] ∧ P.U.heap = h ∧ P.cells + 1 ≤ R.cells ∧ P.slots + A.slots.size ≤ R.slots)
      (fun P _ v B => ∃ L, Q Z x A h v B.U.heap L ∧ B.locs = P.locs ++ L ∧ B.cells = P.cells + 1 ∧ B.slots = P.slots + A.slots.size) := by
  intro m meth c P g ig mk a X hg hsize hdg hW hn hp'
  obtain ⟨rfl, rfl, r1, r2⟩ := hp'
  have al : Z.vm.Alike P.U.vm := hZ.alike.trans X.warmed.alike
  obtain ⟨D, cfV, kV, iV, fV, hD, gV, stV, knV, obV, asV, slV⟩ := id V
  obtain ⟨D', cfC, kC, iC, fC, hD', gC, stC, -, -, asC, slC⟩ := id C
  cases hD.symm.trans hD'
  obtain ⟨D2, kD, e1, e2, e3, e4, e5⟩ := id E
  cases hD.symm.trans e1
  obtain ⟨c2, k2, i1, i2, i3, -⟩ := Cond.instantiable_spec wi
  cases e2.symm.trans i1
  cases e3.symm.trans i2
  obtain ⟨kU, u1, u2⟩ := al.2.2 _ _ e3
  have hB : Blank ST x D P.U := ⟨hD, ⟨knV, fun q hq => by rw [hq] at obV; cases obV⟩, by rw [al.findClass]; exact e2, kU, u1, by rw [u2]; exact i3, by rw [u2]; exact e5 i3⟩
  have F1 : Found ST "value" "[B" fV P.U := ⟨SBG.found_only al ⟨cfV, kV, iV, gV⟩, stV⟩
  have F2 : Found ST "coder" "B" fC P.U := ⟨SBG.found_only al ⟨cfC, kC, iC, gC⟩, stC⟩
  have hA : Ch b A P.U := ⟨⟨K.1, State.isArrayOf_alike al K.2.1, K.2.2, by omega⟩, hty⟩
  have hS : StaticIs P.U ST "COMPACT_STRINGS" "Z" (.int z) := by
    obtain ⟨cfS, iS, kS, fS, st, cS, t1, t2, t3, t4, t5, t6, t7⟩ := S
    exact StaticIs.there (s := { Z with heap := P.U.heap }) ⟨cfS, iS, kS, fS, st, cS, t1, t2, t3, t4, t5, (fun q => by rw [q] at t6; cases t6), t7⟩ al rfl
  obtain ⟨v, B, X', ⟨⟨hv, E', V', q1, q2, q3, q4, q5, q6, q7, q8, q9, q10, q11⟩, hl, hc, hs⟩, st⟩ := New1.pays x D fV fC b A z (tab_of (moved hZ hw)) hfr hlo m meth c P g ig mk _ X hg hsize hdg hW hn ⟨r1, r2, rfl, hB, F1, F2, hA, hS, hz, l0, l2, hp⟩
  have al' : Z.vm.Alike B.U.vm := hZ.alike.trans X'.warmed.alike
  have hsz : E'.slots.size = D.slots.size := by
    obtain ⟨-, -, -, kB, w1, w2, w3⟩ := q1
    obtain ⟨kB', y1, y2⟩ := al'.2.2 _ _ e3
    rw [q2.2.1] at w1
    cases w1.symm.trans y1
    rw [w3, e5 i3, y2]
  refine ⟨v, B, X', ⟨_, ⟨hv, ?_, ⟨by omega, fun y cy hy hn' => q10 y cy (by simpa using hn') hy, fun y cy hy => ?_⟩, q11, ⟨E', _, q1.1, by rw [q2.2.1]; exact e2, by rw [q2.2.1]; exact e3, by rw [q2.1]; exact obV, fun _ => by rw [hsz]; exact e5 i3⟩,
    ⟨E', cfV, kV, iV, fV, q1.1, gV, stV, by rw [q2.1]; exact knV, by rw [q2.1]; exact obV, by rw [q2.2.1]; exact asV, q3⟩, ⟨E', cfC, kC, iC, fC, q1.1, gC, stC, by rw [q2.1]; exact knV, by rw [q2.1]; exact obV, by rw [q2.2.1]; exact asC, q4⟩,
    ⟨V', ⟨q5.1, State.isArrayOf_alike al'.symm q5.2.1, q5.2.2.1⟩, q6, by rw [← al'.findClass]; exact q7, q8, fun j hj => by have := q9 j hj; rwa [Nat.zero_add] at this⟩, fun O n d w F n1 n2 => ?_⟩, hl, hc, hs⟩, st⟩
  · intro y hy
    simp only [List.mem_cons, List.not_mem_nil, or_false] at hy
    rcases hy with rfl | rfl <;> rfl
  · by_cases q : y = x
    · subst q
      cases hD.symm.trans hy
      exact ⟨E', q1.1, q2.2.1, q2.1, hsz⟩
    · exact ⟨cy, q10 y cy q hy, rfl, rfl, rfl⟩
  · obtain ⟨D3, cf, k, i, f, g1, g2, g3, g4, g5, g6, g7⟩ := F
    cases hD.symm.trans g1
    simp only [RoadKit.slotOf, g2, gV, gC, Option.map_some, Option.getD_some] at n1 n2
    exact ⟨E', cf, k, i, f, q1.1, g2, g3, by rw [q2.1]; exact g4, by rw [q2.1]; exact g5, by rw [q2.2.1]; exact g6, by rw [q2.2.2 f.slot (by simp [n1, n2])]; exact g7⟩
end StrChars.Road
namespace StrChars.Road
open Jvm Sem ClassFile Op Lib Jvm.Stand Jvm.Free Jvm.Free.XT
/-- WHAT COMES BACK, the byte[] as a list of values -/
def QA (Z : State) (x : Addr) (zn : Int32) (cs : List Int32) (h : Heap) (v : Option Value) (h' : Heap) (L : List Loc) : Prop := v = none ∧ (∀ y ∈ L, y.base = x) ∧ RoadKit.Keep h h' [x] ∧ h'.size = h.size + 1 ∧ RoadKit.Exa Z h' x ST ∧ RoadKit.Fld Z h' x ST "value" "[B" (.ref h.size) ∧ RoadKit.Fld Z h' x ST "coder" "B" (.int 0) ∧
  (∃ kb, Z.vm.findClass "[B" = some kb ∧ RoadKit.Arv Z h' h.size kb .byte zn (cs.map fun c => .int (lo8 c)) (.int 0)) ∧
  ∀ (O n d : String) (w : Value), RoadKit.Fld Z h x O n d w → RoadKit.slotOf Z O n d ≠ RoadKit.slotOf Z ST "value" "[B" → RoadKit.slotOf Z O n d ≠ RoadKit.slotOf Z ST "coder" "B" → RoadKit.Fld Z h' x O n d w
/-- **new String(chars) AT A CALL, THE ARRAYS AS LISTS**: the char[] at b holds cs, not empty, no char above 255 -/
theorem backArv {p : Program} {l : Launch} {e : Env} {R : Room} {s : State} {args : Array Value} {below : List Frame} {len W : Nat} {Z : State} {a0 : Array Value} {h : Heap} (hZ : Z.Warmed39 s.vm) (hw : ∀ d ∈ words, d.before a0 Z = true) {kI : Nat} (wi : (Jvm.Cond.instantiable ST kI).before a0 Z = true)
    {x b : Addr} {k : ClassId} {zn z : Int32} {cs : List Int32} {dv v0 c0 : Value} (E : RoadKit.Exa Z h x ST) (V : RoadKit.Fld Z h x ST "value" "[B" v0) (C : RoadKit.Fld Z h x ST "coder" "B" c0) (K : RoadKit.Arv Z h b k .char zn (cs.map Value.int) dv) (S : RoadKit.Sta Z h ST "COMPACT_STRINGS" "Z" (.int z)) (hz : ¬ z = 0)
    (hlen : zn.toNatClampNeg = cs.length) (h0 : 0 < cs.length) (hbig : cs.length ≤ 536870912) (hall : ∀ c ∈ cs, ¬ 255 < c) (hfr : 4 ≤ R.frames) (hlo : W + 65 ≤ R.locals) :
    Back l R p e below s args New1.yN len W (fun P a => a = #[.ref x, .ref b] ∧ P.U.heap = h ∧ P.cells + 1 ≤ R.cells ∧ P.slots + cs.length ≤ R.slots)
      (fun P _ v B => ∃ L, QA Z x zn cs h v B.U.heap L ∧ B.locs = P.locs ++ L ∧ B.cells = P.cells + 1 ∧ B.slots = P.slots + cs.length) := by
  obtain ⟨A, K1, K2, K3, K4, K5, K6⟩ := K
  have e : A.slots.size = cs.length := K3.trans hlen
  have hat : ∀ (i : Nat) (hi : i < cs.length), A.slots[i]? = some (.int cs[i]) := fun i hi => by rw [K5 i (by omega)]; simp [List.getD_eq_getElem?_getD, hi]
  have hcv : ∀ (i : Nat) (hi : i < cs.length), cv A i = cs[i] := fun i hi => by unfold cv; rw [hat i hi]
  have hty : Typed .char A := fun i v hv => by
    have hi : i < A.slots.size := (Array.getElem?_eq_some_iff.mp hv).1
    have q := K5 i hi
    rw [hv] at q
    rw [Option.some.inj q]
    exact K6 i hi
  refine Back.mono (back hZ hw wi E V C K1 hty S hz (by omega) (by omega) (fun i hi => by rw [hcv i (by omega)]; exact hall _ (List.getElem_mem _)) hfr hlo) (fun P a hp => ⟨hp.1, hp.2.1, hp.2.2.1, by rw [e]; exact hp.2.2.2⟩) (fun P a v B hp hq => ?_)
  obtain ⟨L, ⟨q1, q2, q3, q4, q5, q6, q7, ⟨V', v1, v2, v3, v4, v5⟩, q9⟩, hl, hc, hs⟩ := hq
  refine ⟨L, ⟨q1, q2, q3, q4, q5, q6, q7, ⟨V'.cls, v3, V', v1, rfl, by rw [v4, e, hlen], K4, fun i hi => ?_, fun i hi => ?_⟩, q9⟩, hl, hc, by rw [hs, e]⟩
  · have hi' : i < cs.length := by omega
    rw [v5 i (by omega), hcv i hi']; simp [List.getD_eq_getElem?_getD, hi']
  · have hi' : i < cs.length := by omega
    simp only [List.getD_eq_getElem?_getD, List.getElem?_map, List.getElem?_eq_getElem hi', Option.map_some, Option.getD_some]
    exact fits_lo8 _
end StrChars.Road
namespace StrChars.Road
open Jvm Sem ClassFile Op Lib Jvm.Stand Jvm.Free Jvm.Free.XT
/-- WHAT COMES BACK, in the writer's own shape -/
def QV (Z : State) (x : Addr) (N : Int32) (bs : List Int32) (h : Heap) (n0 : Nat) (v : Option Value) (h' : Heap) (L : List Loc) : Prop := v = none ∧ RoadKit.Fr n0 L ∧ RoadKit.Keep h h' [x] ∧ RoadKit.Exa Z h' x ST ∧ RoadKit.Fld Z h' x ST "coder" "B" (.int 0) ∧
  ∃ (t : Addr) (kb : ClassId), n0 ≤ t ∧ h.size ≤ t ∧ ¬ t = x ∧ RoadKit.Fld Z h' x ST "value" "[B" (.ref t) ∧ RoadKit.Arv Z h' t kb .byte N (bs.map Value.int) (.int 0)
/-- **new String(chars) AT A CALL, FOR THE WRITER**: a char[] of n known ints, each 0 to 255 -/
theorem backV {p : Program} {l : Launch} {e : Env} {R : Room} {s : State} {args : Array Value} {below : List Frame} {len W : Nat} {Z : State} {a0 : Array Value} {h : Heap} (hZ : Z.Warmed39 s.vm) (hw : ∀ d ∈ words, d.before a0 Z = true) {kI : Nat} (wi : (Jvm.Cond.instantiable ST kI).before a0 Z = true)
    {x b : Addr} {kC : ClassId} {cs bs : List Int32} {d v0 c0 : Value} {z N : Int32} {n n0 : Nat} (hx0 : n0 ≤ x) (hh0 : n0 ≤ h.size) (E : RoadKit.Exa Z h x ST) (V : RoadKit.Fld Z h x ST "value" "[B" v0) (C : RoadKit.Fld Z h x ST "coder" "B" c0) (K : RoadKit.Arv Z h b kC .char N (cs.map Value.int) d) (S : RoadKit.Sta Z h ST "COMPACT_STRINGS" "Z" (.int z)) (hz : ¬ z = 0)
    (hn : cs.length = n) (hN : N = Int32.ofNat n) (l0 : 0 < n) (l2 : n ≤ 4000) (hp : ∀ c ∈ cs, ¬ c < 0 ∧ ¬ (255 : Int32) < c) (hb : bs = cs.map (fun c => c.toInt8.toInt32)) (hfr : 4 ≤ R.frames) (hlo : W + 65 ≤ R.locals) :
    Back l R p e below s args (⟨"java/lang/String", "<init>", "([C)V"⟩ : MethodName) len W (fun P a => a = #[.ref x, .ref b] ∧ P.U.heap = h ∧ P.cells + 1 ≤ R.cells ∧ P.slots + n ≤ R.slots)
      (fun P _ v B => ∃ L, QV Z x N bs h n0 v B.U.heap L ∧ B.locs = P.locs ++ L ∧ B.cells = P.cells + 1 ∧ B.slots = P.slots + n) := by
  subst hn hN hb
  refine Back.mono (backArv hZ hw wi E V C K S hz (n32 (by omega)) l0 (by omega) (fun c hc => (hp c hc).2) hfr hlo) (fun P a hp => hp) (fun P a v B hp hq => ?_)
  obtain ⟨L, ⟨q1, q2, q3, q4, q5, q6, q7, ⟨kb, v1, v2⟩, q9⟩, hl, hc, hs⟩ := hq
  exact ⟨L, ⟨q1, fun y hy => by rw [q2 y hy]; exact hx0, q3, q5, q7, h.size, kb, hh0, Nat.le_refl _, Nat.ne_of_gt E.lt, q6, by rw [List.map_map]; exact v2⟩, hl, hc, hs⟩
end StrChars.Road
namespace StrChars
open Jvm Sem ClassFile Op Lib Jvm.Stand Jvm.Free.XT Jvm.Free.ALB Jvm.Free.JM Jvm.Free
open Jvm.Lib.Cold (StaticIs)
def hi8 (x : Int32) : Int32 := lo8 (x >>> ((8 : Int32) &&& 31))
/-- what StringUTF16.getChar makes of two bytes -/
def pairCh (u v : Int32) : Int32 := (((u &&& 255) <<< ((0 : Int32) &&& 31)) ||| ((v &&& 255) <<< ((8 : Int32) &&& 31))).toUInt32.toUInt16.toUInt32.toInt32
theorem lo8_and (x : Int32) : (lo8 x &&& 255).toBitVec.toNat = x.toBitVec.toNat % 256 := by
  have h : (lo8 x).toBitVec = (x.toBitVec.signExtend 8).signExtend 32 := by rw [lo8, Int8.toBitVec_toInt32, Int32.toBitVec_toInt8]
  rw [Int32.toBitVec_and, BitVec.toNat_and, h]
  have e : ((x.toBitVec.signExtend 8).signExtend 32).toNat % 256 = x.toBitVec.toNat % 256 := by
    rw [BitVec.toNat_signExtend]
    have hlt := x.toBitVec.isLt
    simp only [BitVec.toNat_setWidth, BitVec.toNat_signExtend]
    split <;> split <;> omega
  rw [← e]
  exact Nat.and_two_pow_sub_one_eq_mod _ 8
theorem pair_says {c : Int32} (h0 : ¬ c < 0) (h1 : ¬ 65535 < c) : pairCh (lo8 c) (hi8 c) = c := by
  rw [Int32.lt_iff_toInt_lt] at h0 h1
  have e0 : (0 : Int32).toInt = 0 := rfl
  have e1 : (65535 : Int32).toInt = 65535 := rfl
  have hc : c.toInt = c.toBitVec.toNat := by
    have := c.toBitVec.isLt
    have e : c.toInt = c.toBitVec.toInt := rfl
    rw [e] at h0 h1
    rw [e]
    rw [BitVec.toInt_eq_toNat_cond] at h0 h1 ⊢
    split at h0 <;> split <;> omega
  have hn : c.toBitVec.toNat < 65536 := by omega
  have a1 := lo8_and c
  have a2 : (hi8 c &&& 255).toBitVec.toNat = c.toBitVec.toNat / 256 := by
    rw [hi8, lo8_and]
    have e : ((8 : Int32) &&& 31) = 8 := by decide
    rw [e, Int32.toBitVec_shiftRight]
    have e2 : ((8 : Int32).toBitVec.smod 32) = 8#32 := by decide
    rw [e2, BitVec.sshiftRight_eq', BitVec.toNat_sshiftRight_of_msb_false (by rw [BitVec.msb_eq_false_iff_two_mul_lt]; omega)]
    show c.toBitVec.toNat >>> 8 % 256 = _
    rw [Nat.shiftRight_eq_div_pow]
    omega
  unfold pairCh
  apply Int32.toBitVec_inj.mp
  apply BitVec.eq_of_toNat_eq
  have f0 : ((0 : Int32) &&& 31) = 0 := by decide
  have f8 : ((8 : Int32) &&& 31) = 8 := by decide
  rw [f0, f8]
  have g : (((lo8 c &&& 255) <<< (0 : Int32)) ||| ((hi8 c &&& 255) <<< (8 : Int32))).toBitVec.toNat = c.toBitVec.toNat := by
    rw [Int32.toBitVec_or, Int32.toBitVec_shiftLeft, Int32.toBitVec_shiftLeft]
    have s0 : ((0 : Int32).toBitVec.smod 32) = 0#32 := by decide
    have s8 : ((8 : Int32).toBitVec.smod 32) = 8#32 := by decide
    rw [s0, s8, BitVec.toNat_or]
    simp only [BitVec.shiftLeft_eq', BitVec.toNat_shiftLeft, a1, a2]
    show (c.toBitVec.toNat % 256) <<< 0 % 2 ^ 32 ||| (c.toBitVec.toNat / 256) <<< 8 % 2 ^ 32 = _
    rw [Nat.shiftLeft_zero, Nat.mod_eq_of_lt (show c.toBitVec.toNat % 256 < 2 ^ 32 by omega), Nat.mod_eq_of_lt (show (c.toBitVec.toNat / 256) <<< 8 < 2 ^ 32 by rw [Nat.shiftLeft_eq]; omega), Nat.or_comm, ← Nat.shiftLeft_add_eq_or_of_lt (by omega), Nat.shiftLeft_eq]
    omega
  show BitVec.toNat (((((lo8 c &&& 255) <<< (0 : Int32)) ||| ((hi8 c &&& 255) <<< (8 : Int32))).toBitVec.setWidth 16).setWidth 32) = _
  rw [BitVec.toNat_setWidth, BitVec.toNat_setWidth, g]
  omega
end StrChars
namespace StrChars
open Jvm Sem ClassFile Op Lib Jvm.Stand Jvm.Free.XT Jvm.Free.ALB Jvm.Free.JM Jvm.Free
open Jvm.Lib.Cold (StaticIs)
/-- the array's cell V codes the n chars f 0 .. f (n - 1) by the coder cd, as the JDK does: coder 1 just where some char is above 255 -/
def Cod (cd : Int32) (n : Nat) (f : Nat → Int32) (V : Cell) : Prop := (cd = 0 ∧ V.slots.size = n ∧ ∀ j, j < n → V.slots[j]? = some (.int (lo8 (f j))) ∧ ¬ 255 < f j) ∨ (cd = 1 ∧ V.slots.size = 2 * n ∧ (∀ j, j < n → V.slots[2 * j]? = some (.int (lo8 (f j))) ∧ V.slots[2 * j + 1]? = some (.int (hi8 (f j)))) ∧ ∃ j, j < n ∧ 255 < f j)
/-- **x is a String of the n chars f 0 .. f (n - 1)**, Latin-1 or UTF-16; its array at t has the cell V -/
def Txt (x t : Addr) (V : Cell) (cd : Int32) (n : Nat) (f : Nat → Int32) (U : State) : Prop := Exact "java/lang/String" x U ∧ Has x "java/lang/String" "value" "[B" (.ref t) U ∧ Has x "java/lang/String" "coder" "B" (.int cd) U ∧ XT.Arr .byte t V U ∧ Cod cd n f V ∧ ∀ j, j < n → ¬ f j < 0 ∧ ¬ 65535 < f j
theorem Txt.mv {x t : Addr} {V : Cell} {cd : Int32} {n : Nat} {f : Nat → Int32} {U U' : State} (h : Txt x t V cd n f U) (hal : U.vm.Alike U'.vm) (hh : U'.heap = U.heap) : Txt x t V cd n f U' := ⟨h.1.mv hal hh, h.2.1.mv hal hh, h.2.2.1.mv hal hh, h.2.2.2.1.mv hal hh, h.2.2.2.2⟩
end StrChars
namespace StrChars.Road
open Jvm Sem ClassFile Op Lib Jvm.Stand Jvm.Free Jvm.Free.XT
open Jvm.Lib.Cold (StaticIs)
theorem consq {a : Array Value} {s : State} {c : Jvm.Cond} {L : List Jvm.Cond} (h0 : c.before a s = true) (h : ∀ w ∈ L, w.before a s = true) : ∀ w ∈ c :: L, w.before a s = true := fun w hw => (List.mem_cons.mp hw).elim (fun e => e ▸ h0) (h w)
/-- the bytes of the chars cs, low before high -/
def wideBytes : List Int32 → List Value
  | [] => []
  | c :: cs => .int (lo8 c) :: .int (hi8 c) :: wideBytes cs
theorem wide_lo (d : Value) : ∀ (cs : List Int32) (j : Nat), j < cs.length → (wideBytes cs).getD (2 * j) d = .int (lo8 (cs.getD j 0))
  | [], j, h => absurd h (Nat.not_lt_zero j)
  | c :: cs, 0, _ => rfl
  | c :: cs, j + 1, h => by
    have q := wide_lo d cs j (by simpa using h)
    rw [show 2 * (j + 1) = 2 * j + 1 + 1 from by omega]
    simpa [wideBytes] using q
theorem wide_hi (d : Value) : ∀ (cs : List Int32) (j : Nat), j < cs.length → (wideBytes cs).getD (2 * j + 1) d = .int (hi8 (cs.getD j 0))
  | [], j, h => absurd h (Nat.not_lt_zero j)
  | c :: cs, 0, _ => rfl
  | c :: cs, j + 1, h => by
    have q := wide_hi d cs j (by simpa using h)
    rw [show 2 * (j + 1) + 1 = 2 * j + 1 + 1 + 1 from by omega]
    simpa [wideBytes] using q
theorem low_at (d : Value) (cs : List Int32) (j : Nat) (h : j < cs.length) : (cs.map fun c => Value.int (lo8 c)).getD j d = .int (lo8 (cs.getD j 0)) := by
  simp [List.getD_eq_getElem?_getD, h]
/-- an array of N2 bytes vs codes the chars cs by the coder cd -/
def CodA (cs : List Int32) (cd N2 : Int32) (vs : List Value) : Prop := (cd = 0 ∧ N2 = Int32.ofNat cs.length ∧ vs = (cs.map fun c => Value.int (lo8 c)) ∧ ∀ c ∈ cs, ¬ 255 < c) ∨ (cd = 1 ∧ N2 = Int32.ofNat (2 * cs.length) ∧ vs = wideBytes cs ∧ ∃ c ∈ cs, 255 < c)
theorem CodA.cod {cs : List Int32} {cd N2 : Int32} {vs : List Value} {V : Cell} (h : CodA cs cd N2 vs) (hn : 2 * cs.length < 2 ^ 31) (hs : V.slots.size = N2.toNatClampNeg) (hv : RoadKit.Has V vs (.int 0)) : Cod cd cs.length (fun j => cs.getD j 0) V := by
  rcases h with ⟨rfl, rfl, rfl, h⟩ | ⟨rfl, rfl, rfl, c, hc, hw⟩
  · rw [n32 (by omega)] at hs
    exact Or.inl ⟨rfl, hs, fun j hj => ⟨by rw [hv j (by omega), low_at _ _ _ hj], by
      have e : cs.getD j 0 = cs[j] := by simp [List.getD_eq_getElem?_getD, hj]
      show ¬ 255 < cs.getD j 0
      rw [e]; exact h _ (List.getElem_mem _)⟩⟩
  · rw [n32 (by omega)] at hs
    obtain ⟨j, hj, rfl⟩ := List.getElem_of_mem hc
    exact Or.inr ⟨rfl, hs, fun j hj => ⟨by rw [hv _ (by omega), wide_lo _ _ _ hj], by rw [hv _ (by omega), wide_hi _ _ _ hj]⟩, j, hj, by
      have e : cs.getD j 0 = cs[j] := by simp [List.getD_eq_getElem?_getD, hj]
      show 255 < cs.getD j 0
      rw [e]; exact hw⟩
/-- an object of exactly java/lang/String, its two fields found: as the laws ask it -/
theorem strObj {Z U : State} {a0 : Array Value} {kI : Nat} (wi : (Jvm.Cond.instantiable ST kI).before a0 Z = true) (al : Z.vm.Alike U.vm) {x : Addr} {v0 c0 : Value} (E : RoadKit.Exa Z U.heap x ST) (V : RoadKit.Fld Z U.heap x ST "value" "[B" v0) (C : RoadKit.Fld Z U.heap x ST "coder" "B" c0) :
    ∃ (D : Cell) (fV fC : Field), Blank ST x D U ∧ Found ST "value" "[B" fV U ∧ Found ST "coder" "B" fC U ∧ D.slots[fV.slot]? = some v0 ∧ D.slots[fC.slot]? = some c0 ∧ RoadKit.slotOf Z ST "value" "[B" = fV.slot ∧ RoadKit.slotOf Z ST "coder" "B" = fC.slot := by
  obtain ⟨D, cfV, kV, iV, fV, hD, gV, stV, knV, obV, asV, slV⟩ := V
  obtain ⟨D', cfC, kC, iC, fC, hD', gC, stC, -, -, asC, slC⟩ := C
  cases hD.symm.trans hD'
  obtain ⟨D2, kD, e1, e2, e3, e4, e5⟩ := E
  cases hD.symm.trans e1
  obtain ⟨c2, k2, i1, i2, i3, -⟩ := Cond.instantiable_spec wi
  cases e2.symm.trans i1
  cases e3.symm.trans i2
  obtain ⟨kU, u1, u2⟩ := al.2.2 _ _ e3
  exact ⟨D, fV, fC, ⟨hD, ⟨knV, fun q hq => by rw [hq] at obV; cases obV⟩, by rw [al.findClass]; exact e2, kU, u1, by rw [u2]; exact i3, by rw [u2]; exact e5 i3⟩, ⟨SBG.found_only al ⟨cfV, kV, iV, gV⟩, stV⟩, ⟨SBG.found_only al ⟨cfC, kC, iC, gC⟩, stC⟩, slV, slC, by simp [RoadKit.slotOf, gV], by simp [RoadKit.slotOf, gC]⟩
theorem sta_is {Z U : State} (al : Z.vm.Alike U.vm) {C n d : String} {v : Value} (S : RoadKit.Sta Z U.heap C n d v) : StaticIs U C n d v := by
  obtain ⟨cfS, iS, kS, fS, st, cS, t1, t2, t3, t4, t5, t6, t7⟩ := S
  exact StaticIs.there (s := { Z with heap := U.heap }) ⟨cfS, iS, kS, fS, st, cS, t1, t2, t3, t4, t5, (fun q => by rw [q] at t6; cases t6), t7⟩ al rfl
end StrChars.Road
namespace StrChars
open Jvm Sem ClassFile Op Lib Jvm.Stand Jvm.Free.XT Jvm.Free.ALB Jvm.Free.JM Jvm.Free
open Jvm.Lib.Cold (StaticIs)
/-- what place i of a byte[]'s cell holds -/
def yv (A : Cell) (i : Nat) : Int32 := match A.slots[i]? with | some (.int x) => x | _ => 0
theorem yv_get {a : Addr} {A : Cell} {U : State} (h : XT.Arr .byte a A U) (ht : Typed .byte A) {i : Nat} (hi : i < A.slots.size) : A.slots[i]? = some (.int (yv A i)) := by
  have e := Array.getElem?_eq_getElem hi
  have f := ht i _ e
  unfold yv; rw [e]
  generalize A.slots[i] = v at f
  cases v <;> simp [fits] at f ⊢
/-- the two arrays are equal, place for place -/
def EqC (A B : Cell) : Prop := A.slots.size = B.slots.size ∧ ∀ i, i < A.slots.size → yv A i = yv B i
/-- a boolean that says whether p -/
def Says01 (q : Prop) (r : Option Value) (s u : State) : Prop := ∃ v : Int32, r = some (.int v) ∧ u.heap = s.heap ∧ ((v = 1 ∧ q) ∨ (v = 0 ∧ ¬ q))
theorem Says01.mv {q : Prop} : ∀ r (U U' V V' : State), U'.heap = U.heap → V.vm.Alike V'.vm → V'.heap = V.heap → Says01 q r U V → Says01 q r U' V' :=
  fun r U U' V V' h1 _ h2 ⟨v, a, b, c⟩ => ⟨v, a, by rw [h1, h2]; exact b, c⟩
namespace LEq
def yN : MethodName := ⟨"java/lang/StringLatin1", "equals", "([B[B)Z"⟩
abbrev yB : ByteArray := jdk_43_method_13_code
theorem d0 : decode yB 0 = .ok (.aload_n 0, 1) := by decide +kernel
theorem d1 : decode yB 1 = .ok (.arraylength, 1) := by decide +kernel
theorem d2 : decode yB 2 = .ok (.aload_n 1, 1) := by decide +kernel
theorem d3 : decode yB 3 = .ok (.arraylength, 1) := by decide +kernel
theorem d4 : decode yB 4 = .ok (.if_icmp (.ne) 30, 3) := by decide +kernel
theorem d7 : decode yB 7 = .ok (.iconst 0, 1) := by decide +kernel
theorem d8 : decode yB 8 = .ok (.istore_n 2, 1) := by decide +kernel
theorem d9 : decode yB 9 = .ok (.iload_n 2, 1) := by decide +kernel
theorem d10 : decode yB 10 = .ok (.aload_n 0, 1) := by decide +kernel
theorem d11 : decode yB 11 = .ok (.arraylength, 1) := by decide +kernel
theorem d12 : decode yB 12 = .ok (.if_icmp (.ge) 20, 3) := by decide +kernel
theorem d15 : decode yB 15 = .ok (.aload_n 0, 1) := by decide +kernel
theorem d16 : decode yB 16 = .ok (.iload_n 2, 1) := by decide +kernel
theorem d17 : decode yB 17 = .ok (.baload, 1) := by decide +kernel
theorem d18 : decode yB 18 = .ok (.aload_n 1, 1) := by decide +kernel
theorem d19 : decode yB 19 = .ok (.iload_n 2, 1) := by decide +kernel
theorem d20 : decode yB 20 = .ok (.baload, 1) := by decide +kernel
theorem d21 : decode yB 21 = .ok (.if_icmp (.eq) 5, 3) := by decide +kernel
theorem d24 : decode yB 24 = .ok (.iconst 0, 1) := by decide +kernel
theorem d25 : decode yB 25 = .ok (.ireturn, 1) := by decide +kernel
theorem d26 : decode yB 26 = .ok (.iinc 2 1, 3) := by decide +kernel
theorem d29 : decode yB 29 = .ok (.goto (-20), 3) := by decide +kernel
theorem d32 : decode yB 32 = .ok (.iconst 1, 1) := by decide +kernel
theorem d33 : decode yB 33 = .ok (.ireturn, 1) := by decide +kernel
theorem d34 : decode yB 34 = .ok (.iconst 0, 1) := by decide +kernel
theorem d35 : decode yB 35 = .ok (.ireturn, 1) := by decide +kernel
def site : List Cond := []
def tab : Cond := tabOf yN yB 3 (some .boolean) site
def P (a : Addr) (A : Cell) (b : Addr) (B : Cell) (args : Array Value) (s : State) : Prop := args = #[.ref a, .ref b] ∧ XT.Arr .byte a A s ∧ Typed .byte A ∧ XT.Arr .byte b B s ∧ Typed .byte B
/-- whether two byte[] are equal, place for place -/
theorem law (l : Launch) (a : Addr) (A : Cell) (b : Addr) (B : Cell) : Law l yN 2 2 0 0 yB 3 (some .boolean) site (P a A b B) (Says01 (EqC A B)) [] 0 0 := by
  refine Law.of_walk (plainFor_of_name (by decide +kernel)) (by decide +kernel) (by decide +kernel) (by decide) (fun _ _ h => by rw [h.1]; rfl) (fun _ U U' hal hh h => ⟨h.1, h.2.1.mv hal hh, h.2.2.1, h.2.2.2.1.mv hal hh, h.2.2.2.2⟩) (fun r U U' V V' h1 hal h2 h => Says01.mv r U U' V V' h1 hal h2 h) ?_
  intro p e s m args below meth c s₁ X0 hexec hbytes hml hret hlk hnm hown hh0 W hP
  obtain ⟨rfl, hA, tA, hB, tB⟩ := hP
  have a31 := hA.2.2.2
  have b31 := hB.2.2.2
  have hA0 := hA.mv X0.warmed.alike hh0
  have hB0 := hB.mv X0.warmed.alike hh0
  have c1 : Steps p.tables e below (s₁.setTop (entryFrame m #[.ref a, .ref b] 3)) (s₁.setTop (mkF m 0 #[.val (.ref a), .val (.ref b), .unset] [])) := entry rfl
  have c2 : Steps p.tables e below (s₁.setTop (entryFrame m #[.ref a, .ref b] 3)) (s₁.setTop (mkF m 4 #[.val (.ref a), .val (.ref b), .unset] [.int (Int32.ofNat B.slots.size), .int (Int32.ofNat A.slots.size)])) := c1.trans (by
    refine XS.aloadN X0.here hexec rfl (hb hbytes d0) rfl rfl ?_
    refine X0.alen hexec hA0 rfl rfl (hb hbytes d1) ?_
    refine XS.aloadN X0.here hexec rfl (hb hbytes d2) rfl rfl ?_
    refine X0.alen hexec hB0 rfl rfl (hb hbytes d3) ?_
    exact Steps.refl _)
  by_cases hs : A.slots.size = B.slots.size
  · have c3 : Steps p.tables e below (s₁.setTop (entryFrame m #[.ref a, .ref b] 3)) (s₁.setTop (mkF m 9 #[.val (.ref a), .val (.ref b), .val (.int 0)] [])) := c2.trans (by
      refine XS.icmpNo X0.here hexec rfl (hb hbytes d4) rfl (ii_ne_f (by rw [hs])) ?_
      refine iconstV X0.here hexec rfl 0 (hb hbytes d7) (by decide) ?_
      refine XS.istoreN X0.here hexec rfl (hb hbytes d8) rfl rfl ?_
      exact Steps.refl _)
    have loop : ∀ (r i : Nat), i + r = A.slots.size → (∀ j, j < i → yv A j = yv B j) → Steps p.tables e below (s₁.setTop (entryFrame m #[.ref a, .ref b] 3)) (s₁.setTop (mkF m 9 #[.val (.ref a), .val (.ref b), .val (.int (Int32.ofNat i))] [])) → ∃ (pc : Nat) (Ls : Array Slot) (v : Int32), (pc = 25 ∨ pc = 33) ∧ ((v = 1 ∧ EqC A B) ∨ (v = 0 ∧ ¬ EqC A B)) ∧ Steps p.tables e below (s₁.setTop (entryFrame m #[.ref a, .ref b] 3)) (s₁.setTop (mkF m pc Ls [.int v])) := by
      intro r
      induction r with
      | zero =>
        intro i hi he cl
        exact ⟨33, _, 1, Or.inr rfl, Or.inl ⟨rfl, hs, fun j hj => he j (by omega)⟩, cl.trans (by
          refine XS.iloadN X0.here hexec rfl (hb hbytes d9) rfl ?_
          refine XS.aloadN X0.here hexec rfl (hb hbytes d10) rfl rfl ?_
          refine X0.alen hexec hA0 rfl rfl (hb hbytes d11) ?_
          refine XS.icmpYes X0.here hexec rfl (pc0 := 12) rfl (hb hbytes d12) rfl (ii_ge_t (nlt32 (by omega) (by omega))) (by decide) rfl ?_
          refine iconstV X0.here hexec rfl 1 (hb hbytes d32) (by decide) ?_
          exact Steps.refl _)⟩
      | succ r ih =>
        intro i hi he cl
        have c4 : Steps p.tables e below (s₁.setTop (entryFrame m #[.ref a, .ref b] 3)) (s₁.setTop (mkF m 21 #[.val (.ref a), .val (.ref b), .val (.int (Int32.ofNat i))] [.int (yv B i), .int (yv A i)])) := cl.trans (by
          refine XS.iloadN X0.here hexec rfl (hb hbytes d9) rfl ?_
          refine XS.aloadN X0.here hexec rfl (hb hbytes d10) rfl rfl ?_
          refine X0.alen hexec hA0 rfl rfl (hb hbytes d11) ?_
          refine XS.icmpNo X0.here hexec rfl (hb hbytes d12) rfl (ii_ge_f (lt32 (by omega) (by omega))) ?_
          refine XS.aloadN X0.here hexec rfl (hb hbytes d15) rfl rfl ?_
          refine XS.iloadN X0.here hexec rfl (hb hbytes d16) rfl ?_
          refine X0.aget hexec hA0 rfl (yv_get hA tA (i := i) (by omega)) rfl rfl (hb hbytes d17) ?_
          refine XS.aloadN X0.here hexec rfl (hb hbytes d18) rfl rfl ?_
          refine XS.iloadN X0.here hexec rfl (hb hbytes d19) rfl ?_
          refine X0.aget hexec hB0 rfl (yv_get hB tB (i := i) (by omega)) rfl rfl (hb hbytes d20) ?_
          exact Steps.refl _)
        by_cases hv : yv A i = yv B i
        · have c5 : Steps p.tables e below (s₁.setTop (entryFrame m #[.ref a, .ref b] 3)) (s₁.setTop (mkF m 9 #[.val (.ref a), .val (.ref b), .val (.int (Int32.ofNat i + 1))] [])) := c4.trans (by
            refine XS.icmpYes X0.here hexec rfl (pc0 := 21) rfl (hb hbytes d21) rfl (ii_eq_t hv) (by decide) rfl ?_
            refine iincV X0.here hexec rfl 1 (hb hbytes d26) (by decide) rfl rfl ?_
            refine XS.goto X0.here hexec rfl (pc0 := 29) rfl (hb hbytes d29) (by decide) rfl ?_
            exact Steps.refl _)
          rw [succ32] at c5
          exact ih (i + 1) (by omega) (fun j hj => by
            by_cases e : j = i
            · rw [e]; exact hv
            · exact he j (by omega)) c5
        · exact ⟨25, _, 0, Or.inl rfl, Or.inr ⟨rfl, fun q => hv (q.2 i (by omega))⟩, c4.trans (by
            refine XS.icmpNo X0.here hexec rfl (hb hbytes d21) rfl (ii_eq_f hv) ?_
            refine iconstV X0.here hexec rfl 0 (hb hbytes d24) (by decide) ?_
            exact Steps.refl _)⟩
    obtain ⟨pc, Ls, v, hpc, hv, cz⟩ := loop A.slots.size 0 (by omega) (fun j hj => absurd hj (Nat.not_lt_zero j)) c3
    have nv : narrow .boolean (.int v) = .int v := by rcases hv with ⟨rfl, -⟩ | ⟨rfl, -⟩ <;> rfl
    rcases hpc with rfl | rfl
    · exact ⟨s₁, some (.int v), _, _, _, X0, rfl, rfl, rfl, (fun h => by cases h), ⟨v, rfl, hh0, hv⟩, fun fs hl => cz.trans (X0.ireturnOut hexec hret nv (Or.inr (Or.inl rfl)) (hb hbytes d25) hl)⟩
    · exact ⟨s₁, some (.int v), _, _, _, X0, rfl, rfl, rfl, (fun h => by cases h), ⟨v, rfl, hh0, hv⟩, fun fs hl => cz.trans (X0.ireturnOut hexec hret nv (Or.inr (Or.inl rfl)) (hb hbytes d33) hl)⟩
  · have c3 : Steps p.tables e below (s₁.setTop (entryFrame m #[.ref a, .ref b] 3)) (s₁.setTop (mkF m 35 #[.val (.ref a), .val (.ref b), .unset] [.int 0])) := c2.trans (by
      refine XS.icmpYes X0.here hexec rfl (pc0 := 4) rfl (hb hbytes d4) rfl (ii_ne_t (ne32 a31 b31 hs)) (by decide) rfl ?_
      refine iconstV X0.here hexec rfl 0 (hb hbytes d34) (by decide) ?_
      exact Steps.refl _)
    exact ⟨s₁, some (.int 0), _, _, _, X0, rfl, rfl, rfl, (fun h => by cases h), ⟨0, rfl, hh0, Or.inr ⟨rfl, fun q => hs q.1⟩⟩, fun fs hl => c3.trans (X0.ireturnOut hexec hret rfl (Or.inr (Or.inl rfl)) (hb hbytes d35) hl)⟩
end LEq
theorem Cod.ty {cd : Int32} {n : Nat} {f : Nat → Int32} {V : Cell} (h : Cod cd n f V) : Typed .byte V := fun i v hv => by
  have hi : i < V.slots.size := (Array.getElem?_eq_some_iff.mp hv).1
  rcases h with ⟨-, k1, k2⟩ | ⟨-, k1, k2, -⟩
  · rw [(k2 i (by omega)).1] at hv; cases hv; exact fits_lo8 _
  · rcases Nat.mod_two_eq_zero_or_one i with e | e
    · obtain ⟨j, rfl⟩ : ∃ j, i = 2 * j := ⟨i / 2, by omega⟩
      rw [(k2 j (by omega)).1] at hv; cases hv; exact fits_lo8 _
    · obtain ⟨j, rfl⟩ : ∃ j, i = 2 * j + 1 := ⟨i / 2, by omega⟩
      rw [(k2 j (by omega)).2] at hv; cases hv; exact fits_lo8 _
/-- the same text -/
def SameT (n : Nat) (f : Nat → Int32) (k : Nat) (g : Nat → Int32) : Prop := n = k ∧ ∀ j, j < n → f j = g j
theorem lo8_inj {x y : Int32} (h0 : ¬ x < 0) (h1 : ¬ 255 < x) (k0 : ¬ y < 0) (k1 : ¬ 255 < y) (h : lo8 x = lo8 y) : x = y := by
  rw [← lo8_mask h0 h1, ← lo8_mask k0 k1, h]
/-- arrays coded by one coder are equal just where the texts are -/
theorem Cod.eqv {cd : Int32} {n k : Nat} {f g : Nat → Int32} {V V' : Cell} (h : Cod cd n f V) (h' : Cod cd k g V') (hf : ∀ j, j < n → ¬ f j < 0 ∧ ¬ 65535 < f j) (hg : ∀ j, j < k → ¬ g j < 0 ∧ ¬ 65535 < g j) : EqC V V' ↔ SameT n f k g := by
  have yvv : ∀ {W : Cell} {i : Nat} {x : Int32}, W.slots[i]? = some (.int x) → yv W i = x := fun q => by unfold yv; rw [q]
  rcases h with ⟨rfl, k1, k2⟩ | ⟨rfl, k1, k2, -⟩
  · rcases h' with ⟨-, m1, m2⟩ | ⟨e, -⟩
    · constructor
      · rintro ⟨e1, e2⟩
        refine ⟨by omega, fun j hj => ?_⟩
        have q := e2 j (by omega)
        rw [yvv (k2 j hj).1, yvv (m2 j (by omega)).1] at q
        exact lo8_inj (hf j hj).1 (k2 j hj).2 (hg j (by omega)).1 (m2 j (by omega)).2 q
      · rintro ⟨rfl, e2⟩
        refine ⟨by omega, fun j hj => ?_⟩
        rw [yvv (k2 j (by omega)).1, yvv (m2 j (by omega)).1, e2 j (by omega)]
    · exact absurd e (by decide)
  · rcases h' with ⟨e, -⟩ | ⟨-, m1, m2, -⟩
    · exact absurd e (by decide)
    · constructor
      · rintro ⟨e1, e2⟩
        refine ⟨by omega, fun j hj => ?_⟩
        have q1 := e2 (2 * j) (by omega)
        have q2 := e2 (2 * j + 1) (by omega)
        rw [yvv (k2 j hj).1, yvv (m2 j (by omega)).1] at q1
        rw [yvv (k2 j hj).2, yvv (m2 j (by omega)).2] at q2
        rw [← pair_says (hf j hj).1 (hf j hj).2, ← pair_says (hg j (by omega)).1 (hg j (by omega)).2, q1, q2]
      · rintro ⟨rfl, e2⟩
        refine ⟨by omega, fun i hi => ?_⟩
        rcases Nat.mod_two_eq_zero_or_one i with e | e
        · obtain ⟨j, rfl⟩ : ∃ j, i = 2 * j := ⟨i / 2, by omega⟩
          rw [yvv (k2 j (by omega)).1, yvv (m2 j (by omega)).1, e2 j (by omega)]
        · obtain ⟨j, rfl⟩ : ∃ j, i = 2 * j + 1 := ⟨i / 2, by omega⟩
          rw [yvv (k2 j (by omega)).2, yvv (m2 j (by omega)).2, e2 j (by omega)]
/-- two codings differ: so do the texts -/
theorem Cod.dif {cd cd' : Int32} {n k : Nat} {f g : Nat → Int32} {V V' : Cell} (h : Cod cd n f V) (h' : Cod cd' k g V') (hne : ¬ cd = cd') : ¬ SameT n f k g := by
  rintro ⟨rfl, e⟩
  rcases h with ⟨rfl, -, k2⟩ | ⟨rfl, -, -, j, hj, hw⟩
  · rcases h' with ⟨rfl, -⟩ | ⟨-, -, -, j, hj, hw⟩
    · exact hne rfl
    · exact (k2 j hj).2 (by rw [e j hj]; exact hw)
  · rcases h' with ⟨-, -, m2⟩ | ⟨rfl, -⟩
    · exact (m2 j hj).2 (by rw [← e j hj]; exact hw)
    · exact hne rfl
/-- an object of exactly C is an instance of C -/
theorem cinst {p : Program} {l : Launch} {e : Env} {R : Room} {s : State} {m : MethodId} {args : Array Value} {below : List Frame} {meth : Method} {c : Code} {T : State} {locs : List Loc} {cells slots : Nat} (X : Stand p l e R s m args below meth c T locs cells slots) (hexec : p.tables.exec = Jvm.exec) {own C : String} {index : Nat} (hown : s.vm.findClass own = some m.cls) (hlink : (Cond.classLink own index C).before args s = true) {a : Addr} (hE : Exact C a T)
    {g : JFrame} (hg : g.method = m) {rest : List Value} (hstack : g.stack = .ref a :: rest) (hdg : decode c.code g.pc = .ok (.instanceof index, 3)) :
    ∃ T', Stand p l e R s m args below meth c T' locs cells slots ∧ T'.heap = T.heap ∧ ∀ target, Steps p.tables e below (T'.setTop { g with pc := g.pc + 3, stack := .int 1 :: rest }) target → Steps p.tables e below (T.setTop g) target := by
  obtain ⟨cB, h1, D, h2, h3, h4⟩ := hE
  have h1' : s.vm.findClass C = some cB := by rw [← X.warmed.alike.findClass]; exact h1
  obtain ⟨vm', X', st⟩ := X.instanceofYes hexec hown hlink h2 h4 h1' (by rw [h3]; exact Jvm.Free.SB.assignable_self _ _) hg hstack hdg
  exact ⟨_, X', rfl, st⟩
theorem cself {p : Program} {l : Launch} {e : Env} {R : Room} {s : State} {m : MethodId} {args : Array Value} {below : List Frame} {meth : Method} {c : Code} {T : State} {locs : List Loc} {cells slots : Nat} (X : Stand p l e R s m args below meth c T locs cells slots) (hexec : p.tables.exec = Jvm.exec) {own C : String} {index : Nat} (hown : s.vm.findClass own = some m.cls) (hlink : (Cond.classLink own index C).before args s = true) {a : Addr} (hE : Exact C a T)
    {g : JFrame} (hg : g.method = m) {rest : List Value} (hstack : g.stack = .ref a :: rest) (hdg : decode c.code g.pc = .ok (.checkcast index, 3)) :
    ∃ T', Stand p l e R s m args below meth c T' locs cells slots ∧ T'.heap = T.heap ∧ ∀ target, Steps p.tables e below (T'.setTop { g with pc := g.pc + 3, stack := .ref a :: rest }) target → Steps p.tables e below (T.setTop g) target := by
  obtain ⟨cB, h1, D, h2, h3, h4⟩ := hE
  have h1' : s.vm.findClass C = some cB := by rw [← X.warmed.alike.findClass]; exact h1
  obtain ⟨vm', X', st⟩ := X.checkcastYes hexec hown hlink h2 h4 h1' (by rw [h3]; exact Jvm.Free.SB.assignable_self _ _) hg hstack hdg
  exact ⟨_, X', rfl, fun t h => st t (by rw [← hstack] at h; exact h)⟩
namespace SEq
def yN : MethodName := ⟨"java/lang/String", "equals", "(Ljava/lang/Object;)Z"⟩
abbrev yB : ByteArray := jdk_42_method_66_code
theorem d0 : decode yB 0 = .ok (.aload_n 0, 1) := by decide +kernel
theorem d1 : decode yB 1 = .ok (.aload_n 1, 1) := by decide +kernel
theorem d2 : decode yB 2 = .ok (.if_acmp (.ne) 5, 3) := by decide +kernel
theorem d5 : decode yB 5 = .ok (.iconst 1, 1) := by decide +kernel
theorem d6 : decode yB 6 = .ok (.ireturn, 1) := by decide +kernel
theorem d7 : decode yB 7 = .ok (.aload_n 1, 1) := by decide +kernel
theorem d8 : decode yB 8 = .ok (.instanceof 10, 3) := by decide +kernel
theorem d11 : decode yB 11 = .ok (.ifCond (.eq) 43, 3) := by decide +kernel
theorem d14 : decode yB 14 = .ok (.aload_n 1, 1) := by decide +kernel
theorem d15 : decode yB 15 = .ok (.checkcast 10, 3) := by decide +kernel
theorem d18 : decode yB 18 = .ok (.astore_n 2, 1) := by decide +kernel
theorem d19 : decode yB 19 = .ok (.getstatic 38, 3) := by decide +kernel
theorem d22 : decode yB 22 = .ok (.ifCond (.eq) 14, 3) := by decide +kernel
theorem d25 : decode yB 25 = .ok (.aload_n 0, 1) := by decide +kernel
theorem d26 : decode yB 26 = .ok (.getfield 15, 3) := by decide +kernel
theorem d29 : decode yB 29 = .ok (.aload_n 2, 1) := by decide +kernel
theorem d30 : decode yB 30 = .ok (.getfield 15, 3) := by decide +kernel
theorem d33 : decode yB 33 = .ok (.if_icmp (.ne) 21, 3) := by decide +kernel
theorem d36 : decode yB 36 = .ok (.aload_n 0, 1) := by decide +kernel
theorem d37 : decode yB 37 = .ok (.getfield 9, 3) := by decide +kernel
theorem d40 : decode yB 40 = .ok (.aload_n 2, 1) := by decide +kernel
theorem d41 : decode yB 41 = .ok (.getfield 9, 3) := by decide +kernel
theorem d44 : decode yB 44 = .ok (.invokestatic 541, 3) := by decide +kernel
theorem d47 : decode yB 47 = .ok (.ifCond (.eq) 7, 3) := by decide +kernel
theorem d50 : decode yB 50 = .ok (.iconst 1, 1) := by decide +kernel
theorem d51 : decode yB 51 = .ok (.goto 4, 3) := by decide +kernel
theorem d54 : decode yB 54 = .ok (.iconst 0, 1) := by decide +kernel
theorem d55 : decode yB 55 = .ok (.ireturn, 1) := by decide +kernel
def site : List Cond := [.classLink "java/lang/String" 10 "java/lang/String", .fieldLink "java/lang/String" 38 "java/lang/String" "COMPACT_STRINGS" "Z", .fieldLink "java/lang/String" 15 "java/lang/String" "coder" "B", .fieldLink "java/lang/String" 9 "java/lang/String" "value" "[B", LEq.tab] ++ staticW "java/lang/String" 541 LEq.yN
def tab : Cond := tabOf yN yB 3 (some .boolean) site
def P (x t : Addr) (V : Cell) (cd : Int32) (n : Nat) (f : Nat → Int32) (y t' : Addr) (V' : Cell) (cd' : Int32) (k : Nat) (g : Nat → Int32) (z : Int32) (args : Array Value) (s : State) : Prop := args = #[.ref x, .ref y] ∧ Txt x t V cd n f s ∧ Txt y t' V' cd' k g s ∧ StaticIs s "java/lang/String" "COMPACT_STRINGS" "Z" (.int z) ∧ ¬ z = 0
/-- equals(Object) of two Strings: whether the texts are the same -/
theorem law (l : Launch) (x t : Addr) (V : Cell) (cd : Int32) (n : Nat) (f : Nat → Int32) (y t' : Addr) (V' : Cell) (cd' : Int32) (k : Nat) (g : Nat → Int32) (z : Int32) : Law l yN 2 1 1 14 yB 3 (some .boolean) site (P x t V cd n f y t' V' cd' k g z) (Says01 (SameT n f k g)) [] 0 0 := by
  refine Law.of_walk (plainFor_of_name (by decide +kernel)) (by decide +kernel) (by decide +kernel) (by decide) (fun _ _ h => by rw [h.1]; rfl) (fun _ U U' hal hh h => ⟨h.1, h.2.1.mv hal hh, h.2.2.1.mv hal hh, h.2.2.2.1.there hal hh, h.2.2.2.2⟩) (fun r U U' V V' h1 hal h2 h => Says01.mv r U U' V V' h1 hal h2 h) ?_
  intro p e s m args below meth c s₁ X0 hexec hbytes hml hret hlk hnm hown hh0 W hP
  obtain ⟨rfl, hx, hy, s1, hz⟩ := hP
  have c1 : Steps p.tables e below (s₁.setTop (entryFrame m #[.ref x, .ref y] 3)) (s₁.setTop (mkF m 2 #[.val (.ref x), .val (.ref y), .unset] [.ref y, .ref x])) := Steps.trans (entry rfl) (by
    show Steps p.tables e below (s₁.setTop (mkF m 0 #[.val (.ref x), .val (.ref y), .unset] [])) _
    refine XS.aloadN X0.here hexec rfl (hb hbytes d0) rfl rfl ?_
    refine XS.aloadN X0.here hexec rfl (hb hbytes d1) rfl rfl ?_
    exact Steps.refl _)
  by_cases hxy : x = y
  · have c2 : Steps p.tables e below (s₁.setTop (entryFrame m #[.ref x, .ref y] 3)) (s₁.setTop (mkF m 6 #[.val (.ref x), .val (.ref y), .unset] [.int 1])) := c1.trans (by
      refine acmpNo X0.here hexec rfl (hb hbytes d2) rfl rfl rfl (by simp [acmp, hxy]) ?_
      refine iconstV X0.here hexec rfl 1 (hb hbytes d5) (by decide) ?_
      exact Steps.refl _)
    subst hxy
    have ec : cd = cd' := by
      obtain ⟨D, fd, a1, a2, a3⟩ := hx.2.2.1
      obtain ⟨D', fd', b1, b2, b3⟩ := hy.2.2.1
      cases a1.symm.trans b1
      obtain ⟨q1, q2, q3, q4⟩ := a2.1
      obtain ⟨r1, r2, r3, r4⟩ := b2.1
      cases q4.symm.trans r4
      cases a3.symm.trans b3; rfl
    have et : t = t' := by
      obtain ⟨D, fd, a1, a2, a3⟩ := hx.2.1
      obtain ⟨D', fd', b1, b2, b3⟩ := hy.2.1
      cases a1.symm.trans b1
      obtain ⟨q1, q2, q3, q4⟩ := a2.1
      obtain ⟨r1, r2, r3, r4⟩ := b2.1
      cases q4.symm.trans r4
      cases a3.symm.trans b3; rfl
    subst ec et
    have ev : V = V' := by cases hx.2.2.2.1.1.symm.trans hy.2.2.2.1.1; rfl
    subst ev
    have hs : SameT n f k g := (Cod.eqv hx.2.2.2.2.1 hy.2.2.2.2.1 hx.2.2.2.2.2 hy.2.2.2.2.2).mp ⟨rfl, fun _ _ => rfl⟩
    exact ⟨s₁, some (.int 1), _, _, _, X0, rfl, rfl, rfl, (fun h => by cases h), ⟨1, rfl, hh0, Or.inl ⟨rfl, hs⟩⟩, fun fs hl => c2.trans (X0.ireturnOut hexec hret rfl (Or.inr (Or.inl rfl)) (hb hbytes d6) hl)⟩
  · have c2 : Steps p.tables e below (s₁.setTop (entryFrame m #[.ref x, .ref y] 3)) (s₁.setTop (mkF m 8 #[.val (.ref x), .val (.ref y), .unset] [.ref y])) := c1.trans (by
      refine acmpYes X0.here hexec rfl (pc0 := 2) rfl (hb hbytes d2) rfl rfl rfl (by simp [acmp, hxy]) (by decide) rfl ?_
      refine XS.aloadN X0.here hexec rfl (hb hbytes d7) rfl rfl ?_
      exact Steps.refl _)
    obtain ⟨T3, X3, q3, st3⟩ := cinst X0 hexec hown (wk W (.classLink "java/lang/String" 10 "java/lang/String")) (hy.mv X0.warmed.alike hh0).1 (g := (mkF m 8 #[.val (.ref x), .val (.ref y), .unset] [.ref y])) rfl (rest := []) rfl (hb hbytes d8)
    have hh3 := q3.trans hh0
    have c4 : Steps p.tables e below (s₁.setTop (entryFrame m #[.ref x, .ref y] 3)) (T3.setTop (mkF m 15 #[.val (.ref x), .val (.ref y), .unset] [.ref y])) := (c2.trans (st3 _ (Steps.refl _))).trans (by
      refine XS.ifNo X3.here hexec rfl (hb hbytes d11) rfl (i0_eq_f (by decide)) ?_
      refine XS.aloadN X3.here hexec rfl (hb hbytes d14) rfl rfl ?_
      exact Steps.refl _)
    obtain ⟨T5, X5, q5, st5⟩ := cself X3 hexec hown (wk W (.classLink "java/lang/String" 10 "java/lang/String")) (hy.mv X3.warmed.alike hh3).1 (g := (mkF m 15 #[.val (.ref x), .val (.ref y), .unset] [.ref y])) rfl (rest := []) rfl (hb hbytes d15)
    have hh5 := q5.trans hh3
    have c6 : Steps p.tables e below (s₁.setTop (entryFrame m #[.ref x, .ref y] 3)) (T5.setTop (mkF m 19 #[.val (.ref x), .val (.ref y), .val (.ref y)] [])) := (c4.trans (st5 _ (Steps.refl _))).trans (by
      refine XS.astoreN X5.here hexec rfl (hb hbytes d18) rfl rfl rfl ?_
      exact Steps.refl _)
    obtain ⟨T7, X7, q7, st7⟩ := X5.sget hexec hown (wk W (.fieldLink "java/lang/String" 38 "java/lang/String" "COMPACT_STRINGS" "Z")) s1 (fun _ _ h => by rw [hh5]; exact h) (g := (mkF m 19 #[.val (.ref x), .val (.ref y), .val (.ref y)] [])) rfl (hb hbytes d19)
    have hh7 := q7.trans hh5
    have c8 : Steps p.tables e below (s₁.setTop (entryFrame m #[.ref x, .ref y] 3)) (T7.setTop (mkF m 26 #[.val (.ref x), .val (.ref y), .val (.ref y)] [.ref x])) := (c6.trans (st7 _ (Steps.refl _))).trans (by
      refine XS.ifNo X7.here hexec rfl (hb hbytes d22) rfl (i0_eq_f hz) ?_
      refine XS.aloadN X7.here hexec rfl (hb hbytes d25) rfl rfl ?_
      exact Steps.refl _)
    obtain ⟨T9, X9, q9, st9⟩ := X7.hget hexec hown (wk W (.fieldLink "java/lang/String" 15 "java/lang/String" "coder" "B")) (hx.mv X7.warmed.alike hh7).2.2.1 (g := (mkF m 26 #[.val (.ref x), .val (.ref y), .val (.ref y)] [.ref x])) rfl (rest := []) rfl (hb hbytes d26)
    have hh9 := q9.trans hh7
    have c10 : Steps p.tables e below (s₁.setTop (entryFrame m #[.ref x, .ref y] 3)) (T9.setTop (mkF m 30 #[.val (.ref x), .val (.ref y), .val (.ref y)] [.ref y, .int cd])) := (c8.trans (st9 _ (Steps.refl _))).trans (by
      refine XS.aloadN X9.here hexec rfl (hb hbytes d29) rfl rfl ?_
      exact Steps.refl _)
    obtain ⟨T11, X11, q11, st11⟩ := X9.hget hexec hown (wk W (.fieldLink "java/lang/String" 15 "java/lang/String" "coder" "B")) (hy.mv X9.warmed.alike hh9).2.2.1 (g := (mkF m 30 #[.val (.ref x), .val (.ref y), .val (.ref y)] [.ref y, .int cd])) rfl (rest := [.int cd]) rfl (hb hbytes d30)
    have hh11 := q11.trans hh9
    have c12 : Steps p.tables e below (s₁.setTop (entryFrame m #[.ref x, .ref y] 3)) (T11.setTop (mkF m 33 #[.val (.ref x), .val (.ref y), .val (.ref y)] [.int cd', .int cd])) := c10.trans (st11 _ (Steps.refl _))
    by_cases hcd : cd = cd'
    · subst hcd
      have c13 : Steps p.tables e below (s₁.setTop (entryFrame m #[.ref x, .ref y] 3)) (T11.setTop (mkF m 37 #[.val (.ref x), .val (.ref y), .val (.ref y)] [.ref x])) := c12.trans (by
        refine XS.icmpNo X11.here hexec rfl (hb hbytes d33) rfl (ii_ne_f rfl) ?_
        refine XS.aloadN X11.here hexec rfl (hb hbytes d36) rfl rfl ?_
        exact Steps.refl _)
      obtain ⟨T14, X14, q14, st14⟩ := X11.hget hexec hown (wk W (.fieldLink "java/lang/String" 9 "java/lang/String" "value" "[B")) (hx.mv X11.warmed.alike hh11).2.1 (g := (mkF m 37 #[.val (.ref x), .val (.ref y), .val (.ref y)] [.ref x])) rfl (rest := []) rfl (hb hbytes d37)
      have hh14 := q14.trans hh11
      have c15 : Steps p.tables e below (s₁.setTop (entryFrame m #[.ref x, .ref y] 3)) (T14.setTop (mkF m 41 #[.val (.ref x), .val (.ref y), .val (.ref y)] [.ref y, .ref t])) := (c13.trans (st14 _ (Steps.refl _))).trans (by
        refine XS.aloadN X14.here hexec rfl (hb hbytes d40) rfl rfl ?_
        exact Steps.refl _)
      obtain ⟨T16, X16, q16, st16⟩ := X14.hget hexec hown (wk W (.fieldLink "java/lang/String" 9 "java/lang/String" "value" "[B")) (hy.mv X14.warmed.alike hh14).2.1 (g := (mkF m 41 #[.val (.ref x), .val (.ref y), .val (.ref y)] [.ref y, .ref t])) rfl (rest := [.ref t]) rfl (hb hbytes d41)
      have hh16 := q16.trans hh14
      have c17 : Steps p.tables e below (s₁.setTop (entryFrame m #[.ref x, .ref y] 3)) (T16.setTop (mkF m 44 #[.val (.ref x), .val (.ref y), .val (.ref y)] [.ref t', .ref t])) := c15.trans (st16 _ (Steps.refl _))
      obtain ⟨v18, T18, X18, E18, g18⟩ := X16.callS hexec (LEq.law l t V t' V') hown (wks W (staticW "java/lang/String" 541 LEq.yN)) (wk W LEq.tab) (W := 0) (Nat.le_of_ble_eq_true rfl) (Nat.le_of_ble_eq_true rfl) (Nat.le_refl _) (Nat.le_refl _) (g := (mkF m 44 #[.val (.ref x), .val (.ref y), .val (.ref y)] [.ref t', .ref t])) rfl (by rw [hml]; rfl) c17 (argsL := [.ref t, .ref t']) (rest := []) rfl rfl (by show 2 * 0 + 0 ≤ _; decide) (hb hbytes d44) (⟨rfl, hx.2.2.2.1.mv X16.warmed.alike hh16, hx.2.2.2.2.1.ty, hy.2.2.2.1.mv X16.warmed.alike hh16, hy.2.2.2.2.1.ty⟩)
      obtain ⟨v, rfl, q18, hv⟩ := E18
      have iff := Cod.eqv hx.2.2.2.2.1 hy.2.2.2.2.1 hx.2.2.2.2.2 hy.2.2.2.2.2
      rcases hv with ⟨rfl, he⟩ | ⟨rfl, he⟩
      · have c19 : Steps p.tables e below (s₁.setTop (entryFrame m #[.ref x, .ref y] 3)) (T18.setTop (mkF m 55 #[.val (.ref x), .val (.ref y), .val (.ref y)] [.int 1])) := Steps.trans g18 (by
          refine XS.ifNo X18.here hexec rfl (hb hbytes d47) rfl (i0_eq_f (by decide)) ?_
          refine iconstV X18.here hexec rfl 1 (hb hbytes d50) (by decide) ?_
          refine XS.goto X18.here hexec rfl (pc0 := 51) rfl (hb hbytes d51) (by decide) rfl ?_
          exact Steps.refl _)
        exact ⟨T18, some (.int 1), _, _, _, X18, rfl, rfl, rfl, (fun h => by cases h), ⟨1, rfl, q18.trans hh16, Or.inl ⟨rfl, iff.mp he⟩⟩, fun fs hl => c19.trans (X18.ireturnOut hexec hret rfl (Or.inr (Or.inl rfl)) (hb hbytes d55) hl)⟩
      · have c19 : Steps p.tables e below (s₁.setTop (entryFrame m #[.ref x, .ref y] 3)) (T18.setTop (mkF m 55 #[.val (.ref x), .val (.ref y), .val (.ref y)] [.int 0])) := Steps.trans g18 (by
          refine XS.ifYes X18.here hexec rfl (pc0 := 47) rfl (hb hbytes d47) rfl (i0_eq_t rfl) (by decide) rfl ?_
          refine iconstV X18.here hexec rfl 0 (hb hbytes d54) (by decide) ?_
          exact Steps.refl _)
        exact ⟨T18, some (.int 0), _, _, _, X18, rfl, rfl, rfl, (fun h => by cases h), ⟨0, rfl, q18.trans hh16, Or.inr ⟨rfl, fun q => he (iff.mpr q)⟩⟩, fun fs hl => c19.trans (X18.ireturnOut hexec hret rfl (Or.inr (Or.inl rfl)) (hb hbytes d55) hl)⟩
    · have c13 : Steps p.tables e below (s₁.setTop (entryFrame m #[.ref x, .ref y] 3)) (T11.setTop (mkF m 55 #[.val (.ref x), .val (.ref y), .val (.ref y)] [.int 0])) := c12.trans (by
        refine XS.icmpYes X11.here hexec rfl (pc0 := 33) rfl (hb hbytes d33) rfl (ii_ne_t hcd) (by decide) rfl ?_
        refine iconstV X11.here hexec rfl 0 (hb hbytes d54) (by decide) ?_
        exact Steps.refl _)
      exact ⟨T11, some (.int 0), _, _, _, X11, rfl, rfl, rfl, (fun h => by cases h), ⟨0, rfl, hh11, Or.inr ⟨rfl, Cod.dif hx.2.2.2.2.1 hy.2.2.2.2.1 hcd⟩⟩, fun fs hl => c13.trans (X11.ireturnOut hexec hret rfl (Or.inr (Or.inl rfl)) (hb hbytes d55) hl)⟩
theorem pays {l : Launch} {R : Room} {p : Program} {e : Env} {below : List Frame} {s : State} {sargs : Array Value} {len W : Nat} (x t : Addr) (V : Cell) (cd : Int32) (n : Nat) (f : Nat → Int32) (y t' : Addr) (V' : Cell) (cd' : Int32) (k : Nat) (g : Nat → Int32) (z : Int32) (htab : tab.before sargs s = true) (hfr : 2 ≤ R.frames) (hlo : W + 28 ≤ R.locals) :
    Back l R p e below s sargs yN len W (fun A₁ a₁ => A₁.cells + 0 ≤ R.cells ∧ A₁.slots + 0 ≤ R.slots ∧ P x t V cd n f y t' V' cd' k g z a₁ A₁.U) (fun A₁ _ v₁ B₁ => Says01 (SameT n f k g) v₁ A₁.U B₁.U ∧ B₁.locs = A₁.locs ++ [] ∧ B₁.cells = A₁.cells + 0 ∧ B₁.slots = A₁.slots + 0) :=
  (law l x t V cd n f y t' V' cd' k g z).pays htab hfr (by omega)
end SEq
end StrChars
namespace StrChars.Road
open Jvm Sem ClassFile Op Lib Jvm.Stand Jvm.Free Jvm.Free.XT
open Jvm.Lib.Cold (StaticIs)
/-- the words of String.equals(Object) -/
abbrev wordsEq : List Jvm.Cond := [.code SEq.yN SEq.yB 3 (some .boolean), .initialized ST, .classLink ST 10 ST, .fieldLink ST 38 ST "COMPACT_STRINGS" "Z", .fieldLink ST 15 ST "coder" "B", .fieldLink ST 9 ST "value" "[B", .methodLink ST 541 LEq.yN, .static LEq.yN, .code LEq.yN LEq.yB 3 (some .boolean), .initialized "java/lang/StringLatin1"]
theorem tabEq_of {a : Array Value} {s : State} (h : ∀ w ∈ wordsEq, w.before a s = true) : SEq.tab.before a s = true := by
  have hl : LEq.tab.before a s = true := unparts (wk h (.code LEq.yN LEq.yB 3 (some .boolean))) (wks h (.initialized LEq.yN.cls :: LEq.site))
  have q := consq hl h
  exact unparts (wk q (.code SEq.yN SEq.yB 3 (some .boolean))) (wks q (.initialized SEq.yN.cls :: SEq.site))
theorem movedEq {Z s : State} {a0 args : Array Value} (hZ : Z.Warmed39 s.vm) (hw : ∀ d ∈ wordsEq, d.before a0 Z = true) : ∀ d ∈ wordsEq, d.before args s = true := fun d hd => by
  have t : ∀ d ∈ wordsEq, (d.onTables && d.keepsFace) = true := by decide +kernel
  exact RoadKit.mv hZ (hw d hd) (t d hd)
/-- the road's facts of a String, as the laws ask it -/
theorem txt_of {Z U : State} {a0 : Array Value} {kI : Nat} (wi : (Jvm.Cond.instantiable ST kI).before a0 Z = true) (al : Z.vm.Alike U.vm) {x t : Addr} {kb : ClassId} {cs : List Int32} {cd N2 : Int32} {vs : List Value} (E : RoadKit.Exa Z U.heap x ST) (V : RoadKit.Fld Z U.heap x ST "value" "[B" (.ref t)) (C : RoadKit.Fld Z U.heap x ST "coder" "B" (.int cd)) (K : RoadKit.Arv Z U.heap t kb .byte N2 vs (.int 0)) (hc : CodA cs cd N2 vs) (hb : ∀ c ∈ cs, ¬ c < 0 ∧ ¬ (65535 : Int32) < c) (l2 : cs.length ≤ 4000) :
    ∃ A, Txt x t A cd cs.length (fun j => cs.getD j 0) U := by
  obtain ⟨A, K1, K2, K3, K4, K5, K6⟩ := K
  have hcod := hc.cod (by omega) K3 K5
  obtain ⟨D, fV, fC, hB, F1, F2, g1, g2, -, -⟩ := strObj wi al E V C
  exact ⟨A, ⟨_, hB.2.2.1, D, hB.1, rfl, by cases q : D.vm <;> first | rfl | exact absurd q (hB.2.1.2 _)⟩, Has.of hB F1 g1, Has.of hB F2 g2, ⟨K1.1, State.isArrayOf_alike al K1.2.1, K1.2.2, by rcases hcod with ⟨-, q, -⟩ | ⟨-, q, -⟩ <;> omega⟩, hcod, fun j hj => by
    have e : cs.getD j 0 = cs[j] := by simp [List.getD_eq_getElem?_getD, hj]
    show ¬ cs.getD j 0 < 0 ∧ ¬ 65535 < cs.getD j 0
    rw [e]; exact hb _ (List.getElem_mem _)⟩
theorem same_list (cs ds : List Int32) : SameT cs.length (fun j => cs.getD j 0) ds.length (fun j => ds.getD j 0) ↔ cs = ds := by
  constructor
  · rintro ⟨e, q⟩
    refine List.ext_getElem e fun j h1 h2 => ?_
    have := q j h1
    simpa [List.getD_eq_getElem?_getD, h1, h2] using this
  · rintro rfl
    exact ⟨rfl, fun _ _ => rfl⟩
/-- **equals(Object) OF TWO SUCH STRINGS**: 1 just where the chars are the same -/
theorem eqW {p : Program} {l : Launch} {e : Env} {R : Room} {s : State} {args : Array Value} {below : List Frame} {len W : Nat} {Z : State} {a0 : Array Value} {h : Heap} (hZ : Z.Warmed39 s.vm) (hw : ∀ d ∈ wordsEq, d.before a0 Z = true) {kI : Nat} (wi : (Jvm.Cond.instantiable ST kI).before a0 Z = true)
    {x t : Addr} {kb : ClassId} {cs : List Int32} {cd N2 : Int32} {vs : List Value} (E : RoadKit.Exa Z h x ST) (V : RoadKit.Fld Z h x ST "value" "[B" (.ref t)) (C : RoadKit.Fld Z h x ST "coder" "B" (.int cd)) (K : RoadKit.Arv Z h t kb .byte N2 vs (.int 0)) (hc : CodA cs cd N2 vs) (hb : ∀ c ∈ cs, ¬ c < 0 ∧ ¬ (65535 : Int32) < c) (l2 : cs.length ≤ 4000)
    {y t' : Addr} {kb' : ClassId} {ds : List Int32} {cd' N2' : Int32} {vs' : List Value} (E' : RoadKit.Exa Z h y ST) (V' : RoadKit.Fld Z h y ST "value" "[B" (.ref t')) (C' : RoadKit.Fld Z h y ST "coder" "B" (.int cd')) (K' : RoadKit.Arv Z h t' kb' .byte N2' vs' (.int 0)) (hc' : CodA ds cd' N2' vs') (hb' : ∀ c ∈ ds, ¬ c < 0 ∧ ¬ (65535 : Int32) < c) (l2' : ds.length ≤ 4000)
    {z : Int32} (S : RoadKit.Sta Z h ST "COMPACT_STRINGS" "Z" (.int z)) (hz : ¬ z = 0) (hfr : 2 ≤ R.frames) (hlo : W + 28 ≤ R.locals) :
    Back l R p e below s args (⟨"java/lang/String", "equals", "(Ljava/lang/Object;)Z"⟩ : MethodName) len W (fun P a => a = #[.ref x, .ref y] ∧ P.U.heap = h ∧ P.cells + 0 ≤ R.cells ∧ P.slots + 0 ≤ R.slots)
      (fun P _ v B => ∃ L, (((v = some (.int 1) ∧ cs = ds) ∨ (v = some (.int 0) ∧ ¬ cs = ds)) ∧ L = [] ∧ B.U.heap = h) ∧ B.locs = P.locs ++ L ∧ B.cells = P.cells + 0 ∧ B.slots = P.slots + 0) := by
  intro m meth c P g ig mk a X hg hsize hdg hW hn hp'
  obtain ⟨rfl, rfl, r1, r2⟩ := hp'
  have al : Z.vm.Alike P.U.vm := hZ.alike.trans X.warmed.alike
  obtain ⟨A, hx⟩ := txt_of wi al E V C K hc hb l2
  obtain ⟨A', hy⟩ := txt_of wi al E' V' C' K' hc' hb' l2'
  obtain ⟨v, B, X', ⟨⟨w, hv, hh, hq⟩, hl, hk, hs⟩, st⟩ := SEq.pays x t A cd cs.length (fun j => cs.getD j 0) y t' A' cd' ds.length (fun j => ds.getD j 0) z (tabEq_of (movedEq hZ hw)) hfr hlo m meth c P g ig mk _ X hg hsize hdg hW hn ⟨r1, r2, rfl, hx, hy, sta_is al S, hz⟩
  refine ⟨v, B, X', ⟨[], ⟨?_, rfl, hh⟩, hl, hk, hs⟩, st⟩
  rcases hq with ⟨rfl, q⟩ | ⟨rfl, q⟩
  · exact Or.inl ⟨hv, (same_list cs ds).mp q⟩
  · exact Or.inr ⟨hv, fun e => q ((same_list cs ds).mpr e)⟩
end StrChars.Road
namespace StrChars.Road
open Jvm Sem ClassFile Op Lib Jvm.Stand Jvm.Free Jvm.Free.XT
open Jvm.Lib.Cold (StaticIs)
/-- what backV says of its String, as the contracts of this text ask it: cs's low bytes, coder 0 -/
theorem codOf {cs : List Int32} {n : Nat} (hn : cs.length = n) (hb : ∀ c ∈ cs, ¬ 255 < c) : CodA cs 0 (Int32.ofNat n) ((cs.map lo8).map Value.int) := Or.inl ⟨rfl, by rw [hn], by simp [List.map_map, Function.comp_def], hb⟩
end StrChars.Road
end Jvm.Pilot.@@N@@
namespace Jvm.Pilot.@@N@@
open Jvm Jvm.ClassFile Sem Op Lib Jvm.Free Jvm.Stand Jvm.LawKit Jvm.RoadKit Jvm.Own Bundle Jvm.Pilot.@@N@@.Jvm.D
theorem hwsV (Z : State) (a0 : Array Value) (hw : ∀ d ∈ tables_1, d.before a0 Z = true) : ∀ d ∈ StrChars.Road.words, d.before a0 Z = true := fun d hd => hw d ((by decide +kernel : ∀ d ∈ StrChars.Road.words, d ∈ tables_1) d hd)
theorem hwsE (Z : State) (a0 : Array Value) (hw : ∀ d ∈ tables_1, d.before a0 Z = true) : ∀ d ∈ StrChars.Road.wordsEq, d.before a0 Z = true := fun d hd => hw d ((by decide +kernel : ∀ d ∈ StrChars.Road.wordsEq, d ∈ tables_1) d hd)
/-- x is a String of the chars cs (each 0 to 255), its cells below b -/
def Str (Z : State) (h : Heap) (b : Nat) (x : Addr) (cs : List Int32) : Prop :=
  x < b ∧ Exa Z h x "java/lang/String" ∧ Fld Z h x "java/lang/String" "coder" "B" (.int 0) ∧
    (∃ (t : Addr) (k : ClassId), t < b ∧ Fld Z h x "java/lang/String" "value" "[B" (.ref t) ∧ Arv Z h t k .byte (Int32.ofNat cs.length) ((cs.map fun c => c.toInt8.toInt32).map Value.int) (.int 0)) ∧
    (∀ c ∈ cs, ¬ c < 0 ∧ ¬ (255 : Int32) < c) ∧ cs.length ≤ 4000
section StrFacts
variable {Z : State} {h h' : Heap} {b : Nat} {x a : Addr} {cs : List Int32} {ws : List Addr} {sl : Nat} {v : Value}
theorem Str.of {t : Addr} {k : ClassId} {N : Int32} {bs : List Int32} (E : Exa Z h x "java/lang/String") (C : Fld Z h x "java/lang/String" "coder" "B" (.int 0)) (F : Fld Z h x "java/lang/String" "value" "[B" (.ref t)) (A : Arv Z h t k .byte N (bs.map Value.int) (.int 0)) (hN : N = Int32.ofNat cs.length) (hb : bs = cs.map fun c => c.toInt8.toInt32)
    (hp : ∀ c ∈ cs, ¬ c < 0 ∧ ¬ (255 : Int32) < c) (hl : cs.length ≤ 4000) : Str Z h h.size x cs := by subst hN hb; exact ⟨E.lt, E, C, ⟨t, k, A.lt, F, A⟩, hp, hl⟩
theorem Str.keep (S : Str Z h b x cs) (K : Keep h h' ws) (q : ∀ w ∈ ws, b ≤ w) : Str Z h' b x cs := by
  obtain ⟨l1, E, C, ⟨t, k, l2, F, A⟩, r⟩ := S
  have n1 : x ∉ ws := fun m => absurd (q _ m) (Nat.not_le_of_lt l1)
  have n2 : t ∉ ws := fun m => absurd (q _ m) (Nat.not_le_of_lt l2)
  exact ⟨l1, E.keep K, C.keep K n1, ⟨t, k, l2, F.keep K n1, A.keep K n2⟩, r⟩
theorem Str.wr (S : Str Z h b x cs) (W : Wr h h' a sl v) (q : b ≤ a) : Str Z h' b x cs := S.keep (Keep.of_wr W) (allS q all0)
theorem Str.ext (S : Str Z h b x cs) (E : Ext h h') : Str Z h' b x cs := by
  obtain ⟨l1, E1, C, ⟨t, k, l2, F, A⟩, r⟩ := S
  exact ⟨l1, E1.ext E, C.ext E, ⟨t, k, l2, F.ext E, A.ext E⟩, r⟩
end StrFacts
theorem pn_0 : plainName "java/lang/String" = true := by first | (simp [plainName, overriddenIn]; done) | decide +kernel
theorem d_jdk_42_m149_0 : decode jdk_42_method_149_code 0 = .ok (.aload_n 0, 1) := by decide +kernel
theorem d_jdk_42_m149_1 : decode jdk_42_method_149_code 1 = .ok (.invokespecial 1, 3) := by decide +kernel
theorem d_jdk_42_m149_4 : decode jdk_42_method_149_code 4 = .ok (.iload_n 3, 1) := by decide +kernel
theorem d_jdk_42_m149_5 : decode jdk_42_method_149_code 5 = .ok (.ifCond .ne 22, 3) := by decide +kernel
theorem d_jdk_42_m149_8 : decode jdk_42_method_149_code 8 = .ok (.aload_n 0, 1) := by decide +kernel
theorem d_jdk_42_m149_9 : decode jdk_42_method_149_code 9 = .ok (.ldc 7, 2) := by decide +kernel
theorem d_jdk_42_m149_11 : decode jdk_42_method_149_code 11 = .ok (.getfield 9, 3) := by decide +kernel
theorem d_jdk_42_m149_14 : decode jdk_42_method_149_code 14 = .ok (.putfield 9, 3) := by decide +kernel
theorem d_jdk_42_m149_17 : decode jdk_42_method_149_code 17 = .ok (.aload_n 0, 1) := by decide +kernel
theorem d_jdk_42_m149_18 : decode jdk_42_method_149_code 18 = .ok (.ldc 7, 2) := by decide +kernel
theorem d_jdk_42_m149_20 : decode jdk_42_method_149_code 20 = .ok (.getfield 15, 3) := by decide +kernel
theorem d_jdk_42_m149_23 : decode jdk_42_method_149_code 23 = .ok (.putfield 15, 3) := by decide +kernel
theorem d_jdk_42_m149_26 : decode jdk_42_method_149_code 26 = .ok (.return_, 1) := by decide +kernel
def QE1 (Z : State) (x b : Addr) (h0 : Heap) (n0 : Nat) (v : Option Value) (h : Heap) (L : List Loc) : Prop := v = none ∧ Fr n0 L ∧ Keep h0 h [x] ∧ Exa Z h x "java/lang/String" ∧ Fld Z h x "java/lang/String" "coder" "B" (.int 0) ∧ ∃ (t : Addr) (k : ClassId), Fld Z h x "java/lang/String" "value" "[B" (.ref t) ∧ Arv Z h t k .byte (0 : Int32) [] (.int (0 : Int32))
set_option maxRecDepth 65536 in
set_option maxHeartbeats 40000000 in
theorem rmE1 (l : Launch) (Z : State) (a0 : Array Value) (hw : ∀ d ∈ tables_1, d.before a0 Z = true) (ws : List Jvm.Cond) (x b : Addr) (h0 : Heap) (n0 : Nat) (X00 : Old Z n0 h0) (hEL : EW Z a0 consts_1) (wS : ∀ a ∈ Bundle.stringAtoms, a.before a0 Z = true) (ge_x : n0 ≤ x) (E : Exa Z h0 x "java/lang/String") (FV : Fld Z h0 x "java/lang/String" "value" "[B" .null) (FC : Fld Z h0 x "java/lang/String" "coder" "B" (.int (0 : Int32))) :
    MetFree l (⟨"java/lang/String", "<init>", "([CIILjava/lang/Void;)V"⟩ : MethodName) (head1 (Jvm.Cond.code (⟨"java/lang/String", "<init>", "([CIILjava/lang/Void;)V"⟩ : MethodName) jdk_42_method_149_code 6 none :: ws) ({ frames := 1, cells := 4, slots := 8, locals := 16 } : Room)) (fun aa U => aa = #[(.ref x), (.ref b), (.int (0 : Int32)), (.int (0 : Int32)), .null] ∧ Z.Warmed39 U.vm ∧ U.heap = h0 ∧ CHv Z consts_1 U.vm h0 ∧ ∀ zz ∈ ([x] : List Addr), Safe Z consts_1 U.vm h0 zz) (fun _ _ _ _ _ => True) (fun _ U o U' => ∃ v L, o = .returned v ∧ QE1 Z x b h0 n0 v U'.heap L ∧ CHr Z consts_1 U.vm U.heap U'.vm U'.heap ∧ ReturnedEndW U o U' L ({ frames := 1, cells := 4, slots := 8, locals := 16 } : Room).cells ({ frames := 1, cells := 4, slots := 8, locals := 16 } : Room).slots) := by
  refine MetFree.of_bodySF (plainFor_of_name pn_0) hisR ?_
  intro p e s m args below meth c s₁ Bd hml0 hP hK
  obtain ⟨rfl, hZ, hh, H0, hsf⟩ := hP
  have hx := Bd.exec
  have hby := Bd.bytes
  have hml : c.maxLocals = 6 := hml0
  have hown : s.vm.findClass "java/lang/String" = some m.cls := findClass_of_methodNamed Bd.named
  have hnm := (name_of_methodNamed Bd.named Bd.method).1
  have X0 : Stand p l e ({ frames := 1, cells := 4, slots := 8, locals := 16 } : Room) (s.setVm s.vm) m #[(.ref x), (.ref b), (.int (0 : Int32)), (.int (0 : Int32)), .null] below meth c s₁ [] 0 0 := Stand.of_body Bd
  have e0 : s₁.heap = h0 := by rw [← hh, Bd.state]; rfl
  have N0 := Fr.nil n0
  have K0 := Keep.refl h0 [x]
  have hS0 : s.Since s.vm h0.size := (State.WarmedH.refl s).since _
  have hk0 := Nat.le_refl h0.size
  have C0 : CHr Z consts_1 s.vm h0 s.vm h0 := CHr.refl H0
  have sx0 : Safe Z consts_1 s.vm h0 x := hsf _ (List.mem_of_getElem? (i := 0) rfl)
  have ef : entryFrame m #[(.ref x), (.ref b), (.int (0 : Int32)), (.int (0 : Int32)), .null] 6 = mkF m 0 #[.val (.ref x), .val (.ref b), .val (.int (0 : Int32)), .val (.int (0 : Int32)), .val .null, .unset] [] := (by first | (simp [entryFrame, mkF, argsToLocals, Value.category]; done) | rfl : entryFrame m #[(.ref x), (.ref b), (.int (0 : Int32)), (.int (0 : Int32)), .null] 6 = mkF m 0 #[.val (.ref x), .val (.ref b), .val (.int (0 : Int32)), .val (.int (0 : Int32)), .val .null, .unset] [])
  rw [ef]
  refine fin_of fun Kx hF => ?_
  show Go p.tables e below Kx s₁ (mkF m 0 #[.val (.ref x), .val (.ref b), .val (.int (0 : Int32)), .val (.int (0 : Int32)), .val .null, .unset] [])
  refine s_aloadN (pc' := 1) X0.here hx (hb hby d_jdk_42_m149_0) rfl rfl rfl ?_
  obtain ⟨T1, X1, e1, st1⟩ := initO X0 hx hZ hown (hw _ (List.mem_of_getElem? (i := 18) rfl)) (hw _ (List.mem_of_getElem? (i := 19) rfl)) (hw _ (List.mem_of_getElem? (i := 20) rfl)) e0 (g := (mkF m 1 #[.val (.ref x), .val (.ref b), .val (.int (0 : Int32)), .val (.int (0 : Int32)), .val .null, .unset] [(.ref x)])) rfl (by rw [hml]; rfl) rfl (hb hby d_jdk_42_m149_1) (by decide) (W := 0) (by show 2 * 0 + _ ≤ _; exact Nat.le_of_eq rfl) (by decide)
  refine Go.st st1 ?_
  show Go p.tables e below Kx T1 (mkF m 4 #[.val (.ref x), .val (.ref b), .val (.int (0 : Int32)), .val (.int (0 : Int32)), .val .null, .unset] [])
  refine s_iloadN (pc' := 5) X1.here hx (hb hby d_jdk_42_m149_4) rfl rfl ?_
  refine s_ifN (pc' := 8) X1.here hx (hb hby d_jdk_42_m149_5) rfl ((if0 _ _).trans (teq (by decide)).2) ?_
  refine s_aloadN (pc' := 9) X1.here hx (hb hby d_jdk_42_m149_8) rfl rfl rfl ?_
  obtain ⟨a2, T2, h2, k12, b2, k2, X2, e2, E2, hS2, hk2, hZ2, hown2, A2, FC2, FV2, V2, la2, lb2, Cr2, Lt2, sx2, st2⟩ := ldcCH X1 hx hZ hown (hw _ (List.mem_of_getElem? (i := 21) rfl)) wS e1 hS0 hk0 hEL (List.mem_of_getElem? (i := 0) rfl) H0 (vs := []) (z := (0 : Int32)) (by decide) (by decide) (by decide) (g := (mkF m 9 #[.val (.ref x), .val (.ref b), .val (.int (0 : Int32)), .val (.int (0 : Int32)), .val .null, .unset] [(.ref x)])) rfl (hb hby d_jdk_42_m149_9) (n := 0) (by decide) (by decide) (by decide) (by decide)
  have sf3 : Safe Z consts_1 T2.vm h2 x := Cr2.safe E.lt sx0
  have C2 := C0.trans Cr2
  have K2 : Keep h0 h2 [x] := K0.ext E2
  have O2 : Old Z n0 h2 := X00.ext E2
  refine Go.st st2 ?_
  show Go p.tables e below Kx T2 (mkF m 11 #[.val (.ref x), .val (.ref b), .val (.int (0 : Int32)), .val (.int (0 : Int32)), .val .null, .unset] [(.ref a2), (.ref x)])
  obtain ⟨T4, X4, e4, st4⟩ := getF X2 hx hZ2 hown2 (host := "") (Or.inl (hw _ (List.mem_of_getElem? (i := 27) rfl))) Via.refl e2 FV2 (g := (mkF m 11 #[.val (.ref x), .val (.ref b), .val (.int (0 : Int32)), .val (.int (0 : Int32)), .val .null, .unset] [(.ref a2), (.ref x)])) rfl rfl (hb hby d_jdk_42_m149_11)
  refine Go.st st4 ?_
  show Go p.tables e below Kx T4 (mkF m 14 #[.val (.ref x), .val (.ref b), .val (.int (0 : Int32)), .val (.int (0 : Int32)), .val .null, .unset] [(.ref b2), (.ref x)])
  have f5 : Fld Z h2 x "java/lang/String" "value" "[B" .null := (FV.ext E2)
  have f6 : Exa Z h2 x "java/lang/String" := (E.ext E2)
  obtain ⟨T7, h7, X7, e7, W7, st7⟩ := putF X4 hx hZ2 hown2 (host := "") (Or.inl (hw _ (List.mem_of_getElem? (i := 27) rfl))) Via.refl e4 f5 f6 (Or.inr ⟨(hw _ (List.mem_of_getElem? (i := 23) rfl)), rfl, hnm⟩) (hw _ (List.mem_of_getElem? (i := 8) rfl)) (ty := (.array .byte)) (by decide) rfl rfl (g := (mkF m 14 #[.val (.ref x), .val (.ref b), .val (.int (0 : Int32)), .val (.int (0 : Int32)), .val .null, .unset] [(.ref b2), (.ref x)])) rfl rfl (hb hby d_jdk_42_m149_14)
  have Fw7 : Fld Z h7 x "java/lang/String" "value" "[B" (.ref b2) := f5.same W7
  have K7 : Keep h0 h7 [x] := K2.wr W7 (Or.inl (List.mem_of_getElem? (i := 0) rfl))
  have O7 : Old Z n0 h7 := O2.wr W7 ge_x
  have sf8 : Safe Z consts_1 T2.vm h7 x := (Safe.wr W7 sf3 Cr2.1 sf3)
  have H7 : CHv Z consts_1 T2.vm h7 := Cr2.1.wr W7 sf3
  have C7 : CHr Z consts_1 s.vm h0 T2.vm h7 := C2.trans (CHr.wr W7 sf3 Cr2.1)
  have hk7 := Nat.le_trans hk2 (Nat.le_of_eq W7.size.symm)
  have N7 := Fr.snoc X7 N0 ge_x
  refine Go.st st7 ?_
  show Go p.tables e below Kx T7 (mkF m 17 #[.val (.ref x), .val (.ref b), .val (.int (0 : Int32)), .val (.int (0 : Int32)), .val .null, .unset] [])
  refine s_aloadN (pc' := 18) X7.here hx (hb hby d_jdk_42_m149_17) rfl rfl rfl ?_
  obtain ⟨a9, T9, h9, k19, b9, k9, X9, e9, E9, hS9, hk9, hZ9, hown9, A9, FC9, FV9, V9, la9, lb9, Cr9, Lt9, sx9, st9⟩ := ldcCH X7 hx hZ2 hown2 (hw _ (List.mem_of_getElem? (i := 21) rfl)) wS e7 hS2 hk7 hEL (List.mem_of_getElem? (i := 0) rfl) H7 (vs := []) (z := (0 : Int32)) (by decide) (by decide) (by decide) (g := (mkF m 18 #[.val (.ref x), .val (.ref b), .val (.int (0 : Int32)), .val (.int (0 : Int32)), .val .null, .unset] [(.ref x)])) rfl (hb hby d_jdk_42_m149_18) (n := 0) (by decide) (by decide) (by decide) (by decide)
  have sf10 : Safe Z consts_1 T9.vm h9 x := Cr9.safe (Nat.lt_of_lt_of_le E.lt (Nat.le_trans E2.1 (Nat.le_of_eq W7.size.symm))) sf8
  have C9 := C7.trans Cr9
  have K9 : Keep h0 h9 [x] := K7.ext E9
  have O9 : Old Z n0 h9 := O7.ext E9
  refine Go.st st9 ?_
  show Go p.tables e below Kx T9 (mkF m 20 #[.val (.ref x), .val (.ref b), .val (.int (0 : Int32)), .val (.int (0 : Int32)), .val .null, .unset] [(.ref a9), (.ref x)])
  obtain ⟨T11, X11, e11, st11⟩ := getF X9 hx hZ9 hown9 (host := "") (Or.inl (hw _ (List.mem_of_getElem? (i := 28) rfl))) Via.refl e9 FC9 (g := (mkF m 20 #[.val (.ref x), .val (.ref b), .val (.int (0 : Int32)), .val (.int (0 : Int32)), .val .null, .unset] [(.ref a9), (.ref x)])) rfl rfl (hb hby d_jdk_42_m149_20)
  refine Go.st st11 ?_
  show Go p.tables e below Kx T11 (mkF m 23 #[.val (.ref x), .val (.ref b), .val (.int (0 : Int32)), .val (.int (0 : Int32)), .val .null, .unset] [(.int (0 : Int32)), (.ref x)])
  have f12 : Fld Z h9 x "java/lang/String" "coder" "B" (.int (0 : Int32)) := (((FC.ext E2).other W7 (Or.inr (slot_ne (Or.inr (hw _ (List.mem_of_getElem? (i := 24) rfl))) (Or.inr (hw _ (List.mem_of_getElem? (i := 23) rfl))) (by decide) (t := .byte) (t' := (.array .byte)) (by decide) (by decide)))).ext E9)
  have f13 : Exa Z h9 x "java/lang/String" := ((f6.wr W7).ext E9)
  obtain ⟨T14, h14, X14, e14, W14, st14⟩ := putFN X11 hx hZ9 hown9 (hw _ (List.mem_of_getElem? (i := 28) rfl)) Via.refl e11 f12 f13 (Or.inr ⟨(hw _ (List.mem_of_getElem? (i := 24) rfl)), rfl, hnm⟩) (hw _ (List.mem_of_getElem? (i := 8) rfl)) (ty := .byte) (v' := (.int (0 : Int32))) (by decide) (by decide) (by decide) (g := (mkF m 23 #[.val (.ref x), .val (.ref b), .val (.int (0 : Int32)), .val (.int (0 : Int32)), .val .null, .unset] [(.int (0 : Int32)), (.ref x)])) rfl rfl (hb hby d_jdk_42_m149_23)
  have Fw14 : Fld Z h14 x "java/lang/String" "coder" "B" (.int (0 : Int32)) := f12.same W14
  have K14 : Keep h0 h14 [x] := K9.wr W14 (Or.inl (List.mem_of_getElem? (i := 0) rfl))
  have O14 : Old Z n0 h14 := O9.wr W14 ge_x
  have sf15 : Safe Z consts_1 T9.vm h14 x := (Safe.wr W14 sf10 Cr9.1 sf10)
  have H14 : CHv Z consts_1 T9.vm h14 := Cr9.1.wr W14 sf10
  have C14 : CHr Z consts_1 s.vm h0 T9.vm h14 := C9.trans (CHr.wr W14 sf10 Cr9.1)
  have hk14 := Nat.le_trans hk9 (Nat.le_of_eq W14.size.symm)
  have N14 := Fr.snoc X14 N7 ge_x
  refine Go.st st14 ?_
  show Go p.tables e below Kx T14 (mkF m 26 #[.val (.ref x), .val (.ref b), .val (.int (0 : Int32)), .val (.int (0 : Int32)), .val .null, .unset] [])
  have f16 : Exa Z h14 x "java/lang/String" := (f13.wr W14)
  have f17 : Fld Z h14 x "java/lang/String" "value" "[B" (.ref b2) := ((Fw7.ext E9).other W14 (Or.inr (slot_ne (Or.inr (hw _ (List.mem_of_getElem? (i := 23) rfl))) (Or.inr (hw _ (List.mem_of_getElem? (i := 24) rfl))) (by decide) (t := (.array .byte)) (t' := .byte) (by decide) (by decide))))
  have f18 : Arv Z h14 b2 k2 .byte (0 : Int32) [] (.int 0) := (((V2.other W7 (Ne.symm (sx2 _ sf3).2)).ext E9).other W14 (Ne.symm (sx2 _ sf3).2))
  obtain ⟨fs, hr, hrun, hended, hRW⟩ := X14.leaveW hS9 (by rw [e14]; exact hk14) (v := none) (fun _ => rfl)
  have hCx := C14.trans (CHv.at X14 hZ9 hEL H14)
  refine Go.fin (X14.returnOut hx Bd.returns (hb hby d_jdk_42_m149_26) hr) (hF _ _ hrun hended ⟨_, _, rfl, ?_, ?_, hRW.1, hRW.2.1, hRW.2.2.1, hRW.2.2.2.mono (by decide) (by decide)⟩)
  · show QE1 Z x b h0 n0 (none : Option Value) T14.heap _
    rw [e14]
    exact ⟨rfl, N14, K14, f16, Fw14, b2, _, f17, f18⟩
  · show CHr Z consts_1 s.vm s.heap T14.vm T14.heap
    rw [e14, hh]; exact hCx
theorem d_jdk_42_m3_0 : decode jdk_42_method_3_code 0 = .ok (.aload_n 0, 1) := by decide +kernel
theorem d_jdk_42_m3_1 : decode jdk_42_method_3_code 1 = .ok (.aload_n 1, 1) := by decide +kernel
theorem d_jdk_42_m3_2 : decode jdk_42_method_3_code 2 = .ok (.iconst 0, 1) := by decide +kernel
theorem d_jdk_42_m3_3 : decode jdk_42_method_3_code 3 = .ok (.aload_n 1, 1) := by decide +kernel
theorem d_jdk_42_m3_4 : decode jdk_42_method_3_code 4 = .ok (.arraylength, 1) := by decide +kernel
theorem d_jdk_42_m3_5 : decode jdk_42_method_3_code 5 = .ok (.aconst_null, 1) := by decide +kernel
theorem pd_0 : parseMethodDescriptor "([CIILjava/lang/Void;)V" = some ⟨[(.array .char), .int, .int, (.object "java/lang/Void")], none⟩ := by decide +kernel
theorem d_jdk_42_m3_6 : decode jdk_42_method_3_code 6 = .ok (.invokespecial 27, 3) := by decide +kernel
theorem d_jdk_42_m3_9 : decode jdk_42_method_3_code 9 = .ok (.return_, 1) := by decide +kernel
def QE2 (Z : State) (x b : Addr) (kc : ClassId) (h0 : Heap) (n0 : Nat) (v : Option Value) (h : Heap) (L : List Loc) : Prop := v = none ∧ Fr n0 L ∧ Keep h0 h [x] ∧ Exa Z h x "java/lang/String" ∧ Fld Z h x "java/lang/String" "coder" "B" (.int 0) ∧ ∃ (t : Addr) (k : ClassId), Fld Z h x "java/lang/String" "value" "[B" (.ref t) ∧ Arv Z h t k .byte (0 : Int32) [] (.int (0 : Int32))
set_option maxRecDepth 65536 in
set_option maxHeartbeats 40000000 in
theorem rmE2 (l : Launch) (Z : State) (a0 : Array Value) (hw : ∀ d ∈ tables_1, d.before a0 Z = true) (ws : List Jvm.Cond) (x b : Addr) (kc : ClassId) (h0 : Heap) (n0 : Nat) (X00 : Old Z n0 h0) (hEL : EW Z a0 consts_1) (wS : ∀ a ∈ Bundle.stringAtoms, a.before a0 Z = true) (ge_x : n0 ≤ x) (E : Exa Z h0 x "java/lang/String") (FV : Fld Z h0 x "java/lang/String" "value" "[B" .null) (FC : Fld Z h0 x "java/lang/String" "coder" "B" (.int (0 : Int32))) (VB : Arv Z h0 b kc .char (0 : Int32) [] (.int (0 : Int32))) :
    MetFree l (⟨"java/lang/String", "<init>", "([C)V"⟩ : MethodName) (head1 (Jvm.Cond.code (⟨"java/lang/String", "<init>", "([C)V"⟩ : MethodName) jdk_42_method_3_code 2 none :: ws) ({ frames := 2, cells := 4, slots := 8, locals := 40 } : Room)) (fun aa U => aa = #[(.ref x), (.ref b)] ∧ Z.Warmed39 U.vm ∧ U.heap = h0 ∧ CHv Z consts_1 U.vm h0 ∧ ∀ zz ∈ ([x] : List Addr), Safe Z consts_1 U.vm h0 zz) (fun _ _ _ _ _ => True) (fun _ U o U' => ∃ v L, o = .returned v ∧ QE2 Z x b kc h0 n0 v U'.heap L ∧ CHr Z consts_1 U.vm U.heap U'.vm U'.heap ∧ ReturnedEndW U o U' L ({ frames := 2, cells := 4, slots := 8, locals := 40 } : Room).cells ({ frames := 2, cells := 4, slots := 8, locals := 40 } : Room).slots) := by
  refine MetFree.of_bodySF (plainFor_of_name pn_0) hisR ?_
  intro p e s m args below meth c s₁ Bd hml0 hP hK
  obtain ⟨rfl, hZ, hh, H0, hsf⟩ := hP
  have hx := Bd.exec
  have hby := Bd.bytes
  have hml : c.maxLocals = 2 := hml0
  have hown : s.vm.findClass "java/lang/String" = some m.cls := findClass_of_methodNamed Bd.named
  have hnm := (name_of_methodNamed Bd.named Bd.method).1
  have X0 : Stand p l e ({ frames := 2, cells := 4, slots := 8, locals := 40 } : Room) (s.setVm s.vm) m #[(.ref x), (.ref b)] below meth c s₁ [] 0 0 := Stand.of_body Bd
  have e0 : s₁.heap = h0 := by rw [← hh, Bd.state]; rfl
  have N0 := Fr.nil n0
  have K0 := Keep.refl h0 [x]
  have hS0 : s.Since s.vm h0.size := (State.WarmedH.refl s).since _
  have hk0 := Nat.le_refl h0.size
  have C0 : CHr Z consts_1 s.vm h0 s.vm h0 := CHr.refl H0
  have sx0 : Safe Z consts_1 s.vm h0 x := hsf _ (List.mem_of_getElem? (i := 0) rfl)
  have ef : entryFrame m #[(.ref x), (.ref b)] 2 = mkF m 0 #[.val (.ref x), .val (.ref b)] [] := (by first | (simp [entryFrame, mkF, argsToLocals, Value.category]; done) | rfl : entryFrame m #[(.ref x), (.ref b)] 2 = mkF m 0 #[.val (.ref x), .val (.ref b)] [])
  rw [ef]
  refine fin_of fun Kx hF => ?_
  show Go p.tables e below Kx s₁ (mkF m 0 #[.val (.ref x), .val (.ref b)] [])
  refine s_aloadN (pc' := 1) X0.here hx (hb hby d_jdk_42_m3_0) rfl rfl rfl ?_
  refine s_aloadN (pc' := 2) X0.here hx (hb hby d_jdk_42_m3_1) rfl rfl rfl ?_
  refine s_iconst (pc' := 3) (v := (0 : Int32)) X0.here hx (hb hby d_jdk_42_m3_2) rfl rfl ?_
  refine s_aloadN (pc' := 4) X0.here hx (hb hby d_jdk_42_m3_3) rfl rfl rfl ?_
  obtain ⟨cl19, Ar19, Aq19, As19, An19, Ah19, Ag19⟩ := id VB
  refine Go.st (X0.arraylength hx (by rw [e0]; exact Ar19.1) (State.isArrayOf_alike hZ.alike Ar19.2.1) (g := (mkF m 4 #[.val (.ref x), .val (.ref b)] [(.ref b), (.int (0 : Int32)), (.ref b), (.ref x)])) rfl rfl (hb hby d_jdk_42_m3_4)) ?_
  rw [len_of As19 An19]
  show Go p.tables e below Kx s₁ (mkF m 5 #[.val (.ref x), .val (.ref b)] [(.int (0 : Int32)), (.int (0 : Int32)), (.ref b), (.ref x)])
  refine s_aconst_null (pc' := 6) X0.here hx (hb hby d_jdk_42_m3_5) rfl ?_
  obtain ⟨_, _, ⟨T20, L20, k20, n20⟩, -, X20, hS'20, hg'20, ⟨Lc20, hQ20, l20, y20, z20, Cr20⟩, st20⟩ := X0.specialBackS hx (y := (⟨"java/lang/String", "<init>", "([CIILjava/lang/Void;)V"⟩ : MethodName)) rfl hown (mvT hZ (hw _ (List.mem_of_getElem? (i := 14) rfl))) (mvT hZ (hw _ (List.mem_of_getElem? (i := 15) rfl))) (mvT hZ (hw _ (List.mem_of_getElem? (i := 17) rfl))) (by decide) (backX (W := 0) (rmE1 l Z a0 hw [] x b h0 n0 X00 hEL wS ge_x E FV FC) hZ (hw _ (List.mem_of_getElem? (i := 17) rfl)) (hw _ (List.mem_of_getElem? (i := 9) rfl)) (by decide) (by decide) hEL H0 (allS (P := fun zz => zz < h0.size ∧ Safe Z consts_1 s.vm h0 zz) ⟨E.lt, sx0⟩ all0)) (g := (mkF m 6 #[.val (.ref x), .val (.ref b)] [.null, (.int (0 : Int32)), (.int (0 : Int32)), (.ref b), (.ref x)])) rfl (by rw [hml]; rfl) (Steps.refl _) (a := x) (argsL := [(.ref b), (.int (0 : Int32)), (.int (0 : Int32)), .null]) (rest := []) (lenOf pd_0 rfl) rfl (by show 2 * 0 + _ ≤ _; exact Nat.le_of_eq rfl) (hb hby d_jdk_42_m3_6) (fun _ _ => ⟨rfl, e0, (by decide : 0 + 4 ≤ _), (by decide : 0 + 8 ≤ _)⟩)
  dsimp only [Pt.U, Pt.locs, Pt.cells, Pt.slots] at X20 l20 y20 z20 st20 hQ20 hS'20 hg'20 Cr20
  subst l20 y20 z20
  obtain ⟨rfl, Nq20, Kq20, q1_20, q2_20, t20, kt20, q3_20, q4_20⟩ := hQ20
  have N20 := Fr.app N0 Nq20
  have X20 : Stand p l e _ (s.setVm T20.vm) m _ below meth c T20 _ _ _ := X20
  obtain ⟨hZ20, hown20⟩ := wideOn hZ hS'20 hown
  have hS20 : s.Since T20.vm T20.heap.size := hS0.trans hS'20 (Nat.le_trans hk0 (by rw [e0] at hg'20; exact hg'20))
  have hk20 := Nat.le_refl T20.heap.size
  have sf21 : Safe Z consts_1 T20.vm T20.heap x := Cr20.safe E.lt sx0
  have C20 := C0.trans Cr20
  have K20 : Keep h0 T20.heap [x] := K0.trans Kq20 (allS (P := fun zz => zz ∈ [x] ∨ h0.size ≤ zz) (Or.inl (List.mem_of_getElem? (i := 0) rfl)) all0)
  have O20 : Old Z n0 T20.heap := X00.keep Kq20 (allS ge_x all0)
  refine Go.tr st20 ?_
  show Go p.tables e below Kx T20 (mkF m 9 #[.val (.ref x), .val (.ref b)] [])
  obtain ⟨fs, hr, hrun, hended, hRW⟩ := X20.leaveW hS20 hk20 (v := none) (fun _ => rfl)
  have hCx := C20.trans (CHv.at X20 hZ20 hEL Cr20.1)
  refine Go.fin (X20.returnOut hx Bd.returns (hb hby d_jdk_42_m3_9) hr) (hF _ _ hrun hended ⟨_, _, rfl, ?_, ?_, hRW.1, hRW.2.1, hRW.2.2.1, hRW.2.2.2.mono (by decide) (by decide)⟩)
  · show QE2 Z x b kc h0 n0 (none : Option Value) T20.heap _
    skip
    exact ⟨rfl, N20, K20, q1_20, q2_20, t20, kt20, q3_20, q4_20⟩
  · show CHr Z consts_1 s.vm s.heap T20.vm T20.heap
    rw [hh]; exact hCx
def chars (n a b : Int32) : List Int32 := if n = 0 then [] else if n = 1 then [a] else [a, b]
def lenf (p : Int32) : Int32 := (if (((p.toUInt32 >>> ((16 : Int32) &&& 31).toUInt32).toInt32) &&& (3 : Int32)) = (3 : Int32) then (2 : Int32) else (((p.toUInt32 >>> ((16 : Int32) &&& 31).toUInt32).toInt32) &&& (3 : Int32)))
def nulb (p : Int32) : Int32 := (((p.toUInt32 >>> ((18 : Int32) &&& 31).toUInt32).toInt32) &&& (1 : Int32))
def txt (p : Int32) : List Int32 := chars (lenf p) (p &&& (255 : Int32)) (((p.toUInt32 >>> ((8 : Int32) &&& 31).toUInt32).toInt32) &&& (255 : Int32))
def keyf (p : Int32) : Int32 := if lenf p = 0 then 0 else if lenf p = 1 then ((65536 : Int32) ||| (p &&& (255 : Int32))) else ((131072 : Int32) ||| (p &&& (65535 : Int32)))
theorem lenf3 (p : Int32) : lenf p = 0 ∨ lenf p = 1 ∨ lenf p = 2 := by
  have q := c_mask ((p.toUInt32 >>> ((16 : Int32) &&& 31).toUInt32).toInt32) 3 2 (by decide) (by decide)
  unfold lenf
  by_cases h : (((p.toUInt32 >>> ((16 : Int32) &&& 31).toUInt32).toInt32) &&& (3 : Int32)) = (3 : Int32)
  · rw [if_pos h]; exact Or.inr (Or.inr rfl)
  · rw [if_neg h]
    have h' : ¬ ((((p.toUInt32 >>> ((16 : Int32) &&& 31).toUInt32).toInt32) &&& (3 : Int32))).toInt = 3 := fun z => h (eq32 z)
    have e0 : (0 : Int32).toInt = 0 := rfl
    have e1 : (1 : Int32).toInt = 1 := rfl
    have e2 : (2 : Int32).toInt = 2 := rfl
    have k : ((((p.toUInt32 >>> ((16 : Int32) &&& 31).toUInt32).toInt32) &&& (3 : Int32))).toInt = 0 ∨ ((((p.toUInt32 >>> ((16 : Int32) &&& 31).toUInt32).toInt32) &&& (3 : Int32))).toInt = 1 ∨ ((((p.toUInt32 >>> ((16 : Int32) &&& 31).toUInt32).toInt32) &&& (3 : Int32))).toInt = 2 := by omega
    rcases k with k | k | k
    · exact Or.inl (eq32 k)
    · exact Or.inr (Or.inl (eq32 k))
    · exact Or.inr (Or.inr (eq32 k))
theorem key_val (p : Int32) : (lenf p = 0 → (keyf p).toInt = 0) ∧ (lenf p = 1 → (keyf p).toInt = 65536 + p.toInt % 256) ∧ (lenf p = 2 → (keyf p).toInt = 131072 + p.toInt % 65536) := by
  have m1 := c_mask p 255 8 (by decide) (by decide)
  have m2 := c_mask p 65535 16 (by decide) (by decide)
  have o1 := c_or (65536 : Int32) (p &&& 255) 16 (by decide) 65536 (by decide) (by decide) (by omega) (by omega)
  have o2 := c_or (131072 : Int32) (p &&& 65535) 16 (by decide) 65536 (by decide) (by decide) (by omega) (by omega)
  have r1 := rng32 ((65536 : Int32) ||| (p &&& 255))
  have r2 := rng32 ((131072 : Int32) ||| (p &&& 65535))
  have e1 : (65536 : Int32).toInt = 65536 := rfl
  have e2 : (131072 : Int32).toInt = 131072 := rfl
  unfold keyf
  refine ⟨fun h => by rw [if_pos h]; rfl, fun h => ?_, fun h => ?_⟩
  · rw [h, if_neg (by decide), if_pos rfl]; omega
  · rw [h, if_neg (by decide), if_neg (by decide)]; omega
theorem hi_val (p : Int32) : ((((p.toUInt32 >>> ((8 : Int32) &&& 31).toUInt32).toInt32) &&& (255 : Int32))).toInt = p.toInt % 65536 / 256 := by
  have q := c_mask ((p.toUInt32 >>> ((8 : Int32) &&& 31).toUInt32).toInt32) 255 8 (by decide) (by decide)
  have r := c_iushr p 8 8 (by decide) (by decide)
  omega
theorem key_iff (p q : Int32) : keyf p = keyf q ↔ txt p = txt q := by
  have kp := key_val p
  have kq := key_val q
  have ap := c_mask p 255 8 (by decide) (by decide)
  have aq := c_mask q 255 8 (by decide) (by decide)
  have bp := hi_val p
  have bq := hi_val q
  unfold txt chars
  rcases lenf3 p with hp | hp | hp <;> rcases lenf3 q with hq | hq | hq <;> simp only [hp, hq, if_pos, if_neg, show ¬ (1 : Int32) = 0 by decide, show ¬ (2 : Int32) = 0 by decide, show ¬ (2 : Int32) = 1 by decide, if_true, if_false, reduceIte] <;> have kp' := kp <;> simp only [hp, hq, forall_const, show ¬ (1 : Int32) = 0 by decide, show ¬ (2 : Int32) = 0 by decide, show ¬ (2 : Int32) = 1 by decide, show ¬ (0 : Int32) = 1 by decide, show ¬ (0 : Int32) = 2 by decide, show ¬ (1 : Int32) = 2 by decide, false_implies, true_and, and_true] at kp kq
  · exact ⟨fun _ => trivial, fun _ => eq32 (by omega)⟩
  · exact ⟨fun h => absurd (congrArg Int32.toInt h) (by omega), fun h => by simp at h⟩
  · exact ⟨fun h => absurd (congrArg Int32.toInt h) (by omega), fun h => by simp at h⟩
  · exact ⟨fun h => absurd (congrArg Int32.toInt h) (by omega), fun h => by simp at h⟩
  · refine ⟨fun h => ?_, fun h => ?_⟩
    · have := congrArg Int32.toInt h
      rw [show (p &&& (255 : Int32)) = (q &&& (255 : Int32)) from eq32 (by omega)]
    · have := congrArg Int32.toInt (List.cons.inj h).1
      exact eq32 (by omega)
  · exact ⟨fun h => absurd (congrArg Int32.toInt h) (by omega), fun h => by simp at h⟩
  · exact ⟨fun h => absurd (congrArg Int32.toInt h) (by omega), fun h => by simp at h⟩
  · exact ⟨fun h => absurd (congrArg Int32.toInt h) (by omega), fun h => by simp at h⟩
  · refine ⟨fun h => ?_, fun h => ?_⟩
    · have := congrArg Int32.toInt h
      rw [show (p &&& (255 : Int32)) = (q &&& (255 : Int32)) from eq32 (by omega), show (((p.toUInt32 >>> ((8 : Int32) &&& 31).toUInt32).toInt32) &&& (255 : Int32)) = (((q.toUInt32 >>> ((8 : Int32) &&& 31).toUInt32).toInt32) &&& (255 : Int32)) from eq32 (by omega)]
    · have h1 := congrArg Int32.toInt (List.cons.inj h).1
      have h2 := congrArg Int32.toInt (List.cons.inj (List.cons.inj h).2).1
      exact eq32 (by omega)
theorem key_nn (p : Int32) : ¬ keyf p = (-1 : Int32) := fun h => by
  have k := key_val p
  have q := congrArg Int32.toInt h
  have e : (-1 : Int32).toInt = -1 := rfl
  rcases lenf3 p with hp | hp | hp
  · have := k.1 hp; omega
  · have := k.2.1 hp; omega
  · have := k.2.2 hp; omega
theorem pn_1 : plainName "com/example/data_roles/dataroles/policy/MaskEqualsPinLaw" = true := by first | (simp [plainName, overriddenIn]; done) | decide +kernel
theorem d_m2_0 : decode method_2_code 0 = .ok (.iload_n 0, 1) := by decide +kernel
theorem d_m2_1 : decode method_2_code 1 = .ok (.bipush 16, 2) := by decide +kernel
theorem d_m2_3 : decode method_2_code 3 = .ok (.iushr, 1) := by decide +kernel
theorem d_m2_4 : decode method_2_code 4 = .ok (.iconst 3, 1) := by decide +kernel
theorem d_m2_5 : decode method_2_code 5 = .ok (.iand, 1) := by decide +kernel
theorem d_m2_6 : decode method_2_code 6 = .ok (.istore_n 1, 1) := by decide +kernel
theorem d_m2_7 : decode method_2_code 7 = .ok (.iload_n 1, 1) := by decide +kernel
theorem d_m2_8 : decode method_2_code 8 = .ok (.iconst 3, 1) := by decide +kernel
theorem d_m2_9 : decode method_2_code 9 = .ok (.if_icmp .ne 7, 3) := by decide +kernel
theorem d_m2_12 : decode method_2_code 12 = .ok (.iconst 2, 1) := by decide +kernel
theorem d_m2_13 : decode method_2_code 13 = .ok (.goto 4, 3) := by decide +kernel
theorem d_m2_16 : decode method_2_code 16 = .ok (.iload_n 1, 1) := by decide +kernel
theorem d_m2_17 : decode method_2_code 17 = .ok (.ireturn, 1) := by decide +kernel
def QN (Z : State) (pp : Int32) (h0 : Heap) (n0 : Nat) (v : Option Value) (h : Heap) (L : List Loc) : Prop := v = some (.int (lenf pp)) ∧ Fr n0 L ∧ h = h0
set_option maxRecDepth 65536 in
set_option maxHeartbeats 40000000 in
theorem rmN (l : Launch) (Z : State) (a0 : Array Value) (hw : ∀ d ∈ tables_1, d.before a0 Z = true) (ws : List Jvm.Cond) (pp : Int32) (h0 : Heap) (n0 : Nat) (X00 : Old Z n0 h0)  :
    MetFree l (⟨"com/example/data_roles/dataroles/policy/MaskEqualsPinLaw", "lenOf", "(I)I"⟩ : MethodName) (head1 (Jvm.Cond.code (⟨"com/example/data_roles/dataroles/policy/MaskEqualsPinLaw", "lenOf", "(I)I"⟩ : MethodName) method_2_code 2 (some .int) :: ws) ({ frames := 0, cells := 0, slots := 0, locals := 0 } : Room)) (fun aa U => aa = #[(.int pp)] ∧ Z.Warmed39 U.vm ∧ U.heap = h0) (fun _ _ _ _ _ => True) (fun _ U o U' => ∃ v L, o = .returned v ∧ QN Z pp h0 n0 v U'.heap L ∧ FrameEnd U o U' L ({ frames := 0, cells := 0, slots := 0, locals := 0 } : Room).cells ({ frames := 0, cells := 0, slots := 0, locals := 0 } : Room).slots) := by
  refine MetFree.of_bodySF (plainFor_of_name pn_1) hisR ?_
  intro p e s m args below meth c s₁ Bd hml0 hP hK
  obtain ⟨rfl, hZ, hh⟩ := hP
  have hx := Bd.exec
  have hby := Bd.bytes
  have hml : c.maxLocals = 2 := hml0
  have hown : s.vm.findClass "com/example/data_roles/dataroles/policy/MaskEqualsPinLaw" = some m.cls := findClass_of_methodNamed Bd.named
  have hnm := (name_of_methodNamed Bd.named Bd.method).1
  have X0 : Stand p l e ({ frames := 0, cells := 0, slots := 0, locals := 0 } : Room) s m #[(.int pp)] below meth c s₁ [] 0 0 := Stand.of_body Bd
  have e0 : s₁.heap = h0 := by rw [← hh, Bd.state]; rfl
  have N0 := Fr.nil n0
  have K0 := Keep.refl h0 []
  have ef : entryFrame m #[(.int pp)] 2 = mkF m 0 #[.val (.int pp), .unset] [] := (by first | (simp [entryFrame, mkF, argsToLocals, Value.category]; done) | rfl : entryFrame m #[(.int pp)] 2 = mkF m 0 #[.val (.int pp), .unset] [])
  rw [ef]
  refine fin_of fun Kx hF => ?_
  show Go p.tables e below Kx s₁ (mkF m 0 #[.val (.int pp), .unset] [])
  refine s_iloadN (pc' := 1) X0.here hx (hb hby d_m2_0) rfl rfl ?_
  refine s_bipush (pc' := 3) (v := (16 : Int32)) X0.here hx (hb hby d_m2_1) rfl rfl ?_
  refine s_iushr (pc' := 4) X0.here hx (hb hby d_m2_3) rfl rfl ?_
  refine s_iconst (pc' := 5) (v := (3 : Int32)) X0.here hx (hb hby d_m2_4) rfl rfl ?_
  refine s_iand (pc' := 6) X0.here hx (hb hby d_m2_5) rfl rfl ?_
  refine s_istoreN (pc' := 7) (Ls' := #[.val (.int pp), .val (.int (((pp.toUInt32 >>> ((16 : Int32) &&& 31).toUInt32).toInt32) &&& (3 : Int32)))]) X0.here hx (hb hby d_m2_6) rfl  rfl ?_
  refine s_iloadN (pc' := 8) X0.here hx (hb hby d_m2_7) rfl rfl ?_
  refine s_iconst (pc' := 9) (v := (3 : Int32)) X0.here hx (hb hby d_m2_8) rfl rfl ?_
  suffices J23 : Go p.tables e below Kx s₁ (mkF m 17 #[.val (.int pp), .val (.int (((pp.toUInt32 >>> ((16 : Int32) &&& 31).toUInt32).toInt32) &&& (3 : Int32)))] [(.int (if (((pp.toUInt32 >>> ((16 : Int32) &&& 31).toUInt32).toInt32) &&& (3 : Int32)) = (3 : Int32) then (2 : Int32) else (((pp.toUInt32 >>> ((16 : Int32) &&& 31).toUInt32).toInt32) &&& (3 : Int32))))]) by
    by_cases hc22 : (((pp.toUInt32 >>> ((16 : Int32) &&& 31).toUInt32).toInt32) &&& (3 : Int32)) = (3 : Int32)
    · skip
      simp only [if_pos hc22] at J23
      refine s_icmpN (pc' := 12) X0.here hx (hb hby d_m2_9) rfl (teq hc22).2 ?_
      refine s_iconst (pc' := 13) (v := (2 : Int32)) X0.here hx (hb hby d_m2_12) rfl rfl ?_
      refine s_goto (pc' := 17) X0.here hx (hb hby d_m2_13) (by decide) (by decide) ?_
      exact J23
    · skip
      simp only [if_neg hc22] at J23
      refine s_icmpY (pc' := 16) X0.here hx (hb hby d_m2_9) (feq hc22).2 (by decide) (by decide) ?_
      refine s_iloadN (pc' := 17) X0.here hx (hb hby d_m2_16) rfl rfl ?_
      exact J23
  obtain ⟨fs, hr, hrun, hended, hW, hsame⟩ := X0.leave (v := (some (.int (if (((pp.toUInt32 >>> ((16 : Int32) &&& 31).toUInt32).toInt32) &&& (3 : Int32)) = (3 : Int32) then (2 : Int32) else (((pp.toUInt32 >>> ((16 : Int32) &&& 31).toUInt32).toInt32) &&& (3 : Int32)))))) (fun h => by rw [Bd.returns] at h; cases h)
  refine Go.fin (retI X0 hx Bd.returns (hb hby d_m2_17) hr) (hF _ _ hrun hended ⟨_, _, rfl, ?_, ⟨_, rfl⟩, hW, hsame.mono (by decide) (by decide)⟩)
  · show QN Z pp h0 n0 ((some (.int (if (((pp.toUInt32 >>> ((16 : Int32) &&& 31).toUInt32).toInt32) &&& (3 : Int32)) = (3 : Int32) then (2 : Int32) else (((pp.toUInt32 >>> ((16 : Int32) &&& 31).toUInt32).toInt32) &&& (3 : Int32))))) : Option Value) s₁.heap _
    rw [e0]
    exact ⟨rfl, N0, rfl⟩
theorem d_m3_0 : decode method_3_code 0 = .ok (.iload_n 0, 1) := by decide +kernel
theorem d_m3_1 : decode method_3_code 1 = .ok (.sipush 255, 3) := by decide +kernel
theorem d_m3_4 : decode method_3_code 4 = .ok (.iand, 1) := by decide +kernel
theorem d_m3_5 : decode method_3_code 5 = .ok (.i2c, 1) := by decide +kernel
theorem d_m3_6 : decode method_3_code 6 = .ok (.istore_n 1, 1) := by decide +kernel
theorem d_m3_7 : decode method_3_code 7 = .ok (.iload_n 0, 1) := by decide +kernel
theorem d_m3_8 : decode method_3_code 8 = .ok (.bipush 8, 2) := by decide +kernel
theorem d_m3_10 : decode method_3_code 10 = .ok (.iushr, 1) := by decide +kernel
theorem d_m3_11 : decode method_3_code 11 = .ok (.sipush 255, 3) := by decide +kernel
theorem d_m3_14 : decode method_3_code 14 = .ok (.iand, 1) := by decide +kernel
theorem d_m3_15 : decode method_3_code 15 = .ok (.i2c, 1) := by decide +kernel
theorem d_m3_16 : decode method_3_code 16 = .ok (.istore_n 2, 1) := by decide +kernel
theorem d_m3_17 : decode method_3_code 17 = .ok (.iload_n 0, 1) := by decide +kernel
theorem pd_1 : parseMethodDescriptor "(I)I" = some ⟨[.int], some .int⟩ := by decide +kernel
theorem d_m3_18 : decode method_3_code 18 = .ok (.invokestatic 7, 3) := by decide +kernel
theorem d_m3_21 : decode method_3_code 21 = .ok (.istore_n 3, 1) := by decide +kernel
theorem d_m3_22 : decode method_3_code 22 = .ok (.iload_n 3, 1) := by decide +kernel
theorem d_m3_23 : decode method_3_code 23 = .ok (.ifCond .ne 14, 3) := by decide +kernel
theorem d_m3_26 : decode method_3_code 26 = .ok (.new 13, 3) := by decide +kernel
theorem d_m3_29 : decode method_3_code 29 = .ok (.dup, 1) := by decide +kernel
theorem d_m3_30 : decode method_3_code 30 = .ok (.iconst 0, 1) := by decide +kernel
theorem d_m3_31 : decode method_3_code 31 = .ok (.newarray .char, 2) := by decide +kernel
theorem pd_2 : parseMethodDescriptor "([C)V" = some ⟨[(.array .char)], none⟩ := by decide +kernel
theorem d_m3_33 : decode method_3_code 33 = .ok (.invokespecial 15, 3) := by decide +kernel
theorem d_m3_36 : decode method_3_code 36 = .ok (.areturn, 1) := by decide +kernel
theorem d_m3_37 : decode method_3_code 37 = .ok (.iload_n 3, 1) := by decide +kernel
theorem d_m3_38 : decode method_3_code 38 = .ok (.iconst 1, 1) := by decide +kernel
theorem d_m3_39 : decode method_3_code 39 = .ok (.if_icmp .ne 18, 3) := by decide +kernel
theorem d_m3_42 : decode method_3_code 42 = .ok (.new 13, 3) := by decide +kernel
theorem d_m3_45 : decode method_3_code 45 = .ok (.dup, 1) := by decide +kernel
theorem d_m3_46 : decode method_3_code 46 = .ok (.iconst 1, 1) := by decide +kernel
theorem d_m3_47 : decode method_3_code 47 = .ok (.newarray .char, 2) := by decide +kernel
theorem d_m3_49 : decode method_3_code 49 = .ok (.dup, 1) := by decide +kernel
theorem d_m3_50 : decode method_3_code 50 = .ok (.iconst 0, 1) := by decide +kernel
theorem d_m3_51 : decode method_3_code 51 = .ok (.iload_n 1, 1) := by decide +kernel
theorem d_m3_52 : decode method_3_code 52 = .ok (.castore, 1) := by decide +kernel
theorem d_m3_53 : decode method_3_code 53 = .ok (.invokespecial 15, 3) := by decide +kernel
theorem d_m3_56 : decode method_3_code 56 = .ok (.areturn, 1) := by decide +kernel
theorem d_m3_57 : decode method_3_code 57 = .ok (.new 13, 3) := by decide +kernel
theorem d_m3_60 : decode method_3_code 60 = .ok (.dup, 1) := by decide +kernel
theorem d_m3_61 : decode method_3_code 61 = .ok (.iconst 2, 1) := by decide +kernel
theorem d_m3_62 : decode method_3_code 62 = .ok (.newarray .char, 2) := by decide +kernel
theorem d_m3_64 : decode method_3_code 64 = .ok (.dup, 1) := by decide +kernel
theorem d_m3_65 : decode method_3_code 65 = .ok (.iconst 0, 1) := by decide +kernel
theorem d_m3_66 : decode method_3_code 66 = .ok (.iload_n 1, 1) := by decide +kernel
theorem d_m3_67 : decode method_3_code 67 = .ok (.castore, 1) := by decide +kernel
theorem d_m3_68 : decode method_3_code 68 = .ok (.dup, 1) := by decide +kernel
theorem d_m3_69 : decode method_3_code 69 = .ok (.iconst 1, 1) := by decide +kernel
theorem d_m3_70 : decode method_3_code 70 = .ok (.iload_n 2, 1) := by decide +kernel
theorem d_m3_71 : decode method_3_code 71 = .ok (.castore, 1) := by decide +kernel
theorem d_m3_72 : decode method_3_code 72 = .ok (.invokespecial 15, 3) := by decide +kernel
theorem d_m3_75 : decode method_3_code 75 = .ok (.areturn, 1) := by decide +kernel
def QM (Z : State) (pp : Int32) (h0 : Heap) (n0 : Nat) (v : Option Value) (h : Heap) (L : List Loc) : Prop := ∃ x : Addr, v = some (.ref x) ∧ Fr n0 L ∧ Keep h0 h [] ∧ Str Z h h.size x (txt pp)
set_option maxRecDepth 65536 in
set_option maxHeartbeats 40000000 in
theorem rmM (l : Launch) (Z : State) (a0 : Array Value) (hw : ∀ d ∈ tables_1, d.before a0 Z = true) (ws : List Jvm.Cond) (pp : Int32) (h0 : Heap) (n0 : Nat) (X00 : Old Z n0 h0) (hEL : EW Z a0 consts_1) (wS : ∀ a ∈ Bundle.stringAtoms, a.before a0 Z = true) (G1 : Int32) (S1 : Sta Z Z.heap "java/lang/String" "COMPACT_STRINGS" "Z" (.int G1)) (P1 : ¬ G1 = 0) :
    MetFree l (⟨"com/example/data_roles/dataroles/policy/MaskEqualsPinLaw", "mk", "(I)Ljava/lang/String;"⟩ : MethodName) (head1 (Jvm.Cond.code (⟨"com/example/data_roles/dataroles/policy/MaskEqualsPinLaw", "mk", "(I)Ljava/lang/String;"⟩ : MethodName) method_3_code 4 (some (.object "java/lang/String")) :: ws) ({ frames := 6, cells := 6, slots := 12, locals := 110 } : Room)) (fun aa U => aa = #[(.int pp)] ∧ Z.Warmed39 U.vm ∧ U.heap = h0 ∧ CHv Z consts_1 U.vm h0) (fun _ _ _ _ _ => True) (fun _ U o U' => ∃ v L, o = .returned v ∧ QM Z pp h0 n0 v U'.heap L ∧ CHr Z consts_1 U.vm U.heap U'.vm U'.heap ∧ ReturnedEndW U o U' L ({ frames := 6, cells := 6, slots := 12, locals := 110 } : Room).cells ({ frames := 6, cells := 6, slots := 12, locals := 110 } : Room).slots) := by
  refine MetFree.of_bodySF (plainFor_of_name pn_1) hisR ?_
  intro p e s m args below meth c s₁ Bd hml0 hP hK
  obtain ⟨rfl, hZ, hh, H0⟩ := hP
  have hx := Bd.exec
  have hby := Bd.bytes
  have hml : c.maxLocals = 4 := hml0
  have hown : s.vm.findClass "com/example/data_roles/dataroles/policy/MaskEqualsPinLaw" = some m.cls := findClass_of_methodNamed Bd.named
  have hnm := (name_of_methodNamed Bd.named Bd.method).1
  have X0 : Stand p l e ({ frames := 6, cells := 6, slots := 12, locals := 110 } : Room) (s.setVm s.vm) m #[(.int pp)] below meth c s₁ [] 0 0 := Stand.of_body Bd
  have e0 : s₁.heap = h0 := by rw [← hh, Bd.state]; rfl
  have N0 := Fr.nil n0
  have K0 := Keep.refl h0 []
  have hS0 : s.Since s.vm h0.size := (State.WarmedH.refl s).since _
  have hk0 := Nat.le_refl h0.size
  have C0 : CHr Z consts_1 s.vm h0 s.vm h0 := CHr.refl H0
  have ef : entryFrame m #[(.int pp)] 4 = mkF m 0 #[.val (.int pp), .unset, .unset, .unset] [] := (by first | (simp [entryFrame, mkF, argsToLocals, Value.category]; done) | rfl : entryFrame m #[(.int pp)] 4 = mkF m 0 #[.val (.int pp), .unset, .unset, .unset] [])
  rw [ef]
  refine fin_of fun Kx hF => ?_
  show Go p.tables e below Kx s₁ (mkF m 0 #[.val (.int pp), .unset, .unset, .unset] [])
  refine s_iloadN (pc' := 1) X0.here hx (hb hby d_m3_0) rfl rfl ?_
  refine s_sipush (pc' := 4) (v := (255 : Int32)) X0.here hx (hb hby d_m3_1) rfl rfl ?_
  refine s_iand (pc' := 5) X0.here hx (hb hby d_m3_4) rfl rfl ?_
  have ch24 := chr_mask pp
  refine s_i2c (pc' := 6) (z := (pp &&& (255 : Int32))) X0.here hx (hb hby d_m3_5) rfl (chr_i2c ch24) ?_
  refine s_istoreN (pc' := 7) (Ls' := #[.val (.int pp), .val (.int (pp &&& (255 : Int32))), .unset, .unset]) X0.here hx (hb hby d_m3_6) rfl  rfl ?_
  refine s_iloadN (pc' := 8) X0.here hx (hb hby d_m3_7) rfl rfl ?_
  refine s_bipush (pc' := 10) (v := (8 : Int32)) X0.here hx (hb hby d_m3_8) rfl rfl ?_
  refine s_iushr (pc' := 11) X0.here hx (hb hby d_m3_10) rfl rfl ?_
  refine s_sipush (pc' := 14) (v := (255 : Int32)) X0.here hx (hb hby d_m3_11) rfl rfl ?_
  refine s_iand (pc' := 15) X0.here hx (hb hby d_m3_14) rfl rfl ?_
  have ch25 := chr_mask ((pp.toUInt32 >>> ((8 : Int32) &&& 31).toUInt32).toInt32)
  refine s_i2c (pc' := 16) (z := (((pp.toUInt32 >>> ((8 : Int32) &&& 31).toUInt32).toInt32) &&& (255 : Int32))) X0.here hx (hb hby d_m3_15) rfl (chr_i2c ch25) ?_
  refine s_istoreN (pc' := 17) (Ls' := #[.val (.int pp), .val (.int (pp &&& (255 : Int32))), .val (.int (((pp.toUInt32 >>> ((8 : Int32) &&& 31).toUInt32).toInt32) &&& (255 : Int32))), .unset]) X0.here hx (hb hby d_m3_16) rfl  rfl ?_
  refine s_iloadN (pc' := 18) X0.here hx (hb hby d_m3_17) rfl rfl ?_
  obtain ⟨_, _, ⟨T26, L26, k26, n26⟩, -, X26, ⟨Lc26, hQ26, l26, y26, z26⟩, st26⟩ := Jvm.LawKit.callS X0 hx (y := (⟨"com/example/data_roles/dataroles/policy/MaskEqualsPinLaw", "lenOf", "(I)I"⟩ : MethodName)) hown (mvT hZ (hw _ (List.mem_of_getElem? (i := 4) rfl))) (mvT hZ (hw _ (List.mem_of_getElem? (i := 5) rfl))) (mvT hZ (hw _ (List.mem_of_getElem? (i := 2) rfl))) (mvT hZ (hw _ (List.mem_of_getElem? (i := 6) rfl))) (by decide) (backOf (W := 0) (rmN l Z a0 hw [] pp h0 n0 X00 ) hZ (hw _ (List.mem_of_getElem? (i := 6) rfl)) (hw _ (List.mem_of_getElem? (i := 2) rfl)) (by decide) (by decide)) (g := (mkF m 18 #[.val (.int pp), .val (.int (pp &&& (255 : Int32))), .val (.int (((pp.toUInt32 >>> ((8 : Int32) &&& 31).toUInt32).toInt32) &&& (255 : Int32))), .unset] [(.int pp)])) rfl (by rw [hml]; rfl) (argsL := [(.int pp)]) (rest := []) (lenOf pd_1 rfl) rfl (by show 2 * 0 + _ ≤ _; exact Nat.le_of_eq rfl) (hb hby d_m3_18) (fun _ _ => ⟨rfl, e0, (by decide : 0 + 0 ≤ _), (by decide : 0 + 0 ≤ _)⟩)
  dsimp only [Pt.U, Pt.locs, Pt.cells, Pt.slots] at X26 l26 y26 z26 st26 hQ26
  subst l26 y26 z26
  obtain ⟨rfl, Nq26, hE26⟩ := hQ26
  have N26 := Fr.app N0 Nq26
  refine Go.st st26 ?_
  show Go p.tables e below Kx T26 (mkF m 21 #[.val (.int pp), .val (.int (pp &&& (255 : Int32))), .val (.int (((pp.toUInt32 >>> ((8 : Int32) &&& 31).toUInt32).toInt32) &&& (255 : Int32))), .unset] [(.int (lenf pp))])
  refine s_istoreN (pc' := 22) (Ls' := #[.val (.int pp), .val (.int (pp &&& (255 : Int32))), .val (.int (((pp.toUInt32 >>> ((8 : Int32) &&& 31).toUInt32).toInt32) &&& (255 : Int32))), .val (.int (lenf pp))]) X26.here hx (hb hby d_m3_21) rfl  rfl ?_
  refine s_iloadN (pc' := 23) X26.here hx (hb hby d_m3_22) rfl rfl ?_
  by_cases hc27 : (lenf pp) = (0 : Int32)
  · skip
    refine s_ifN (pc' := 26) X26.here hx (hb hby d_m3_23) rfl ((if0 _ _).trans (teq hc27).2) ?_
    obtain ⟨T28, h28, X28, e28, E28, A28, D28, -, st28⟩ := newO X26 hx hZ hown (hw _ (List.mem_of_getElem? (i := 7) rfl)) (hw _ (List.mem_of_getElem? (i := 8) rfl)) (hw _ (List.mem_of_getElem? (i := 9) rfl)) hE26 (g := (mkF m 26 #[.val (.int pp), .val (.int (pp &&& (255 : Int32))), .val (.int (((pp.toUInt32 >>> ((8 : Int32) &&& 31).toUInt32).toInt32) &&& (255 : Int32))), .val (.int (lenf pp))] [])) rfl (hb hby d_m3_26) (by decide) (by decide)
    obtain ⟨b28, g28⟩ : ∃ z, z = h0.size := ⟨_, rfl⟩
    rw [← g28] at A28 D28 st28
    have sz28 : h0.size ≤ b28 := Nat.le_trans K0.1 (Nat.le_of_eq g28.symm)
    have ge28 : n0 ≤ b28 := Nat.le_trans (X00.1 ▸ X00.2.1) (Nat.le_of_eq g28.symm)
    have sn28 : Safe Z consts_1 s.vm h0 b28 := Safe.new (Nat.le_of_eq g28.symm)
    have K28 : Keep h0 h28 [] := K0.ext E28
    have O28 : Old Z n0 h28 := X00.ext E28
    have sf29 : Safe Z consts_1 s.vm h28 b28 := (Safe.ext E28 H0 sn28)
    have H28 : CHv Z consts_1 s.vm h28 := H0.ext E28
    have C28 : CHr Z consts_1 s.vm h0 s.vm h28 := C0.trans (CHr.ext E28 H0)
    have hk28 := Nat.le_trans hk0 E28.1
    have F28_value : Fld Z h28 b28 "java/lang/String" "value" "[B" .null := D28 (Or.inr (hw _ (List.mem_of_getElem? (i := 23) rfl))) (ty := (.array .byte)) (by decide)
    have F28_coder : Fld Z h28 b28 "java/lang/String" "coder" "B" (.int (0 : Int32)) := D28 (Or.inr (hw _ (List.mem_of_getElem? (i := 24) rfl))) (ty := .byte) (by decide)
    refine Go.st st28 ?_
    show Go p.tables e below Kx T28 (mkF m 29 #[.val (.int pp), .val (.int (pp &&& (255 : Int32))), .val (.int (((pp.toUInt32 >>> ((8 : Int32) &&& 31).toUInt32).toInt32) &&& (255 : Int32))), .val (.int (lenf pp))] [(.ref b28)])
    refine s_dup (pc' := 30) X28.here hx (hb hby d_m3_29) rfl rfl ?_
    refine s_iconst (pc' := 31) (v := (0 : Int32)) X28.here hx (hb hby d_m3_30) rfl rfl ?_
    obtain ⟨T30, h30, k30, X30, e30, E30, A30, st30⟩ := newP X28 hx hZ (hw _ (List.mem_of_getElem? (i := 10) rfl)) e28 (g := (mkF m 31 #[.val (.int pp), .val (.int (pp &&& (255 : Int32))), .val (.int (((pp.toUInt32 >>> ((8 : Int32) &&& 31).toUInt32).toInt32) &&& (255 : Int32))), .val (.int (lenf pp))] [(.int (0 : Int32)), (.ref b28), (.ref b28)])) rfl (hb hby d_m3_31) rfl (by decide) (cap := 0) (by decide) (by decide) (by decide) (by decide)
    obtain ⟨b30, g30⟩ : ∃ z, z = h28.size := ⟨_, rfl⟩
    rw [← g30] at A30 st30
    have sz30 : h0.size ≤ b30 := Nat.le_trans K28.1 (Nat.le_of_eq g30.symm)
    have ge30 : n0 ≤ b30 := Nat.le_trans (O28.1 ▸ O28.2.1) (Nat.le_of_eq g30.symm)
    have sn30 : Safe Z consts_1 s.vm h28 b30 := Safe.new (Nat.le_of_eq g30.symm)
    have K30 : Keep h0 h30 [] := K28.ext E30
    have O30 : Old Z n0 h30 := O28.ext E30
    have sf31 : Safe Z consts_1 s.vm h30 b28 := (Safe.ext E30 H28 sf29)
    have sf32 : Safe Z consts_1 s.vm h30 b30 := (Safe.ext E30 H28 sn30)
    have H30 : CHv Z consts_1 s.vm h30 := H28.ext E30
    have C30 : CHr Z consts_1 s.vm h0 s.vm h30 := C28.trans (CHr.ext E30 H28)
    have hk30 := Nat.le_trans hk28 E30.1
    have V30 : Arv Z h30 b30 k30 .char (0 : Int32) [] (.int (0 : Int32)) := (Arv.new A30 (by decide)).pad (pad_rep [] (.int (0 : Int32)) 0)
    refine Go.st st30 ?_
    show Go p.tables e below Kx T30 (mkF m 33 #[.val (.int pp), .val (.int (pp &&& (255 : Int32))), .val (.int (((pp.toUInt32 >>> ((8 : Int32) &&& 31).toUInt32).toInt32) &&& (255 : Int32))), .val (.int (lenf pp))] [(.ref b30), (.ref b28), (.ref b28)])
    have f33 : Exa Z h30 b28 "java/lang/String" := (A28.ext E30)
    have f34 : Fld Z h30 b28 "java/lang/String" "value" "[B" .null := (F28_value.ext E30)
    have f35 : Fld Z h30 b28 "java/lang/String" "coder" "B" (.int (0 : Int32)) := (F28_coder.ext E30)
    obtain ⟨_, _, ⟨T36, L36, k36, n36⟩, -, X36, hS'36, hg'36, ⟨Lc36, hQ36, l36, y36, z36, Cr36⟩, st36⟩ := X30.specialBackS hx (y := (⟨"java/lang/String", "<init>", "([C)V"⟩ : MethodName)) rfl hown (mvT hZ (hw _ (List.mem_of_getElem? (i := 11) rfl))) (mvT hZ (hw _ (List.mem_of_getElem? (i := 12) rfl))) (mvT hZ (hw _ (List.mem_of_getElem? (i := 13) rfl))) (by decide) (backX (W := 1) (rmE2 l Z a0 hw [] b28 b30 k30 h30 n0 O30 hEL wS ge28 f33 f34 f35 V30) hZ (hw _ (List.mem_of_getElem? (i := 13) rfl)) (hw _ (List.mem_of_getElem? (i := 9) rfl)) (by decide) (by decide) hEL H30 (allS (P := fun zz => zz < h30.size ∧ Safe Z consts_1 s.vm h30 zz) ⟨(Nat.lt_of_lt_of_le A28.lt E30.1), sf31⟩ all0)) (g := (mkF m 33 #[.val (.int pp), .val (.int (pp &&& (255 : Int32))), .val (.int (((pp.toUInt32 >>> ((8 : Int32) &&& 31).toUInt32).toInt32) &&& (255 : Int32))), .val (.int (lenf pp))] [(.ref b30), (.ref b28), (.ref b28)])) rfl (by rw [hml]; rfl) (Steps.refl _) (a := b28) (argsL := [(.ref b30)]) (rest := [(.ref b28)]) (lenOf pd_2 rfl) rfl (by show 2 * 0 + _ ≤ _; exact Nat.le_of_eq rfl) (hb hby d_m3_33) (fun _ _ => ⟨rfl, e30, (by decide : 2 + 4 ≤ _), (by decide : 4 + 8 ≤ _)⟩)
    dsimp only [Pt.U, Pt.locs, Pt.cells, Pt.slots] at X36 l36 y36 z36 st36 hQ36 hS'36 hg'36 Cr36
    subst l36 y36 z36
    obtain ⟨rfl, Nq36, Kq36, q1_36, q2_36, t36, kt36, q3_36, q4_36⟩ := hQ36
    have N36 := Fr.app N26 Nq36
    have X36 : Stand p l e _ (s.setVm T36.vm) m _ below meth c T36 _ _ _ := X36
    obtain ⟨hZ36, hown36⟩ := wideOn hZ hS'36 hown
    have hS36 : s.Since T36.vm T36.heap.size := hS0.trans hS'36 (Nat.le_trans hk30 (by rw [e30] at hg'36; exact hg'36))
    have hk36 := Nat.le_refl T36.heap.size
    have sf37 : Safe Z consts_1 T36.vm T36.heap b28 := Cr36.safe (Nat.lt_of_lt_of_le A28.lt E30.1) sf31
    have sf38 : Safe Z consts_1 T36.vm T36.heap b30 := Cr36.safe A30.lt sf32
    have C36 := C30.trans Cr36
    have K36 : Keep h0 T36.heap [] := K30.trans Kq36 (allS (P := fun zz => zz ∈ [] ∨ h0.size ≤ zz) (Or.inr sz28) all0)
    have O36 : Old Z n0 T36.heap := O30.keep Kq36 (allS ge28 all0)
    refine Go.tr st36 ?_
    show Go p.tables e below Kx T36 (mkF m 36 #[.val (.int pp), .val (.int (pp &&& (255 : Int32))), .val (.int (((pp.toUInt32 >>> ((8 : Int32) &&& 31).toUInt32).toInt32) &&& (255 : Int32))), .val (.int (lenf pp))] [(.ref b28)])
    have St36 : Str Z T36.heap T36.heap.size b28 [] := Str.of q1_36 q2_36 q3_36 (bs := []) q4_36 rfl rfl (fun _ hc => nomatch hc) (by decide)
    obtain ⟨fs, hr, hrun, hended, hRW⟩ := X36.leaveW hS36 hk36 (v := (some (.ref b28))) (fun h => by rw [Bd.returns] at h; cases h)
    have hCx := C36.trans (CHv.at X36 hZ36 hEL Cr36.1)
    refine Go.fin (retOut X36 hx Bd.returns rfl (Or.inr (Or.inr (Or.inr (Or.inr ⟨rfl, rfl, rfl⟩)))) (hb hby d_m3_36) hr) (hF _ _ hrun hended ⟨_, _, rfl, ?_, ?_, hRW.1, hRW.2.1, hRW.2.2.1, hRW.2.2.2.mono (by decide) (by decide)⟩)
    · show QM Z pp h0 n0 ((some (.ref b28)) : Option Value) T36.heap _
      skip
      exact ⟨b28, rfl, N36, K36, by rw [txt, chars, if_pos hc27]; exact St36⟩
    · show CHr Z consts_1 s.vm s.heap T36.vm T36.heap
      rw [hh]; exact hCx
  · skip
    refine s_ifY (pc' := 37) X26.here hx (hb hby d_m3_23) ((if0 _ _).trans (feq hc27).2) (by decide) (by decide) ?_
    refine s_iloadN (pc' := 38) X26.here hx (hb hby d_m3_37) rfl rfl ?_
    refine s_iconst (pc' := 39) (v := (1 : Int32)) X26.here hx (hb hby d_m3_38) rfl rfl ?_
    by_cases hc39 : (lenf pp) = (1 : Int32)
    · skip
      refine s_icmpN (pc' := 42) X26.here hx (hb hby d_m3_39) rfl (teq hc39).2 ?_
      obtain ⟨T40, h40, X40, e40, E40, A40, D40, -, st40⟩ := newO X26 hx hZ hown (hw _ (List.mem_of_getElem? (i := 7) rfl)) (hw _ (List.mem_of_getElem? (i := 8) rfl)) (hw _ (List.mem_of_getElem? (i := 9) rfl)) hE26 (g := (mkF m 42 #[.val (.int pp), .val (.int (pp &&& (255 : Int32))), .val (.int (((pp.toUInt32 >>> ((8 : Int32) &&& 31).toUInt32).toInt32) &&& (255 : Int32))), .val (.int (lenf pp))] [])) rfl (hb hby d_m3_42) (by decide) (by decide)
      obtain ⟨b40, g40⟩ : ∃ z, z = h0.size := ⟨_, rfl⟩
      rw [← g40] at A40 D40 st40
      have sz40 : h0.size ≤ b40 := Nat.le_trans K0.1 (Nat.le_of_eq g40.symm)
      have ge40 : n0 ≤ b40 := Nat.le_trans (X00.1 ▸ X00.2.1) (Nat.le_of_eq g40.symm)
      have sn40 : Safe Z consts_1 s.vm h0 b40 := Safe.new (Nat.le_of_eq g40.symm)
      have K40 : Keep h0 h40 [] := K0.ext E40
      have O40 : Old Z n0 h40 := X00.ext E40
      have sf41 : Safe Z consts_1 s.vm h40 b40 := (Safe.ext E40 H0 sn40)
      have H40 : CHv Z consts_1 s.vm h40 := H0.ext E40
      have C40 : CHr Z consts_1 s.vm h0 s.vm h40 := C0.trans (CHr.ext E40 H0)
      have hk40 := Nat.le_trans hk0 E40.1
      have F40_value : Fld Z h40 b40 "java/lang/String" "value" "[B" .null := D40 (Or.inr (hw _ (List.mem_of_getElem? (i := 23) rfl))) (ty := (.array .byte)) (by decide)
      have F40_coder : Fld Z h40 b40 "java/lang/String" "coder" "B" (.int (0 : Int32)) := D40 (Or.inr (hw _ (List.mem_of_getElem? (i := 24) rfl))) (ty := .byte) (by decide)
      refine Go.st st40 ?_
      show Go p.tables e below Kx T40 (mkF m 45 #[.val (.int pp), .val (.int (pp &&& (255 : Int32))), .val (.int (((pp.toUInt32 >>> ((8 : Int32) &&& 31).toUInt32).toInt32) &&& (255 : Int32))), .val (.int (lenf pp))] [(.ref b40)])
      refine s_dup (pc' := 46) X40.here hx (hb hby d_m3_45) rfl rfl ?_
      refine s_iconst (pc' := 47) (v := (1 : Int32)) X40.here hx (hb hby d_m3_46) rfl rfl ?_
      obtain ⟨T42, h42, k42, X42, e42, E42, A42, st42⟩ := newP X40 hx hZ (hw _ (List.mem_of_getElem? (i := 10) rfl)) e40 (g := (mkF m 47 #[.val (.int pp), .val (.int (pp &&& (255 : Int32))), .val (.int (((pp.toUInt32 >>> ((8 : Int32) &&& 31).toUInt32).toInt32) &&& (255 : Int32))), .val (.int (lenf pp))] [(.int (1 : Int32)), (.ref b40), (.ref b40)])) rfl (hb hby d_m3_47) rfl (by decide) (cap := 1) (by decide) (by decide) (by decide) (by decide)
      obtain ⟨b42, g42⟩ : ∃ z, z = h40.size := ⟨_, rfl⟩
      rw [← g42] at A42 st42
      have sz42 : h0.size ≤ b42 := Nat.le_trans K40.1 (Nat.le_of_eq g42.symm)
      have ge42 : n0 ≤ b42 := Nat.le_trans (O40.1 ▸ O40.2.1) (Nat.le_of_eq g42.symm)
      have sn42 : Safe Z consts_1 s.vm h40 b42 := Safe.new (Nat.le_of_eq g42.symm)
      have K42 : Keep h0 h42 [] := K40.ext E42
      have O42 : Old Z n0 h42 := O40.ext E42
      have sf43 : Safe Z consts_1 s.vm h42 b40 := (Safe.ext E42 H40 sf41)
      have sf44 : Safe Z consts_1 s.vm h42 b42 := (Safe.ext E42 H40 sn42)
      have H42 : CHv Z consts_1 s.vm h42 := H40.ext E42
      have C42 : CHr Z consts_1 s.vm h0 s.vm h42 := C40.trans (CHr.ext E42 H40)
      have hk42 := Nat.le_trans hk40 E42.1
      have V42 : Arv Z h42 b42 k42 .char (1 : Int32) [(.int (0 : Int32))] (.int (0 : Int32)) := (Arv.new A42 (by decide)).pad (pad_rep [] (.int (0 : Int32)) 1)
      refine Go.st st42 ?_
      show Go p.tables e below Kx T42 (mkF m 49 #[.val (.int pp), .val (.int (pp &&& (255 : Int32))), .val (.int (((pp.toUInt32 >>> ((8 : Int32) &&& 31).toUInt32).toInt32) &&& (255 : Int32))), .val (.int (lenf pp))] [(.ref b42), (.ref b40), (.ref b40)])
      refine s_dup (pc' := 50) X42.here hx (hb hby d_m3_49) rfl rfl ?_
      refine s_iconst (pc' := 51) (v := (0 : Int32)) X42.here hx (hb hby d_m3_50) rfl rfl ?_
      refine s_iloadN (pc' := 52) X42.here hx (hb hby d_m3_51) rfl rfl ?_
      obtain ⟨cl45, Ar45, Aq45, As45, An45, Ah45, Ag45⟩ := id V42
      have in46 := inb_of (j := (0 : Int32)) As45 (by decide)
      obtain ⟨T46, h46, X46, e46, W46, st46⟩ := stC X42 hx hZ e42 Ar45 (j := (0 : Int32)) in46 (g := (mkF m 52 #[.val (.int pp), .val (.int (pp &&& (255 : Int32))), .val (.int (((pp.toUInt32 >>> ((8 : Int32) &&& 31).toUInt32).toInt32) &&& (255 : Int32))), .val (.int (lenf pp))] [(.int (pp &&& (255 : Int32))), (.int (0 : Int32)), (.ref b42), (.ref b42), (.ref b40), (.ref b40)])) rfl rfl (hb hby d_m3_52)
      have V46 : Arv Z h46 b42 k42 .char (1 : Int32) [(.int (pp &&& (255 : Int32)))] (.int (0 : Int32)) := by
        have q := Arv.set Ar45 Aq45 As45 An45 Ah45 Ag45 (fits_nar_char _) W46 0 rfl (Nat.le_of_ble_eq_true rfl)
        rw [chr_nar ch24] at q; exact q
      have K46 : Keep h0 h46 [] := K42.wr W46 (Or.inr sz42)
      have O46 : Old Z n0 h46 := O42.wr W46 ge42
      have sf47 : Safe Z consts_1 s.vm h46 b40 := (Safe.wr W46 sf44 H42 sf43)
      have sf48 : Safe Z consts_1 s.vm h46 b42 := (Safe.wr W46 sf44 H42 sf44)
      have H46 : CHv Z consts_1 s.vm h46 := H42.wr W46 sf44
      have C46 : CHr Z consts_1 s.vm h0 s.vm h46 := C42.trans (CHr.wr W46 sf44 H42)
      have hk46 := Nat.le_trans hk42 (Nat.le_of_eq W46.size.symm)
      have N46 := Fr.snoc X46 N26 ge42
      refine Go.st st46 ?_
      show Go p.tables e below Kx T46 (mkF m 53 #[.val (.int pp), .val (.int (pp &&& (255 : Int32))), .val (.int (((pp.toUInt32 >>> ((8 : Int32) &&& 31).toUInt32).toInt32) &&& (255 : Int32))), .val (.int (lenf pp))] [(.ref b42), (.ref b40), (.ref b40)])
      have f49 : Exa Z h46 b40 "java/lang/String" := ((A40.ext E42).wr W46)
      have f50 : Fld Z h46 b40 "java/lang/String" "value" "[B" .null := ((F40_value.ext E42).other W46 (Or.inl (Nat.ne_of_lt (Nat.lt_of_lt_of_le A40.lt (Nat.le_of_eq g42.symm)))))
      have f51 : Fld Z h46 b40 "java/lang/String" "coder" "B" (.int (0 : Int32)) := ((F40_coder.ext E42).other W46 (Or.inl (Nat.ne_of_lt (Nat.lt_of_lt_of_le A40.lt (Nat.le_of_eq g42.symm)))))
      have hp52 : ∀ c ∈ ([(pp &&& (255 : Int32))] : List Int32), ¬ c < 0 ∧ ¬ (255 : Int32) < c := by
        intro c hc
        simp only [List.mem_cons, List.not_mem_nil, or_false] at hc
        rcases hc with rfl
        · exact ch24
      obtain ⟨_, _, ⟨T53, L53, k53, n53⟩, -, X53, ⟨Lc53, hQ53, l53, y53, z53⟩, st53⟩ := X46.specialBack hx (y := (⟨"java/lang/String", "<init>", "([C)V"⟩ : MethodName)) rfl hown (mvT hZ (hw _ (List.mem_of_getElem? (i := 11) rfl))) (mvT hZ (hw _ (List.mem_of_getElem? (i := 12) rfl))) (mvT hZ (hw _ (List.mem_of_getElem? (i := 13) rfl))) (by decide) (StrChars.Road.backV (W := 1) hZ (hwsV Z a0 hw) (kI := 4) (hw _ (List.mem_of_getElem? (i := 8) rfl)) (cs := [(pp &&& (255 : Int32))]) (bs := ([(pp &&& (255 : Int32))] : List Int32).map (fun c => c.toInt8.toInt32)) (n := 1) ge40 (O46.1 ▸ O46.2.1) f49 f50 f51 V46 (S1.ext O46.2) P1 rfl rfl (by decide) (by decide) hp52 rfl (by decide) (by decide)) (g := (mkF m 53 #[.val (.int pp), .val (.int (pp &&& (255 : Int32))), .val (.int (((pp.toUInt32 >>> ((8 : Int32) &&& 31).toUInt32).toInt32) &&& (255 : Int32))), .val (.int (lenf pp))] [(.ref b42), (.ref b40), (.ref b40)])) rfl (by rw [hml]; rfl) (Steps.refl _) (a := b40) (argsL := [(.ref b42)]) (rest := [(.ref b40)]) (lenOf pd_2 rfl) rfl (by show 2 * 0 + _ ≤ _; exact Nat.le_of_eq rfl) (hb hby d_m3_53) (fun _ _ => ⟨rfl, e46, (by decide : 2 + 1 ≤ _), (by decide : 5 + 1 ≤ _)⟩)
      dsimp only [Pt.U, Pt.locs, Pt.cells, Pt.slots] at X53 l53 y53 z53 st53 hQ53
      subst l53 y53 z53
      obtain ⟨rfl, Nq53, Kq53, q1_53, q2_53, t53, kt53, -, -, -, q3_53, q4_53⟩ := hQ53
      have N53 := Fr.app N46 Nq53
      have K53 : Keep h0 T53.heap [] := K46.trans Kq53 (allS (P := fun zz => zz ∈ [] ∨ h0.size ≤ zz) (Or.inr sz40) all0)
      have O53 : Old Z n0 T53.heap := O46.keep Kq53 (allS ge40 all0)
      have sf54 : Safe Z consts_1 s.vm T53.heap b40 := (Safe.keep Kq53 (sfS sf47 sf0) H46 sf47)
      have sf55 : Safe Z consts_1 s.vm T53.heap b42 := (Safe.keep Kq53 (sfS sf47 sf0) H46 sf48)
      have H53 : CHv Z consts_1 s.vm T53.heap := H46.keep Kq53 (sfS sf47 sf0)
      have C53 : CHr Z consts_1 s.vm h0 s.vm T53.heap := C46.trans (CHr.keep Kq53 (sfS sf47 sf0) H46)
      have hk53 := Nat.le_trans hk46 Kq53.1
      refine Go.tr st53 ?_
      show Go p.tables e below Kx T53 (mkF m 56 #[.val (.int pp), .val (.int (pp &&& (255 : Int32))), .val (.int (((pp.toUInt32 >>> ((8 : Int32) &&& 31).toUInt32).toInt32) &&& (255 : Int32))), .val (.int (lenf pp))] [(.ref b40)])
      have St53 : Str Z T53.heap T53.heap.size b40 [(pp &&& (255 : Int32))] := Str.of q1_53 q2_53 q3_53 q4_53 rfl rfl hp52 (Nat.le_of_ble_eq_true rfl)
      obtain ⟨fs, hr, hrun, hended, hRW⟩ := X53.leaveW hS0 hk53 (v := (some (.ref b40))) (fun h => by rw [Bd.returns] at h; cases h)
      have hCx := C53.trans (CHv.at X53 hZ hEL H53)
      refine Go.fin (retOut X53 hx Bd.returns rfl (Or.inr (Or.inr (Or.inr (Or.inr ⟨rfl, rfl, rfl⟩)))) (hb hby d_m3_56) hr) (hF _ _ hrun hended ⟨_, _, rfl, ?_, ?_, hRW.1, hRW.2.1, hRW.2.2.1, hRW.2.2.2.mono (by decide) (by decide)⟩)
      · show QM Z pp h0 n0 ((some (.ref b40)) : Option Value) T53.heap _
        skip
        exact ⟨b40, rfl, N53, K53, by rw [txt, chars, if_neg hc27, if_pos hc39]; exact St53⟩
      · show CHr Z consts_1 s.vm s.heap T53.vm T53.heap
        rw [hh]; exact hCx
    · skip
      refine s_icmpY (pc' := 57) X26.here hx (hb hby d_m3_39) (feq hc39).2 (by decide) (by decide) ?_
      obtain ⟨T56, h56, X56, e56, E56, A56, D56, -, st56⟩ := newO X26 hx hZ hown (hw _ (List.mem_of_getElem? (i := 7) rfl)) (hw _ (List.mem_of_getElem? (i := 8) rfl)) (hw _ (List.mem_of_getElem? (i := 9) rfl)) hE26 (g := (mkF m 57 #[.val (.int pp), .val (.int (pp &&& (255 : Int32))), .val (.int (((pp.toUInt32 >>> ((8 : Int32) &&& 31).toUInt32).toInt32) &&& (255 : Int32))), .val (.int (lenf pp))] [])) rfl (hb hby d_m3_57) (by decide) (by decide)
      obtain ⟨b56, g56⟩ : ∃ z, z = h0.size := ⟨_, rfl⟩
      rw [← g56] at A56 D56 st56
      have sz56 : h0.size ≤ b56 := Nat.le_trans K0.1 (Nat.le_of_eq g56.symm)
      have ge56 : n0 ≤ b56 := Nat.le_trans (X00.1 ▸ X00.2.1) (Nat.le_of_eq g56.symm)
      have sn56 : Safe Z consts_1 s.vm h0 b56 := Safe.new (Nat.le_of_eq g56.symm)
      have K56 : Keep h0 h56 [] := K0.ext E56
      have O56 : Old Z n0 h56 := X00.ext E56
      have sf57 : Safe Z consts_1 s.vm h56 b56 := (Safe.ext E56 H0 sn56)
      have H56 : CHv Z consts_1 s.vm h56 := H0.ext E56
      have C56 : CHr Z consts_1 s.vm h0 s.vm h56 := C0.trans (CHr.ext E56 H0)
      have hk56 := Nat.le_trans hk0 E56.1
      have F56_value : Fld Z h56 b56 "java/lang/String" "value" "[B" .null := D56 (Or.inr (hw _ (List.mem_of_getElem? (i := 23) rfl))) (ty := (.array .byte)) (by decide)
      have F56_coder : Fld Z h56 b56 "java/lang/String" "coder" "B" (.int (0 : Int32)) := D56 (Or.inr (hw _ (List.mem_of_getElem? (i := 24) rfl))) (ty := .byte) (by decide)
      refine Go.st st56 ?_
      show Go p.tables e below Kx T56 (mkF m 60 #[.val (.int pp), .val (.int (pp &&& (255 : Int32))), .val (.int (((pp.toUInt32 >>> ((8 : Int32) &&& 31).toUInt32).toInt32) &&& (255 : Int32))), .val (.int (lenf pp))] [(.ref b56)])
      refine s_dup (pc' := 61) X56.here hx (hb hby d_m3_60) rfl rfl ?_
      refine s_iconst (pc' := 62) (v := (2 : Int32)) X56.here hx (hb hby d_m3_61) rfl rfl ?_
      obtain ⟨T58, h58, k58, X58, e58, E58, A58, st58⟩ := newP X56 hx hZ (hw _ (List.mem_of_getElem? (i := 10) rfl)) e56 (g := (mkF m 62 #[.val (.int pp), .val (.int (pp &&& (255 : Int32))), .val (.int (((pp.toUInt32 >>> ((8 : Int32) &&& 31).toUInt32).toInt32) &&& (255 : Int32))), .val (.int (lenf pp))] [(.int (2 : Int32)), (.ref b56), (.ref b56)])) rfl (hb hby d_m3_62) rfl (by decide) (cap := 2) (by decide) (by decide) (by decide) (by decide)
      obtain ⟨b58, g58⟩ : ∃ z, z = h56.size := ⟨_, rfl⟩
      rw [← g58] at A58 st58
      have sz58 : h0.size ≤ b58 := Nat.le_trans K56.1 (Nat.le_of_eq g58.symm)
      have ge58 : n0 ≤ b58 := Nat.le_trans (O56.1 ▸ O56.2.1) (Nat.le_of_eq g58.symm)
      have sn58 : Safe Z consts_1 s.vm h56 b58 := Safe.new (Nat.le_of_eq g58.symm)
      have K58 : Keep h0 h58 [] := K56.ext E58
      have O58 : Old Z n0 h58 := O56.ext E58
      have sf59 : Safe Z consts_1 s.vm h58 b56 := (Safe.ext E58 H56 sf57)
      have sf60 : Safe Z consts_1 s.vm h58 b58 := (Safe.ext E58 H56 sn58)
      have H58 : CHv Z consts_1 s.vm h58 := H56.ext E58
      have C58 : CHr Z consts_1 s.vm h0 s.vm h58 := C56.trans (CHr.ext E58 H56)
      have hk58 := Nat.le_trans hk56 E58.1
      have V58 : Arv Z h58 b58 k58 .char (2 : Int32) [(.int (0 : Int32)), (.int (0 : Int32))] (.int (0 : Int32)) := (Arv.new A58 (by decide)).pad (pad_rep [] (.int (0 : Int32)) 2)
      refine Go.st st58 ?_
      show Go p.tables e below Kx T58 (mkF m 64 #[.val (.int pp), .val (.int (pp &&& (255 : Int32))), .val (.int (((pp.toUInt32 >>> ((8 : Int32) &&& 31).toUInt32).toInt32) &&& (255 : Int32))), .val (.int (lenf pp))] [(.ref b58), (.ref b56), (.ref b56)])
      refine s_dup (pc' := 65) X58.here hx (hb hby d_m3_64) rfl rfl ?_
      refine s_iconst (pc' := 66) (v := (0 : Int32)) X58.here hx (hb hby d_m3_65) rfl rfl ?_
      refine s_iloadN (pc' := 67) X58.here hx (hb hby d_m3_66) rfl rfl ?_
      obtain ⟨cl61, Ar61, Aq61, As61, An61, Ah61, Ag61⟩ := id V58
      have in62 := inb_of (j := (0 : Int32)) As61 (by decide)
      obtain ⟨T62, h62, X62, e62, W62, st62⟩ := stC X58 hx hZ e58 Ar61 (j := (0 : Int32)) in62 (g := (mkF m 67 #[.val (.int pp), .val (.int (pp &&& (255 : Int32))), .val (.int (((pp.toUInt32 >>> ((8 : Int32) &&& 31).toUInt32).toInt32) &&& (255 : Int32))), .val (.int (lenf pp))] [(.int (pp &&& (255 : Int32))), (.int (0 : Int32)), (.ref b58), (.ref b58), (.ref b56), (.ref b56)])) rfl rfl (hb hby d_m3_67)
      have V62 : Arv Z h62 b58 k58 .char (2 : Int32) [(.int (pp &&& (255 : Int32))), (.int (0 : Int32))] (.int (0 : Int32)) := by
        have q := Arv.set Ar61 Aq61 As61 An61 Ah61 Ag61 (fits_nar_char _) W62 0 rfl (Nat.le_of_ble_eq_true rfl)
        rw [chr_nar ch24] at q; exact q
      have K62 : Keep h0 h62 [] := K58.wr W62 (Or.inr sz58)
      have O62 : Old Z n0 h62 := O58.wr W62 ge58
      have sf63 : Safe Z consts_1 s.vm h62 b56 := (Safe.wr W62 sf60 H58 sf59)
      have sf64 : Safe Z consts_1 s.vm h62 b58 := (Safe.wr W62 sf60 H58 sf60)
      have H62 : CHv Z consts_1 s.vm h62 := H58.wr W62 sf60
      have C62 : CHr Z consts_1 s.vm h0 s.vm h62 := C58.trans (CHr.wr W62 sf60 H58)
      have hk62 := Nat.le_trans hk58 (Nat.le_of_eq W62.size.symm)
      have N62 := Fr.snoc X62 N26 ge58
      refine Go.st st62 ?_
      show Go p.tables e below Kx T62 (mkF m 68 #[.val (.int pp), .val (.int (pp &&& (255 : Int32))), .val (.int (((pp.toUInt32 >>> ((8 : Int32) &&& 31).toUInt32).toInt32) &&& (255 : Int32))), .val (.int (lenf pp))] [(.ref b58), (.ref b56), (.ref b56)])
      refine s_dup (pc' := 69) X62.here hx (hb hby d_m3_68) rfl rfl ?_
      refine s_iconst (pc' := 70) (v := (1 : Int32)) X62.here hx (hb hby d_m3_69) rfl rfl ?_
      refine s_iloadN (pc' := 71) X62.here hx (hb hby d_m3_70) rfl rfl ?_
      obtain ⟨cl65, Ar65, Aq65, As65, An65, Ah65, Ag65⟩ := id V62
      have in66 := inb_of (j := (1 : Int32)) As65 (by decide)
      obtain ⟨T66, h66, X66, e66, W66, st66⟩ := stC X62 hx hZ e62 Ar65 (j := (1 : Int32)) in66 (g := (mkF m 71 #[.val (.int pp), .val (.int (pp &&& (255 : Int32))), .val (.int (((pp.toUInt32 >>> ((8 : Int32) &&& 31).toUInt32).toInt32) &&& (255 : Int32))), .val (.int (lenf pp))] [(.int (((pp.toUInt32 >>> ((8 : Int32) &&& 31).toUInt32).toInt32) &&& (255 : Int32))), (.int (1 : Int32)), (.ref b58), (.ref b58), (.ref b56), (.ref b56)])) rfl rfl (hb hby d_m3_71)
      have V66 : Arv Z h66 b58 k58 .char (2 : Int32) [(.int (pp &&& (255 : Int32))), (.int (((pp.toUInt32 >>> ((8 : Int32) &&& 31).toUInt32).toInt32) &&& (255 : Int32)))] (.int (0 : Int32)) := by
        have q := Arv.set Ar65 Aq65 As65 An65 Ah65 Ag65 (fits_nar_char _) W66 1 rfl (Nat.le_of_ble_eq_true rfl)
        rw [chr_nar ch25] at q; exact q
      have K66 : Keep h0 h66 [] := K62.wr W66 (Or.inr sz58)
      have O66 : Old Z n0 h66 := O62.wr W66 ge58
      have sf67 : Safe Z consts_1 s.vm h66 b56 := (Safe.wr W66 sf64 H62 sf63)
      have sf68 : Safe Z consts_1 s.vm h66 b58 := (Safe.wr W66 sf64 H62 sf64)
      have H66 : CHv Z consts_1 s.vm h66 := H62.wr W66 sf64
      have C66 : CHr Z consts_1 s.vm h0 s.vm h66 := C62.trans (CHr.wr W66 sf64 H62)
      have hk66 := Nat.le_trans hk62 (Nat.le_of_eq W66.size.symm)
      have N66 := Fr.snoc X66 N62 ge58
      refine Go.st st66 ?_
      show Go p.tables e below Kx T66 (mkF m 72 #[.val (.int pp), .val (.int (pp &&& (255 : Int32))), .val (.int (((pp.toUInt32 >>> ((8 : Int32) &&& 31).toUInt32).toInt32) &&& (255 : Int32))), .val (.int (lenf pp))] [(.ref b58), (.ref b56), (.ref b56)])
      have f69 : Exa Z h66 b56 "java/lang/String" := (((A56.ext E58).wr W62).wr W66)
      have f70 : Fld Z h66 b56 "java/lang/String" "value" "[B" .null := (((F56_value.ext E58).other W62 (Or.inl (Nat.ne_of_lt (Nat.lt_of_lt_of_le A56.lt (Nat.le_of_eq g58.symm))))).other W66 (Or.inl (Nat.ne_of_lt (Nat.lt_of_lt_of_le A56.lt (Nat.le_of_eq g58.symm)))))
      have f71 : Fld Z h66 b56 "java/lang/String" "coder" "B" (.int (0 : Int32)) := (((F56_coder.ext E58).other W62 (Or.inl (Nat.ne_of_lt (Nat.lt_of_lt_of_le A56.lt (Nat.le_of_eq g58.symm))))).other W66 (Or.inl (Nat.ne_of_lt (Nat.lt_of_lt_of_le A56.lt (Nat.le_of_eq g58.symm)))))
      have hp72 : ∀ c ∈ ([(pp &&& (255 : Int32)), (((pp.toUInt32 >>> ((8 : Int32) &&& 31).toUInt32).toInt32) &&& (255 : Int32))] : List Int32), ¬ c < 0 ∧ ¬ (255 : Int32) < c := by
        intro c hc
        simp only [List.mem_cons, List.not_mem_nil, or_false] at hc
        rcases hc with rfl | rfl
        · exact ch24
        · exact ch25
      obtain ⟨_, _, ⟨T73, L73, k73, n73⟩, -, X73, ⟨Lc73, hQ73, l73, y73, z73⟩, st73⟩ := X66.specialBack hx (y := (⟨"java/lang/String", "<init>", "([C)V"⟩ : MethodName)) rfl hown (mvT hZ (hw _ (List.mem_of_getElem? (i := 11) rfl))) (mvT hZ (hw _ (List.mem_of_getElem? (i := 12) rfl))) (mvT hZ (hw _ (List.mem_of_getElem? (i := 13) rfl))) (by decide) (StrChars.Road.backV (W := 1) hZ (hwsV Z a0 hw) (kI := 4) (hw _ (List.mem_of_getElem? (i := 8) rfl)) (cs := [(pp &&& (255 : Int32)), (((pp.toUInt32 >>> ((8 : Int32) &&& 31).toUInt32).toInt32) &&& (255 : Int32))]) (bs := ([(pp &&& (255 : Int32)), (((pp.toUInt32 >>> ((8 : Int32) &&& 31).toUInt32).toInt32) &&& (255 : Int32))] : List Int32).map (fun c => c.toInt8.toInt32)) (n := 2) ge56 (O66.1 ▸ O66.2.1) f69 f70 f71 V66 (S1.ext O66.2) P1 rfl rfl (by decide) (by decide) hp72 rfl (by decide) (by decide)) (g := (mkF m 72 #[.val (.int pp), .val (.int (pp &&& (255 : Int32))), .val (.int (((pp.toUInt32 >>> ((8 : Int32) &&& 31).toUInt32).toInt32) &&& (255 : Int32))), .val (.int (lenf pp))] [(.ref b58), (.ref b56), (.ref b56)])) rfl (by rw [hml]; rfl) (Steps.refl _) (a := b56) (argsL := [(.ref b58)]) (rest := [(.ref b56)]) (lenOf pd_2 rfl) rfl (by show 2 * 0 + _ ≤ _; exact Nat.le_of_eq rfl) (hb hby d_m3_72) (fun _ _ => ⟨rfl, e66, (by decide : 2 + 1 ≤ _), (by decide : 6 + 2 ≤ _)⟩)
      dsimp only [Pt.U, Pt.locs, Pt.cells, Pt.slots] at X73 l73 y73 z73 st73 hQ73
      subst l73 y73 z73
      obtain ⟨rfl, Nq73, Kq73, q1_73, q2_73, t73, kt73, -, -, -, q3_73, q4_73⟩ := hQ73
      have N73 := Fr.app N66 Nq73
      have K73 : Keep h0 T73.heap [] := K66.trans Kq73 (allS (P := fun zz => zz ∈ [] ∨ h0.size ≤ zz) (Or.inr sz56) all0)
      have O73 : Old Z n0 T73.heap := O66.keep Kq73 (allS ge56 all0)
      have sf74 : Safe Z consts_1 s.vm T73.heap b56 := (Safe.keep Kq73 (sfS sf67 sf0) H66 sf67)
      have sf75 : Safe Z consts_1 s.vm T73.heap b58 := (Safe.keep Kq73 (sfS sf67 sf0) H66 sf68)
      have H73 : CHv Z consts_1 s.vm T73.heap := H66.keep Kq73 (sfS sf67 sf0)
      have C73 : CHr Z consts_1 s.vm h0 s.vm T73.heap := C66.trans (CHr.keep Kq73 (sfS sf67 sf0) H66)
      have hk73 := Nat.le_trans hk66 Kq73.1
      refine Go.tr st73 ?_
      show Go p.tables e below Kx T73 (mkF m 75 #[.val (.int pp), .val (.int (pp &&& (255 : Int32))), .val (.int (((pp.toUInt32 >>> ((8 : Int32) &&& 31).toUInt32).toInt32) &&& (255 : Int32))), .val (.int (lenf pp))] [(.ref b56)])
      have St73 : Str Z T73.heap T73.heap.size b56 [(pp &&& (255 : Int32)), (((pp.toUInt32 >>> ((8 : Int32) &&& 31).toUInt32).toInt32) &&& (255 : Int32))] := Str.of q1_73 q2_73 q3_73 q4_73 rfl rfl hp72 (Nat.le_of_ble_eq_true rfl)
      obtain ⟨fs, hr, hrun, hended, hRW⟩ := X73.leaveW hS0 hk73 (v := (some (.ref b56))) (fun h => by rw [Bd.returns] at h; cases h)
      have hCx := C73.trans (CHv.at X73 hZ hEL H73)
      refine Go.fin (retOut X73 hx Bd.returns rfl (Or.inr (Or.inr (Or.inr (Or.inr ⟨rfl, rfl, rfl⟩)))) (hb hby d_m3_75) hr) (hF _ _ hrun hended ⟨_, _, rfl, ?_, ?_, hRW.1, hRW.2.1, hRW.2.2.1, hRW.2.2.2.mono (by decide) (by decide)⟩)
      · show QM Z pp h0 n0 ((some (.ref b56)) : Option Value) T73.heap _
        skip
        exact ⟨b56, rfl, N73, K73, by rw [txt, chars, if_neg hc27, if_neg hc39]; exact St73⟩
      · show CHr Z consts_1 s.vm s.heap T73.vm T73.heap
        rw [hh]; exact hCx
theorem d_m5_0 : decode method_5_code 0 = .ok (.iload_n 0, 1) := by decide +kernel
theorem d_m5_1 : decode method_5_code 1 = .ok (.bipush 18, 2) := by decide +kernel
theorem d_m5_3 : decode method_5_code 3 = .ok (.iushr, 1) := by decide +kernel
theorem d_m5_4 : decode method_5_code 4 = .ok (.iconst 1, 1) := by decide +kernel
theorem d_m5_5 : decode method_5_code 5 = .ok (.iand, 1) := by decide +kernel
theorem d_m5_6 : decode method_5_code 6 = .ok (.ifCond .eq 7, 3) := by decide +kernel
theorem d_m5_13 : decode method_5_code 13 = .ok (.iconst 0, 1) := by decide +kernel
theorem d_m5_14 : decode method_5_code 14 = .ok (.ireturn, 1) := by decide +kernel
theorem d_m5_9 : decode method_5_code 9 = .ok (.iconst 1, 1) := by decide +kernel
theorem d_m5_10 : decode method_5_code 10 = .ok (.goto 4, 3) := by decide +kernel
def QU (Z : State) (pp : Int32) (h0 : Heap) (n0 : Nat) (v : Option Value) (h : Heap) (L : List Loc) : Prop := (∃ r : Int32, v = some (.int r) ∧ ((r = 0 ∧ nulb pp = 0) ∨ (r = 1 ∧ ¬ nulb pp = 0))) ∧ Fr n0 L ∧ h = h0
set_option maxRecDepth 65536 in
set_option maxHeartbeats 40000000 in
theorem rmU (l : Launch) (Z : State) (a0 : Array Value) (hw : ∀ d ∈ tables_1, d.before a0 Z = true) (ws : List Jvm.Cond) (pp : Int32) (h0 : Heap) (n0 : Nat) (X00 : Old Z n0 h0)  :
    MetFree l (⟨"com/example/data_roles/dataroles/policy/MaskEqualsPinLaw", "isNull", "(I)Z"⟩ : MethodName) (head1 (Jvm.Cond.code (⟨"com/example/data_roles/dataroles/policy/MaskEqualsPinLaw", "isNull", "(I)Z"⟩ : MethodName) method_5_code 1 (some .boolean) :: ws) ({ frames := 0, cells := 0, slots := 0, locals := 0 } : Room)) (fun aa U => aa = #[(.int pp)] ∧ Z.Warmed39 U.vm ∧ U.heap = h0) (fun _ _ _ _ _ => True) (fun _ U o U' => ∃ v L, o = .returned v ∧ QU Z pp h0 n0 v U'.heap L ∧ FrameEnd U o U' L ({ frames := 0, cells := 0, slots := 0, locals := 0 } : Room).cells ({ frames := 0, cells := 0, slots := 0, locals := 0 } : Room).slots) := by
  refine MetFree.of_bodySF (plainFor_of_name pn_1) hisR ?_
  intro p e s m args below meth c s₁ Bd hml0 hP hK
  obtain ⟨rfl, hZ, hh⟩ := hP
  have hx := Bd.exec
  have hby := Bd.bytes
  have hml : c.maxLocals = 1 := hml0
  have hown : s.vm.findClass "com/example/data_roles/dataroles/policy/MaskEqualsPinLaw" = some m.cls := findClass_of_methodNamed Bd.named
  have hnm := (name_of_methodNamed Bd.named Bd.method).1
  have X0 : Stand p l e ({ frames := 0, cells := 0, slots := 0, locals := 0 } : Room) s m #[(.int pp)] below meth c s₁ [] 0 0 := Stand.of_body Bd
  have e0 : s₁.heap = h0 := by rw [← hh, Bd.state]; rfl
  have N0 := Fr.nil n0
  have K0 := Keep.refl h0 []
  have ef : entryFrame m #[(.int pp)] 1 = mkF m 0 #[.val (.int pp)] [] := (by first | (simp [entryFrame, mkF, argsToLocals, Value.category]; done) | rfl : entryFrame m #[(.int pp)] 1 = mkF m 0 #[.val (.int pp)] [])
  rw [ef]
  refine fin_of fun Kx hF => ?_
  show Go p.tables e below Kx s₁ (mkF m 0 #[.val (.int pp)] [])
  refine s_iloadN (pc' := 1) X0.here hx (hb hby d_m5_0) rfl rfl ?_
  refine s_bipush (pc' := 3) (v := (18 : Int32)) X0.here hx (hb hby d_m5_1) rfl rfl ?_
  refine s_iushr (pc' := 4) X0.here hx (hb hby d_m5_3) rfl rfl ?_
  refine s_iconst (pc' := 5) (v := (1 : Int32)) X0.here hx (hb hby d_m5_4) rfl rfl ?_
  refine s_iand (pc' := 6) X0.here hx (hb hby d_m5_5) rfl rfl ?_
  by_cases hc76 : (((pp.toUInt32 >>> ((18 : Int32) &&& 31).toUInt32).toInt32) &&& (1 : Int32)) = (0 : Int32)
  · skip
    refine s_ifY (pc' := 13) X0.here hx (hb hby d_m5_6) ((if0 _ _).trans (teq hc76).1) (by decide) (by decide) ?_
    refine s_iconst (pc' := 14) (v := (0 : Int32)) X0.here hx (hb hby d_m5_13) rfl rfl ?_
    obtain ⟨fs, hr, hrun, hended, hW, hsame⟩ := X0.leave (v := (some (.int (0 : Int32)))) (fun h => by rw [Bd.returns] at h; cases h)
    refine Go.fin (retN X0 hx (t := .boolean) Bd.returns (by simp) (hb hby d_m5_14) hr) (hF _ _ hrun hended ⟨_, _, rfl, ?_, ⟨_, rfl⟩, hW, hsame.mono (by decide) (by decide)⟩)
    · show QU Z pp h0 n0 ((some (.int (0 : Int32))) : Option Value) s₁.heap _
      rw [e0]
      exact ⟨⟨_, rfl, Or.inl ⟨rfl, hc76⟩⟩, N0, rfl⟩
  · skip
    refine s_ifN (pc' := 9) X0.here hx (hb hby d_m5_6) rfl ((if0 _ _).trans (feq hc76).1) ?_
    refine s_iconst (pc' := 10) (v := (1 : Int32)) X0.here hx (hb hby d_m5_9) rfl rfl ?_
    refine s_goto (pc' := 14) X0.here hx (hb hby d_m5_10) (by decide) (by decide) ?_
    obtain ⟨fs, hr, hrun, hended, hW, hsame⟩ := X0.leave (v := (some (.int (1 : Int32)))) (fun h => by rw [Bd.returns] at h; cases h)
    refine Go.fin (retN X0 hx (t := .boolean) Bd.returns (by simp) (hb hby d_m5_14) hr) (hF _ _ hrun hended ⟨_, _, rfl, ?_, ⟨_, rfl⟩, hW, hsame.mono (by decide) (by decide)⟩)
    · show QU Z pp h0 n0 ((some (.int (1 : Int32))) : Option Value) s₁.heap _
      rw [e0]
      exact ⟨⟨_, rfl, Or.inr ⟨rfl, hc76⟩⟩, N0, rfl⟩
theorem d_m4_0 : decode method_4_code 0 = .ok (.iload_n 0, 1) := by decide +kernel
theorem d_m4_1 : decode method_4_code 1 = .ok (.invokestatic 7, 3) := by decide +kernel
theorem d_m4_4 : decode method_4_code 4 = .ok (.istore_n 1, 1) := by decide +kernel
theorem d_m4_5 : decode method_4_code 5 = .ok (.iload_n 1, 1) := by decide +kernel
theorem d_m4_6 : decode method_4_code 6 = .ok (.ifCond .ne 5, 3) := by decide +kernel
theorem d_m4_9 : decode method_4_code 9 = .ok (.iconst 0, 1) := by decide +kernel
theorem d_m4_10 : decode method_4_code 10 = .ok (.ireturn, 1) := by decide +kernel
theorem d_m4_11 : decode method_4_code 11 = .ok (.iload_n 1, 1) := by decide +kernel
theorem d_m4_12 : decode method_4_code 12 = .ok (.iconst 1, 1) := by decide +kernel
theorem d_m4_13 : decode method_4_code 13 = .ok (.if_icmp .ne 12, 3) := by decide +kernel
theorem d_m4_16 : decode method_4_code 16 = .ok (.ldc 18, 2) := by decide +kernel
theorem d_m4_18 : decode method_4_code 18 = .ok (.iload_n 0, 1) := by decide +kernel
theorem d_m4_19 : decode method_4_code 19 = .ok (.sipush 255, 3) := by decide +kernel
theorem d_m4_22 : decode method_4_code 22 = .ok (.iand, 1) := by decide +kernel
theorem d_m4_23 : decode method_4_code 23 = .ok (.ior, 1) := by decide +kernel
theorem d_m4_24 : decode method_4_code 24 = .ok (.ireturn, 1) := by decide +kernel
theorem d_m4_25 : decode method_4_code 25 = .ok (.ldc 19, 2) := by decide +kernel
theorem d_m4_27 : decode method_4_code 27 = .ok (.iload_n 0, 1) := by decide +kernel
theorem d_m4_28 : decode method_4_code 28 = .ok (.ldc 20, 2) := by decide +kernel
theorem d_m4_30 : decode method_4_code 30 = .ok (.iand, 1) := by decide +kernel
theorem d_m4_31 : decode method_4_code 31 = .ok (.ior, 1) := by decide +kernel
theorem d_m4_32 : decode method_4_code 32 = .ok (.ireturn, 1) := by decide +kernel
def QK (Z : State) (pp : Int32) (h0 : Heap) (n0 : Nat) (v : Option Value) (h : Heap) (L : List Loc) : Prop := v = some (.int (keyf pp)) ∧ Fr n0 L ∧ h = h0
set_option maxRecDepth 65536 in
set_option maxHeartbeats 40000000 in
theorem rmK (l : Launch) (Z : State) (a0 : Array Value) (hw : ∀ d ∈ tables_1, d.before a0 Z = true) (ws : List Jvm.Cond) (pp : Int32) (h0 : Heap) (n0 : Nat) (X00 : Old Z n0 h0)  :
    MetFree l (⟨"com/example/data_roles/dataroles/policy/MaskEqualsPinLaw", "keyOf", "(I)I"⟩ : MethodName) (head1 (Jvm.Cond.code (⟨"com/example/data_roles/dataroles/policy/MaskEqualsPinLaw", "keyOf", "(I)I"⟩ : MethodName) method_4_code 2 (some .int) :: ws) ({ frames := 1, cells := 0, slots := 0, locals := 20 } : Room)) (fun aa U => aa = #[(.int pp)] ∧ Z.Warmed39 U.vm ∧ U.heap = h0) (fun _ _ _ _ _ => True) (fun _ U o U' => ∃ v L, o = .returned v ∧ QK Z pp h0 n0 v U'.heap L ∧ FrameEnd U o U' L ({ frames := 1, cells := 0, slots := 0, locals := 20 } : Room).cells ({ frames := 1, cells := 0, slots := 0, locals := 20 } : Room).slots) := by
  refine MetFree.of_bodySF (plainFor_of_name pn_1) hisR ?_
  intro p e s m args below meth c s₁ Bd hml0 hP hK
  obtain ⟨rfl, hZ, hh⟩ := hP
  have hx := Bd.exec
  have hby := Bd.bytes
  have hml : c.maxLocals = 2 := hml0
  have hown : s.vm.findClass "com/example/data_roles/dataroles/policy/MaskEqualsPinLaw" = some m.cls := findClass_of_methodNamed Bd.named
  have hnm := (name_of_methodNamed Bd.named Bd.method).1
  have X0 : Stand p l e ({ frames := 1, cells := 0, slots := 0, locals := 20 } : Room) s m #[(.int pp)] below meth c s₁ [] 0 0 := Stand.of_body Bd
  have e0 : s₁.heap = h0 := by rw [← hh, Bd.state]; rfl
  have N0 := Fr.nil n0
  have K0 := Keep.refl h0 []
  have ef : entryFrame m #[(.int pp)] 2 = mkF m 0 #[.val (.int pp), .unset] [] := (by first | (simp [entryFrame, mkF, argsToLocals, Value.category]; done) | rfl : entryFrame m #[(.int pp)] 2 = mkF m 0 #[.val (.int pp), .unset] [])
  rw [ef]
  refine fin_of fun Kx hF => ?_
  show Go p.tables e below Kx s₁ (mkF m 0 #[.val (.int pp), .unset] [])
  refine s_iloadN (pc' := 1) X0.here hx (hb hby d_m4_0) rfl rfl ?_
  obtain ⟨_, _, ⟨T77, L77, k77, n77⟩, -, X77, ⟨Lc77, hQ77, l77, y77, z77⟩, st77⟩ := Jvm.LawKit.callS X0 hx (y := (⟨"com/example/data_roles/dataroles/policy/MaskEqualsPinLaw", "lenOf", "(I)I"⟩ : MethodName)) hown (mvT hZ (hw _ (List.mem_of_getElem? (i := 4) rfl))) (mvT hZ (hw _ (List.mem_of_getElem? (i := 5) rfl))) (mvT hZ (hw _ (List.mem_of_getElem? (i := 2) rfl))) (mvT hZ (hw _ (List.mem_of_getElem? (i := 6) rfl))) (by decide) (backOf (W := 0) (rmN l Z a0 hw [] pp h0 n0 X00 ) hZ (hw _ (List.mem_of_getElem? (i := 6) rfl)) (hw _ (List.mem_of_getElem? (i := 2) rfl)) (by decide) (by decide)) (g := (mkF m 1 #[.val (.int pp), .unset] [(.int pp)])) rfl (by rw [hml]; rfl) (argsL := [(.int pp)]) (rest := []) (lenOf pd_1 rfl) rfl (by show 2 * 0 + _ ≤ _; exact Nat.le_of_eq rfl) (hb hby d_m4_1) (fun _ _ => ⟨rfl, e0, (by decide : 0 + 0 ≤ _), (by decide : 0 + 0 ≤ _)⟩)
  dsimp only [Pt.U, Pt.locs, Pt.cells, Pt.slots] at X77 l77 y77 z77 st77 hQ77
  subst l77 y77 z77
  obtain ⟨rfl, Nq77, hE77⟩ := hQ77
  have N77 := Fr.app N0 Nq77
  refine Go.st st77 ?_
  show Go p.tables e below Kx T77 (mkF m 4 #[.val (.int pp), .unset] [(.int (lenf pp))])
  refine s_istoreN (pc' := 5) (Ls' := #[.val (.int pp), .val (.int (lenf pp))]) X77.here hx (hb hby d_m4_4) rfl  rfl ?_
  refine s_iloadN (pc' := 6) X77.here hx (hb hby d_m4_5) rfl rfl ?_
  by_cases hc78 : (lenf pp) = (0 : Int32)
  · skip
    refine s_ifN (pc' := 9) X77.here hx (hb hby d_m4_6) rfl ((if0 _ _).trans (teq hc78).2) ?_
    refine s_iconst (pc' := 10) (v := (0 : Int32)) X77.here hx (hb hby d_m4_9) rfl rfl ?_
    obtain ⟨fs, hr, hrun, hended, hW, hsame⟩ := X77.leave (v := (some (.int (0 : Int32)))) (fun h => by rw [Bd.returns] at h; cases h)
    refine Go.fin (retI X77 hx Bd.returns (hb hby d_m4_10) hr) (hF _ _ hrun hended ⟨_, _, rfl, ?_, ⟨_, rfl⟩, hW, hsame.mono (by decide) (by decide)⟩)
    · show QK Z pp h0 n0 ((some (.int (0 : Int32))) : Option Value) T77.heap _
      rw [hE77]
      exact ⟨by rw [keyf, if_pos hc78], N77, rfl⟩
  · skip
    refine s_ifY (pc' := 11) X77.here hx (hb hby d_m4_6) ((if0 _ _).trans (feq hc78).2) (by decide) (by decide) ?_
    refine s_iloadN (pc' := 12) X77.here hx (hb hby d_m4_11) rfl rfl ?_
    refine s_iconst (pc' := 13) (v := (1 : Int32)) X77.here hx (hb hby d_m4_12) rfl rfl ?_
    by_cases hc79 : (lenf pp) = (1 : Int32)
    · skip
      refine s_icmpN (pc' := 16) X77.here hx (hb hby d_m4_13) rfl (teq hc79).2 ?_
      refine Go.st (X77.ldcInt hx hown (mvT hZ (hw _ (List.mem_of_getElem? (i := 86) rfl))) (g := (mkF m 16 #[.val (.int pp), .val (.int (lenf pp))] [])) rfl (hb hby d_m4_16)) ?_
      show Go p.tables e below Kx T77 (mkF m 18 #[.val (.int pp), .val (.int (lenf pp))] [(.int (65536 : Int32))])
      refine s_iloadN (pc' := 19) X77.here hx (hb hby d_m4_18) rfl rfl ?_
      refine s_sipush (pc' := 22) (v := (255 : Int32)) X77.here hx (hb hby d_m4_19) rfl rfl ?_
      refine s_iand (pc' := 23) X77.here hx (hb hby d_m4_22) rfl rfl ?_
      refine s_ior (pc' := 24) X77.here hx (hb hby d_m4_23) rfl rfl ?_
      obtain ⟨fs, hr, hrun, hended, hW, hsame⟩ := X77.leave (v := (some (.int ((65536 : Int32) ||| (pp &&& (255 : Int32)))))) (fun h => by rw [Bd.returns] at h; cases h)
      refine Go.fin (retI X77 hx Bd.returns (hb hby d_m4_24) hr) (hF _ _ hrun hended ⟨_, _, rfl, ?_, ⟨_, rfl⟩, hW, hsame.mono (by decide) (by decide)⟩)
      · show QK Z pp h0 n0 ((some (.int ((65536 : Int32) ||| (pp &&& (255 : Int32))))) : Option Value) T77.heap _
        rw [hE77]
        exact ⟨by rw [keyf, if_neg hc78, if_pos hc79], N77, rfl⟩
    · skip
      refine s_icmpY (pc' := 25) X77.here hx (hb hby d_m4_13) (feq hc79).2 (by decide) (by decide) ?_
      refine Go.st (X77.ldcInt hx hown (mvT hZ (hw _ (List.mem_of_getElem? (i := 84) rfl))) (g := (mkF m 25 #[.val (.int pp), .val (.int (lenf pp))] [])) rfl (hb hby d_m4_25)) ?_
      show Go p.tables e below Kx T77 (mkF m 27 #[.val (.int pp), .val (.int (lenf pp))] [(.int (131072 : Int32))])
      refine s_iloadN (pc' := 28) X77.here hx (hb hby d_m4_27) rfl rfl ?_
      refine Go.st (X77.ldcInt hx hown (mvT hZ (hw _ (List.mem_of_getElem? (i := 85) rfl))) (g := (mkF m 28 #[.val (.int pp), .val (.int (lenf pp))] [(.int pp), (.int (131072 : Int32))])) rfl (hb hby d_m4_28)) ?_
      show Go p.tables e below Kx T77 (mkF m 30 #[.val (.int pp), .val (.int (lenf pp))] [(.int (65535 : Int32)), (.int pp), (.int (131072 : Int32))])
      refine s_iand (pc' := 31) X77.here hx (hb hby d_m4_30) rfl rfl ?_
      refine s_ior (pc' := 32) X77.here hx (hb hby d_m4_31) rfl rfl ?_
      obtain ⟨fs, hr, hrun, hended, hW, hsame⟩ := X77.leave (v := (some (.int ((131072 : Int32) ||| (pp &&& (65535 : Int32)))))) (fun h => by rw [Bd.returns] at h; cases h)
      refine Go.fin (retI X77 hx Bd.returns (hb hby d_m4_32) hr) (hF _ _ hrun hended ⟨_, _, rfl, ?_, ⟨_, rfl⟩, hW, hsame.mono (by decide) (by decide)⟩)
      · show QK Z pp h0 n0 ((some (.int ((131072 : Int32) ||| (pp &&& (65535 : Int32))))) : Option Value) T77.heap _
        rw [hE77]
        exact ⟨by rw [keyf, if_neg hc78, if_neg hc79], N77, rfl⟩
theorem pn_2 : plainName "com/example/data_roles/dataroles/policy/Mask" = true := by first | (simp [plainName, overriddenIn]; done) | decide +kernel
theorem d_prog_14_m1_0 : decode prog_14_method_1_code 0 = .ok (.aload_n 0, 1) := by decide +kernel
theorem d_prog_14_m1_1 : decode prog_14_method_1_code 1 = .ok (.invokespecial 1, 3) := by decide +kernel
theorem d_prog_14_m1_4 : decode prog_14_method_1_code 4 = .ok (.aload_n 0, 1) := by decide +kernel
theorem d_prog_14_m1_5 : decode prog_14_method_1_code 5 = .ok (.aload_n 1, 1) := by decide +kernel
theorem d_prog_14_m1_6 : decode prog_14_method_1_code 6 = .ok (.putfield 7, 3) := by decide +kernel
theorem d_prog_14_m1_9 : decode prog_14_method_1_code 9 = .ok (.aload_n 0, 1) := by decide +kernel
theorem d_prog_14_m1_10 : decode prog_14_method_1_code 10 = .ok (.aload_n 2, 1) := by decide +kernel
theorem d_prog_14_m1_11 : decode prog_14_method_1_code 11 = .ok (.putfield 13, 3) := by decide +kernel
theorem d_prog_14_m1_14 : decode prog_14_method_1_code 14 = .ok (.aload_n 0, 1) := by decide +kernel
theorem d_prog_14_m1_15 : decode prog_14_method_1_code 15 = .ok (.iload_n 3, 1) := by decide +kernel
theorem d_prog_14_m1_16 : decode prog_14_method_1_code 16 = .ok (.putfield 16, 3) := by decide +kernel
theorem d_prog_14_m1_19 : decode prog_14_method_1_code 19 = .ok (.return_, 1) := by decide +kernel
def QI (Z : State) (a s1 : Addr) (cv : Value) (k : Int32) (h0 : Heap) (n0 : Nat) (v : Option Value) (h : Heap) (L : List Loc) : Prop := v = none ∧ Fr n0 L ∧ Keep h0 h [a] ∧ Exa Z h a "com/example/data_roles/dataroles/policy/Mask" ∧ Fld Z h a "com/example/data_roles/dataroles/policy/Mask" "text" "Ljava/lang/String;" (.ref s1) ∧ Fld Z h a "com/example/data_roles/dataroles/policy/Mask" "condition" "Ljava/lang/String;" cv ∧ Fld Z h a "com/example/data_roles/dataroles/policy/Mask" "order" "I" (.int k)
set_option maxRecDepth 65536 in
set_option maxHeartbeats 40000000 in
theorem rmI (l : Launch) (Z : State) (a0 : Array Value) (hw : ∀ d ∈ tables_1, d.before a0 Z = true) (ws : List Jvm.Cond) (a s1 : Addr) (cv : Value) (k : Int32) (h0 : Heap) (n0 : Nat) (X00 : Old Z n0 h0) (hcv : cv.isRef = true) (ge_a : n0 ≤ a) (E : Exa Z h0 a "com/example/data_roles/dataroles/policy/Mask") (F1 : Fld Z h0 a "com/example/data_roles/dataroles/policy/Mask" "text" "Ljava/lang/String;" .null) (F2 : Fld Z h0 a "com/example/data_roles/dataroles/policy/Mask" "condition" "Ljava/lang/String;" .null) (F3 : Fld Z h0 a "com/example/data_roles/dataroles/policy/Mask" "order" "I" (.int (0 : Int32))) :
    MetFree l (⟨"com/example/data_roles/dataroles/policy/Mask", "<init>", "(Ljava/lang/String;Ljava/lang/String;I)V"⟩ : MethodName) (head1 (Jvm.Cond.code (⟨"com/example/data_roles/dataroles/policy/Mask", "<init>", "(Ljava/lang/String;Ljava/lang/String;I)V"⟩ : MethodName) prog_14_method_1_code 4 none :: ws) ({ frames := 1, cells := 0, slots := 0, locals := 20 } : Room)) (fun aa U => aa = #[(.ref a), (.ref s1), cv, (.int k)] ∧ Z.Warmed39 U.vm ∧ U.heap = h0) (fun _ _ _ _ _ => True) (fun _ U o U' => ∃ v L, o = .returned v ∧ QI Z a s1 cv k h0 n0 v U'.heap L ∧ FrameEnd U o U' L ({ frames := 1, cells := 0, slots := 0, locals := 20 } : Room).cells ({ frames := 1, cells := 0, slots := 0, locals := 20 } : Room).slots) := by
  refine MetFree.of_bodySF (plainFor_of_name pn_2) hisR ?_
  intro p e s m args below meth c s₁ Bd hml0 hP hK
  obtain ⟨rfl, hZ, hh⟩ := hP
  have hx := Bd.exec
  have hby := Bd.bytes
  have hml : c.maxLocals = 4 := hml0
  have hown : s.vm.findClass "com/example/data_roles/dataroles/policy/Mask" = some m.cls := findClass_of_methodNamed Bd.named
  have hnm := (name_of_methodNamed Bd.named Bd.method).1
  have X0 : Stand p l e ({ frames := 1, cells := 0, slots := 0, locals := 20 } : Room) s m #[(.ref a), (.ref s1), cv, (.int k)] below meth c s₁ [] 0 0 := Stand.of_body Bd
  have e0 : s₁.heap = h0 := by rw [← hh, Bd.state]; rfl
  have N0 := Fr.nil n0
  have K0 := Keep.refl h0 [a]
  have ef : entryFrame m #[(.ref a), (.ref s1), cv, (.int k)] 4 = mkF m 0 #[.val (.ref a), .val (.ref s1), .val cv, .val (.int k)] [] := (by rcases ref_cases hcv with rfl | ⟨_, rfl⟩ <;> rfl)
  rw [ef]
  refine fin_of fun Kx hF => ?_
  show Go p.tables e below Kx s₁ (mkF m 0 #[.val (.ref a), .val (.ref s1), .val cv, .val (.int k)] [])
  refine s_aloadN (pc' := 1) X0.here hx (hb hby d_prog_14_m1_0) rfl rfl rfl ?_
  obtain ⟨T80, X80, e80, st80⟩ := initO X0 hx hZ hown (hw _ (List.mem_of_getElem? (i := 38) rfl)) (hw _ (List.mem_of_getElem? (i := 19) rfl)) (hw _ (List.mem_of_getElem? (i := 20) rfl)) e0 (g := (mkF m 1 #[.val (.ref a), .val (.ref s1), .val cv, .val (.int k)] [(.ref a)])) rfl (by rw [hml]; rfl) rfl (hb hby d_prog_14_m1_1) (by decide) (W := 0) (by show 2 * 0 + _ ≤ _; exact Nat.le_of_eq rfl) (by decide)
  refine Go.st st80 ?_
  show Go p.tables e below Kx T80 (mkF m 4 #[.val (.ref a), .val (.ref s1), .val cv, .val (.int k)] [])
  refine s_aloadN (pc' := 5) X80.here hx (hb hby d_prog_14_m1_4) rfl rfl rfl ?_
  refine s_aloadN (pc' := 6) X80.here hx (hb hby d_prog_14_m1_5) rfl rfl rfl ?_
  obtain ⟨T81, h81, X81, e81, W81, st81⟩ := putF X80 hx hZ hown (host := "") (Or.inl (hw _ (List.mem_of_getElem? (i := 39) rfl))) Via.refl e80 F1 E (Or.inr ⟨(hw _ (List.mem_of_getElem? (i := 40) rfl)), rfl, hnm⟩) (hw _ (List.mem_of_getElem? (i := 33) rfl)) (ty := (.object "java/lang/String")) (by decide) rfl rfl (g := (mkF m 6 #[.val (.ref a), .val (.ref s1), .val cv, .val (.int k)] [(.ref s1), (.ref a)])) rfl rfl (hb hby d_prog_14_m1_6)
  have Fw81 : Fld Z h81 a "com/example/data_roles/dataroles/policy/Mask" "text" "Ljava/lang/String;" (.ref s1) := F1.same W81
  have K81 : Keep h0 h81 [a] := K0.wr W81 (Or.inl (List.mem_of_getElem? (i := 0) rfl))
  have O81 : Old Z n0 h81 := X00.wr W81 ge_a
  have N81 := Fr.snoc X81 N0 ge_a
  refine Go.st st81 ?_
  show Go p.tables e below Kx T81 (mkF m 9 #[.val (.ref a), .val (.ref s1), .val cv, .val (.int k)] [])
  refine s_aloadN (pc' := 10) X81.here hx (hb hby d_prog_14_m1_9) rfl rfl rfl ?_
  refine s_aloadN (pc' := 11) X81.here hx (hb hby d_prog_14_m1_10) rfl rfl hcv ?_
  have f82 : Fld Z h81 a "com/example/data_roles/dataroles/policy/Mask" "condition" "Ljava/lang/String;" .null := (F2.other W81 (Or.inr (slot_ne (Or.inr (hw _ (List.mem_of_getElem? (i := 42) rfl))) (Or.inr (hw _ (List.mem_of_getElem? (i := 40) rfl))) (by decide) (t := (.object "java/lang/String")) (t' := (.object "java/lang/String")) (by decide) (by decide))))
  have f83 : Exa Z h81 a "com/example/data_roles/dataroles/policy/Mask" := (E.wr W81)
  obtain ⟨T84, h84, X84, e84, W84, st84⟩ := putF X81 hx hZ hown (host := "") (Or.inl (hw _ (List.mem_of_getElem? (i := 41) rfl))) Via.refl e81 f82 f83 (Or.inr ⟨(hw _ (List.mem_of_getElem? (i := 42) rfl)), rfl, hnm⟩) (hw _ (List.mem_of_getElem? (i := 33) rfl)) (ty := (.object "java/lang/String")) (by decide) (own_narrow_ref hcv) (own_fits_ref rfl hcv) (g := (mkF m 11 #[.val (.ref a), .val (.ref s1), .val cv, .val (.int k)] [cv, (.ref a)])) rfl rfl (hb hby d_prog_14_m1_11)
  have Fw84 : Fld Z h84 a "com/example/data_roles/dataroles/policy/Mask" "condition" "Ljava/lang/String;" cv := f82.same W84
  have K84 : Keep h0 h84 [a] := K81.wr W84 (Or.inl (List.mem_of_getElem? (i := 0) rfl))
  have O84 : Old Z n0 h84 := O81.wr W84 ge_a
  have N84 := Fr.snoc X84 N81 ge_a
  refine Go.st st84 ?_
  show Go p.tables e below Kx T84 (mkF m 14 #[.val (.ref a), .val (.ref s1), .val cv, .val (.int k)] [])
  refine s_aloadN (pc' := 15) X84.here hx (hb hby d_prog_14_m1_14) rfl rfl rfl ?_
  refine s_iloadN (pc' := 16) X84.here hx (hb hby d_prog_14_m1_15) rfl rfl ?_
  have f85 : Fld Z h84 a "com/example/data_roles/dataroles/policy/Mask" "order" "I" (.int (0 : Int32)) := ((F3.other W81 (Or.inr (slot_ne (Or.inr (hw _ (List.mem_of_getElem? (i := 44) rfl))) (Or.inr (hw _ (List.mem_of_getElem? (i := 40) rfl))) (by decide) (t := .int) (t' := (.object "java/lang/String")) (by decide) (by decide)))).other W84 (Or.inr (slot_ne (Or.inr (hw _ (List.mem_of_getElem? (i := 44) rfl))) (Or.inr (hw _ (List.mem_of_getElem? (i := 42) rfl))) (by decide) (t := .int) (t' := (.object "java/lang/String")) (by decide) (by decide))))
  have f86 : Exa Z h84 a "com/example/data_roles/dataroles/policy/Mask" := (f83.wr W84)
  obtain ⟨T87, h87, X87, e87, W87, st87⟩ := putF X84 hx hZ hown (host := "") (Or.inl (hw _ (List.mem_of_getElem? (i := 43) rfl))) Via.refl e84 f85 f86 (Or.inr ⟨(hw _ (List.mem_of_getElem? (i := 44) rfl)), rfl, hnm⟩) (hw _ (List.mem_of_getElem? (i := 33) rfl)) (ty := .int) (by decide) rfl rfl (g := (mkF m 16 #[.val (.ref a), .val (.ref s1), .val cv, .val (.int k)] [(.int k), (.ref a)])) rfl rfl (hb hby d_prog_14_m1_16)
  have Fw87 : Fld Z h87 a "com/example/data_roles/dataroles/policy/Mask" "order" "I" (.int k) := f85.same W87
  have K87 : Keep h0 h87 [a] := K84.wr W87 (Or.inl (List.mem_of_getElem? (i := 0) rfl))
  have O87 : Old Z n0 h87 := O84.wr W87 ge_a
  have N87 := Fr.snoc X87 N84 ge_a
  refine Go.st st87 ?_
  show Go p.tables e below Kx T87 (mkF m 19 #[.val (.ref a), .val (.ref s1), .val cv, .val (.int k)] [])
  have f88 : Exa Z h87 a "com/example/data_roles/dataroles/policy/Mask" := (f86.wr W87)
  have f89 : Fld Z h87 a "com/example/data_roles/dataroles/policy/Mask" "text" "Ljava/lang/String;" (.ref s1) := ((Fw81.other W84 (Or.inr (slot_ne (Or.inr (hw _ (List.mem_of_getElem? (i := 40) rfl))) (Or.inr (hw _ (List.mem_of_getElem? (i := 42) rfl))) (by decide) (t := (.object "java/lang/String")) (t' := (.object "java/lang/String")) (by decide) (by decide)))).other W87 (Or.inr (slot_ne (Or.inr (hw _ (List.mem_of_getElem? (i := 40) rfl))) (Or.inr (hw _ (List.mem_of_getElem? (i := 44) rfl))) (by decide) (t := (.object "java/lang/String")) (t' := .int) (by decide) (by decide))))
  have f90 : Fld Z h87 a "com/example/data_roles/dataroles/policy/Mask" "condition" "Ljava/lang/String;" cv := (Fw84.other W87 (Or.inr (slot_ne (Or.inr (hw _ (List.mem_of_getElem? (i := 42) rfl))) (Or.inr (hw _ (List.mem_of_getElem? (i := 44) rfl))) (by decide) (t := (.object "java/lang/String")) (t' := .int) (by decide) (by decide))))
  obtain ⟨fs, hr, hrun, hended, hW, hsame⟩ := X87.leave (v := none) (fun _ => rfl)
  refine Go.fin (X87.returnOut hx Bd.returns (hb hby d_prog_14_m1_19) hr) (hF _ _ hrun hended ⟨_, _, rfl, ?_, ⟨_, rfl⟩, hW, hsame.mono (by decide) (by decide)⟩)
  · show QI Z a s1 cv k h0 n0 (none : Option Value) T87.heap _
    rw [e87]
    exact ⟨rfl, N87, K87, f88, f89, f90, Fw87⟩
theorem d_jdk_42_m66_0 : decode jdk_42_method_66_code 0 = .ok (.aload_n 0, 1) := by decide +kernel
theorem d_jdk_42_m66_1 : decode jdk_42_method_66_code 1 = .ok (.aload_n 1, 1) := by decide +kernel
theorem d_jdk_42_m66_2 : decode jdk_42_method_66_code 2 = .ok (.if_acmp .ne 5, 3) := by decide +kernel
theorem d_jdk_42_m66_7 : decode jdk_42_method_66_code 7 = .ok (.aload_n 1, 1) := by decide +kernel
theorem d_jdk_42_m66_8 : decode jdk_42_method_66_code 8 = .ok (.instanceof 10, 3) := by decide +kernel
theorem d_jdk_42_m66_11 : decode jdk_42_method_66_code 11 = .ok (.ifCond .eq 43, 3) := by decide +kernel
theorem d_jdk_42_m66_54 : decode jdk_42_method_66_code 54 = .ok (.iconst 0, 1) := by decide +kernel
theorem d_jdk_42_m66_55 : decode jdk_42_method_66_code 55 = .ok (.ireturn, 1) := by decide +kernel
def QS (Z : State) (x : Addr) (h0 : Heap) (n0 : Nat) (v : Option Value) (h : Heap) (L : List Loc) : Prop := v = some (.int 0) ∧ Fr n0 L ∧ h = h0
set_option maxRecDepth 65536 in
set_option maxHeartbeats 40000000 in
theorem rmS (l : Launch) (Z : State) (a0 : Array Value) (hw : ∀ d ∈ tables_1, d.before a0 Z = true) (ws : List Jvm.Cond) (x : Addr) (h0 : Heap) (n0 : Nat) (X00 : Old Z n0 h0)  :
    MetFree l (⟨"java/lang/String", "equals", "(Ljava/lang/Object;)Z"⟩ : MethodName) (head1 (Jvm.Cond.code (⟨"java/lang/String", "equals", "(Ljava/lang/Object;)Z"⟩ : MethodName) jdk_42_method_66_code 3 (some .boolean) :: ws) ({ frames := 0, cells := 0, slots := 0, locals := 0 } : Room)) (fun aa U => aa = #[(.ref x), .null] ∧ Z.Warmed39 U.vm ∧ U.heap = h0) (fun _ _ _ _ _ => True) (fun _ U o U' => ∃ v L, o = .returned v ∧ QS Z x h0 n0 v U'.heap L ∧ FrameEnd U o U' L ({ frames := 0, cells := 0, slots := 0, locals := 0 } : Room).cells ({ frames := 0, cells := 0, slots := 0, locals := 0 } : Room).slots) := by
  refine MetFree.of_bodySF (plainFor_of_name pn_0) hisR ?_
  intro p e s m args below meth c s₁ Bd hml0 hP hK
  obtain ⟨rfl, hZ, hh⟩ := hP
  have hx := Bd.exec
  have hby := Bd.bytes
  have hml : c.maxLocals = 3 := hml0
  have hown : s.vm.findClass "java/lang/String" = some m.cls := findClass_of_methodNamed Bd.named
  have hnm := (name_of_methodNamed Bd.named Bd.method).1
  have X0 : Stand p l e ({ frames := 0, cells := 0, slots := 0, locals := 0 } : Room) s m #[(.ref x), .null] below meth c s₁ [] 0 0 := Stand.of_body Bd
  have e0 : s₁.heap = h0 := by rw [← hh, Bd.state]; rfl
  have N0 := Fr.nil n0
  have K0 := Keep.refl h0 []
  have ef : entryFrame m #[(.ref x), .null] 3 = mkF m 0 #[.val (.ref x), .val .null, .unset] [] := (by first | (simp [entryFrame, mkF, argsToLocals, Value.category]; done) | rfl : entryFrame m #[(.ref x), .null] 3 = mkF m 0 #[.val (.ref x), .val .null, .unset] [])
  rw [ef]
  refine fin_of fun Kx hF => ?_
  show Go p.tables e below Kx s₁ (mkF m 0 #[.val (.ref x), .val .null, .unset] [])
  refine s_aloadN (pc' := 1) X0.here hx (hb hby d_jdk_42_m66_0) rfl rfl rfl ?_
  refine s_aloadN (pc' := 2) X0.here hx (hb hby d_jdk_42_m66_1) rfl rfl rfl ?_
  refine Go.st (fun _ r => Jvm.RoadKit.acmp (g := (mkF m 2 #[.val (.ref x), .val .null, .unset] [.null, (.ref x)])) X0 hx rfl rfl rfl (pc0 := 2) (pc' := 7) (same := false) rfl (hb hby d_jdk_42_m66_2) rfl (decide_eq_false nofun) (by decide) (by decide) r) ?_
  show Go p.tables e below Kx s₁ (mkF m 7 #[.val (.ref x), .val .null, .unset] [])
  refine s_aloadN (pc' := 8) X0.here hx (hb hby d_jdk_42_m66_7) rfl rfl rfl ?_
  refine Go.st (X0.instanceofNull hx (g := (mkF m 8 #[.val (.ref x), .val .null, .unset] [.null])) rfl rfl (hb hby d_jdk_42_m66_8)) ?_
  show Go p.tables e below Kx s₁ (mkF m 11 #[.val (.ref x), .val .null, .unset] [(.int (0 : Int32))])
  refine s_ifY (pc' := 54) X0.here hx (hb hby d_jdk_42_m66_11) ((if0 _ _).trans (teq (by decide)).1) (by decide) (by decide) ?_
  refine s_iconst (pc' := 55) (v := (0 : Int32)) X0.here hx (hb hby d_jdk_42_m66_54) rfl rfl ?_
  obtain ⟨fs, hr, hrun, hended, hW, hsame⟩ := X0.leave (v := (some (.int (0 : Int32)))) (fun h => by rw [Bd.returns] at h; cases h)
  refine Go.fin (retN X0 hx (t := .boolean) Bd.returns (by simp) (hb hby d_jdk_42_m66_55) hr) (hF _ _ hrun hended ⟨_, _, rfl, ?_, ⟨_, rfl⟩, hW, hsame.mono (by decide) (by decide)⟩)
  · show QS Z x h0 n0 ((some (.int (0 : Int32))) : Option Value) s₁.heap _
    rw [e0]
    exact ⟨rfl, N0, rfl⟩
theorem i8inj {a b : Int32} (ha : ¬ a < 0 ∧ ¬ (255 : Int32) < a) (hb : ¬ b < 0 ∧ ¬ (255 : Int32) < b) (h : a.toInt8.toInt32 = b.toInt8.toInt32) : a = b := by
  have q1 := c_i2b a
  have q2 := c_i2b b
  have e : (255 : Int32).toInt = 255 := rfl
  have e0 : (0 : Int32).toInt = 0 := rfl
  have a1 := ha.1; have a2 := ha.2; have b1 := hb.1; have b2 := hb.2
  rw [Int32.lt_iff_toInt_lt] at a1 a2 b1 b2
  rw [h] at q1
  exact eq32 (by omega)
theorem Str.uniq {Z : State} {h : Heap} {b b' : Nat} {x : Addr} {cs ds : List Int32} (S : Str Z h b x cs) (S' : Str Z h b' x ds) : cs = ds := by
  obtain ⟨-, -, -, ⟨t, k, -, F, A⟩, p, l⟩ := S
  obtain ⟨-, -, -, ⟨t', k', -, F', A'⟩, p', l'⟩ := S'
  have et : t = t' := by
    apply Classical.byContradiction; intro ne
    exact F.ne F' (fun e => ne (Value.ref.inj e)) rfl
  subst et
  obtain ⟨c, a1, -, s1, -, h1, -⟩ := A
  obtain ⟨c', a1', -, s1', -, h1', -⟩ := A'
  cases a1.1.symm.trans a1'.1
  have n1 : (Int32.ofNat cs.length).toNatClampNeg = cs.length := Jvm.Free.XT.n32 (by omega)
  have n2 : (Int32.ofNat ds.length).toNatClampNeg = ds.length := Jvm.Free.XT.n32 (by omega)
  have hl : cs.length = ds.length := by omega
  apply List.ext_getElem hl
  intro i hi hi'
  have q := h1 i (by omega)
  have q' := h1' i (by omega)
  rw [q] at q'
  have e := Option.some.inj q'
  simp only [List.getD_eq_getElem?_getD, List.getElem?_map, List.getElem?_eq_getElem hi, List.getElem?_eq_getElem hi', Option.map_some, Option.getD_some] at e
  exact i8inj (p _ (List.getElem_mem hi)) (p' _ (List.getElem_mem hi')) (Value.int.inj e)
theorem pn_3 : plainName "java/util/Objects" = true := by first | (simp [plainName, overriddenIn]; done) | decide +kernel
theorem d_jdk_31_m2_0 : decode jdk_31_method_2_code 0 = .ok (.aload_n 0, 1) := by decide +kernel
theorem d_jdk_31_m2_1 : decode jdk_31_method_2_code 1 = .ok (.aload_n 1, 1) := by decide +kernel
theorem d_jdk_31_m2_2 : decode jdk_31_method_2_code 2 = .ok (.if_acmp .eq 15, 3) := by decide +kernel
theorem d_jdk_31_m2_17 : decode jdk_31_method_2_code 17 = .ok (.iconst 1, 1) := by decide +kernel
theorem d_jdk_31_m2_18 : decode jdk_31_method_2_code 18 = .ok (.goto 4, 3) := by decide +kernel
theorem d_jdk_31_m2_22 : decode jdk_31_method_2_code 22 = .ok (.ireturn, 1) := by decide +kernel
def QO00 (Z : State) (x : Nat) (h0 : Heap) (n0 : Nat) (v : Option Value) (h : Heap) (L : List Loc) : Prop := v = some (.int 1) ∧ Fr n0 L ∧ h = h0
set_option maxRecDepth 65536 in
set_option maxHeartbeats 40000000 in
theorem rmO00 (l : Launch) (Z : State) (a0 : Array Value) (hw : ∀ d ∈ tables_1, d.before a0 Z = true) (ws : List Jvm.Cond) (x : Nat) (h0 : Heap) (n0 : Nat) (X00 : Old Z n0 h0)  :
    MetFree l (⟨"java/util/Objects", "equals", "(Ljava/lang/Object;Ljava/lang/Object;)Z"⟩ : MethodName) (head1 (Jvm.Cond.code (⟨"java/util/Objects", "equals", "(Ljava/lang/Object;Ljava/lang/Object;)Z"⟩ : MethodName) jdk_31_method_2_code 2 (some .boolean) :: ws) ({ frames := 1, cells := 0, slots := 0, locals := 20 } : Room)) (fun aa U => aa = #[.null, .null] ∧ Z.Warmed39 U.vm ∧ U.heap = h0) (fun _ _ _ _ _ => True) (fun _ U o U' => ∃ v L, o = .returned v ∧ QO00 Z x h0 n0 v U'.heap L ∧ FrameEnd U o U' L ({ frames := 1, cells := 0, slots := 0, locals := 20 } : Room).cells ({ frames := 1, cells := 0, slots := 0, locals := 20 } : Room).slots) := by
  refine MetFree.of_bodySF (plainFor_of_name pn_3) hisR ?_
  intro p e s m args below meth c s₁ Bd hml0 hP hK
  obtain ⟨rfl, hZ, hh⟩ := hP
  have hx := Bd.exec
  have hby := Bd.bytes
  have hml : c.maxLocals = 2 := hml0
  have hown : s.vm.findClass "java/util/Objects" = some m.cls := findClass_of_methodNamed Bd.named
  have hnm := (name_of_methodNamed Bd.named Bd.method).1
  have X0 : Stand p l e ({ frames := 1, cells := 0, slots := 0, locals := 20 } : Room) s m #[.null, .null] below meth c s₁ [] 0 0 := Stand.of_body Bd
  have e0 : s₁.heap = h0 := by rw [← hh, Bd.state]; rfl
  have N0 := Fr.nil n0
  have K0 := Keep.refl h0 []
  have ef : entryFrame m #[.null, .null] 2 = mkF m 0 #[.val .null, .val .null] [] := (by first | (simp [entryFrame, mkF, argsToLocals, Value.category]; done) | rfl : entryFrame m #[.null, .null] 2 = mkF m 0 #[.val .null, .val .null] [])
  rw [ef]
  refine fin_of fun Kx hF => ?_
  show Go p.tables e below Kx s₁ (mkF m 0 #[.val .null, .val .null] [])
  refine s_aloadN (pc' := 1) X0.here hx (hb hby d_jdk_31_m2_0) rfl rfl rfl ?_
  refine s_aloadN (pc' := 2) X0.here hx (hb hby d_jdk_31_m2_1) rfl rfl rfl ?_
  refine Go.st (fun _ r => Jvm.RoadKit.acmp (g := (mkF m 2 #[.val .null, .val .null] [.null, .null])) X0 hx rfl rfl rfl (pc0 := 2) (pc' := 17) (same := true) rfl (hb hby d_jdk_31_m2_2) rfl (decide_eq_true rfl) (by decide) (by decide) r) ?_
  show Go p.tables e below Kx s₁ (mkF m 17 #[.val .null, .val .null] [])
  refine s_iconst (pc' := 18) (v := (1 : Int32)) X0.here hx (hb hby d_jdk_31_m2_17) rfl rfl ?_
  refine s_goto (pc' := 22) X0.here hx (hb hby d_jdk_31_m2_18) (by decide) (by decide) ?_
  obtain ⟨fs, hr, hrun, hended, hW, hsame⟩ := X0.leave (v := (some (.int (1 : Int32)))) (fun h => by rw [Bd.returns] at h; cases h)
  refine Go.fin (retN X0 hx (t := .boolean) Bd.returns (by simp) (hb hby d_jdk_31_m2_22) hr) (hF _ _ hrun hended ⟨_, _, rfl, ?_, ⟨_, rfl⟩, hW, hsame.mono (by decide) (by decide)⟩)
  · show QO00 Z x h0 n0 ((some (.int (1 : Int32))) : Option Value) s₁.heap _
    rw [e0]
    exact ⟨rfl, N0, rfl⟩
theorem d_jdk_31_m2_5 : decode jdk_31_method_2_code 5 = .ok (.aload_n 0, 1) := by decide +kernel
theorem d_jdk_31_m2_6 : decode jdk_31_method_2_code 6 = .ok (.ifnull 15, 3) := by decide +kernel
theorem d_jdk_31_m2_21 : decode jdk_31_method_2_code 21 = .ok (.iconst 0, 1) := by decide +kernel
def QO01 (Z : State) (x : Addr) (h0 : Heap) (n0 : Nat) (v : Option Value) (h : Heap) (L : List Loc) : Prop := v = some (.int 0) ∧ Fr n0 L ∧ h = h0
set_option maxRecDepth 65536 in
set_option maxHeartbeats 40000000 in
theorem rmO01 (l : Launch) (Z : State) (a0 : Array Value) (hw : ∀ d ∈ tables_1, d.before a0 Z = true) (ws : List Jvm.Cond) (x : Addr) (h0 : Heap) (n0 : Nat) (X00 : Old Z n0 h0)  :
    MetFree l (⟨"java/util/Objects", "equals", "(Ljava/lang/Object;Ljava/lang/Object;)Z"⟩ : MethodName) (head1 (Jvm.Cond.code (⟨"java/util/Objects", "equals", "(Ljava/lang/Object;Ljava/lang/Object;)Z"⟩ : MethodName) jdk_31_method_2_code 2 (some .boolean) :: ws) ({ frames := 1, cells := 0, slots := 0, locals := 20 } : Room)) (fun aa U => aa = #[.null, (.ref x)] ∧ Z.Warmed39 U.vm ∧ U.heap = h0) (fun _ _ _ _ _ => True) (fun _ U o U' => ∃ v L, o = .returned v ∧ QO01 Z x h0 n0 v U'.heap L ∧ FrameEnd U o U' L ({ frames := 1, cells := 0, slots := 0, locals := 20 } : Room).cells ({ frames := 1, cells := 0, slots := 0, locals := 20 } : Room).slots) := by
  refine MetFree.of_bodySF (plainFor_of_name pn_3) hisR ?_
  intro p e s m args below meth c s₁ Bd hml0 hP hK
  obtain ⟨rfl, hZ, hh⟩ := hP
  have hx := Bd.exec
  have hby := Bd.bytes
  have hml : c.maxLocals = 2 := hml0
  have hown : s.vm.findClass "java/util/Objects" = some m.cls := findClass_of_methodNamed Bd.named
  have hnm := (name_of_methodNamed Bd.named Bd.method).1
  have X0 : Stand p l e ({ frames := 1, cells := 0, slots := 0, locals := 20 } : Room) s m #[.null, (.ref x)] below meth c s₁ [] 0 0 := Stand.of_body Bd
  have e0 : s₁.heap = h0 := by rw [← hh, Bd.state]; rfl
  have N0 := Fr.nil n0
  have K0 := Keep.refl h0 []
  have ef : entryFrame m #[.null, (.ref x)] 2 = mkF m 0 #[.val .null, .val (.ref x)] [] := (by first | (simp [entryFrame, mkF, argsToLocals, Value.category]; done) | rfl : entryFrame m #[.null, (.ref x)] 2 = mkF m 0 #[.val .null, .val (.ref x)] [])
  rw [ef]
  refine fin_of fun Kx hF => ?_
  show Go p.tables e below Kx s₁ (mkF m 0 #[.val .null, .val (.ref x)] [])
  refine s_aloadN (pc' := 1) X0.here hx (hb hby d_jdk_31_m2_0) rfl rfl rfl ?_
  refine s_aloadN (pc' := 2) X0.here hx (hb hby d_jdk_31_m2_1) rfl rfl rfl ?_
  refine Go.st (fun _ r => Jvm.RoadKit.acmp (g := (mkF m 2 #[.val .null, .val (.ref x)] [(.ref x), .null])) X0 hx rfl rfl rfl (pc0 := 2) (pc' := 5) (same := false) rfl (hb hby d_jdk_31_m2_2) rfl (decide_eq_false nofun) (by decide) (by decide) r) ?_
  show Go p.tables e below Kx s₁ (mkF m 5 #[.val .null, .val (.ref x)] [])
  refine s_aloadN (pc' := 6) X0.here hx (hb hby d_jdk_31_m2_5) rfl rfl rfl ?_
  refine s_ifnullY (pc' := 21) X0.here hx (hb hby d_jdk_31_m2_6) (by decide) (by decide) ?_
  refine s_iconst (pc' := 22) (v := (0 : Int32)) X0.here hx (hb hby d_jdk_31_m2_21) rfl rfl ?_
  obtain ⟨fs, hr, hrun, hended, hW, hsame⟩ := X0.leave (v := (some (.int (0 : Int32)))) (fun h => by rw [Bd.returns] at h; cases h)
  refine Go.fin (retN X0 hx (t := .boolean) Bd.returns (by simp) (hb hby d_jdk_31_m2_22) hr) (hF _ _ hrun hended ⟨_, _, rfl, ?_, ⟨_, rfl⟩, hW, hsame.mono (by decide) (by decide)⟩)
  · show QO01 Z x h0 n0 ((some (.int (0 : Int32))) : Option Value) s₁.heap _
    rw [e0]
    exact ⟨rfl, N0, rfl⟩
theorem d_jdk_31_m2_9 : decode jdk_31_method_2_code 9 = .ok (.aload_n 0, 1) := by decide +kernel
theorem d_jdk_31_m2_10 : decode jdk_31_method_2_code 10 = .ok (.aload_n 1, 1) := by decide +kernel
theorem pd_3 : parseMethodDescriptor "(Ljava/lang/Object;)Z" = some ⟨[(.object "java/lang/Object")], some .boolean⟩ := by decide +kernel
theorem d_jdk_31_m2_11 : decode jdk_31_method_2_code 11 = .ok (.invokevirtual 14, 3) := by decide +kernel
theorem d_jdk_31_m2_14 : decode jdk_31_method_2_code 14 = .ok (.ifCond .eq 7, 3) := by decide +kernel
def QO10 (Z : State) (x : Addr) (h0 : Heap) (n0 : Nat) (v : Option Value) (h : Heap) (L : List Loc) : Prop := v = some (.int 0) ∧ Fr n0 L ∧ h = h0
set_option maxRecDepth 65536 in
set_option maxHeartbeats 40000000 in
theorem rmO10 (l : Launch) (Z : State) (a0 : Array Value) (hw : ∀ d ∈ tables_1, d.before a0 Z = true) (ws : List Jvm.Cond) (x : Addr) (h0 : Heap) (n0 : Nat) (X00 : Old Z n0 h0) (E : Exa Z h0 x "java/lang/String") :
    MetFree l (⟨"java/util/Objects", "equals", "(Ljava/lang/Object;Ljava/lang/Object;)Z"⟩ : MethodName) (head1 (Jvm.Cond.code (⟨"java/util/Objects", "equals", "(Ljava/lang/Object;Ljava/lang/Object;)Z"⟩ : MethodName) jdk_31_method_2_code 2 (some .boolean) :: ws) ({ frames := 1, cells := 0, slots := 0, locals := 20 } : Room)) (fun aa U => aa = #[(.ref x), .null] ∧ Z.Warmed39 U.vm ∧ U.heap = h0) (fun _ _ _ _ _ => True) (fun _ U o U' => ∃ v L, o = .returned v ∧ QO10 Z x h0 n0 v U'.heap L ∧ FrameEnd U o U' L ({ frames := 1, cells := 0, slots := 0, locals := 20 } : Room).cells ({ frames := 1, cells := 0, slots := 0, locals := 20 } : Room).slots) := by
  refine MetFree.of_bodySF (plainFor_of_name pn_3) hisR ?_
  intro p e s m args below meth c s₁ Bd hml0 hP hK
  obtain ⟨rfl, hZ, hh⟩ := hP
  have hx := Bd.exec
  have hby := Bd.bytes
  have hml : c.maxLocals = 2 := hml0
  have hown : s.vm.findClass "java/util/Objects" = some m.cls := findClass_of_methodNamed Bd.named
  have hnm := (name_of_methodNamed Bd.named Bd.method).1
  have X0 : Stand p l e ({ frames := 1, cells := 0, slots := 0, locals := 20 } : Room) s m #[(.ref x), .null] below meth c s₁ [] 0 0 := Stand.of_body Bd
  have e0 : s₁.heap = h0 := by rw [← hh, Bd.state]; rfl
  have N0 := Fr.nil n0
  have K0 := Keep.refl h0 []
  have ef : entryFrame m #[(.ref x), .null] 2 = mkF m 0 #[.val (.ref x), .val .null] [] := (by first | (simp [entryFrame, mkF, argsToLocals, Value.category]; done) | rfl : entryFrame m #[(.ref x), .null] 2 = mkF m 0 #[.val (.ref x), .val .null] [])
  rw [ef]
  refine fin_of fun Kx hF => ?_
  show Go p.tables e below Kx s₁ (mkF m 0 #[.val (.ref x), .val .null] [])
  refine s_aloadN (pc' := 1) X0.here hx (hb hby d_jdk_31_m2_0) rfl rfl rfl ?_
  refine s_aloadN (pc' := 2) X0.here hx (hb hby d_jdk_31_m2_1) rfl rfl rfl ?_
  refine Go.st (fun _ r => Jvm.RoadKit.acmp (g := (mkF m 2 #[.val (.ref x), .val .null] [.null, (.ref x)])) X0 hx rfl rfl rfl (pc0 := 2) (pc' := 5) (same := false) rfl (hb hby d_jdk_31_m2_2) rfl (decide_eq_false nofun) (by decide) (by decide) r) ?_
  show Go p.tables e below Kx s₁ (mkF m 5 #[.val (.ref x), .val .null] [])
  refine s_aloadN (pc' := 6) X0.here hx (hb hby d_jdk_31_m2_5) rfl rfl rfl ?_
  refine s_ifnullN (pc' := 9) X0.here hx (hb hby d_jdk_31_m2_6) rfl ?_
  refine s_aloadN (pc' := 10) X0.here hx (hb hby d_jdk_31_m2_9) rfl rfl rfl ?_
  refine s_aloadN (pc' := 11) X0.here hx (hb hby d_jdk_31_m2_10) rfl rfl rfl ?_
  obtain ⟨cq91, kq91, q91a, q91b, q91c⟩ := isOf hZ e0 E
  obtain ⟨_, _, ⟨T91, L91, k91, n91⟩, -, X91, ⟨Lc91, hQ91, l91, y91, z91⟩, st91⟩ := X0.virtualBack hx (y := (⟨"java/lang/Object", "equals", "(Ljava/lang/Object;)Z"⟩ : MethodName)) (z := (⟨"java/lang/String", "equals", "(Ljava/lang/Object;)Z"⟩ : MethodName)) hown (mvT hZ (hw _ (List.mem_of_getElem? (i := 70) rfl))) (mvT hZ (hw _ (List.mem_of_getElem? (i := 71) rfl))) (nf_top (args := #[]) (y := (⟨"java/lang/Object", "equals", "(Ljava/lang/Object;)Z"⟩ : MethodName)) (mvT hZ (hw _ (List.mem_of_getElem? (i := 88) rfl)))) (mvT hZ (hw _ (List.mem_of_getElem? (i := 73) rfl))) (mvT hZ (hw _ (List.mem_of_getElem? (i := 57) rfl))) (by decide) (backOf (W := 0) (rmS l Z a0 hw [] x h0 n0 X00 ) hZ (hw _ (List.mem_of_getElem? (i := 59) rfl)) (hw _ (List.mem_of_getElem? (i := 9) rfl)) (by decide) (by decide)) q91a q91c (g := (mkF m 11 #[.val (.ref x), .val .null] [.null, (.ref x)])) rfl (by rw [hml]; rfl) (Steps.refl _) (argsL := [.null]) (rest := []) (lenOf pd_3 rfl) rfl (by show 2 * 0 + _ ≤ _; exact Nat.le_of_eq rfl) (hb hby d_jdk_31_m2_11) (fun _ _ => ⟨rfl, e0, (by decide : 0 + 0 ≤ _), (by decide : 0 + 0 ≤ _)⟩)
  dsimp only [Pt.U, Pt.locs, Pt.cells, Pt.slots] at X91 l91 y91 z91 st91 hQ91
  subst l91 y91 z91
  obtain ⟨rfl, Nq91, hE91⟩ := hQ91
  have N91 := Fr.app N0 Nq91
  refine Go.tr st91 ?_
  show Go p.tables e below Kx T91 (mkF m 14 #[.val (.ref x), .val .null] [(.int (0 : Int32))])
  refine s_ifY (pc' := 21) X91.here hx (hb hby d_jdk_31_m2_14) ((if0 _ _).trans (teq (by decide)).1) (by decide) (by decide) ?_
  refine s_iconst (pc' := 22) (v := (0 : Int32)) X91.here hx (hb hby d_jdk_31_m2_21) rfl rfl ?_
  obtain ⟨fs, hr, hrun, hended, hW, hsame⟩ := X91.leave (v := (some (.int (0 : Int32)))) (fun h => by rw [Bd.returns] at h; cases h)
  refine Go.fin (retN X91 hx (t := .boolean) Bd.returns (by simp) (hb hby d_jdk_31_m2_22) hr) (hF _ _ hrun hended ⟨_, _, rfl, ?_, ⟨_, rfl⟩, hW, hsame.mono (by decide) (by decide)⟩)
  · show QO10 Z x h0 n0 ((some (.int (0 : Int32))) : Option Value) T91.heap _
    rw [hE91]
    exact ⟨rfl, N91, rfl⟩
def QO11 (Z : State) (x y : Addr) (b1 b2 : Nat) (cs ds : List Int32) (h0 : Heap) (n0 : Nat) (v : Option Value) (h : Heap) (L : List Loc) : Prop := (∃ r : Int32, v = some (.int r) ∧ ((r = 1 ∧ cs = ds) ∨ (r = 0 ∧ ¬ cs = ds))) ∧ Fr n0 L ∧ h = h0
set_option maxRecDepth 65536 in
set_option maxHeartbeats 40000000 in
theorem rmO11 (l : Launch) (Z : State) (a0 : Array Value) (hw : ∀ d ∈ tables_1, d.before a0 Z = true) (ws : List Jvm.Cond) (x y : Addr) (b1 b2 : Nat) (cs ds : List Int32) (h0 : Heap) (n0 : Nat) (X00 : Old Z n0 h0) (G1 : Int32) (S1 : Sta Z Z.heap "java/lang/String" "COMPACT_STRINGS" "Z" (.int G1)) (P1 : ¬ G1 = 0) (T1 : Str Z h0 b1 x cs) (T2 : Str Z h0 b2 y ds) :
    MetFree l (⟨"java/util/Objects", "equals", "(Ljava/lang/Object;Ljava/lang/Object;)Z"⟩ : MethodName) (head1 (Jvm.Cond.code (⟨"java/util/Objects", "equals", "(Ljava/lang/Object;Ljava/lang/Object;)Z"⟩ : MethodName) jdk_31_method_2_code 2 (some .boolean) :: ws) ({ frames := 3, cells := 0, slots := 0, locals := 40 } : Room)) (fun aa U => aa = #[(.ref x), (.ref y)] ∧ Z.Warmed39 U.vm ∧ U.heap = h0) (fun _ _ _ _ _ => True) (fun _ U o U' => ∃ v L, o = .returned v ∧ QO11 Z x y b1 b2 cs ds h0 n0 v U'.heap L ∧ FrameEnd U o U' L ({ frames := 3, cells := 0, slots := 0, locals := 40 } : Room).cells ({ frames := 3, cells := 0, slots := 0, locals := 40 } : Room).slots) := by
  refine MetFree.of_bodySF (plainFor_of_name pn_3) hisR ?_
  intro p e s m args below meth c s₁ Bd hml0 hP hK
  obtain ⟨rfl, hZ, hh⟩ := hP
  have hx := Bd.exec
  have hby := Bd.bytes
  have hml : c.maxLocals = 2 := hml0
  have hown : s.vm.findClass "java/util/Objects" = some m.cls := findClass_of_methodNamed Bd.named
  have hnm := (name_of_methodNamed Bd.named Bd.method).1
  have X0 : Stand p l e ({ frames := 3, cells := 0, slots := 0, locals := 40 } : Room) s m #[(.ref x), (.ref y)] below meth c s₁ [] 0 0 := Stand.of_body Bd
  have e0 : s₁.heap = h0 := by rw [← hh, Bd.state]; rfl
  have N0 := Fr.nil n0
  have K0 := Keep.refl h0 []
  have ef : entryFrame m #[(.ref x), (.ref y)] 2 = mkF m 0 #[.val (.ref x), .val (.ref y)] [] := (by first | (simp [entryFrame, mkF, argsToLocals, Value.category]; done) | rfl : entryFrame m #[(.ref x), (.ref y)] 2 = mkF m 0 #[.val (.ref x), .val (.ref y)] [])
  rw [ef]
  refine fin_of fun Kx hF => ?_
  show Go p.tables e below Kx s₁ (mkF m 0 #[.val (.ref x), .val (.ref y)] [])
  refine s_aloadN (pc' := 1) X0.here hx (hb hby d_jdk_31_m2_0) rfl rfl rfl ?_
  refine s_aloadN (pc' := 2) X0.here hx (hb hby d_jdk_31_m2_1) rfl rfl rfl ?_
  by_cases hxy : x = y
  · skip
    have hsm := T1.uniq (hxy ▸ T2)
    refine Go.st (fun _ r => Jvm.RoadKit.acmp (g := (mkF m 2 #[.val (.ref x), .val (.ref y)] [(.ref y), (.ref x)])) X0 hx rfl rfl rfl (pc0 := 2) (pc' := 17) (same := true) rfl (hb hby d_jdk_31_m2_2) rfl (decide_eq_true (congrArg Value.ref hxy)) (by decide) (by decide) r) ?_
    show Go p.tables e below Kx s₁ (mkF m 17 #[.val (.ref x), .val (.ref y)] [])
    refine s_iconst (pc' := 18) (v := (1 : Int32)) X0.here hx (hb hby d_jdk_31_m2_17) rfl rfl ?_
    refine s_goto (pc' := 22) X0.here hx (hb hby d_jdk_31_m2_18) (by decide) (by decide) ?_
    obtain ⟨fs, hr, hrun, hended, hW, hsame⟩ := X0.leave (v := (some (.int (1 : Int32)))) (fun h => by rw [Bd.returns] at h; cases h)
    refine Go.fin (retN X0 hx (t := .boolean) Bd.returns (by simp) (hb hby d_jdk_31_m2_22) hr) (hF _ _ hrun hended ⟨_, _, rfl, ?_, ⟨_, rfl⟩, hW, hsame.mono (by decide) (by decide)⟩)
    · show QO11 Z x y b1 b2 cs ds h0 n0 ((some (.int (1 : Int32))) : Option Value) s₁.heap _
      rw [e0]
      exact ⟨⟨_, rfl, Or.inl ⟨rfl, hsm⟩⟩, N0, rfl⟩
  · skip
    refine Go.st (fun _ r => Jvm.RoadKit.acmp (g := (mkF m 2 #[.val (.ref x), .val (.ref y)] [(.ref y), (.ref x)])) X0 hx rfl rfl rfl (pc0 := 2) (pc' := 5) (same := false) rfl (hb hby d_jdk_31_m2_2) rfl (decide_eq_false fun q => hxy (Value.ref.inj q)) (by decide) (by decide) r) ?_
    show Go p.tables e below Kx s₁ (mkF m 5 #[.val (.ref x), .val (.ref y)] [])
    refine s_aloadN (pc' := 6) X0.here hx (hb hby d_jdk_31_m2_5) rfl rfl rfl ?_
    refine s_ifnullN (pc' := 9) X0.here hx (hb hby d_jdk_31_m2_6) rfl ?_
    refine s_aloadN (pc' := 10) X0.here hx (hb hby d_jdk_31_m2_9) rfl rfl rfl ?_
    refine s_aloadN (pc' := 11) X0.here hx (hb hby d_jdk_31_m2_10) rfl rfl rfl ?_
    obtain ⟨-, sE92, sC92, ⟨st92, sk92, -, sF92, sA92⟩, sp92, sl92⟩ := id T1
    obtain ⟨-, sE93, sC93, ⟨st93, sk93, -, sF93, sA93⟩, sp93, sl93⟩ := id T2
    obtain ⟨cq94, kq94, q94a, q94b, q94c⟩ := isOf hZ e0 sE92
    obtain ⟨_, _, ⟨T94, L94, k94, n94⟩, -, X94, ⟨Lc94, hQ94, l94, y94, z94⟩, st94⟩ := X0.virtualBack hx (y := (⟨"java/lang/Object", "equals", "(Ljava/lang/Object;)Z"⟩ : MethodName)) (z := (⟨"java/lang/String", "equals", "(Ljava/lang/Object;)Z"⟩ : MethodName)) hown (mvT hZ (hw _ (List.mem_of_getElem? (i := 70) rfl))) (mvT hZ (hw _ (List.mem_of_getElem? (i := 71) rfl))) (nf_top (args := #[]) (y := (⟨"java/lang/Object", "equals", "(Ljava/lang/Object;)Z"⟩ : MethodName)) (mvT hZ (hw _ (List.mem_of_getElem? (i := 88) rfl)))) (mvT hZ (hw _ (List.mem_of_getElem? (i := 73) rfl))) (mvT hZ (hw _ (List.mem_of_getElem? (i := 57) rfl))) (by decide) (StrChars.Road.eqW (W := 0) hZ (hwsE Z a0 hw) (kI := 4) (hw _ (List.mem_of_getElem? (i := 8) rfl)) sE92 sF92 sC92 sA92 (StrChars.Road.codOf rfl (fun c hc => (sp92 c hc).2)) (chr_up sp92) sl92 sE93 sF93 sC93 sA93 (StrChars.Road.codOf rfl (fun c hc => (sp93 c hc).2)) (chr_up sp93) sl93 (S1.ext X00.2) P1 (by decide) (by decide)) q94a q94c (g := (mkF m 11 #[.val (.ref x), .val (.ref y)] [(.ref y), (.ref x)])) rfl (by rw [hml]; rfl) (Steps.refl _) (argsL := [(.ref y)]) (rest := []) (lenOf pd_3 rfl) rfl (by show 2 * 0 + _ ≤ _; exact Nat.le_of_eq rfl) (hb hby d_jdk_31_m2_11) (fun _ _ => ⟨rfl, e0, (by decide : 0 + 0 ≤ _), (by decide : 0 + 0 ≤ _)⟩)
    dsimp only [Pt.U, Pt.locs, Pt.cells, Pt.slots] at X94 l94 y94 z94 st94 hQ94
    subst l94 y94 z94
    obtain ⟨hv94, rfl, hE94⟩ := hQ94
    rcases hv94 with ⟨rfl, hs94⟩ | ⟨rfl, hs94⟩
    · skip
      have N94 := Fr.app N0 (Fr.nil n0)
      refine Go.tr st94 ?_
      show Go p.tables e below Kx T94 (mkF m 14 #[.val (.ref x), .val (.ref y)] [(.int (1 : Int32))])
      refine s_ifN (pc' := 17) X94.here hx (hb hby d_jdk_31_m2_14) rfl ((if0 _ _).trans (feq (by decide)).1) ?_
      refine s_iconst (pc' := 18) (v := (1 : Int32)) X94.here hx (hb hby d_jdk_31_m2_17) rfl rfl ?_
      refine s_goto (pc' := 22) X94.here hx (hb hby d_jdk_31_m2_18) (by decide) (by decide) ?_
      obtain ⟨fs, hr, hrun, hended, hW, hsame⟩ := X94.leave (v := (some (.int (1 : Int32)))) (fun h => by rw [Bd.returns] at h; cases h)
      refine Go.fin (retN X94 hx (t := .boolean) Bd.returns (by simp) (hb hby d_jdk_31_m2_22) hr) (hF _ _ hrun hended ⟨_, _, rfl, ?_, ⟨_, rfl⟩, hW, hsame.mono (by decide) (by decide)⟩)
      · show QO11 Z x y b1 b2 cs ds h0 n0 ((some (.int (1 : Int32))) : Option Value) T94.heap _
        rw [hE94]
        exact ⟨⟨_, rfl, Or.inl ⟨rfl, hs94⟩⟩, N94, rfl⟩
    · skip
      have N94 := Fr.app N0 (Fr.nil n0)
      refine Go.tr st94 ?_
      show Go p.tables e below Kx T94 (mkF m 14 #[.val (.ref x), .val (.ref y)] [(.int (0 : Int32))])
      refine s_ifY (pc' := 21) X94.here hx (hb hby d_jdk_31_m2_14) ((if0 _ _).trans (teq (by decide)).1) (by decide) (by decide) ?_
      refine s_iconst (pc' := 22) (v := (0 : Int32)) X94.here hx (hb hby d_jdk_31_m2_21) rfl rfl ?_
      obtain ⟨fs, hr, hrun, hended, hW, hsame⟩ := X94.leave (v := (some (.int (0 : Int32)))) (fun h => by rw [Bd.returns] at h; cases h)
      refine Go.fin (retN X94 hx (t := .boolean) Bd.returns (by simp) (hb hby d_jdk_31_m2_22) hr) (hF _ _ hrun hended ⟨_, _, rfl, ?_, ⟨_, rfl⟩, hW, hsame.mono (by decide) (by decide)⟩)
      · show QO11 Z x y b1 b2 cs ds h0 n0 ((some (.int (0 : Int32))) : Option Value) T94.heap _
        rw [hE94]
        exact ⟨⟨_, rfl, Or.inr ⟨rfl, hs94⟩⟩, N94, rfl⟩
theorem d_prog_14_m5_0 : decode prog_14_method_5_code 0 = .ok (.aload_n 1, 1) := by decide +kernel
theorem d_prog_14_m5_1 : decode prog_14_method_5_code 1 = .ok (.instanceof 8, 3) := by decide +kernel
theorem d_prog_14_m5_4 : decode prog_14_method_5_code 4 = .ok (.ifCond .eq 51, 3) := by decide +kernel
theorem d_prog_14_m5_55 : decode prog_14_method_5_code 55 = .ok (.iconst 0, 1) := by decide +kernel
theorem d_prog_14_m5_56 : decode prog_14_method_5_code 56 = .ok (.ireturn, 1) := by decide +kernel
def QQ0 (Z : State) (p0 : Addr) (h0 : Heap) (n0 : Nat) (v : Option Value) (h : Heap) (L : List Loc) : Prop := v = some (.int 0) ∧ Fr n0 L ∧ h = h0
set_option maxRecDepth 65536 in
set_option maxHeartbeats 40000000 in
theorem rmQ0 (l : Launch) (Z : State) (a0 : Array Value) (hw : ∀ d ∈ tables_1, d.before a0 Z = true) (ws : List Jvm.Cond) (p0 : Addr) (h0 : Heap) (n0 : Nat) (X00 : Old Z n0 h0)  :
    MetFree l (⟨"com/example/data_roles/dataroles/policy/Mask", "equals", "(Ljava/lang/Object;)Z"⟩ : MethodName) (head1 (Jvm.Cond.code (⟨"com/example/data_roles/dataroles/policy/Mask", "equals", "(Ljava/lang/Object;)Z"⟩ : MethodName) prog_14_method_5_code 3 (some .boolean) :: ws) ({ frames := 0, cells := 0, slots := 0, locals := 0 } : Room)) (fun aa U => aa = #[(.ref p0), .null] ∧ Z.Warmed39 U.vm ∧ U.heap = h0) (fun _ _ _ _ _ => True) (fun _ U o U' => ∃ v L, o = .returned v ∧ QQ0 Z p0 h0 n0 v U'.heap L ∧ FrameEnd U o U' L ({ frames := 0, cells := 0, slots := 0, locals := 0 } : Room).cells ({ frames := 0, cells := 0, slots := 0, locals := 0 } : Room).slots) := by
  refine MetFree.of_bodySF (plainFor_of_name pn_2) hisR ?_
  intro p e s m args below meth c s₁ Bd hml0 hP hK
  obtain ⟨rfl, hZ, hh⟩ := hP
  have hx := Bd.exec
  have hby := Bd.bytes
  have hml : c.maxLocals = 3 := hml0
  have hown : s.vm.findClass "com/example/data_roles/dataroles/policy/Mask" = some m.cls := findClass_of_methodNamed Bd.named
  have hnm := (name_of_methodNamed Bd.named Bd.method).1
  have X0 : Stand p l e ({ frames := 0, cells := 0, slots := 0, locals := 0 } : Room) s m #[(.ref p0), .null] below meth c s₁ [] 0 0 := Stand.of_body Bd
  have e0 : s₁.heap = h0 := by rw [← hh, Bd.state]; rfl
  have N0 := Fr.nil n0
  have K0 := Keep.refl h0 []
  have ef : entryFrame m #[(.ref p0), .null] 3 = mkF m 0 #[.val (.ref p0), .val .null, .unset] [] := (by first | (simp [entryFrame, mkF, argsToLocals, Value.category]; done) | rfl : entryFrame m #[(.ref p0), .null] 3 = mkF m 0 #[.val (.ref p0), .val .null, .unset] [])
  rw [ef]
  refine fin_of fun Kx hF => ?_
  show Go p.tables e below Kx s₁ (mkF m 0 #[.val (.ref p0), .val .null, .unset] [])
  refine s_aloadN (pc' := 1) X0.here hx (hb hby d_prog_14_m5_0) rfl rfl rfl ?_
  refine Go.st (X0.instanceofNull hx (g := (mkF m 1 #[.val (.ref p0), .val .null, .unset] [.null])) rfl rfl (hb hby d_prog_14_m5_1)) ?_
  show Go p.tables e below Kx s₁ (mkF m 4 #[.val (.ref p0), .val .null, .unset] [(.int (0 : Int32))])
  refine s_ifY (pc' := 55) X0.here hx (hb hby d_prog_14_m5_4) ((if0 _ _).trans (teq (by decide)).1) (by decide) (by decide) ?_
  refine s_iconst (pc' := 56) (v := (0 : Int32)) X0.here hx (hb hby d_prog_14_m5_55) rfl rfl ?_
  obtain ⟨fs, hr, hrun, hended, hW, hsame⟩ := X0.leave (v := (some (.int (0 : Int32)))) (fun h => by rw [Bd.returns] at h; cases h)
  refine Go.fin (retN X0 hx (t := .boolean) Bd.returns (by simp) (hb hby d_prog_14_m5_56) hr) (hF _ _ hrun hended ⟨_, _, rfl, ?_, ⟨_, rfl⟩, hW, hsame.mono (by decide) (by decide)⟩)
  · show QQ0 Z p0 h0 n0 ((some (.int (0 : Int32))) : Option Value) s₁.heap _
    rw [e0]
    exact ⟨rfl, N0, rfl⟩
theorem str_no (Z : State) (a0 : Array Value) (w1 : (Jvm.Cond.superclass "java/lang/String" "java/lang/Object").before a0 Z = true) (w2 : (Jvm.Cond.noSuperclass "java/lang/Object").before a0 Z = true) (w3 : (Jvm.Cond.instantiable "com/example/data_roles/dataroles/policy/Mask" 3).before a0 Z = true) :
    ∃ c t, Z.vm.findClass "java/lang/String" = some c ∧ Z.vm.findClass "com/example/data_roles/dataroles/policy/Mask" = some t ∧ Z.vm.assignable c t = false := by
  obtain ⟨cO, kO, o1, o2, o3, -, -⟩ := Cond.noSuperclass_spec w2
  obtain ⟨t, kt, g0, g2, g3, g4⟩ := Cond.instantiable_spec w3
  obtain ⟨c, h0⟩ := found_sup w1
  obtain ⟨p, k, kp, h1, h2, h3, h4, h5, -, h7⟩ := Cond.superclass_spec h0 w1
  have g7 : kt.isInterface = false := (Bool.or_eq_false_iff.mp g4.1).1
  have ne := ids_ne h0 g0 (by decide)
  have neO := ids_ne o1 g0 (by decide)
  cases o1.symm.trans h1
  refine ⟨c, t, h0, g0, ?_⟩
  have n3 : ∀ fuel, Z.vm.isSubclassAux fuel c t = false := fun fuel => by
    cases fuel with
    | zero => rfl
    | succ f =>
      have hf : Z.vm.isSubclassAux f cO t = false := by
        cases f with
        | zero => rfl
        | succ f => simp [Vm.isSubclassAux, neO, o2, o3]
      simp [Vm.isSubclassAux, ne, h2, h4, hf]
  show Z.vm.assignableAux (255 + 1) c t = false
  simp [Vm.assignableAux, ne, h2, g2, h5, g3, g7, Vm.isSubclass, n3]
def QQ1 (Z : State) (p0 s0 : Addr) (h0 : Heap) (n0 : Nat) (v : Option Value) (h : Heap) (L : List Loc) : Prop := v = some (.int 0) ∧ Fr n0 L ∧ h = h0
set_option maxRecDepth 65536 in
set_option maxHeartbeats 40000000 in
theorem rmQ1 (l : Launch) (Z : State) (a0 : Array Value) (hw : ∀ d ∈ tables_1, d.before a0 Z = true) (ws : List Jvm.Cond) (p0 s0 : Addr) (h0 : Heap) (n0 : Nat) (X00 : Old Z n0 h0) (E : Exa Z h0 s0 "java/lang/String") :
    MetFree l (⟨"com/example/data_roles/dataroles/policy/Mask", "equals", "(Ljava/lang/Object;)Z"⟩ : MethodName) (head1 (Jvm.Cond.code (⟨"com/example/data_roles/dataroles/policy/Mask", "equals", "(Ljava/lang/Object;)Z"⟩ : MethodName) prog_14_method_5_code 3 (some .boolean) :: ws) ({ frames := 0, cells := 0, slots := 0, locals := 0 } : Room)) (fun aa U => aa = #[(.ref p0), (.ref s0)] ∧ Z.Warmed39 U.vm ∧ U.heap = h0) (fun _ _ _ _ _ => True) (fun _ U o U' => ∃ v L, o = .returned v ∧ QQ1 Z p0 s0 h0 n0 v U'.heap L ∧ FrameEnd U o U' L ({ frames := 0, cells := 0, slots := 0, locals := 0 } : Room).cells ({ frames := 0, cells := 0, slots := 0, locals := 0 } : Room).slots) := by
  refine MetFree.of_bodySF (plainFor_of_name pn_2) hisR ?_
  intro p e s m args below meth c s₁ Bd hml0 hP hK
  obtain ⟨rfl, hZ, hh⟩ := hP
  have hx := Bd.exec
  have hby := Bd.bytes
  have hml : c.maxLocals = 3 := hml0
  have hown : s.vm.findClass "com/example/data_roles/dataroles/policy/Mask" = some m.cls := findClass_of_methodNamed Bd.named
  have hnm := (name_of_methodNamed Bd.named Bd.method).1
  have X0 : Stand p l e ({ frames := 0, cells := 0, slots := 0, locals := 0 } : Room) s m #[(.ref p0), (.ref s0)] below meth c s₁ [] 0 0 := Stand.of_body Bd
  have e0 : s₁.heap = h0 := by rw [← hh, Bd.state]; rfl
  have N0 := Fr.nil n0
  have K0 := Keep.refl h0 []
  have ef : entryFrame m #[(.ref p0), (.ref s0)] 3 = mkF m 0 #[.val (.ref p0), .val (.ref s0), .unset] [] := (by first | (simp [entryFrame, mkF, argsToLocals, Value.category]; done) | rfl : entryFrame m #[(.ref p0), (.ref s0)] 3 = mkF m 0 #[.val (.ref p0), .val (.ref s0), .unset] [])
  rw [ef]
  refine fin_of fun Kx hF => ?_
  show Go p.tables e below Kx s₁ (mkF m 0 #[.val (.ref p0), .val (.ref s0), .unset] [])
  refine s_aloadN (pc' := 1) X0.here hx (hb hby d_prog_14_m5_0) rfl rfl rfl ?_
  obtain ⟨T95, X95, e95, st95⟩ := instNo X0 hx hZ hown (hw _ (List.mem_of_getElem? (i := 53) rfl)) e0 E (str_no Z a0 (hw _ (List.mem_of_getElem? (i := 87) rfl)) (hw _ (List.mem_of_getElem? (i := 88) rfl)) (hw _ (List.mem_of_getElem? (i := 33) rfl))) (g := (mkF m 1 #[.val (.ref p0), .val (.ref s0), .unset] [(.ref s0)])) rfl rfl (hb hby d_prog_14_m5_1)
  refine Go.st st95 ?_
  show Go p.tables e below Kx T95 (mkF m 4 #[.val (.ref p0), .val (.ref s0), .unset] [(.int (0 : Int32))])
  refine s_ifY (pc' := 55) X95.here hx (hb hby d_prog_14_m5_4) ((if0 _ _).trans (teq (by decide)).1) (by decide) (by decide) ?_
  refine s_iconst (pc' := 56) (v := (0 : Int32)) X95.here hx (hb hby d_prog_14_m5_55) rfl rfl ?_
  obtain ⟨fs, hr, hrun, hended, hW, hsame⟩ := X95.leave (v := (some (.int (0 : Int32)))) (fun h => by rw [Bd.returns] at h; cases h)
  refine Go.fin (retN X95 hx (t := .boolean) Bd.returns (by simp) (hb hby d_prog_14_m5_56) hr) (hF _ _ hrun hended ⟨_, _, rfl, ?_, ⟨_, rfl⟩, hW, hsame.mono (by decide) (by decide)⟩)
  · show QQ1 Z p0 s0 h0 n0 ((some (.int (0 : Int32))) : Option Value) T95.heap _
    rw [e95]
    exact ⟨rfl, N0, rfl⟩
theorem d_prog_14_m5_7 : decode prog_14_method_5_code 7 = .ok (.aload_n 1, 1) := by decide +kernel
theorem d_prog_14_m5_8 : decode prog_14_method_5_code 8 = .ok (.checkcast 8, 3) := by decide +kernel
theorem d_prog_14_m5_11 : decode prog_14_method_5_code 11 = .ok (.astore_n 2, 1) := by decide +kernel
theorem d_prog_14_m5_12 : decode prog_14_method_5_code 12 = .ok (.aload_n 0, 1) := by decide +kernel
theorem d_prog_14_m5_13 : decode prog_14_method_5_code 13 = .ok (.getfield 7, 3) := by decide +kernel
theorem d_prog_14_m5_16 : decode prog_14_method_5_code 16 = .ok (.aload_n 2, 1) := by decide +kernel
theorem d_prog_14_m5_17 : decode prog_14_method_5_code 17 = .ok (.getfield 7, 3) := by decide +kernel
theorem d_prog_14_m5_20 : decode prog_14_method_5_code 20 = .ok (.invokevirtual 26, 3) := by decide +kernel
theorem d_prog_14_m5_23 : decode prog_14_method_5_code 23 = .ok (.ifCond .eq 32, 3) := by decide +kernel
theorem d_prog_14_m5_26 : decode prog_14_method_5_code 26 = .ok (.aload_n 0, 1) := by decide +kernel
theorem d_prog_14_m5_27 : decode prog_14_method_5_code 27 = .ok (.getfield 13, 3) := by decide +kernel
theorem d_prog_14_m5_30 : decode prog_14_method_5_code 30 = .ok (.aload_n 2, 1) := by decide +kernel
theorem d_prog_14_m5_31 : decode prog_14_method_5_code 31 = .ok (.getfield 13, 3) := by decide +kernel
theorem pd_4 : parseMethodDescriptor "(Ljava/lang/Object;Ljava/lang/Object;)Z" = some ⟨[(.object "java/lang/Object"), (.object "java/lang/Object")], some .boolean⟩ := by decide +kernel
theorem d_prog_14_m5_34 : decode prog_14_method_5_code 34 = .ok (.invokestatic 32, 3) := by decide +kernel
theorem d_prog_14_m5_37 : decode prog_14_method_5_code 37 = .ok (.ifCond .eq 18, 3) := by decide +kernel
theorem d_prog_14_m5_40 : decode prog_14_method_5_code 40 = .ok (.aload_n 0, 1) := by decide +kernel
theorem d_prog_14_m5_41 : decode prog_14_method_5_code 41 = .ok (.getfield 16, 3) := by decide +kernel
theorem d_prog_14_m5_44 : decode prog_14_method_5_code 44 = .ok (.aload_n 2, 1) := by decide +kernel
theorem d_prog_14_m5_45 : decode prog_14_method_5_code 45 = .ok (.getfield 16, 3) := by decide +kernel
theorem d_prog_14_m5_48 : decode prog_14_method_5_code 48 = .ok (.if_icmp .ne 7, 3) := by decide +kernel
theorem d_prog_14_m5_51 : decode prog_14_method_5_code 51 = .ok (.iconst 1, 1) := by decide +kernel
theorem d_prog_14_m5_52 : decode prog_14_method_5_code 52 = .ok (.goto 4, 3) := by decide +kernel
def QQ200 (Z : State) (p0 q0 s1 s2 : Addr) (b1 b2 : Nat) (cs ds : List Int32) (k1 k2 : Int32) (h0 : Heap) (n0 : Nat) (v : Option Value) (h : Heap) (L : List Loc) : Prop := (∃ r : Int32, v = some (.int r) ∧ ((r = 1 ∧ (cs = ds ∧ True ∧ k1 = k2)) ∨ (r = 0 ∧ ¬ (cs = ds ∧ True ∧ k1 = k2)))) ∧ Fr n0 L ∧ h = h0
set_option maxRecDepth 65536 in
set_option maxHeartbeats 40000000 in
theorem rmQ200 (l : Launch) (Z : State) (a0 : Array Value) (hw : ∀ d ∈ tables_1, d.before a0 Z = true) (ws : List Jvm.Cond) (p0 q0 s1 s2 : Addr) (b1 b2 : Nat) (cs ds : List Int32) (k1 k2 : Int32) (h0 : Heap) (n0 : Nat) (X00 : Old Z n0 h0) (G1 : Int32) (S1 : Sta Z Z.heap "java/lang/String" "COMPACT_STRINGS" "Z" (.int G1)) (P1 : ¬ G1 = 0) (Ep0 : Exa Z h0 p0 "com/example/data_roles/dataroles/policy/Mask") (Fp0 : Fld Z h0 p0 "com/example/data_roles/dataroles/policy/Mask" "text" "Ljava/lang/String;" (.ref s1)) (Hp0 : Fld Z h0 p0 "com/example/data_roles/dataroles/policy/Mask" "condition" "Ljava/lang/String;" .null) (Gp0 : Fld Z h0 p0 "com/example/data_roles/dataroles/policy/Mask" "order" "I" (.int k1)) (Eq0 : Exa Z h0 q0 "com/example/data_roles/dataroles/policy/Mask") (Fq0 : Fld Z h0 q0 "com/example/data_roles/dataroles/policy/Mask" "text" "Ljava/lang/String;" (.ref s2)) (Hq0 : Fld Z h0 q0 "com/example/data_roles/dataroles/policy/Mask" "condition" "Ljava/lang/String;" .null) (Gq0 : Fld Z h0 q0 "com/example/data_roles/dataroles/policy/Mask" "order" "I" (.int k2)) (T1 : Str Z h0 b1 s1 cs) (T2 : Str Z h0 b2 s2 ds) :
    MetFree l (⟨"com/example/data_roles/dataroles/policy/Mask", "equals", "(Ljava/lang/Object;)Z"⟩ : MethodName) (head1 (Jvm.Cond.code (⟨"com/example/data_roles/dataroles/policy/Mask", "equals", "(Ljava/lang/Object;)Z"⟩ : MethodName) prog_14_method_5_code 3 (some .boolean) :: ws) ({ frames := 5, cells := 0, slots := 0, locals := 70 } : Room)) (fun aa U => aa = #[(.ref p0), (.ref q0)] ∧ Z.Warmed39 U.vm ∧ U.heap = h0) (fun _ _ _ _ _ => True) (fun _ U o U' => ∃ v L, o = .returned v ∧ QQ200 Z p0 q0 s1 s2 b1 b2 cs ds k1 k2 h0 n0 v U'.heap L ∧ FrameEnd U o U' L ({ frames := 5, cells := 0, slots := 0, locals := 70 } : Room).cells ({ frames := 5, cells := 0, slots := 0, locals := 70 } : Room).slots) := by
  refine MetFree.of_bodySF (plainFor_of_name pn_2) hisR ?_
  intro p e s m args below meth c s₁ Bd hml0 hP hK
  obtain ⟨rfl, hZ, hh⟩ := hP
  have hx := Bd.exec
  have hby := Bd.bytes
  have hml : c.maxLocals = 3 := hml0
  have hown : s.vm.findClass "com/example/data_roles/dataroles/policy/Mask" = some m.cls := findClass_of_methodNamed Bd.named
  have hnm := (name_of_methodNamed Bd.named Bd.method).1
  have X0 : Stand p l e ({ frames := 5, cells := 0, slots := 0, locals := 70 } : Room) s m #[(.ref p0), (.ref q0)] below meth c s₁ [] 0 0 := Stand.of_body Bd
  have e0 : s₁.heap = h0 := by rw [← hh, Bd.state]; rfl
  have N0 := Fr.nil n0
  have K0 := Keep.refl h0 []
  have ef : entryFrame m #[(.ref p0), (.ref q0)] 3 = mkF m 0 #[.val (.ref p0), .val (.ref q0), .unset] [] := (by first | (simp [entryFrame, mkF, argsToLocals, Value.category]; done) | rfl : entryFrame m #[(.ref p0), (.ref q0)] 3 = mkF m 0 #[.val (.ref p0), .val (.ref q0), .unset] [])
  rw [ef]
  refine fin_of fun Kx hF => ?_
  show Go p.tables e below Kx s₁ (mkF m 0 #[.val (.ref p0), .val (.ref q0), .unset] [])
  refine s_aloadN (pc' := 1) X0.here hx (hb hby d_prog_14_m5_0) rfl rfl rfl ?_
  obtain ⟨T96, X96, e96, st96⟩ := instY X0 hx hZ hown (hw _ (List.mem_of_getElem? (i := 53) rfl)) e0 (Ins.self Eq0) (g := (mkF m 1 #[.val (.ref p0), .val (.ref q0), .unset] [(.ref q0)])) rfl rfl (hb hby d_prog_14_m5_1)
  refine Go.st st96 ?_
  show Go p.tables e below Kx T96 (mkF m 4 #[.val (.ref p0), .val (.ref q0), .unset] [(.int (1 : Int32))])
  refine s_ifN (pc' := 7) X96.here hx (hb hby d_prog_14_m5_4) rfl ((if0 _ _).trans (feq (by decide)).1) ?_
  refine s_aloadN (pc' := 8) X96.here hx (hb hby d_prog_14_m5_7) rfl rfl rfl ?_
  obtain ⟨T97, X97, e97, st97⟩ := castY X96 hx hZ hown (hw _ (List.mem_of_getElem? (i := 53) rfl)) e96 (Ins.self Eq0) (g := (mkF m 8 #[.val (.ref p0), .val (.ref q0), .unset] [(.ref q0)])) rfl rfl (hb hby d_prog_14_m5_8)
  refine Go.st st97 ?_
  show Go p.tables e below Kx T97 (mkF m 11 #[.val (.ref p0), .val (.ref q0), .unset] [(.ref q0)])
  refine s_astoreN (pc' := 12) (Ls' := #[.val (.ref p0), .val (.ref q0), .val (.ref q0)]) X97.here hx (hb hby d_prog_14_m5_11) rfl rfl rfl ?_
  refine s_aloadN (pc' := 13) X97.here hx (hb hby d_prog_14_m5_12) rfl rfl rfl ?_
  obtain ⟨T98, X98, e98, st98⟩ := getF X97 hx hZ hown (host := "") (Or.inl (hw _ (List.mem_of_getElem? (i := 39) rfl))) Via.refl e97 Fp0 (g := (mkF m 13 #[.val (.ref p0), .val (.ref q0), .val (.ref q0)] [(.ref p0)])) rfl rfl (hb hby d_prog_14_m5_13)
  refine Go.st st98 ?_
  show Go p.tables e below Kx T98 (mkF m 16 #[.val (.ref p0), .val (.ref q0), .val (.ref q0)] [(.ref s1)])
  refine s_aloadN (pc' := 17) X98.here hx (hb hby d_prog_14_m5_16) rfl rfl rfl ?_
  obtain ⟨T99, X99, e99, st99⟩ := getF X98 hx hZ hown (host := "") (Or.inl (hw _ (List.mem_of_getElem? (i := 39) rfl))) Via.refl e98 Fq0 (g := (mkF m 17 #[.val (.ref p0), .val (.ref q0), .val (.ref q0)] [(.ref q0), (.ref s1)])) rfl rfl (hb hby d_prog_14_m5_17)
  refine Go.st st99 ?_
  show Go p.tables e below Kx T99 (mkF m 20 #[.val (.ref p0), .val (.ref q0), .val (.ref q0)] [(.ref s2), (.ref s1)])
  obtain ⟨-, sE100, sC100, ⟨st100, sk100, -, sF100, sA100⟩, sp100, sl100⟩ := id T1
  obtain ⟨-, sE101, sC101, ⟨st101, sk101, -, sF101, sA101⟩, sp101, sl101⟩ := id T2
  obtain ⟨cq102, kq102, q102a, q102b, q102c⟩ := isOf hZ e99 sE100
  obtain ⟨_, _, ⟨T102, L102, k102, n102⟩, -, X102, ⟨Lc102, hQ102, l102, y102, z102⟩, st102⟩ := X99.virtualBack hx (y := (⟨"java/lang/String", "equals", "(Ljava/lang/Object;)Z"⟩ : MethodName)) (z := (⟨"java/lang/String", "equals", "(Ljava/lang/Object;)Z"⟩ : MethodName)) hown (mvT hZ (hw _ (List.mem_of_getElem? (i := 55) rfl))) (mvT hZ (hw _ (List.mem_of_getElem? (i := 56) rfl))) (notFace_of_selects (args := #[]) (mvT hZ (hw _ (List.mem_of_getElem? (i := 58) rfl)))) (mvT hZ (hw _ (List.mem_of_getElem? (i := 58) rfl))) (mvT hZ (hw _ (List.mem_of_getElem? (i := 57) rfl))) (by decide) (StrChars.Road.eqW (W := 0) hZ (hwsE Z a0 hw) (kI := 4) (hw _ (List.mem_of_getElem? (i := 8) rfl)) sE100 sF100 sC100 sA100 (StrChars.Road.codOf rfl (fun c hc => (sp100 c hc).2)) (chr_up sp100) sl100 sE101 sF101 sC101 sA101 (StrChars.Road.codOf rfl (fun c hc => (sp101 c hc).2)) (chr_up sp101) sl101 (S1.ext X00.2) P1 (by decide) (by decide)) q102a q102c (g := (mkF m 20 #[.val (.ref p0), .val (.ref q0), .val (.ref q0)] [(.ref s2), (.ref s1)])) rfl (by rw [hml]; rfl) (Steps.refl _) (argsL := [(.ref s2)]) (rest := []) (lenOf pd_3 rfl) rfl (by show 2 * 0 + _ ≤ _; exact Nat.le_of_eq rfl) (hb hby d_prog_14_m5_20) (fun _ _ => ⟨rfl, e99, (by decide : 0 + 0 ≤ _), (by decide : 0 + 0 ≤ _)⟩)
  dsimp only [Pt.U, Pt.locs, Pt.cells, Pt.slots] at X102 l102 y102 z102 st102 hQ102
  subst l102 y102 z102
  obtain ⟨hv102, rfl, hE102⟩ := hQ102
  rcases hv102 with ⟨rfl, hs102⟩ | ⟨rfl, hs102⟩
  · skip
    have N102 := Fr.app N0 (Fr.nil n0)
    refine Go.tr st102 ?_
    show Go p.tables e below Kx T102 (mkF m 23 #[.val (.ref p0), .val (.ref q0), .val (.ref q0)] [(.int (1 : Int32))])
    refine s_ifN (pc' := 26) X102.here hx (hb hby d_prog_14_m5_23) rfl ((if0 _ _).trans (feq (by decide)).1) ?_
    refine s_aloadN (pc' := 27) X102.here hx (hb hby d_prog_14_m5_26) rfl rfl rfl ?_
    obtain ⟨T103, X103, e103, st103⟩ := getF X102 hx hZ hown (host := "") (Or.inl (hw _ (List.mem_of_getElem? (i := 41) rfl))) Via.refl hE102 Hp0 (g := (mkF m 27 #[.val (.ref p0), .val (.ref q0), .val (.ref q0)] [(.ref p0)])) rfl rfl (hb hby d_prog_14_m5_27)
    refine Go.st st103 ?_
    show Go p.tables e below Kx T103 (mkF m 30 #[.val (.ref p0), .val (.ref q0), .val (.ref q0)] [.null])
    refine s_aloadN (pc' := 31) X103.here hx (hb hby d_prog_14_m5_30) rfl rfl rfl ?_
    obtain ⟨T104, X104, e104, st104⟩ := getF X103 hx hZ hown (host := "") (Or.inl (hw _ (List.mem_of_getElem? (i := 41) rfl))) Via.refl e103 Hq0 (g := (mkF m 31 #[.val (.ref p0), .val (.ref q0), .val (.ref q0)] [(.ref q0), .null])) rfl rfl (hb hby d_prog_14_m5_31)
    refine Go.st st104 ?_
    show Go p.tables e below Kx T104 (mkF m 34 #[.val (.ref p0), .val (.ref q0), .val (.ref q0)] [.null, .null])
    obtain ⟨_, _, ⟨T105, L105, k105, n105⟩, -, X105, ⟨Lc105, hQ105, l105, y105, z105⟩, st105⟩ := Jvm.LawKit.callS X104 hx (y := (⟨"java/util/Objects", "equals", "(Ljava/lang/Object;Ljava/lang/Object;)Z"⟩ : MethodName)) hown (mvT hZ (hw _ (List.mem_of_getElem? (i := 66) rfl))) (mvT hZ (hw _ (List.mem_of_getElem? (i := 67) rfl))) (mvT hZ (hw _ (List.mem_of_getElem? (i := 68) rfl))) (mvT hZ (hw _ (List.mem_of_getElem? (i := 69) rfl))) (by decide) (backOf (W := 0) (rmO00 l Z a0 hw [] 0 h0 n0 X00 ) hZ (hw _ (List.mem_of_getElem? (i := 69) rfl)) (hw _ (List.mem_of_getElem? (i := 68) rfl)) (by decide) (by decide)) (g := (mkF m 34 #[.val (.ref p0), .val (.ref q0), .val (.ref q0)] [.null, .null])) rfl (by rw [hml]; rfl) (argsL := [.null, .null]) (rest := []) (lenOf pd_4 rfl) rfl (by show 2 * 0 + _ ≤ _; exact Nat.le_of_eq rfl) (hb hby d_prog_14_m5_34) (fun _ _ => ⟨rfl, e104, (by decide : 0 + 0 ≤ _), (by decide : 0 + 0 ≤ _)⟩)
    dsimp only [Pt.U, Pt.locs, Pt.cells, Pt.slots] at X105 l105 y105 z105 st105 hQ105
    subst l105 y105 z105
    obtain ⟨rfl, Nq105, hE105⟩ := hQ105
    have N105 := Fr.app N102 Nq105
    refine Go.st st105 ?_
    show Go p.tables e below Kx T105 (mkF m 37 #[.val (.ref p0), .val (.ref q0), .val (.ref q0)] [(.int (1 : Int32))])
    refine s_ifN (pc' := 40) X105.here hx (hb hby d_prog_14_m5_37) rfl ((if0 _ _).trans (feq (by decide)).1) ?_
    refine s_aloadN (pc' := 41) X105.here hx (hb hby d_prog_14_m5_40) rfl rfl rfl ?_
    obtain ⟨T106, X106, e106, st106⟩ := getF X105 hx hZ hown (host := "") (Or.inl (hw _ (List.mem_of_getElem? (i := 43) rfl))) Via.refl hE105 Gp0 (g := (mkF m 41 #[.val (.ref p0), .val (.ref q0), .val (.ref q0)] [(.ref p0)])) rfl rfl (hb hby d_prog_14_m5_41)
    refine Go.st st106 ?_
    show Go p.tables e below Kx T106 (mkF m 44 #[.val (.ref p0), .val (.ref q0), .val (.ref q0)] [(.int k1)])
    refine s_aloadN (pc' := 45) X106.here hx (hb hby d_prog_14_m5_44) rfl rfl rfl ?_
    obtain ⟨T107, X107, e107, st107⟩ := getF X106 hx hZ hown (host := "") (Or.inl (hw _ (List.mem_of_getElem? (i := 43) rfl))) Via.refl e106 Gq0 (g := (mkF m 45 #[.val (.ref p0), .val (.ref q0), .val (.ref q0)] [(.ref q0), (.int k1)])) rfl rfl (hb hby d_prog_14_m5_45)
    refine Go.st st107 ?_
    show Go p.tables e below Kx T107 (mkF m 48 #[.val (.ref p0), .val (.ref q0), .val (.ref q0)] [(.int k2), (.int k1)])
    by_cases hc108 : k1 = k2
    · skip
      refine s_icmpN (pc' := 51) X107.here hx (hb hby d_prog_14_m5_48) rfl (teq hc108).2 ?_
      refine s_iconst (pc' := 52) (v := (1 : Int32)) X107.here hx (hb hby d_prog_14_m5_51) rfl rfl ?_
      refine s_goto (pc' := 56) X107.here hx (hb hby d_prog_14_m5_52) (by decide) (by decide) ?_
      obtain ⟨fs, hr, hrun, hended, hW, hsame⟩ := X107.leave (v := (some (.int (1 : Int32)))) (fun h => by rw [Bd.returns] at h; cases h)
      refine Go.fin (retN X107 hx (t := .boolean) Bd.returns (by simp) (hb hby d_prog_14_m5_56) hr) (hF _ _ hrun hended ⟨_, _, rfl, ?_, ⟨_, rfl⟩, hW, hsame.mono (by decide) (by decide)⟩)
      · show QQ200 Z p0 q0 s1 s2 b1 b2 cs ds k1 k2 h0 n0 ((some (.int (1 : Int32))) : Option Value) T107.heap _
        rw [e107]
        exact ⟨⟨_, rfl, Or.inl ⟨rfl, hs102, trivial, hc108⟩⟩, N105, rfl⟩
    · skip
      refine s_icmpY (pc' := 55) X107.here hx (hb hby d_prog_14_m5_48) (feq hc108).2 (by decide) (by decide) ?_
      refine s_iconst (pc' := 56) (v := (0 : Int32)) X107.here hx (hb hby d_prog_14_m5_55) rfl rfl ?_
      obtain ⟨fs, hr, hrun, hended, hW, hsame⟩ := X107.leave (v := (some (.int (0 : Int32)))) (fun h => by rw [Bd.returns] at h; cases h)
      refine Go.fin (retN X107 hx (t := .boolean) Bd.returns (by simp) (hb hby d_prog_14_m5_56) hr) (hF _ _ hrun hended ⟨_, _, rfl, ?_, ⟨_, rfl⟩, hW, hsame.mono (by decide) (by decide)⟩)
      · show QQ200 Z p0 q0 s1 s2 b1 b2 cs ds k1 k2 h0 n0 ((some (.int (0 : Int32))) : Option Value) T107.heap _
        rw [e107]
        exact ⟨⟨_, rfl, Or.inr ⟨rfl, fun q => hc108 q.2.2⟩⟩, N105, rfl⟩
  · skip
    have N102 := Fr.app N0 (Fr.nil n0)
    refine Go.tr st102 ?_
    show Go p.tables e below Kx T102 (mkF m 23 #[.val (.ref p0), .val (.ref q0), .val (.ref q0)] [(.int (0 : Int32))])
    refine s_ifY (pc' := 55) X102.here hx (hb hby d_prog_14_m5_23) ((if0 _ _).trans (teq (by decide)).1) (by decide) (by decide) ?_
    refine s_iconst (pc' := 56) (v := (0 : Int32)) X102.here hx (hb hby d_prog_14_m5_55) rfl rfl ?_
    obtain ⟨fs, hr, hrun, hended, hW, hsame⟩ := X102.leave (v := (some (.int (0 : Int32)))) (fun h => by rw [Bd.returns] at h; cases h)
    refine Go.fin (retN X102 hx (t := .boolean) Bd.returns (by simp) (hb hby d_prog_14_m5_56) hr) (hF _ _ hrun hended ⟨_, _, rfl, ?_, ⟨_, rfl⟩, hW, hsame.mono (by decide) (by decide)⟩)
    · show QQ200 Z p0 q0 s1 s2 b1 b2 cs ds k1 k2 h0 n0 ((some (.int (0 : Int32))) : Option Value) T102.heap _
      rw [hE102]
      exact ⟨⟨_, rfl, Or.inr ⟨rfl, fun q => hs102 q.1⟩⟩, N102, rfl⟩
def QQ201 (Z : State) (p0 q0 s1 s2 : Addr) (b1 b2 : Nat) (cs ds : List Int32) (k1 k2 : Int32) (u2 : Addr) (d2 : Nat) (fs' : List Int32) (h0 : Heap) (n0 : Nat) (v : Option Value) (h : Heap) (L : List Loc) : Prop := (∃ r : Int32, v = some (.int r) ∧ ((r = 1 ∧ (cs = ds ∧ False ∧ k1 = k2)) ∨ (r = 0 ∧ ¬ (cs = ds ∧ False ∧ k1 = k2)))) ∧ Fr n0 L ∧ h = h0
set_option maxRecDepth 65536 in
set_option maxHeartbeats 40000000 in
theorem rmQ201 (l : Launch) (Z : State) (a0 : Array Value) (hw : ∀ d ∈ tables_1, d.before a0 Z = true) (ws : List Jvm.Cond) (p0 q0 s1 s2 : Addr) (b1 b2 : Nat) (cs ds : List Int32) (k1 k2 : Int32) (u2 : Addr) (d2 : Nat) (fs' : List Int32) (h0 : Heap) (n0 : Nat) (X00 : Old Z n0 h0) (G1 : Int32) (S1 : Sta Z Z.heap "java/lang/String" "COMPACT_STRINGS" "Z" (.int G1)) (P1 : ¬ G1 = 0) (Ep0 : Exa Z h0 p0 "com/example/data_roles/dataroles/policy/Mask") (Fp0 : Fld Z h0 p0 "com/example/data_roles/dataroles/policy/Mask" "text" "Ljava/lang/String;" (.ref s1)) (Hp0 : Fld Z h0 p0 "com/example/data_roles/dataroles/policy/Mask" "condition" "Ljava/lang/String;" .null) (Gp0 : Fld Z h0 p0 "com/example/data_roles/dataroles/policy/Mask" "order" "I" (.int k1)) (Eq0 : Exa Z h0 q0 "com/example/data_roles/dataroles/policy/Mask") (Fq0 : Fld Z h0 q0 "com/example/data_roles/dataroles/policy/Mask" "text" "Ljava/lang/String;" (.ref s2)) (Hq0 : Fld Z h0 q0 "com/example/data_roles/dataroles/policy/Mask" "condition" "Ljava/lang/String;" (.ref u2)) (Gq0 : Fld Z h0 q0 "com/example/data_roles/dataroles/policy/Mask" "order" "I" (.int k2)) (T1 : Str Z h0 b1 s1 cs) (T2 : Str Z h0 b2 s2 ds) (T4 : Str Z h0 d2 u2 fs') :
    MetFree l (⟨"com/example/data_roles/dataroles/policy/Mask", "equals", "(Ljava/lang/Object;)Z"⟩ : MethodName) (head1 (Jvm.Cond.code (⟨"com/example/data_roles/dataroles/policy/Mask", "equals", "(Ljava/lang/Object;)Z"⟩ : MethodName) prog_14_method_5_code 3 (some .boolean) :: ws) ({ frames := 5, cells := 0, slots := 0, locals := 70 } : Room)) (fun aa U => aa = #[(.ref p0), (.ref q0)] ∧ Z.Warmed39 U.vm ∧ U.heap = h0) (fun _ _ _ _ _ => True) (fun _ U o U' => ∃ v L, o = .returned v ∧ QQ201 Z p0 q0 s1 s2 b1 b2 cs ds k1 k2 u2 d2 fs' h0 n0 v U'.heap L ∧ FrameEnd U o U' L ({ frames := 5, cells := 0, slots := 0, locals := 70 } : Room).cells ({ frames := 5, cells := 0, slots := 0, locals := 70 } : Room).slots) := by
  refine MetFree.of_bodySF (plainFor_of_name pn_2) hisR ?_
  intro p e s m args below meth c s₁ Bd hml0 hP hK
  obtain ⟨rfl, hZ, hh⟩ := hP
  have hx := Bd.exec
  have hby := Bd.bytes
  have hml : c.maxLocals = 3 := hml0
  have hown : s.vm.findClass "com/example/data_roles/dataroles/policy/Mask" = some m.cls := findClass_of_methodNamed Bd.named
  have hnm := (name_of_methodNamed Bd.named Bd.method).1
  have X0 : Stand p l e ({ frames := 5, cells := 0, slots := 0, locals := 70 } : Room) s m #[(.ref p0), (.ref q0)] below meth c s₁ [] 0 0 := Stand.of_body Bd
  have e0 : s₁.heap = h0 := by rw [← hh, Bd.state]; rfl
  have N0 := Fr.nil n0
  have K0 := Keep.refl h0 []
  have ef : entryFrame m #[(.ref p0), (.ref q0)] 3 = mkF m 0 #[.val (.ref p0), .val (.ref q0), .unset] [] := (by first | (simp [entryFrame, mkF, argsToLocals, Value.category]; done) | rfl : entryFrame m #[(.ref p0), (.ref q0)] 3 = mkF m 0 #[.val (.ref p0), .val (.ref q0), .unset] [])
  rw [ef]
  refine fin_of fun Kx hF => ?_
  show Go p.tables e below Kx s₁ (mkF m 0 #[.val (.ref p0), .val (.ref q0), .unset] [])
  refine s_aloadN (pc' := 1) X0.here hx (hb hby d_prog_14_m5_0) rfl rfl rfl ?_
  obtain ⟨T109, X109, e109, st109⟩ := instY X0 hx hZ hown (hw _ (List.mem_of_getElem? (i := 53) rfl)) e0 (Ins.self Eq0) (g := (mkF m 1 #[.val (.ref p0), .val (.ref q0), .unset] [(.ref q0)])) rfl rfl (hb hby d_prog_14_m5_1)
  refine Go.st st109 ?_
  show Go p.tables e below Kx T109 (mkF m 4 #[.val (.ref p0), .val (.ref q0), .unset] [(.int (1 : Int32))])
  refine s_ifN (pc' := 7) X109.here hx (hb hby d_prog_14_m5_4) rfl ((if0 _ _).trans (feq (by decide)).1) ?_
  refine s_aloadN (pc' := 8) X109.here hx (hb hby d_prog_14_m5_7) rfl rfl rfl ?_
  obtain ⟨T110, X110, e110, st110⟩ := castY X109 hx hZ hown (hw _ (List.mem_of_getElem? (i := 53) rfl)) e109 (Ins.self Eq0) (g := (mkF m 8 #[.val (.ref p0), .val (.ref q0), .unset] [(.ref q0)])) rfl rfl (hb hby d_prog_14_m5_8)
  refine Go.st st110 ?_
  show Go p.tables e below Kx T110 (mkF m 11 #[.val (.ref p0), .val (.ref q0), .unset] [(.ref q0)])
  refine s_astoreN (pc' := 12) (Ls' := #[.val (.ref p0), .val (.ref q0), .val (.ref q0)]) X110.here hx (hb hby d_prog_14_m5_11) rfl rfl rfl ?_
  refine s_aloadN (pc' := 13) X110.here hx (hb hby d_prog_14_m5_12) rfl rfl rfl ?_
  obtain ⟨T111, X111, e111, st111⟩ := getF X110 hx hZ hown (host := "") (Or.inl (hw _ (List.mem_of_getElem? (i := 39) rfl))) Via.refl e110 Fp0 (g := (mkF m 13 #[.val (.ref p0), .val (.ref q0), .val (.ref q0)] [(.ref p0)])) rfl rfl (hb hby d_prog_14_m5_13)
  refine Go.st st111 ?_
  show Go p.tables e below Kx T111 (mkF m 16 #[.val (.ref p0), .val (.ref q0), .val (.ref q0)] [(.ref s1)])
  refine s_aloadN (pc' := 17) X111.here hx (hb hby d_prog_14_m5_16) rfl rfl rfl ?_
  obtain ⟨T112, X112, e112, st112⟩ := getF X111 hx hZ hown (host := "") (Or.inl (hw _ (List.mem_of_getElem? (i := 39) rfl))) Via.refl e111 Fq0 (g := (mkF m 17 #[.val (.ref p0), .val (.ref q0), .val (.ref q0)] [(.ref q0), (.ref s1)])) rfl rfl (hb hby d_prog_14_m5_17)
  refine Go.st st112 ?_
  show Go p.tables e below Kx T112 (mkF m 20 #[.val (.ref p0), .val (.ref q0), .val (.ref q0)] [(.ref s2), (.ref s1)])
  obtain ⟨-, sE113, sC113, ⟨st113, sk113, -, sF113, sA113⟩, sp113, sl113⟩ := id T1
  obtain ⟨-, sE114, sC114, ⟨st114, sk114, -, sF114, sA114⟩, sp114, sl114⟩ := id T2
  obtain ⟨cq115, kq115, q115a, q115b, q115c⟩ := isOf hZ e112 sE113
  obtain ⟨_, _, ⟨T115, L115, k115, n115⟩, -, X115, ⟨Lc115, hQ115, l115, y115, z115⟩, st115⟩ := X112.virtualBack hx (y := (⟨"java/lang/String", "equals", "(Ljava/lang/Object;)Z"⟩ : MethodName)) (z := (⟨"java/lang/String", "equals", "(Ljava/lang/Object;)Z"⟩ : MethodName)) hown (mvT hZ (hw _ (List.mem_of_getElem? (i := 55) rfl))) (mvT hZ (hw _ (List.mem_of_getElem? (i := 56) rfl))) (notFace_of_selects (args := #[]) (mvT hZ (hw _ (List.mem_of_getElem? (i := 58) rfl)))) (mvT hZ (hw _ (List.mem_of_getElem? (i := 58) rfl))) (mvT hZ (hw _ (List.mem_of_getElem? (i := 57) rfl))) (by decide) (StrChars.Road.eqW (W := 0) hZ (hwsE Z a0 hw) (kI := 4) (hw _ (List.mem_of_getElem? (i := 8) rfl)) sE113 sF113 sC113 sA113 (StrChars.Road.codOf rfl (fun c hc => (sp113 c hc).2)) (chr_up sp113) sl113 sE114 sF114 sC114 sA114 (StrChars.Road.codOf rfl (fun c hc => (sp114 c hc).2)) (chr_up sp114) sl114 (S1.ext X00.2) P1 (by decide) (by decide)) q115a q115c (g := (mkF m 20 #[.val (.ref p0), .val (.ref q0), .val (.ref q0)] [(.ref s2), (.ref s1)])) rfl (by rw [hml]; rfl) (Steps.refl _) (argsL := [(.ref s2)]) (rest := []) (lenOf pd_3 rfl) rfl (by show 2 * 0 + _ ≤ _; exact Nat.le_of_eq rfl) (hb hby d_prog_14_m5_20) (fun _ _ => ⟨rfl, e112, (by decide : 0 + 0 ≤ _), (by decide : 0 + 0 ≤ _)⟩)
  dsimp only [Pt.U, Pt.locs, Pt.cells, Pt.slots] at X115 l115 y115 z115 st115 hQ115
  subst l115 y115 z115
  obtain ⟨hv115, rfl, hE115⟩ := hQ115
  rcases hv115 with ⟨rfl, hs115⟩ | ⟨rfl, hs115⟩
  · skip
    have N115 := Fr.app N0 (Fr.nil n0)
    refine Go.tr st115 ?_
    show Go p.tables e below Kx T115 (mkF m 23 #[.val (.ref p0), .val (.ref q0), .val (.ref q0)] [(.int (1 : Int32))])
    refine s_ifN (pc' := 26) X115.here hx (hb hby d_prog_14_m5_23) rfl ((if0 _ _).trans (feq (by decide)).1) ?_
    refine s_aloadN (pc' := 27) X115.here hx (hb hby d_prog_14_m5_26) rfl rfl rfl ?_
    obtain ⟨T116, X116, e116, st116⟩ := getF X115 hx hZ hown (host := "") (Or.inl (hw _ (List.mem_of_getElem? (i := 41) rfl))) Via.refl hE115 Hp0 (g := (mkF m 27 #[.val (.ref p0), .val (.ref q0), .val (.ref q0)] [(.ref p0)])) rfl rfl (hb hby d_prog_14_m5_27)
    refine Go.st st116 ?_
    show Go p.tables e below Kx T116 (mkF m 30 #[.val (.ref p0), .val (.ref q0), .val (.ref q0)] [.null])
    refine s_aloadN (pc' := 31) X116.here hx (hb hby d_prog_14_m5_30) rfl rfl rfl ?_
    obtain ⟨T117, X117, e117, st117⟩ := getF X116 hx hZ hown (host := "") (Or.inl (hw _ (List.mem_of_getElem? (i := 41) rfl))) Via.refl e116 Hq0 (g := (mkF m 31 #[.val (.ref p0), .val (.ref q0), .val (.ref q0)] [(.ref q0), .null])) rfl rfl (hb hby d_prog_14_m5_31)
    refine Go.st st117 ?_
    show Go p.tables e below Kx T117 (mkF m 34 #[.val (.ref p0), .val (.ref q0), .val (.ref q0)] [(.ref u2), .null])
    obtain ⟨_, _, ⟨T118, L118, k118, n118⟩, -, X118, ⟨Lc118, hQ118, l118, y118, z118⟩, st118⟩ := Jvm.LawKit.callS X117 hx (y := (⟨"java/util/Objects", "equals", "(Ljava/lang/Object;Ljava/lang/Object;)Z"⟩ : MethodName)) hown (mvT hZ (hw _ (List.mem_of_getElem? (i := 66) rfl))) (mvT hZ (hw _ (List.mem_of_getElem? (i := 67) rfl))) (mvT hZ (hw _ (List.mem_of_getElem? (i := 68) rfl))) (mvT hZ (hw _ (List.mem_of_getElem? (i := 69) rfl))) (by decide) (backOf (W := 0) (rmO01 l Z a0 hw [] u2 h0 n0 X00 ) hZ (hw _ (List.mem_of_getElem? (i := 69) rfl)) (hw _ (List.mem_of_getElem? (i := 68) rfl)) (by decide) (by decide)) (g := (mkF m 34 #[.val (.ref p0), .val (.ref q0), .val (.ref q0)] [(.ref u2), .null])) rfl (by rw [hml]; rfl) (argsL := [.null, (.ref u2)]) (rest := []) (lenOf pd_4 rfl) rfl (by show 2 * 0 + _ ≤ _; exact Nat.le_of_eq rfl) (hb hby d_prog_14_m5_34) (fun _ _ => ⟨rfl, e117, (by decide : 0 + 0 ≤ _), (by decide : 0 + 0 ≤ _)⟩)
    dsimp only [Pt.U, Pt.locs, Pt.cells, Pt.slots] at X118 l118 y118 z118 st118 hQ118
    subst l118 y118 z118
    obtain ⟨rfl, Nq118, hE118⟩ := hQ118
    have N118 := Fr.app N115 Nq118
    refine Go.st st118 ?_
    show Go p.tables e below Kx T118 (mkF m 37 #[.val (.ref p0), .val (.ref q0), .val (.ref q0)] [(.int (0 : Int32))])
    refine s_ifY (pc' := 55) X118.here hx (hb hby d_prog_14_m5_37) ((if0 _ _).trans (teq (by decide)).1) (by decide) (by decide) ?_
    refine s_iconst (pc' := 56) (v := (0 : Int32)) X118.here hx (hb hby d_prog_14_m5_55) rfl rfl ?_
    obtain ⟨fs, hr, hrun, hended, hW, hsame⟩ := X118.leave (v := (some (.int (0 : Int32)))) (fun h => by rw [Bd.returns] at h; cases h)
    refine Go.fin (retN X118 hx (t := .boolean) Bd.returns (by simp) (hb hby d_prog_14_m5_56) hr) (hF _ _ hrun hended ⟨_, _, rfl, ?_, ⟨_, rfl⟩, hW, hsame.mono (by decide) (by decide)⟩)
    · show QQ201 Z p0 q0 s1 s2 b1 b2 cs ds k1 k2 u2 d2 fs' h0 n0 ((some (.int (0 : Int32))) : Option Value) T118.heap _
      rw [hE118]
      exact ⟨⟨_, rfl, Or.inr ⟨rfl, fun q => id q.2.1⟩⟩, N118, rfl⟩
  · skip
    have N115 := Fr.app N0 (Fr.nil n0)
    refine Go.tr st115 ?_
    show Go p.tables e below Kx T115 (mkF m 23 #[.val (.ref p0), .val (.ref q0), .val (.ref q0)] [(.int (0 : Int32))])
    refine s_ifY (pc' := 55) X115.here hx (hb hby d_prog_14_m5_23) ((if0 _ _).trans (teq (by decide)).1) (by decide) (by decide) ?_
    refine s_iconst (pc' := 56) (v := (0 : Int32)) X115.here hx (hb hby d_prog_14_m5_55) rfl rfl ?_
    obtain ⟨fs, hr, hrun, hended, hW, hsame⟩ := X115.leave (v := (some (.int (0 : Int32)))) (fun h => by rw [Bd.returns] at h; cases h)
    refine Go.fin (retN X115 hx (t := .boolean) Bd.returns (by simp) (hb hby d_prog_14_m5_56) hr) (hF _ _ hrun hended ⟨_, _, rfl, ?_, ⟨_, rfl⟩, hW, hsame.mono (by decide) (by decide)⟩)
    · show QQ201 Z p0 q0 s1 s2 b1 b2 cs ds k1 k2 u2 d2 fs' h0 n0 ((some (.int (0 : Int32))) : Option Value) T115.heap _
      rw [hE115]
      exact ⟨⟨_, rfl, Or.inr ⟨rfl, fun q => hs115 q.1⟩⟩, N115, rfl⟩
def QQ210 (Z : State) (p0 q0 s1 s2 : Addr) (b1 b2 : Nat) (cs ds : List Int32) (k1 k2 : Int32) (u1 : Addr) (d1 : Nat) (es : List Int32) (h0 : Heap) (n0 : Nat) (v : Option Value) (h : Heap) (L : List Loc) : Prop := (∃ r : Int32, v = some (.int r) ∧ ((r = 1 ∧ (cs = ds ∧ False ∧ k1 = k2)) ∨ (r = 0 ∧ ¬ (cs = ds ∧ False ∧ k1 = k2)))) ∧ Fr n0 L ∧ h = h0
set_option maxRecDepth 65536 in
set_option maxHeartbeats 40000000 in
theorem rmQ210 (l : Launch) (Z : State) (a0 : Array Value) (hw : ∀ d ∈ tables_1, d.before a0 Z = true) (ws : List Jvm.Cond) (p0 q0 s1 s2 : Addr) (b1 b2 : Nat) (cs ds : List Int32) (k1 k2 : Int32) (u1 : Addr) (d1 : Nat) (es : List Int32) (h0 : Heap) (n0 : Nat) (X00 : Old Z n0 h0) (G1 : Int32) (S1 : Sta Z Z.heap "java/lang/String" "COMPACT_STRINGS" "Z" (.int G1)) (P1 : ¬ G1 = 0) (Ep0 : Exa Z h0 p0 "com/example/data_roles/dataroles/policy/Mask") (Fp0 : Fld Z h0 p0 "com/example/data_roles/dataroles/policy/Mask" "text" "Ljava/lang/String;" (.ref s1)) (Hp0 : Fld Z h0 p0 "com/example/data_roles/dataroles/policy/Mask" "condition" "Ljava/lang/String;" (.ref u1)) (Gp0 : Fld Z h0 p0 "com/example/data_roles/dataroles/policy/Mask" "order" "I" (.int k1)) (Eq0 : Exa Z h0 q0 "com/example/data_roles/dataroles/policy/Mask") (Fq0 : Fld Z h0 q0 "com/example/data_roles/dataroles/policy/Mask" "text" "Ljava/lang/String;" (.ref s2)) (Hq0 : Fld Z h0 q0 "com/example/data_roles/dataroles/policy/Mask" "condition" "Ljava/lang/String;" .null) (Gq0 : Fld Z h0 q0 "com/example/data_roles/dataroles/policy/Mask" "order" "I" (.int k2)) (T1 : Str Z h0 b1 s1 cs) (T2 : Str Z h0 b2 s2 ds) (T3 : Str Z h0 d1 u1 es) :
    MetFree l (⟨"com/example/data_roles/dataroles/policy/Mask", "equals", "(Ljava/lang/Object;)Z"⟩ : MethodName) (head1 (Jvm.Cond.code (⟨"com/example/data_roles/dataroles/policy/Mask", "equals", "(Ljava/lang/Object;)Z"⟩ : MethodName) prog_14_method_5_code 3 (some .boolean) :: ws) ({ frames := 5, cells := 0, slots := 0, locals := 70 } : Room)) (fun aa U => aa = #[(.ref p0), (.ref q0)] ∧ Z.Warmed39 U.vm ∧ U.heap = h0) (fun _ _ _ _ _ => True) (fun _ U o U' => ∃ v L, o = .returned v ∧ QQ210 Z p0 q0 s1 s2 b1 b2 cs ds k1 k2 u1 d1 es h0 n0 v U'.heap L ∧ FrameEnd U o U' L ({ frames := 5, cells := 0, slots := 0, locals := 70 } : Room).cells ({ frames := 5, cells := 0, slots := 0, locals := 70 } : Room).slots) := by
  refine MetFree.of_bodySF (plainFor_of_name pn_2) hisR ?_
  intro p e s m args below meth c s₁ Bd hml0 hP hK
  obtain ⟨rfl, hZ, hh⟩ := hP
  have hx := Bd.exec
  have hby := Bd.bytes
  have hml : c.maxLocals = 3 := hml0
  have hown : s.vm.findClass "com/example/data_roles/dataroles/policy/Mask" = some m.cls := findClass_of_methodNamed Bd.named
  have hnm := (name_of_methodNamed Bd.named Bd.method).1
  have X0 : Stand p l e ({ frames := 5, cells := 0, slots := 0, locals := 70 } : Room) s m #[(.ref p0), (.ref q0)] below meth c s₁ [] 0 0 := Stand.of_body Bd
  have e0 : s₁.heap = h0 := by rw [← hh, Bd.state]; rfl
  have N0 := Fr.nil n0
  have K0 := Keep.refl h0 []
  have ef : entryFrame m #[(.ref p0), (.ref q0)] 3 = mkF m 0 #[.val (.ref p0), .val (.ref q0), .unset] [] := (by first | (simp [entryFrame, mkF, argsToLocals, Value.category]; done) | rfl : entryFrame m #[(.ref p0), (.ref q0)] 3 = mkF m 0 #[.val (.ref p0), .val (.ref q0), .unset] [])
  rw [ef]
  refine fin_of fun Kx hF => ?_
  show Go p.tables e below Kx s₁ (mkF m 0 #[.val (.ref p0), .val (.ref q0), .unset] [])
  refine s_aloadN (pc' := 1) X0.here hx (hb hby d_prog_14_m5_0) rfl rfl rfl ?_
  obtain ⟨T119, X119, e119, st119⟩ := instY X0 hx hZ hown (hw _ (List.mem_of_getElem? (i := 53) rfl)) e0 (Ins.self Eq0) (g := (mkF m 1 #[.val (.ref p0), .val (.ref q0), .unset] [(.ref q0)])) rfl rfl (hb hby d_prog_14_m5_1)
  refine Go.st st119 ?_
  show Go p.tables e below Kx T119 (mkF m 4 #[.val (.ref p0), .val (.ref q0), .unset] [(.int (1 : Int32))])
  refine s_ifN (pc' := 7) X119.here hx (hb hby d_prog_14_m5_4) rfl ((if0 _ _).trans (feq (by decide)).1) ?_
  refine s_aloadN (pc' := 8) X119.here hx (hb hby d_prog_14_m5_7) rfl rfl rfl ?_
  obtain ⟨T120, X120, e120, st120⟩ := castY X119 hx hZ hown (hw _ (List.mem_of_getElem? (i := 53) rfl)) e119 (Ins.self Eq0) (g := (mkF m 8 #[.val (.ref p0), .val (.ref q0), .unset] [(.ref q0)])) rfl rfl (hb hby d_prog_14_m5_8)
  refine Go.st st120 ?_
  show Go p.tables e below Kx T120 (mkF m 11 #[.val (.ref p0), .val (.ref q0), .unset] [(.ref q0)])
  refine s_astoreN (pc' := 12) (Ls' := #[.val (.ref p0), .val (.ref q0), .val (.ref q0)]) X120.here hx (hb hby d_prog_14_m5_11) rfl rfl rfl ?_
  refine s_aloadN (pc' := 13) X120.here hx (hb hby d_prog_14_m5_12) rfl rfl rfl ?_
  obtain ⟨T121, X121, e121, st121⟩ := getF X120 hx hZ hown (host := "") (Or.inl (hw _ (List.mem_of_getElem? (i := 39) rfl))) Via.refl e120 Fp0 (g := (mkF m 13 #[.val (.ref p0), .val (.ref q0), .val (.ref q0)] [(.ref p0)])) rfl rfl (hb hby d_prog_14_m5_13)
  refine Go.st st121 ?_
  show Go p.tables e below Kx T121 (mkF m 16 #[.val (.ref p0), .val (.ref q0), .val (.ref q0)] [(.ref s1)])
  refine s_aloadN (pc' := 17) X121.here hx (hb hby d_prog_14_m5_16) rfl rfl rfl ?_
  obtain ⟨T122, X122, e122, st122⟩ := getF X121 hx hZ hown (host := "") (Or.inl (hw _ (List.mem_of_getElem? (i := 39) rfl))) Via.refl e121 Fq0 (g := (mkF m 17 #[.val (.ref p0), .val (.ref q0), .val (.ref q0)] [(.ref q0), (.ref s1)])) rfl rfl (hb hby d_prog_14_m5_17)
  refine Go.st st122 ?_
  show Go p.tables e below Kx T122 (mkF m 20 #[.val (.ref p0), .val (.ref q0), .val (.ref q0)] [(.ref s2), (.ref s1)])
  obtain ⟨-, sE123, sC123, ⟨st123, sk123, -, sF123, sA123⟩, sp123, sl123⟩ := id T1
  obtain ⟨-, sE124, sC124, ⟨st124, sk124, -, sF124, sA124⟩, sp124, sl124⟩ := id T2
  obtain ⟨cq125, kq125, q125a, q125b, q125c⟩ := isOf hZ e122 sE123
  obtain ⟨_, _, ⟨T125, L125, k125, n125⟩, -, X125, ⟨Lc125, hQ125, l125, y125, z125⟩, st125⟩ := X122.virtualBack hx (y := (⟨"java/lang/String", "equals", "(Ljava/lang/Object;)Z"⟩ : MethodName)) (z := (⟨"java/lang/String", "equals", "(Ljava/lang/Object;)Z"⟩ : MethodName)) hown (mvT hZ (hw _ (List.mem_of_getElem? (i := 55) rfl))) (mvT hZ (hw _ (List.mem_of_getElem? (i := 56) rfl))) (notFace_of_selects (args := #[]) (mvT hZ (hw _ (List.mem_of_getElem? (i := 58) rfl)))) (mvT hZ (hw _ (List.mem_of_getElem? (i := 58) rfl))) (mvT hZ (hw _ (List.mem_of_getElem? (i := 57) rfl))) (by decide) (StrChars.Road.eqW (W := 0) hZ (hwsE Z a0 hw) (kI := 4) (hw _ (List.mem_of_getElem? (i := 8) rfl)) sE123 sF123 sC123 sA123 (StrChars.Road.codOf rfl (fun c hc => (sp123 c hc).2)) (chr_up sp123) sl123 sE124 sF124 sC124 sA124 (StrChars.Road.codOf rfl (fun c hc => (sp124 c hc).2)) (chr_up sp124) sl124 (S1.ext X00.2) P1 (by decide) (by decide)) q125a q125c (g := (mkF m 20 #[.val (.ref p0), .val (.ref q0), .val (.ref q0)] [(.ref s2), (.ref s1)])) rfl (by rw [hml]; rfl) (Steps.refl _) (argsL := [(.ref s2)]) (rest := []) (lenOf pd_3 rfl) rfl (by show 2 * 0 + _ ≤ _; exact Nat.le_of_eq rfl) (hb hby d_prog_14_m5_20) (fun _ _ => ⟨rfl, e122, (by decide : 0 + 0 ≤ _), (by decide : 0 + 0 ≤ _)⟩)
  dsimp only [Pt.U, Pt.locs, Pt.cells, Pt.slots] at X125 l125 y125 z125 st125 hQ125
  subst l125 y125 z125
  obtain ⟨hv125, rfl, hE125⟩ := hQ125
  rcases hv125 with ⟨rfl, hs125⟩ | ⟨rfl, hs125⟩
  · skip
    have N125 := Fr.app N0 (Fr.nil n0)
    refine Go.tr st125 ?_
    show Go p.tables e below Kx T125 (mkF m 23 #[.val (.ref p0), .val (.ref q0), .val (.ref q0)] [(.int (1 : Int32))])
    refine s_ifN (pc' := 26) X125.here hx (hb hby d_prog_14_m5_23) rfl ((if0 _ _).trans (feq (by decide)).1) ?_
    refine s_aloadN (pc' := 27) X125.here hx (hb hby d_prog_14_m5_26) rfl rfl rfl ?_
    obtain ⟨T126, X126, e126, st126⟩ := getF X125 hx hZ hown (host := "") (Or.inl (hw _ (List.mem_of_getElem? (i := 41) rfl))) Via.refl hE125 Hp0 (g := (mkF m 27 #[.val (.ref p0), .val (.ref q0), .val (.ref q0)] [(.ref p0)])) rfl rfl (hb hby d_prog_14_m5_27)
    refine Go.st st126 ?_
    show Go p.tables e below Kx T126 (mkF m 30 #[.val (.ref p0), .val (.ref q0), .val (.ref q0)] [(.ref u1)])
    refine s_aloadN (pc' := 31) X126.here hx (hb hby d_prog_14_m5_30) rfl rfl rfl ?_
    obtain ⟨T127, X127, e127, st127⟩ := getF X126 hx hZ hown (host := "") (Or.inl (hw _ (List.mem_of_getElem? (i := 41) rfl))) Via.refl e126 Hq0 (g := (mkF m 31 #[.val (.ref p0), .val (.ref q0), .val (.ref q0)] [(.ref q0), (.ref u1)])) rfl rfl (hb hby d_prog_14_m5_31)
    refine Go.st st127 ?_
    show Go p.tables e below Kx T127 (mkF m 34 #[.val (.ref p0), .val (.ref q0), .val (.ref q0)] [.null, (.ref u1)])
    obtain ⟨_, _, ⟨T128, L128, k128, n128⟩, -, X128, ⟨Lc128, hQ128, l128, y128, z128⟩, st128⟩ := Jvm.LawKit.callS X127 hx (y := (⟨"java/util/Objects", "equals", "(Ljava/lang/Object;Ljava/lang/Object;)Z"⟩ : MethodName)) hown (mvT hZ (hw _ (List.mem_of_getElem? (i := 66) rfl))) (mvT hZ (hw _ (List.mem_of_getElem? (i := 67) rfl))) (mvT hZ (hw _ (List.mem_of_getElem? (i := 68) rfl))) (mvT hZ (hw _ (List.mem_of_getElem? (i := 69) rfl))) (by decide) (backOf (W := 0) (rmO10 l Z a0 hw [] u1 h0 n0 X00 T3.2.1) hZ (hw _ (List.mem_of_getElem? (i := 69) rfl)) (hw _ (List.mem_of_getElem? (i := 68) rfl)) (by decide) (by decide)) (g := (mkF m 34 #[.val (.ref p0), .val (.ref q0), .val (.ref q0)] [.null, (.ref u1)])) rfl (by rw [hml]; rfl) (argsL := [(.ref u1), .null]) (rest := []) (lenOf pd_4 rfl) rfl (by show 2 * 0 + _ ≤ _; exact Nat.le_of_eq rfl) (hb hby d_prog_14_m5_34) (fun _ _ => ⟨rfl, e127, (by decide : 0 + 0 ≤ _), (by decide : 0 + 0 ≤ _)⟩)
    dsimp only [Pt.U, Pt.locs, Pt.cells, Pt.slots] at X128 l128 y128 z128 st128 hQ128
    subst l128 y128 z128
    obtain ⟨rfl, Nq128, hE128⟩ := hQ128
    have N128 := Fr.app N125 Nq128
    refine Go.st st128 ?_
    show Go p.tables e below Kx T128 (mkF m 37 #[.val (.ref p0), .val (.ref q0), .val (.ref q0)] [(.int (0 : Int32))])
    refine s_ifY (pc' := 55) X128.here hx (hb hby d_prog_14_m5_37) ((if0 _ _).trans (teq (by decide)).1) (by decide) (by decide) ?_
    refine s_iconst (pc' := 56) (v := (0 : Int32)) X128.here hx (hb hby d_prog_14_m5_55) rfl rfl ?_
    obtain ⟨fs, hr, hrun, hended, hW, hsame⟩ := X128.leave (v := (some (.int (0 : Int32)))) (fun h => by rw [Bd.returns] at h; cases h)
    refine Go.fin (retN X128 hx (t := .boolean) Bd.returns (by simp) (hb hby d_prog_14_m5_56) hr) (hF _ _ hrun hended ⟨_, _, rfl, ?_, ⟨_, rfl⟩, hW, hsame.mono (by decide) (by decide)⟩)
    · show QQ210 Z p0 q0 s1 s2 b1 b2 cs ds k1 k2 u1 d1 es h0 n0 ((some (.int (0 : Int32))) : Option Value) T128.heap _
      rw [hE128]
      exact ⟨⟨_, rfl, Or.inr ⟨rfl, fun q => id q.2.1⟩⟩, N128, rfl⟩
  · skip
    have N125 := Fr.app N0 (Fr.nil n0)
    refine Go.tr st125 ?_
    show Go p.tables e below Kx T125 (mkF m 23 #[.val (.ref p0), .val (.ref q0), .val (.ref q0)] [(.int (0 : Int32))])
    refine s_ifY (pc' := 55) X125.here hx (hb hby d_prog_14_m5_23) ((if0 _ _).trans (teq (by decide)).1) (by decide) (by decide) ?_
    refine s_iconst (pc' := 56) (v := (0 : Int32)) X125.here hx (hb hby d_prog_14_m5_55) rfl rfl ?_
    obtain ⟨fs, hr, hrun, hended, hW, hsame⟩ := X125.leave (v := (some (.int (0 : Int32)))) (fun h => by rw [Bd.returns] at h; cases h)
    refine Go.fin (retN X125 hx (t := .boolean) Bd.returns (by simp) (hb hby d_prog_14_m5_56) hr) (hF _ _ hrun hended ⟨_, _, rfl, ?_, ⟨_, rfl⟩, hW, hsame.mono (by decide) (by decide)⟩)
    · show QQ210 Z p0 q0 s1 s2 b1 b2 cs ds k1 k2 u1 d1 es h0 n0 ((some (.int (0 : Int32))) : Option Value) T125.heap _
      rw [hE125]
      exact ⟨⟨_, rfl, Or.inr ⟨rfl, fun q => hs125 q.1⟩⟩, N125, rfl⟩
def QQ211 (Z : State) (p0 q0 s1 s2 : Addr) (b1 b2 : Nat) (cs ds : List Int32) (k1 k2 : Int32) (u1 : Addr) (d1 : Nat) (es : List Int32) (u2 : Addr) (d2 : Nat) (fs' : List Int32) (h0 : Heap) (n0 : Nat) (v : Option Value) (h : Heap) (L : List Loc) : Prop := (∃ r : Int32, v = some (.int r) ∧ ((r = 1 ∧ (cs = ds ∧ es = fs' ∧ k1 = k2)) ∨ (r = 0 ∧ ¬ (cs = ds ∧ es = fs' ∧ k1 = k2)))) ∧ Fr n0 L ∧ h = h0
set_option maxRecDepth 65536 in
set_option maxHeartbeats 40000000 in
theorem rmQ211 (l : Launch) (Z : State) (a0 : Array Value) (hw : ∀ d ∈ tables_1, d.before a0 Z = true) (ws : List Jvm.Cond) (p0 q0 s1 s2 : Addr) (b1 b2 : Nat) (cs ds : List Int32) (k1 k2 : Int32) (u1 : Addr) (d1 : Nat) (es : List Int32) (u2 : Addr) (d2 : Nat) (fs' : List Int32) (h0 : Heap) (n0 : Nat) (X00 : Old Z n0 h0) (G1 : Int32) (S1 : Sta Z Z.heap "java/lang/String" "COMPACT_STRINGS" "Z" (.int G1)) (P1 : ¬ G1 = 0) (Ep0 : Exa Z h0 p0 "com/example/data_roles/dataroles/policy/Mask") (Fp0 : Fld Z h0 p0 "com/example/data_roles/dataroles/policy/Mask" "text" "Ljava/lang/String;" (.ref s1)) (Hp0 : Fld Z h0 p0 "com/example/data_roles/dataroles/policy/Mask" "condition" "Ljava/lang/String;" (.ref u1)) (Gp0 : Fld Z h0 p0 "com/example/data_roles/dataroles/policy/Mask" "order" "I" (.int k1)) (Eq0 : Exa Z h0 q0 "com/example/data_roles/dataroles/policy/Mask") (Fq0 : Fld Z h0 q0 "com/example/data_roles/dataroles/policy/Mask" "text" "Ljava/lang/String;" (.ref s2)) (Hq0 : Fld Z h0 q0 "com/example/data_roles/dataroles/policy/Mask" "condition" "Ljava/lang/String;" (.ref u2)) (Gq0 : Fld Z h0 q0 "com/example/data_roles/dataroles/policy/Mask" "order" "I" (.int k2)) (T1 : Str Z h0 b1 s1 cs) (T2 : Str Z h0 b2 s2 ds) (T3 : Str Z h0 d1 u1 es) (T4 : Str Z h0 d2 u2 fs') :
    MetFree l (⟨"com/example/data_roles/dataroles/policy/Mask", "equals", "(Ljava/lang/Object;)Z"⟩ : MethodName) (head1 (Jvm.Cond.code (⟨"com/example/data_roles/dataroles/policy/Mask", "equals", "(Ljava/lang/Object;)Z"⟩ : MethodName) prog_14_method_5_code 3 (some .boolean) :: ws) ({ frames := 5, cells := 0, slots := 0, locals := 70 } : Room)) (fun aa U => aa = #[(.ref p0), (.ref q0)] ∧ Z.Warmed39 U.vm ∧ U.heap = h0) (fun _ _ _ _ _ => True) (fun _ U o U' => ∃ v L, o = .returned v ∧ QQ211 Z p0 q0 s1 s2 b1 b2 cs ds k1 k2 u1 d1 es u2 d2 fs' h0 n0 v U'.heap L ∧ FrameEnd U o U' L ({ frames := 5, cells := 0, slots := 0, locals := 70 } : Room).cells ({ frames := 5, cells := 0, slots := 0, locals := 70 } : Room).slots) := by
  refine MetFree.of_bodySF (plainFor_of_name pn_2) hisR ?_
  intro p e s m args below meth c s₁ Bd hml0 hP hK
  obtain ⟨rfl, hZ, hh⟩ := hP
  have hx := Bd.exec
  have hby := Bd.bytes
  have hml : c.maxLocals = 3 := hml0
  have hown : s.vm.findClass "com/example/data_roles/dataroles/policy/Mask" = some m.cls := findClass_of_methodNamed Bd.named
  have hnm := (name_of_methodNamed Bd.named Bd.method).1
  have X0 : Stand p l e ({ frames := 5, cells := 0, slots := 0, locals := 70 } : Room) s m #[(.ref p0), (.ref q0)] below meth c s₁ [] 0 0 := Stand.of_body Bd
  have e0 : s₁.heap = h0 := by rw [← hh, Bd.state]; rfl
  have N0 := Fr.nil n0
  have K0 := Keep.refl h0 []
  have ef : entryFrame m #[(.ref p0), (.ref q0)] 3 = mkF m 0 #[.val (.ref p0), .val (.ref q0), .unset] [] := (by first | (simp [entryFrame, mkF, argsToLocals, Value.category]; done) | rfl : entryFrame m #[(.ref p0), (.ref q0)] 3 = mkF m 0 #[.val (.ref p0), .val (.ref q0), .unset] [])
  rw [ef]
  refine fin_of fun Kx hF => ?_
  show Go p.tables e below Kx s₁ (mkF m 0 #[.val (.ref p0), .val (.ref q0), .unset] [])
  refine s_aloadN (pc' := 1) X0.here hx (hb hby d_prog_14_m5_0) rfl rfl rfl ?_
  obtain ⟨T129, X129, e129, st129⟩ := instY X0 hx hZ hown (hw _ (List.mem_of_getElem? (i := 53) rfl)) e0 (Ins.self Eq0) (g := (mkF m 1 #[.val (.ref p0), .val (.ref q0), .unset] [(.ref q0)])) rfl rfl (hb hby d_prog_14_m5_1)
  refine Go.st st129 ?_
  show Go p.tables e below Kx T129 (mkF m 4 #[.val (.ref p0), .val (.ref q0), .unset] [(.int (1 : Int32))])
  refine s_ifN (pc' := 7) X129.here hx (hb hby d_prog_14_m5_4) rfl ((if0 _ _).trans (feq (by decide)).1) ?_
  refine s_aloadN (pc' := 8) X129.here hx (hb hby d_prog_14_m5_7) rfl rfl rfl ?_
  obtain ⟨T130, X130, e130, st130⟩ := castY X129 hx hZ hown (hw _ (List.mem_of_getElem? (i := 53) rfl)) e129 (Ins.self Eq0) (g := (mkF m 8 #[.val (.ref p0), .val (.ref q0), .unset] [(.ref q0)])) rfl rfl (hb hby d_prog_14_m5_8)
  refine Go.st st130 ?_
  show Go p.tables e below Kx T130 (mkF m 11 #[.val (.ref p0), .val (.ref q0), .unset] [(.ref q0)])
  refine s_astoreN (pc' := 12) (Ls' := #[.val (.ref p0), .val (.ref q0), .val (.ref q0)]) X130.here hx (hb hby d_prog_14_m5_11) rfl rfl rfl ?_
  refine s_aloadN (pc' := 13) X130.here hx (hb hby d_prog_14_m5_12) rfl rfl rfl ?_
  obtain ⟨T131, X131, e131, st131⟩ := getF X130 hx hZ hown (host := "") (Or.inl (hw _ (List.mem_of_getElem? (i := 39) rfl))) Via.refl e130 Fp0 (g := (mkF m 13 #[.val (.ref p0), .val (.ref q0), .val (.ref q0)] [(.ref p0)])) rfl rfl (hb hby d_prog_14_m5_13)
  refine Go.st st131 ?_
  show Go p.tables e below Kx T131 (mkF m 16 #[.val (.ref p0), .val (.ref q0), .val (.ref q0)] [(.ref s1)])
  refine s_aloadN (pc' := 17) X131.here hx (hb hby d_prog_14_m5_16) rfl rfl rfl ?_
  obtain ⟨T132, X132, e132, st132⟩ := getF X131 hx hZ hown (host := "") (Or.inl (hw _ (List.mem_of_getElem? (i := 39) rfl))) Via.refl e131 Fq0 (g := (mkF m 17 #[.val (.ref p0), .val (.ref q0), .val (.ref q0)] [(.ref q0), (.ref s1)])) rfl rfl (hb hby d_prog_14_m5_17)
  refine Go.st st132 ?_
  show Go p.tables e below Kx T132 (mkF m 20 #[.val (.ref p0), .val (.ref q0), .val (.ref q0)] [(.ref s2), (.ref s1)])
  obtain ⟨-, sE133, sC133, ⟨st133, sk133, -, sF133, sA133⟩, sp133, sl133⟩ := id T1
  obtain ⟨-, sE134, sC134, ⟨st134, sk134, -, sF134, sA134⟩, sp134, sl134⟩ := id T2
  obtain ⟨cq135, kq135, q135a, q135b, q135c⟩ := isOf hZ e132 sE133
  obtain ⟨_, _, ⟨T135, L135, k135, n135⟩, -, X135, ⟨Lc135, hQ135, l135, y135, z135⟩, st135⟩ := X132.virtualBack hx (y := (⟨"java/lang/String", "equals", "(Ljava/lang/Object;)Z"⟩ : MethodName)) (z := (⟨"java/lang/String", "equals", "(Ljava/lang/Object;)Z"⟩ : MethodName)) hown (mvT hZ (hw _ (List.mem_of_getElem? (i := 55) rfl))) (mvT hZ (hw _ (List.mem_of_getElem? (i := 56) rfl))) (notFace_of_selects (args := #[]) (mvT hZ (hw _ (List.mem_of_getElem? (i := 58) rfl)))) (mvT hZ (hw _ (List.mem_of_getElem? (i := 58) rfl))) (mvT hZ (hw _ (List.mem_of_getElem? (i := 57) rfl))) (by decide) (StrChars.Road.eqW (W := 0) hZ (hwsE Z a0 hw) (kI := 4) (hw _ (List.mem_of_getElem? (i := 8) rfl)) sE133 sF133 sC133 sA133 (StrChars.Road.codOf rfl (fun c hc => (sp133 c hc).2)) (chr_up sp133) sl133 sE134 sF134 sC134 sA134 (StrChars.Road.codOf rfl (fun c hc => (sp134 c hc).2)) (chr_up sp134) sl134 (S1.ext X00.2) P1 (by decide) (by decide)) q135a q135c (g := (mkF m 20 #[.val (.ref p0), .val (.ref q0), .val (.ref q0)] [(.ref s2), (.ref s1)])) rfl (by rw [hml]; rfl) (Steps.refl _) (argsL := [(.ref s2)]) (rest := []) (lenOf pd_3 rfl) rfl (by show 2 * 0 + _ ≤ _; exact Nat.le_of_eq rfl) (hb hby d_prog_14_m5_20) (fun _ _ => ⟨rfl, e132, (by decide : 0 + 0 ≤ _), (by decide : 0 + 0 ≤ _)⟩)
  dsimp only [Pt.U, Pt.locs, Pt.cells, Pt.slots] at X135 l135 y135 z135 st135 hQ135
  subst l135 y135 z135
  obtain ⟨hv135, rfl, hE135⟩ := hQ135
  rcases hv135 with ⟨rfl, hs135⟩ | ⟨rfl, hs135⟩
  · skip
    have N135 := Fr.app N0 (Fr.nil n0)
    refine Go.tr st135 ?_
    show Go p.tables e below Kx T135 (mkF m 23 #[.val (.ref p0), .val (.ref q0), .val (.ref q0)] [(.int (1 : Int32))])
    refine s_ifN (pc' := 26) X135.here hx (hb hby d_prog_14_m5_23) rfl ((if0 _ _).trans (feq (by decide)).1) ?_
    refine s_aloadN (pc' := 27) X135.here hx (hb hby d_prog_14_m5_26) rfl rfl rfl ?_
    obtain ⟨T136, X136, e136, st136⟩ := getF X135 hx hZ hown (host := "") (Or.inl (hw _ (List.mem_of_getElem? (i := 41) rfl))) Via.refl hE135 Hp0 (g := (mkF m 27 #[.val (.ref p0), .val (.ref q0), .val (.ref q0)] [(.ref p0)])) rfl rfl (hb hby d_prog_14_m5_27)
    refine Go.st st136 ?_
    show Go p.tables e below Kx T136 (mkF m 30 #[.val (.ref p0), .val (.ref q0), .val (.ref q0)] [(.ref u1)])
    refine s_aloadN (pc' := 31) X136.here hx (hb hby d_prog_14_m5_30) rfl rfl rfl ?_
    obtain ⟨T137, X137, e137, st137⟩ := getF X136 hx hZ hown (host := "") (Or.inl (hw _ (List.mem_of_getElem? (i := 41) rfl))) Via.refl e136 Hq0 (g := (mkF m 31 #[.val (.ref p0), .val (.ref q0), .val (.ref q0)] [(.ref q0), (.ref u1)])) rfl rfl (hb hby d_prog_14_m5_31)
    refine Go.st st137 ?_
    show Go p.tables e below Kx T137 (mkF m 34 #[.val (.ref p0), .val (.ref q0), .val (.ref q0)] [(.ref u2), (.ref u1)])
    obtain ⟨_, _, ⟨T138, L138, k138, n138⟩, -, X138, ⟨Lc138, hQ138, l138, y138, z138⟩, st138⟩ := Jvm.LawKit.callS X137 hx (y := (⟨"java/util/Objects", "equals", "(Ljava/lang/Object;Ljava/lang/Object;)Z"⟩ : MethodName)) hown (mvT hZ (hw _ (List.mem_of_getElem? (i := 66) rfl))) (mvT hZ (hw _ (List.mem_of_getElem? (i := 67) rfl))) (mvT hZ (hw _ (List.mem_of_getElem? (i := 68) rfl))) (mvT hZ (hw _ (List.mem_of_getElem? (i := 69) rfl))) (by decide) (backOf (W := 0) (rmO11 l Z a0 hw [] u1 u2 d1 d2 es fs' h0 n0 X00 G1 S1 P1 T3 T4) hZ (hw _ (List.mem_of_getElem? (i := 69) rfl)) (hw _ (List.mem_of_getElem? (i := 68) rfl)) (by decide) (by decide)) (g := (mkF m 34 #[.val (.ref p0), .val (.ref q0), .val (.ref q0)] [(.ref u2), (.ref u1)])) rfl (by rw [hml]; rfl) (argsL := [(.ref u1), (.ref u2)]) (rest := []) (lenOf pd_4 rfl) rfl (by show 2 * 0 + _ ≤ _; exact Nat.le_of_eq rfl) (hb hby d_prog_14_m5_34) (fun _ _ => ⟨rfl, e137, (by decide : 0 + 0 ≤ _), (by decide : 0 + 0 ≤ _)⟩)
    dsimp only [Pt.U, Pt.locs, Pt.cells, Pt.slots] at X138 l138 y138 z138 st138 hQ138
    subst l138 y138 z138
    obtain ⟨⟨r138, rfl, hr138⟩, Nq138, hE138⟩ := hQ138
    rcases hr138 with ⟨rfl, hr138⟩ | ⟨rfl, hr138⟩
    · skip
      have N138 := Fr.app N135 Nq138
      refine Go.st st138 ?_
      show Go p.tables e below Kx T138 (mkF m 37 #[.val (.ref p0), .val (.ref q0), .val (.ref q0)] [(.int (1 : Int32))])
      refine s_ifN (pc' := 40) X138.here hx (hb hby d_prog_14_m5_37) rfl ((if0 _ _).trans (feq (by decide)).1) ?_
      refine s_aloadN (pc' := 41) X138.here hx (hb hby d_prog_14_m5_40) rfl rfl rfl ?_
      obtain ⟨T139, X139, e139, st139⟩ := getF X138 hx hZ hown (host := "") (Or.inl (hw _ (List.mem_of_getElem? (i := 43) rfl))) Via.refl hE138 Gp0 (g := (mkF m 41 #[.val (.ref p0), .val (.ref q0), .val (.ref q0)] [(.ref p0)])) rfl rfl (hb hby d_prog_14_m5_41)
      refine Go.st st139 ?_
      show Go p.tables e below Kx T139 (mkF m 44 #[.val (.ref p0), .val (.ref q0), .val (.ref q0)] [(.int k1)])
      refine s_aloadN (pc' := 45) X139.here hx (hb hby d_prog_14_m5_44) rfl rfl rfl ?_
      obtain ⟨T140, X140, e140, st140⟩ := getF X139 hx hZ hown (host := "") (Or.inl (hw _ (List.mem_of_getElem? (i := 43) rfl))) Via.refl e139 Gq0 (g := (mkF m 45 #[.val (.ref p0), .val (.ref q0), .val (.ref q0)] [(.ref q0), (.int k1)])) rfl rfl (hb hby d_prog_14_m5_45)
      refine Go.st st140 ?_
      show Go p.tables e below Kx T140 (mkF m 48 #[.val (.ref p0), .val (.ref q0), .val (.ref q0)] [(.int k2), (.int k1)])
      by_cases hc141 : k1 = k2
      · skip
        refine s_icmpN (pc' := 51) X140.here hx (hb hby d_prog_14_m5_48) rfl (teq hc141).2 ?_
        refine s_iconst (pc' := 52) (v := (1 : Int32)) X140.here hx (hb hby d_prog_14_m5_51) rfl rfl ?_
        refine s_goto (pc' := 56) X140.here hx (hb hby d_prog_14_m5_52) (by decide) (by decide) ?_
        obtain ⟨fs, hr, hrun, hended, hW, hsame⟩ := X140.leave (v := (some (.int (1 : Int32)))) (fun h => by rw [Bd.returns] at h; cases h)
        refine Go.fin (retN X140 hx (t := .boolean) Bd.returns (by simp) (hb hby d_prog_14_m5_56) hr) (hF _ _ hrun hended ⟨_, _, rfl, ?_, ⟨_, rfl⟩, hW, hsame.mono (by decide) (by decide)⟩)
        · show QQ211 Z p0 q0 s1 s2 b1 b2 cs ds k1 k2 u1 d1 es u2 d2 fs' h0 n0 ((some (.int (1 : Int32))) : Option Value) T140.heap _
          rw [e140]
          exact ⟨⟨_, rfl, Or.inl ⟨rfl, hs135, hr138, hc141⟩⟩, N138, rfl⟩
      · skip
        refine s_icmpY (pc' := 55) X140.here hx (hb hby d_prog_14_m5_48) (feq hc141).2 (by decide) (by decide) ?_
        refine s_iconst (pc' := 56) (v := (0 : Int32)) X140.here hx (hb hby d_prog_14_m5_55) rfl rfl ?_
        obtain ⟨fs, hr, hrun, hended, hW, hsame⟩ := X140.leave (v := (some (.int (0 : Int32)))) (fun h => by rw [Bd.returns] at h; cases h)
        refine Go.fin (retN X140 hx (t := .boolean) Bd.returns (by simp) (hb hby d_prog_14_m5_56) hr) (hF _ _ hrun hended ⟨_, _, rfl, ?_, ⟨_, rfl⟩, hW, hsame.mono (by decide) (by decide)⟩)
        · show QQ211 Z p0 q0 s1 s2 b1 b2 cs ds k1 k2 u1 d1 es u2 d2 fs' h0 n0 ((some (.int (0 : Int32))) : Option Value) T140.heap _
          rw [e140]
          exact ⟨⟨_, rfl, Or.inr ⟨rfl, fun q => hc141 q.2.2⟩⟩, N138, rfl⟩
    · skip
      have N138 := Fr.app N135 Nq138
      refine Go.st st138 ?_
      show Go p.tables e below Kx T138 (mkF m 37 #[.val (.ref p0), .val (.ref q0), .val (.ref q0)] [(.int (0 : Int32))])
      refine s_ifY (pc' := 55) X138.here hx (hb hby d_prog_14_m5_37) ((if0 _ _).trans (teq (by decide)).1) (by decide) (by decide) ?_
      refine s_iconst (pc' := 56) (v := (0 : Int32)) X138.here hx (hb hby d_prog_14_m5_55) rfl rfl ?_
      obtain ⟨fs, hr, hrun, hended, hW, hsame⟩ := X138.leave (v := (some (.int (0 : Int32)))) (fun h => by rw [Bd.returns] at h; cases h)
      refine Go.fin (retN X138 hx (t := .boolean) Bd.returns (by simp) (hb hby d_prog_14_m5_56) hr) (hF _ _ hrun hended ⟨_, _, rfl, ?_, ⟨_, rfl⟩, hW, hsame.mono (by decide) (by decide)⟩)
      · show QQ211 Z p0 q0 s1 s2 b1 b2 cs ds k1 k2 u1 d1 es u2 d2 fs' h0 n0 ((some (.int (0 : Int32))) : Option Value) T138.heap _
        rw [hE138]
        exact ⟨⟨_, rfl, Or.inr ⟨rfl, fun q => hr138 q.2.1⟩⟩, N138, rfl⟩
  · skip
    have N135 := Fr.app N0 (Fr.nil n0)
    refine Go.tr st135 ?_
    show Go p.tables e below Kx T135 (mkF m 23 #[.val (.ref p0), .val (.ref q0), .val (.ref q0)] [(.int (0 : Int32))])
    refine s_ifY (pc' := 55) X135.here hx (hb hby d_prog_14_m5_23) ((if0 _ _).trans (teq (by decide)).1) (by decide) (by decide) ?_
    refine s_iconst (pc' := 56) (v := (0 : Int32)) X135.here hx (hb hby d_prog_14_m5_55) rfl rfl ?_
    obtain ⟨fs, hr, hrun, hended, hW, hsame⟩ := X135.leave (v := (some (.int (0 : Int32)))) (fun h => by rw [Bd.returns] at h; cases h)
    refine Go.fin (retN X135 hx (t := .boolean) Bd.returns (by simp) (hb hby d_prog_14_m5_56) hr) (hF _ _ hrun hended ⟨_, _, rfl, ?_, ⟨_, rfl⟩, hW, hsame.mono (by decide) (by decide)⟩)
    · show QQ211 Z p0 q0 s1 s2 b1 b2 cs ds k1 k2 u1 d1 es u2 d2 fs' h0 n0 ((some (.int (0 : Int32))) : Option Value) T135.heap _
      rw [hE135]
      exact ⟨⟨_, rfl, Or.inr ⟨rfl, fun q => hs135 q.1⟩⟩, N135, rfl⟩
theorem ex_one {P : Prop} {r ex : Int32} (h : (ex = 1 ∧ P) ∨ (ex = 0 ∧ ¬ P)) (hr : (r = 1 ∧ P) ∨ (r = 0 ∧ ¬ P)) : r = ex := by
  rcases h with ⟨rfl, h⟩ | ⟨rfl, h⟩ <;> rcases hr with ⟨rfl, q⟩ | ⟨rfl, q⟩ <;> first | rfl | exact absurd h q | exact absurd q h
theorem pd_5 : parseMethodDescriptor "(I)Ljava/lang/String;" = some ⟨[.int], some (.object "java/lang/String")⟩ := by decide +kernel
theorem pd_6 : parseMethodDescriptor "(I)Z" = some ⟨[.int], some .boolean⟩ := by decide +kernel
theorem pd_7 : parseMethodDescriptor "(Ljava/lang/String;Ljava/lang/String;I)V" = some ⟨[(.object "java/lang/String"), (.object "java/lang/String"), .int], none⟩ := by decide +kernel
def QL (Z : State) (t1 t2 c1 c2 : Int32) (od : Int64) (sel : Int32) (h0 : Heap) (n0 : Nat) (v : Option Value) (h : Heap) (L : List Loc) : Prop := v = some (.int 1) ∧ Fr n0 L
set_option maxRecDepth 65536 in
set_option maxHeartbeats 40000000 in
theorem rmL (l : Launch) (Z : State) (a0 : Array Value) (hw : ∀ d ∈ tables_1, d.before a0 Z = true) (ws : List Jvm.Cond) (t1 t2 c1 c2 : Int32) (od : Int64) (sel : Int32) (h0 : Heap) (n0 : Nat) (X00 : Old Z n0 h0) (hEL : EW Z a0 consts_1) (wS : ∀ a ∈ Bundle.stringAtoms, a.before a0 Z = true) (G1 : Int32) (S1 : Sta Z Z.heap "java/lang/String" "COMPACT_STRINGS" "Z" (.int G1)) (P1 : ¬ G1 = 0) :
    MetFree l x (head1 (Jvm.Cond.code x code maxLocals ret :: ws) room_1) (fun aa U => aa = #[(.int t1), (.int t2), (.int c1), (.int c2), (.long od), (.int sel)] ∧ Z.Warmed39 U.vm ∧ U.heap = h0 ∧ CHv Z consts_1 U.vm h0) (fun _ _ _ _ _ => True) (fun _ U o U' => ∃ v L, o = .returned v ∧ QL Z t1 t2 c1 c2 od sel h0 n0 v U'.heap L ∧ CHr Z consts_1 U.vm U.heap U'.vm U'.heap ∧ ReturnedEndW U o U' L room_1.cells room_1.slots) := by
  refine MetFree.of_bodySF (plainFor_of_name pn_1) hisR ?_
  intro p e s m args below meth c s₁ Bd hml0 hP hK
  obtain ⟨rfl, hZ, hh, H0⟩ := hP
  have hx := Bd.exec
  have hby := Bd.bytes
  have hml : c.maxLocals = 22 := hml0
  have hown : s.vm.findClass "com/example/data_roles/dataroles/policy/MaskEqualsPinLaw" = some m.cls := findClass_of_methodNamed Bd.named
  have hnm := (name_of_methodNamed Bd.named Bd.method).1
  have X0 : Stand p l e room_1 (s.setVm s.vm) m #[(.int t1), (.int t2), (.int c1), (.int c2), (.long od), (.int sel)] below meth c s₁ [] 0 0 := Stand.of_body Bd
  have e0 : s₁.heap = h0 := by rw [← hh, Bd.state]; rfl
  have N0 := Fr.nil n0
  have K0 := Keep.refl h0 []
  have hS0 : s.Since s.vm h0.size := (State.WarmedH.refl s).since _
  have hk0 := Nat.le_refl h0.size
  have C0 : CHr Z consts_1 s.vm h0 s.vm h0 := CHr.refl H0
  have ef : entryFrame m #[(.int t1), (.int t2), (.int c1), (.int c2), (.long od), (.int sel)] maxLocals = mkF m 0 #[.val (.int t1), .val (.int t2), .val (.int c1), .val (.int c2), .val (.long od), .second, .val (.int sel), .unset, .unset, .unset, .unset, .unset, .unset, .unset, .unset, .unset, .unset, .unset, .unset, .unset, .unset, .unset] [] := (by first | (simp [entryFrame, mkF, argsToLocals, Value.category, maxLocals]; done) | rfl : entryFrame m #[(.int t1), (.int t2), (.int c1), (.int c2), (.long od), (.int sel)] maxLocals = mkF m 0 #[.val (.int t1), .val (.int t2), .val (.int c1), .val (.int c2), .val (.long od), .second, .val (.int sel), .unset, .unset, .unset, .unset, .unset, .unset, .unset, .unset, .unset, .unset, .unset, .unset, .unset, .unset, .unset] [])
  rw [ef]
  refine fin_of fun Kx hF => ?_
  show Go p.tables e below Kx s₁ (mkF m 0 #[.val (.int t1), .val (.int t2), .val (.int c1), .val (.int c2), .val (.long od), .second, .val (.int sel), .unset, .unset, .unset, .unset, .unset, .unset, .unset, .unset, .unset, .unset, .unset, .unset, .unset, .unset, .unset] [])
  refine s_iload (pc' := 2) X0.here hx (hb hby at_0) rfl rfl ?_
  refine s_iconst (pc' := 3) (v := (1 : Int32)) X0.here hx (hb hby at_2) rfl rfl ?_
  refine s_iand (pc' := 4) X0.here hx (hb hby at_3) rfl rfl ?_
  suffices J143 : Go p.tables e below Kx s₁ (mkF m 12 #[.val (.int t1), .val (.int t2), .val (.int c1), .val (.int c2), .val (.long od), .second, .val (.int sel), .unset, .unset, .unset, .unset, .unset, .unset, .unset, .unset, .unset, .unset, .unset, .unset, .unset, .unset, .unset] [(.int (if (sel &&& (1 : Int32)) = (0 : Int32) then t2 else t1))]) by
    by_cases hc142 : (sel &&& (1 : Int32)) = (0 : Int32)
    · skip
      simp only [if_pos hc142] at J143
      refine s_ifY (pc' := 11) X0.here hx (hb hby at_4) ((if0 _ _).trans (teq hc142).1) (by decide) (by decide) ?_
      refine s_iloadN (pc' := 12) X0.here hx (hb hby at_11) rfl rfl ?_
      exact J143
    · skip
      simp only [if_neg hc142] at J143
      refine s_ifN (pc' := 7) X0.here hx (hb hby at_4) rfl ((if0 _ _).trans (feq hc142).1) ?_
      refine s_iloadN (pc' := 8) X0.here hx (hb hby at_7) rfl rfl ?_
      refine s_goto (pc' := 12) X0.here hx (hb hby at_8) (by decide) (by decide) ?_
      exact J143
  generalize (if (sel &&& (1 : Int32)) = (0 : Int32) then t2 else t1) = u2
  show Go p.tables e below Kx s₁ (mkF m 12 #[.val (.int t1), .val (.int t2), .val (.int c1), .val (.int c2), .val (.long od), .second, .val (.int sel), .unset, .unset, .unset, .unset, .unset, .unset, .unset, .unset, .unset, .unset, .unset, .unset, .unset, .unset, .unset] [(.int u2)])
  refine s_istore (pc' := 14) (Ls' := #[.val (.int t1), .val (.int t2), .val (.int c1), .val (.int c2), .val (.long od), .second, .val (.int sel), .val (.int u2), .unset, .unset, .unset, .unset, .unset, .unset, .unset, .unset, .unset, .unset, .unset, .unset, .unset, .unset]) X0.here hx (hb hby at_12) rfl  rfl ?_
  refine s_iload (pc' := 16) X0.here hx (hb hby at_14) rfl rfl ?_
  refine s_iconst (pc' := 17) (v := (2 : Int32)) X0.here hx (hb hby at_16) rfl rfl ?_
  refine s_iand (pc' := 18) X0.here hx (hb hby at_17) rfl rfl ?_
  suffices J145 : Go p.tables e below Kx s₁ (mkF m 26 #[.val (.int t1), .val (.int t2), .val (.int c1), .val (.int c2), .val (.long od), .second, .val (.int sel), .val (.int u2), .unset, .unset, .unset, .unset, .unset, .unset, .unset, .unset, .unset, .unset, .unset, .unset, .unset, .unset] [(.int (if (sel &&& (2 : Int32)) = (0 : Int32) then c2 else c1))]) by
    by_cases hc144 : (sel &&& (2 : Int32)) = (0 : Int32)
    · skip
      simp only [if_pos hc144] at J145
      refine s_ifY (pc' := 25) X0.here hx (hb hby at_18) ((if0 _ _).trans (teq hc144).1) (by decide) (by decide) ?_
      refine s_iloadN (pc' := 26) X0.here hx (hb hby at_25) rfl rfl ?_
      exact J145
    · skip
      simp only [if_neg hc144] at J145
      refine s_ifN (pc' := 21) X0.here hx (hb hby at_18) rfl ((if0 _ _).trans (feq hc144).1) ?_
      refine s_iloadN (pc' := 22) X0.here hx (hb hby at_21) rfl rfl ?_
      refine s_goto (pc' := 26) X0.here hx (hb hby at_22) (by decide) (by decide) ?_
      exact J145
  generalize (if (sel &&& (2 : Int32)) = (0 : Int32) then c2 else c1) = v2
  show Go p.tables e below Kx s₁ (mkF m 26 #[.val (.int t1), .val (.int t2), .val (.int c1), .val (.int c2), .val (.long od), .second, .val (.int sel), .val (.int u2), .unset, .unset, .unset, .unset, .unset, .unset, .unset, .unset, .unset, .unset, .unset, .unset, .unset, .unset] [(.int v2)])
  refine s_istore (pc' := 28) (Ls' := #[.val (.int t1), .val (.int t2), .val (.int c1), .val (.int c2), .val (.long od), .second, .val (.int sel), .val (.int u2), .val (.int v2), .unset, .unset, .unset, .unset, .unset, .unset, .unset, .unset, .unset, .unset, .unset, .unset, .unset]) X0.here hx (hb hby at_26) rfl  rfl ?_
  refine s_lload (pc' := 30) X0.here hx (hb hby at_28) rfl rfl ?_
  refine s_l2i (pc' := 31) X0.here hx (hb hby at_30) rfl rfl ?_
  generalize (od.toInt32) = o1
  show Go p.tables e below Kx s₁ (mkF m 31 #[.val (.int t1), .val (.int t2), .val (.int c1), .val (.int c2), .val (.long od), .second, .val (.int sel), .val (.int u2), .val (.int v2), .unset, .unset, .unset, .unset, .unset, .unset, .unset, .unset, .unset, .unset, .unset, .unset, .unset] [(.int o1)])
  refine s_istore (pc' := 33) (Ls' := #[.val (.int t1), .val (.int t2), .val (.int c1), .val (.int c2), .val (.long od), .second, .val (.int sel), .val (.int u2), .val (.int v2), .val (.int o1), .unset, .unset, .unset, .unset, .unset, .unset, .unset, .unset, .unset, .unset, .unset, .unset]) X0.here hx (hb hby at_31) rfl  rfl ?_
  refine s_iload (pc' := 35) X0.here hx (hb hby at_33) rfl rfl ?_
  refine s_iconst (pc' := 36) (v := (4 : Int32)) X0.here hx (hb hby at_35) rfl rfl ?_
  refine s_iand (pc' := 37) X0.here hx (hb hby at_36) rfl rfl ?_
  suffices J147 : Go p.tables e below Kx s₁ (mkF m 51 #[.val (.int t1), .val (.int t2), .val (.int c1), .val (.int c2), .val (.long od), .second, .val (.int sel), .val (.int u2), .val (.int v2), .val (.int o1), .unset, .unset, .unset, .unset, .unset, .unset, .unset, .unset, .unset, .unset, .unset, .unset] [(.int (if (sel &&& (4 : Int32)) = (0 : Int32) then (((od.toUInt64 >>> ((32 : Int32) &&& 0x3f).toInt64.toUInt64).toInt64).toInt32) else o1))]) by
    by_cases hc146 : (sel &&& (4 : Int32)) = (0 : Int32)
    · skip
      simp only [if_pos hc146] at J147
      refine s_ifY (pc' := 45) X0.here hx (hb hby at_37) ((if0 _ _).trans (teq hc146).1) (by decide) (by decide) ?_
      refine s_lload (pc' := 47) X0.here hx (hb hby at_45) rfl rfl ?_
      refine s_bipush (pc' := 49) (v := (32 : Int32)) X0.here hx (hb hby at_47) rfl rfl ?_
      refine s_lushr (pc' := 50) X0.here hx (hb hby at_49) rfl rfl ?_
      refine s_l2i (pc' := 51) X0.here hx (hb hby at_50) rfl rfl ?_
      exact J147
    · skip
      simp only [if_neg hc146] at J147
      refine s_ifN (pc' := 40) X0.here hx (hb hby at_37) rfl ((if0 _ _).trans (feq hc146).1) ?_
      refine s_iload (pc' := 42) X0.here hx (hb hby at_40) rfl rfl ?_
      refine s_goto (pc' := 51) X0.here hx (hb hby at_42) (by decide) (by decide) ?_
      exact J147
  generalize (if (sel &&& (4 : Int32)) = (0 : Int32) then (((od.toUInt64 >>> ((32 : Int32) &&& 0x3f).toInt64.toUInt64).toInt64).toInt32) else o1) = o2
  show Go p.tables e below Kx s₁ (mkF m 51 #[.val (.int t1), .val (.int t2), .val (.int c1), .val (.int c2), .val (.long od), .second, .val (.int sel), .val (.int u2), .val (.int v2), .val (.int o1), .unset, .unset, .unset, .unset, .unset, .unset, .unset, .unset, .unset, .unset, .unset, .unset] [(.int o2)])
  refine s_istore (pc' := 53) (Ls' := #[.val (.int t1), .val (.int t2), .val (.int c1), .val (.int c2), .val (.long od), .second, .val (.int sel), .val (.int u2), .val (.int v2), .val (.int o1), .val (.int o2), .unset, .unset, .unset, .unset, .unset, .unset, .unset, .unset, .unset, .unset, .unset]) X0.here hx (hb hby at_51) rfl  rfl ?_
  refine s_iload (pc' := 55) X0.here hx (hb hby at_53) rfl rfl ?_
  refine s_iconst (pc' := 56) (v := (3 : Int32)) X0.here hx (hb hby at_55) rfl rfl ?_
  refine s_iushr (pc' := 57) X0.here hx (hb hby at_56) rfl rfl ?_
  refine s_iconst (pc' := 58) (v := (3 : Int32)) X0.here hx (hb hby at_57) rfl rfl ?_
  refine s_iand (pc' := 59) X0.here hx (hb hby at_58) rfl rfl ?_
  generalize (((sel.toUInt32 >>> ((3 : Int32) &&& 31).toUInt32).toInt32) &&& (3 : Int32)) = kd
  show Go p.tables e below Kx s₁ (mkF m 59 #[.val (.int t1), .val (.int t2), .val (.int c1), .val (.int c2), .val (.long od), .second, .val (.int sel), .val (.int u2), .val (.int v2), .val (.int o1), .val (.int o2), .unset, .unset, .unset, .unset, .unset, .unset, .unset, .unset, .unset, .unset, .unset] [(.int kd)])
  refine s_istore (pc' := 61) (Ls' := #[.val (.int t1), .val (.int t2), .val (.int c1), .val (.int c2), .val (.long od), .second, .val (.int sel), .val (.int u2), .val (.int v2), .val (.int o1), .val (.int o2), .val (.int kd), .unset, .unset, .unset, .unset, .unset, .unset, .unset, .unset, .unset, .unset]) X0.here hx (hb hby at_59) rfl  rfl ?_
  refine s_iloadN (pc' := 62) X0.here hx (hb hby at_61) rfl rfl ?_
  obtain ⟨_, _, ⟨T148, L148, k148, n148⟩, -, X148, hS'148, hg'148, ⟨Lc148, hQ148, l148, y148, z148, Cr148⟩, st148⟩ := callSS X0 hx (y := (⟨"com/example/data_roles/dataroles/policy/MaskEqualsPinLaw", "mk", "(I)Ljava/lang/String;"⟩ : MethodName)) hown (mvT hZ (hw _ (List.mem_of_getElem? (i := 0) rfl))) (mvT hZ (hw _ (List.mem_of_getElem? (i := 1) rfl))) (mvT hZ (hw _ (List.mem_of_getElem? (i := 2) rfl))) (mvT hZ (hw _ (List.mem_of_getElem? (i := 3) rfl))) (by decide) (backOfSH (W := 0) (rmM l Z a0 hw [] t1 h0 n0 X00 hEL wS G1 S1 P1) hZ (hw _ (List.mem_of_getElem? (i := 3) rfl)) (hw _ (List.mem_of_getElem? (i := 2) rfl)) (by decide) (by decide) hEL H0) (g := (mkF m 62 #[.val (.int t1), .val (.int t2), .val (.int c1), .val (.int c2), .val (.long od), .second, .val (.int sel), .val (.int u2), .val (.int v2), .val (.int o1), .val (.int o2), .val (.int kd), .unset, .unset, .unset, .unset, .unset, .unset, .unset, .unset, .unset, .unset] [(.int t1)])) rfl (by rw [hml]; rfl) (argsL := [(.int t1)]) (rest := []) (lenOf pd_5 rfl) rfl (by show 2 * 0 + _ ≤ _; exact Nat.le_of_eq rfl) (hb hby at_62) (fun _ _ => ⟨rfl, e0, (by decide : 0 + 6 ≤ _), (by decide : 0 + 12 ≤ _)⟩)
  dsimp only [Pt.U, Pt.locs, Pt.cells, Pt.slots] at X148 l148 y148 z148 st148 hQ148 hS'148 hg'148 Cr148
  subst l148 y148 z148
  obtain ⟨x148, rfl, Nq148, Kq148, Sq148⟩ := hQ148
  have N148 := Fr.app N0 Nq148
  have X148 : Stand p l e _ (s.setVm T148.vm) m _ below meth c T148 _ _ _ := X148
  obtain ⟨hZ148, hown148⟩ := wideOn hZ hS'148 hown
  have hS148 : s.Since T148.vm T148.heap.size := hS0.trans hS'148 (Nat.le_trans hk0 (by rw [e0] at hg'148; exact hg'148))
  have hk148 := Nat.le_refl T148.heap.size
  have C148 := C0.trans Cr148
  have K148 : Keep h0 T148.heap [] := K0.trans Kq148 all0
  have O148 : Old Z n0 T148.heap := X00.keep Kq148 all0
  refine Go.tr st148 ?_
  show Go p.tables e below Kx T148 (mkF m 65 #[.val (.int t1), .val (.int t2), .val (.int c1), .val (.int c2), .val (.long od), .second, .val (.int sel), .val (.int u2), .val (.int v2), .val (.int o1), .val (.int o2), .val (.int kd), .unset, .unset, .unset, .unset, .unset, .unset, .unset, .unset, .unset, .unset] [(.ref x148)])
  refine s_astore (pc' := 67) (Ls' := #[.val (.int t1), .val (.int t2), .val (.int c1), .val (.int c2), .val (.long od), .second, .val (.int sel), .val (.int u2), .val (.int v2), .val (.int o1), .val (.int o2), .val (.int kd), .val (.ref x148), .unset, .unset, .unset, .unset, .unset, .unset, .unset, .unset, .unset]) X148.here hx (hb hby at_65) rfl rfl rfl ?_
  refine s_iload (pc' := 69) X148.here hx (hb hby at_67) rfl rfl ?_
  obtain ⟨_, _, ⟨T149, L149, k149, n149⟩, -, X149, hS'149, hg'149, ⟨Lc149, hQ149, l149, y149, z149, Cr149⟩, st149⟩ := callSS X148 hx (y := (⟨"com/example/data_roles/dataroles/policy/MaskEqualsPinLaw", "mk", "(I)Ljava/lang/String;"⟩ : MethodName)) hown148 (mvT hZ148 (hw _ (List.mem_of_getElem? (i := 0) rfl))) (mvT hZ148 (hw _ (List.mem_of_getElem? (i := 1) rfl))) (mvT hZ148 (hw _ (List.mem_of_getElem? (i := 2) rfl))) (mvT hZ148 (hw _ (List.mem_of_getElem? (i := 3) rfl))) (by decide) (backOfSH (W := 0) (rmM l Z a0 hw [] u2 T148.heap n0 O148 hEL wS G1 S1 P1) hZ148 (hw _ (List.mem_of_getElem? (i := 3) rfl)) (hw _ (List.mem_of_getElem? (i := 2) rfl)) (by decide) (by decide) hEL Cr148.1) (g := (mkF m 69 #[.val (.int t1), .val (.int t2), .val (.int c1), .val (.int c2), .val (.long od), .second, .val (.int sel), .val (.int u2), .val (.int v2), .val (.int o1), .val (.int o2), .val (.int kd), .val (.ref x148), .unset, .unset, .unset, .unset, .unset, .unset, .unset, .unset, .unset] [(.int u2)])) rfl (by rw [hml]; rfl) (argsL := [(.int u2)]) (rest := []) (lenOf pd_5 rfl) rfl (by show 2 * 0 + _ ≤ _; exact Nat.le_of_eq rfl) (hb hby at_69) (fun _ _ => ⟨rfl, rfl, (by decide : 6 + 6 ≤ _), (by decide : 12 + 12 ≤ _)⟩)
  dsimp only [Pt.U, Pt.locs, Pt.cells, Pt.slots] at X149 l149 y149 z149 st149 hQ149 hS'149 hg'149 Cr149
  subst l149 y149 z149
  obtain ⟨x149, rfl, Nq149, Kq149, Sq149⟩ := hQ149
  have N149 := Fr.app N148 Nq149
  have X149 : Stand p l e _ (s.setVm T149.vm) m _ below meth c T149 _ _ _ := X149
  obtain ⟨hZ149, hown149⟩ := wideOn hZ148 hS'149 hown148
  have hS149 : s.Since T149.vm T149.heap.size := hS148.trans hS'149 (Nat.le_trans hk148 hg'149)
  have hk149 := Nat.le_refl T149.heap.size
  have C149 := C148.trans Cr149
  have K149 : Keep h0 T149.heap [] := K148.trans Kq149 all0
  have O149 : Old Z n0 T149.heap := O148.keep Kq149 all0
  refine Go.tr st149 ?_
  show Go p.tables e below Kx T149 (mkF m 72 #[.val (.int t1), .val (.int t2), .val (.int c1), .val (.int c2), .val (.long od), .second, .val (.int sel), .val (.int u2), .val (.int v2), .val (.int o1), .val (.int o2), .val (.int kd), .val (.ref x148), .unset, .unset, .unset, .unset, .unset, .unset, .unset, .unset, .unset] [(.ref x149)])
  refine s_astore (pc' := 74) (Ls' := #[.val (.int t1), .val (.int t2), .val (.int c1), .val (.int c2), .val (.long od), .second, .val (.int sel), .val (.int u2), .val (.int v2), .val (.int o1), .val (.int o2), .val (.int kd), .val (.ref x148), .val (.ref x149), .unset, .unset, .unset, .unset, .unset, .unset, .unset, .unset]) X149.here hx (hb hby at_72) rfl rfl rfl ?_
  refine s_iloadN (pc' := 75) X149.here hx (hb hby at_74) rfl rfl ?_
  obtain ⟨_, _, ⟨T150, L150, k150, n150⟩, -, X150, ⟨Lc150, hQ150, l150, y150, z150⟩, st150⟩ := Jvm.LawKit.callS X149 hx (y := (⟨"com/example/data_roles/dataroles/policy/MaskEqualsPinLaw", "isNull", "(I)Z"⟩ : MethodName)) hown149 (mvT hZ149 (hw _ (List.mem_of_getElem? (i := 29) rfl))) (mvT hZ149 (hw _ (List.mem_of_getElem? (i := 30) rfl))) (mvT hZ149 (hw _ (List.mem_of_getElem? (i := 2) rfl))) (mvT hZ149 (hw _ (List.mem_of_getElem? (i := 31) rfl))) (by decide) (backOf (W := 0) (rmU l Z a0 hw [] c1 T149.heap n0 O149 ) hZ149 (hw _ (List.mem_of_getElem? (i := 31) rfl)) (hw _ (List.mem_of_getElem? (i := 2) rfl)) (by decide) (by decide)) (g := (mkF m 75 #[.val (.int t1), .val (.int t2), .val (.int c1), .val (.int c2), .val (.long od), .second, .val (.int sel), .val (.int u2), .val (.int v2), .val (.int o1), .val (.int o2), .val (.int kd), .val (.ref x148), .val (.ref x149), .unset, .unset, .unset, .unset, .unset, .unset, .unset, .unset] [(.int c1)])) rfl (by rw [hml]; rfl) (argsL := [(.int c1)]) (rest := []) (lenOf pd_6 rfl) rfl (by show 2 * 0 + _ ≤ _; exact Nat.le_of_eq rfl) (hb hby at_75) (fun _ _ => ⟨rfl, rfl, (by decide : 12 + 0 ≤ _), (by decide : 24 + 0 ≤ _)⟩)
  dsimp only [Pt.U, Pt.locs, Pt.cells, Pt.slots] at X150 l150 y150 z150 st150 hQ150
  subst l150 y150 z150
  obtain ⟨⟨r150, rfl, hr150⟩, Nq150, hE150⟩ := hQ150
  rcases hr150 with ⟨rfl, hr150⟩ | ⟨rfl, hr150⟩
  · skip
    have N150 := Fr.app N149 Nq150
    refine Go.st st150 ?_
    show Go p.tables e below Kx T150 (mkF m 78 #[.val (.int t1), .val (.int t2), .val (.int c1), .val (.int c2), .val (.long od), .second, .val (.int sel), .val (.int u2), .val (.int v2), .val (.int o1), .val (.int o2), .val (.int kd), .val (.ref x148), .val (.ref x149), .unset, .unset, .unset, .unset, .unset, .unset, .unset, .unset] [(.int (0 : Int32))])
    refine s_ifY (pc' := 85) X150.here hx (hb hby at_78) ((if0 _ _).trans (teq (by decide)).1) (by decide) (by decide) ?_
    refine s_iloadN (pc' := 86) X150.here hx (hb hby at_85) rfl rfl ?_
    obtain ⟨_, _, ⟨T151, L151, k151, n151⟩, -, X151, hS'151, hg'151, ⟨Lc151, hQ151, l151, y151, z151, Cr151⟩, st151⟩ := callSS X150 hx (y := (⟨"com/example/data_roles/dataroles/policy/MaskEqualsPinLaw", "mk", "(I)Ljava/lang/String;"⟩ : MethodName)) hown149 (mvT hZ149 (hw _ (List.mem_of_getElem? (i := 0) rfl))) (mvT hZ149 (hw _ (List.mem_of_getElem? (i := 1) rfl))) (mvT hZ149 (hw _ (List.mem_of_getElem? (i := 2) rfl))) (mvT hZ149 (hw _ (List.mem_of_getElem? (i := 3) rfl))) (by decide) (backOfSH (W := 0) (rmM l Z a0 hw [] c1 T149.heap n0 O149 hEL wS G1 S1 P1) hZ149 (hw _ (List.mem_of_getElem? (i := 3) rfl)) (hw _ (List.mem_of_getElem? (i := 2) rfl)) (by decide) (by decide) hEL Cr149.1) (g := (mkF m 86 #[.val (.int t1), .val (.int t2), .val (.int c1), .val (.int c2), .val (.long od), .second, .val (.int sel), .val (.int u2), .val (.int v2), .val (.int o1), .val (.int o2), .val (.int kd), .val (.ref x148), .val (.ref x149), .unset, .unset, .unset, .unset, .unset, .unset, .unset, .unset] [(.int c1)])) rfl (by rw [hml]; rfl) (argsL := [(.int c1)]) (rest := []) (lenOf pd_5 rfl) rfl (by show 2 * 0 + _ ≤ _; exact Nat.le_of_eq rfl) (hb hby at_86) (fun _ _ => ⟨rfl, hE150, (by decide : 12 + 6 ≤ _), (by decide : 24 + 12 ≤ _)⟩)
    dsimp only [Pt.U, Pt.locs, Pt.cells, Pt.slots] at X151 l151 y151 z151 st151 hQ151 hS'151 hg'151 Cr151
    subst l151 y151 z151
    obtain ⟨x151, rfl, Nq151, Kq151, Sq151⟩ := hQ151
    have N151 := Fr.app N150 Nq151
    have X151 : Stand p l e _ (s.setVm T151.vm) m _ below meth c T151 _ _ _ := X151
    obtain ⟨hZ151, hown151⟩ := wideOn hZ149 hS'151 hown149
    have hS151 : s.Since T151.vm T151.heap.size := hS149.trans hS'151 (Nat.le_trans hk149 (by rw [hE150] at hg'151; exact hg'151))
    have hk151 := Nat.le_refl T151.heap.size
    have C151 := C149.trans Cr151
    have K151 : Keep h0 T151.heap [] := K149.trans Kq151 all0
    have O151 : Old Z n0 T151.heap := O149.keep Kq151 all0
    refine Go.tr st151 ?_
    show Go p.tables e below Kx T151 (mkF m 89 #[.val (.int t1), .val (.int t2), .val (.int c1), .val (.int c2), .val (.long od), .second, .val (.int sel), .val (.int u2), .val (.int v2), .val (.int o1), .val (.int o2), .val (.int kd), .val (.ref x148), .val (.ref x149), .unset, .unset, .unset, .unset, .unset, .unset, .unset, .unset] [(.ref x151)])
    refine s_astore (pc' := 91) (Ls' := #[.val (.int t1), .val (.int t2), .val (.int c1), .val (.int c2), .val (.long od), .second, .val (.int sel), .val (.int u2), .val (.int v2), .val (.int o1), .val (.int o2), .val (.int kd), .val (.ref x148), .val (.ref x149), .val (.ref x151), .unset, .unset, .unset, .unset, .unset, .unset, .unset]) X151.here hx (hb hby at_89) rfl rfl rfl ?_
    refine s_iload (pc' := 93) X151.here hx (hb hby at_91) rfl rfl ?_
    obtain ⟨_, _, ⟨T152, L152, k152, n152⟩, -, X152, ⟨Lc152, hQ152, l152, y152, z152⟩, st152⟩ := Jvm.LawKit.callS X151 hx (y := (⟨"com/example/data_roles/dataroles/policy/MaskEqualsPinLaw", "isNull", "(I)Z"⟩ : MethodName)) hown151 (mvT hZ151 (hw _ (List.mem_of_getElem? (i := 29) rfl))) (mvT hZ151 (hw _ (List.mem_of_getElem? (i := 30) rfl))) (mvT hZ151 (hw _ (List.mem_of_getElem? (i := 2) rfl))) (mvT hZ151 (hw _ (List.mem_of_getElem? (i := 31) rfl))) (by decide) (backOf (W := 0) (rmU l Z a0 hw [] v2 T151.heap n0 O151 ) hZ151 (hw _ (List.mem_of_getElem? (i := 31) rfl)) (hw _ (List.mem_of_getElem? (i := 2) rfl)) (by decide) (by decide)) (g := (mkF m 93 #[.val (.int t1), .val (.int t2), .val (.int c1), .val (.int c2), .val (.long od), .second, .val (.int sel), .val (.int u2), .val (.int v2), .val (.int o1), .val (.int o2), .val (.int kd), .val (.ref x148), .val (.ref x149), .val (.ref x151), .unset, .unset, .unset, .unset, .unset, .unset, .unset] [(.int v2)])) rfl (by rw [hml]; rfl) (argsL := [(.int v2)]) (rest := []) (lenOf pd_6 rfl) rfl (by show 2 * 0 + _ ≤ _; exact Nat.le_of_eq rfl) (hb hby at_93) (fun _ _ => ⟨rfl, rfl, (by decide : 18 + 0 ≤ _), (by decide : 36 + 0 ≤ _)⟩)
    dsimp only [Pt.U, Pt.locs, Pt.cells, Pt.slots] at X152 l152 y152 z152 st152 hQ152
    subst l152 y152 z152
    obtain ⟨⟨r152, rfl, hr152⟩, Nq152, hE152⟩ := hQ152
    rcases hr152 with ⟨rfl, hr152⟩ | ⟨rfl, hr152⟩
    · skip
      have N152 := Fr.app N151 Nq152
      refine Go.st st152 ?_
      show Go p.tables e below Kx T152 (mkF m 96 #[.val (.int t1), .val (.int t2), .val (.int c1), .val (.int c2), .val (.long od), .second, .val (.int sel), .val (.int u2), .val (.int v2), .val (.int o1), .val (.int o2), .val (.int kd), .val (.ref x148), .val (.ref x149), .val (.ref x151), .unset, .unset, .unset, .unset, .unset, .unset, .unset] [(.int (0 : Int32))])
      refine s_ifY (pc' := 103) X152.here hx (hb hby at_96) ((if0 _ _).trans (teq (by decide)).1) (by decide) (by decide) ?_
      refine s_iload (pc' := 105) X152.here hx (hb hby at_103) rfl rfl ?_
      obtain ⟨_, _, ⟨T153, L153, k153, n153⟩, -, X153, hS'153, hg'153, ⟨Lc153, hQ153, l153, y153, z153, Cr153⟩, st153⟩ := callSS X152 hx (y := (⟨"com/example/data_roles/dataroles/policy/MaskEqualsPinLaw", "mk", "(I)Ljava/lang/String;"⟩ : MethodName)) hown151 (mvT hZ151 (hw _ (List.mem_of_getElem? (i := 0) rfl))) (mvT hZ151 (hw _ (List.mem_of_getElem? (i := 1) rfl))) (mvT hZ151 (hw _ (List.mem_of_getElem? (i := 2) rfl))) (mvT hZ151 (hw _ (List.mem_of_getElem? (i := 3) rfl))) (by decide) (backOfSH (W := 0) (rmM l Z a0 hw [] v2 T151.heap n0 O151 hEL wS G1 S1 P1) hZ151 (hw _ (List.mem_of_getElem? (i := 3) rfl)) (hw _ (List.mem_of_getElem? (i := 2) rfl)) (by decide) (by decide) hEL Cr151.1) (g := (mkF m 105 #[.val (.int t1), .val (.int t2), .val (.int c1), .val (.int c2), .val (.long od), .second, .val (.int sel), .val (.int u2), .val (.int v2), .val (.int o1), .val (.int o2), .val (.int kd), .val (.ref x148), .val (.ref x149), .val (.ref x151), .unset, .unset, .unset, .unset, .unset, .unset, .unset] [(.int v2)])) rfl (by rw [hml]; rfl) (argsL := [(.int v2)]) (rest := []) (lenOf pd_5 rfl) rfl (by show 2 * 0 + _ ≤ _; exact Nat.le_of_eq rfl) (hb hby at_105) (fun _ _ => ⟨rfl, hE152, (by decide : 18 + 6 ≤ _), (by decide : 36 + 12 ≤ _)⟩)
      dsimp only [Pt.U, Pt.locs, Pt.cells, Pt.slots] at X153 l153 y153 z153 st153 hQ153 hS'153 hg'153 Cr153
      subst l153 y153 z153
      obtain ⟨x153, rfl, Nq153, Kq153, Sq153⟩ := hQ153
      have N153 := Fr.app N152 Nq153
      have X153 : Stand p l e _ (s.setVm T153.vm) m _ below meth c T153 _ _ _ := X153
      obtain ⟨hZ153, hown153⟩ := wideOn hZ151 hS'153 hown151
      have hS153 : s.Since T153.vm T153.heap.size := hS151.trans hS'153 (Nat.le_trans hk151 (by rw [hE152] at hg'153; exact hg'153))
      have hk153 := Nat.le_refl T153.heap.size
      have C153 := C151.trans Cr153
      have K153 : Keep h0 T153.heap [] := K151.trans Kq153 all0
      have O153 : Old Z n0 T153.heap := O151.keep Kq153 all0
      refine Go.tr st153 ?_
      show Go p.tables e below Kx T153 (mkF m 108 #[.val (.int t1), .val (.int t2), .val (.int c1), .val (.int c2), .val (.long od), .second, .val (.int sel), .val (.int u2), .val (.int v2), .val (.int o1), .val (.int o2), .val (.int kd), .val (.ref x148), .val (.ref x149), .val (.ref x151), .unset, .unset, .unset, .unset, .unset, .unset, .unset] [(.ref x153)])
      refine s_astore (pc' := 110) (Ls' := #[.val (.int t1), .val (.int t2), .val (.int c1), .val (.int c2), .val (.long od), .second, .val (.int sel), .val (.int u2), .val (.int v2), .val (.int o1), .val (.int o2), .val (.int kd), .val (.ref x148), .val (.ref x149), .val (.ref x151), .val (.ref x153), .unset, .unset, .unset, .unset, .unset, .unset]) X153.here hx (hb hby at_108) rfl rfl rfl ?_
      obtain ⟨T154, h154, X154, e154, E154, A154, D154, -, st154⟩ := newO X153 hx hZ153 hown153 (hw _ (List.mem_of_getElem? (i := 32) rfl)) (hw _ (List.mem_of_getElem? (i := 33) rfl)) (hw _ (List.mem_of_getElem? (i := 34) rfl)) rfl (g := (mkF m 110 #[.val (.int t1), .val (.int t2), .val (.int c1), .val (.int c2), .val (.long od), .second, .val (.int sel), .val (.int u2), .val (.int v2), .val (.int o1), .val (.int o2), .val (.int kd), .val (.ref x148), .val (.ref x149), .val (.ref x151), .val (.ref x153), .unset, .unset, .unset, .unset, .unset, .unset] [])) rfl (hb hby at_110) (by decide) (by decide)
      obtain ⟨b154, g154⟩ : ∃ z, z = T153.heap.size := ⟨_, rfl⟩
      rw [← g154] at A154 D154 st154
      have sz154 : h0.size ≤ b154 := Nat.le_trans K153.1 (Nat.le_of_eq g154.symm)
      have ge154 : n0 ≤ b154 := Nat.le_trans (O153.1 ▸ O153.2.1) (Nat.le_of_eq g154.symm)
      have sn154 : Safe Z consts_1 T153.vm T153.heap b154 := Safe.new (Nat.le_of_eq g154.symm)
      have K154 : Keep h0 h154 [] := K153.ext E154
      have O154 : Old Z n0 h154 := O153.ext E154
      have sf155 : Safe Z consts_1 T153.vm h154 b154 := (Safe.ext E154 Cr153.1 sn154)
      have H154 : CHv Z consts_1 T153.vm h154 := Cr153.1.ext E154
      have C154 : CHr Z consts_1 s.vm h0 T153.vm h154 := C153.trans (CHr.ext E154 Cr153.1)
      have hk154 := Nat.le_trans hk153 E154.1
      have F154_text : Fld Z h154 b154 "com/example/data_roles/dataroles/policy/Mask" "text" "Ljava/lang/String;" .null := D154 (Or.inr (hw _ (List.mem_of_getElem? (i := 40) rfl))) (ty := (.object "java/lang/String")) (by decide)
      have F154_condition : Fld Z h154 b154 "com/example/data_roles/dataroles/policy/Mask" "condition" "Ljava/lang/String;" .null := D154 (Or.inr (hw _ (List.mem_of_getElem? (i := 42) rfl))) (ty := (.object "java/lang/String")) (by decide)
      have F154_order : Fld Z h154 b154 "com/example/data_roles/dataroles/policy/Mask" "order" "I" (.int (0 : Int32)) := D154 (Or.inr (hw _ (List.mem_of_getElem? (i := 44) rfl))) (ty := .int) (by decide)
      refine Go.st st154 ?_
      show Go p.tables e below Kx T154 (mkF m 113 #[.val (.int t1), .val (.int t2), .val (.int c1), .val (.int c2), .val (.long od), .second, .val (.int sel), .val (.int u2), .val (.int v2), .val (.int o1), .val (.int o2), .val (.int kd), .val (.ref x148), .val (.ref x149), .val (.ref x151), .val (.ref x153), .unset, .unset, .unset, .unset, .unset, .unset] [(.ref b154)])
      refine s_dup (pc' := 114) X154.here hx (hb hby at_113) rfl rfl ?_
      refine s_aload (pc' := 116) X154.here hx (hb hby at_114) rfl rfl rfl ?_
      refine s_aload (pc' := 118) X154.here hx (hb hby at_116) rfl rfl rfl ?_
      refine s_iload (pc' := 120) X154.here hx (hb hby at_118) rfl rfl ?_
      obtain ⟨_, _, ⟨T156, L156, k156, n156⟩, -, X156, ⟨Lc156, hQ156, l156, y156, z156⟩, st156⟩ := X154.specialBack hx (y := (⟨"com/example/data_roles/dataroles/policy/Mask", "<init>", "(Ljava/lang/String;Ljava/lang/String;I)V"⟩ : MethodName)) rfl hown153 (mvT hZ153 (hw _ (List.mem_of_getElem? (i := 35) rfl))) (mvT hZ153 (hw _ (List.mem_of_getElem? (i := 36) rfl))) (mvT hZ153 (hw _ (List.mem_of_getElem? (i := 37) rfl))) (by decide) (backOf (W := 1) (rmI l Z a0 hw [] b154 x148 (.ref x151) o1 h154 n0 O154 rfl ge154 A154 F154_text F154_condition F154_order) hZ153 (hw _ (List.mem_of_getElem? (i := 37) rfl)) (hw _ (List.mem_of_getElem? (i := 34) rfl)) (by decide) (by decide)) (g := (mkF m 120 #[.val (.int t1), .val (.int t2), .val (.int c1), .val (.int c2), .val (.long od), .second, .val (.int sel), .val (.int u2), .val (.int v2), .val (.int o1), .val (.int o2), .val (.int kd), .val (.ref x148), .val (.ref x149), .val (.ref x151), .val (.ref x153), .unset, .unset, .unset, .unset, .unset, .unset] [(.int o1), (.ref x151), (.ref x148), (.ref b154), (.ref b154)])) rfl (by rw [hml]; rfl) (Steps.refl _) (a := b154) (argsL := [(.ref x148), (.ref x151), (.int o1)]) (rest := [(.ref b154)]) (lenOf pd_7 rfl) rfl (by show 2 * 0 + _ ≤ _; exact Nat.le_of_eq rfl) (hb hby at_120) (fun _ _ => ⟨rfl, e154, (by decide : 25 + 0 ≤ _), (by decide : 51 + 0 ≤ _)⟩)
      dsimp only [Pt.U, Pt.locs, Pt.cells, Pt.slots] at X156 l156 y156 z156 st156 hQ156
      subst l156 y156 z156
      obtain ⟨rfl, Nq156, Kq156, q1_156, q2_156, q3_156, q4_156⟩ := hQ156
      have N156 := Fr.app N153 Nq156
      have K156 : Keep h0 T156.heap [] := K154.trans Kq156 (allS (P := fun zz => zz ∈ [] ∨ h0.size ≤ zz) (Or.inr sz154) all0)
      have O156 : Old Z n0 T156.heap := O154.keep Kq156 (allS ge154 all0)
      have sf157 : Safe Z consts_1 T153.vm T156.heap b154 := (Safe.keep Kq156 (sfS sf155 sf0) H154 sf155)
      have H156 : CHv Z consts_1 T153.vm T156.heap := H154.keep Kq156 (sfS sf155 sf0)
      have C156 : CHr Z consts_1 s.vm h0 T153.vm T156.heap := C154.trans (CHr.keep Kq156 (sfS sf155 sf0) H154)
      have hk156 := Nat.le_trans hk154 Kq156.1
      refine Go.tr st156 ?_
      show Go p.tables e below Kx T156 (mkF m 123 #[.val (.int t1), .val (.int t2), .val (.int c1), .val (.int c2), .val (.long od), .second, .val (.int sel), .val (.int u2), .val (.int v2), .val (.int o1), .val (.int o2), .val (.int kd), .val (.ref x148), .val (.ref x149), .val (.ref x151), .val (.ref x153), .unset, .unset, .unset, .unset, .unset, .unset] [(.ref b154)])
      refine s_astore (pc' := 125) (Ls' := #[.val (.int t1), .val (.int t2), .val (.int c1), .val (.int c2), .val (.long od), .second, .val (.int sel), .val (.int u2), .val (.int v2), .val (.int o1), .val (.int o2), .val (.int kd), .val (.ref x148), .val (.ref x149), .val (.ref x151), .val (.ref x153), .val (.ref b154), .unset, .unset, .unset, .unset, .unset]) X156.here hx (hb hby at_123) rfl rfl rfl ?_
      obtain ⟨T158, h158, X158, e158, E158, A158, D158, -, st158⟩ := newO X156 hx hZ153 hown153 (hw _ (List.mem_of_getElem? (i := 32) rfl)) (hw _ (List.mem_of_getElem? (i := 33) rfl)) (hw _ (List.mem_of_getElem? (i := 34) rfl)) rfl (g := (mkF m 125 #[.val (.int t1), .val (.int t2), .val (.int c1), .val (.int c2), .val (.long od), .second, .val (.int sel), .val (.int u2), .val (.int v2), .val (.int o1), .val (.int o2), .val (.int kd), .val (.ref x148), .val (.ref x149), .val (.ref x151), .val (.ref x153), .val (.ref b154), .unset, .unset, .unset, .unset, .unset] [])) rfl (hb hby at_125) (by decide) (by decide)
      obtain ⟨b158, g158⟩ : ∃ z, z = T156.heap.size := ⟨_, rfl⟩
      rw [← g158] at A158 D158 st158
      have sz158 : h0.size ≤ b158 := Nat.le_trans K156.1 (Nat.le_of_eq g158.symm)
      have ge158 : n0 ≤ b158 := Nat.le_trans (O156.1 ▸ O156.2.1) (Nat.le_of_eq g158.symm)
      have sn158 : Safe Z consts_1 T153.vm T156.heap b158 := Safe.new (Nat.le_of_eq g158.symm)
      have K158 : Keep h0 h158 [] := K156.ext E158
      have O158 : Old Z n0 h158 := O156.ext E158
      have sf159 : Safe Z consts_1 T153.vm h158 b154 := (Safe.ext E158 H156 sf157)
      have sf160 : Safe Z consts_1 T153.vm h158 b158 := (Safe.ext E158 H156 sn158)
      have H158 : CHv Z consts_1 T153.vm h158 := H156.ext E158
      have C158 : CHr Z consts_1 s.vm h0 T153.vm h158 := C156.trans (CHr.ext E158 H156)
      have hk158 := Nat.le_trans hk156 E158.1
      have F158_text : Fld Z h158 b158 "com/example/data_roles/dataroles/policy/Mask" "text" "Ljava/lang/String;" .null := D158 (Or.inr (hw _ (List.mem_of_getElem? (i := 40) rfl))) (ty := (.object "java/lang/String")) (by decide)
      have F158_condition : Fld Z h158 b158 "com/example/data_roles/dataroles/policy/Mask" "condition" "Ljava/lang/String;" .null := D158 (Or.inr (hw _ (List.mem_of_getElem? (i := 42) rfl))) (ty := (.object "java/lang/String")) (by decide)
      have F158_order : Fld Z h158 b158 "com/example/data_roles/dataroles/policy/Mask" "order" "I" (.int (0 : Int32)) := D158 (Or.inr (hw _ (List.mem_of_getElem? (i := 44) rfl))) (ty := .int) (by decide)
      refine Go.st st158 ?_
      show Go p.tables e below Kx T158 (mkF m 128 #[.val (.int t1), .val (.int t2), .val (.int c1), .val (.int c2), .val (.long od), .second, .val (.int sel), .val (.int u2), .val (.int v2), .val (.int o1), .val (.int o2), .val (.int kd), .val (.ref x148), .val (.ref x149), .val (.ref x151), .val (.ref x153), .val (.ref b154), .unset, .unset, .unset, .unset, .unset] [(.ref b158)])
      refine s_dup (pc' := 129) X158.here hx (hb hby at_128) rfl rfl ?_
      refine s_aload (pc' := 131) X158.here hx (hb hby at_129) rfl rfl rfl ?_
      refine s_aload (pc' := 133) X158.here hx (hb hby at_131) rfl rfl rfl ?_
      refine s_iload (pc' := 135) X158.here hx (hb hby at_133) rfl rfl ?_
      obtain ⟨_, _, ⟨T161, L161, k161, n161⟩, -, X161, ⟨Lc161, hQ161, l161, y161, z161⟩, st161⟩ := X158.specialBack hx (y := (⟨"com/example/data_roles/dataroles/policy/Mask", "<init>", "(Ljava/lang/String;Ljava/lang/String;I)V"⟩ : MethodName)) rfl hown153 (mvT hZ153 (hw _ (List.mem_of_getElem? (i := 35) rfl))) (mvT hZ153 (hw _ (List.mem_of_getElem? (i := 36) rfl))) (mvT hZ153 (hw _ (List.mem_of_getElem? (i := 37) rfl))) (by decide) (backOf (W := 1) (rmI l Z a0 hw [] b158 x149 (.ref x153) o2 h158 n0 O158 rfl ge158 A158 F158_text F158_condition F158_order) hZ153 (hw _ (List.mem_of_getElem? (i := 37) rfl)) (hw _ (List.mem_of_getElem? (i := 34) rfl)) (by decide) (by decide)) (g := (mkF m 135 #[.val (.int t1), .val (.int t2), .val (.int c1), .val (.int c2), .val (.long od), .second, .val (.int sel), .val (.int u2), .val (.int v2), .val (.int o1), .val (.int o2), .val (.int kd), .val (.ref x148), .val (.ref x149), .val (.ref x151), .val (.ref x153), .val (.ref b154), .unset, .unset, .unset, .unset, .unset] [(.int o2), (.ref x153), (.ref x149), (.ref b158), (.ref b158)])) rfl (by rw [hml]; rfl) (Steps.refl _) (a := b158) (argsL := [(.ref x149), (.ref x153), (.int o2)]) (rest := [(.ref b158)]) (lenOf pd_7 rfl) rfl (by show 2 * 0 + _ ≤ _; exact Nat.le_of_eq rfl) (hb hby at_135) (fun _ _ => ⟨rfl, e158, (by decide : 26 + 0 ≤ _), (by decide : 54 + 0 ≤ _)⟩)
      dsimp only [Pt.U, Pt.locs, Pt.cells, Pt.slots] at X161 l161 y161 z161 st161 hQ161
      subst l161 y161 z161
      obtain ⟨rfl, Nq161, Kq161, q1_161, q2_161, q3_161, q4_161⟩ := hQ161
      have N161 := Fr.app N156 Nq161
      have K161 : Keep h0 T161.heap [] := K158.trans Kq161 (allS (P := fun zz => zz ∈ [] ∨ h0.size ≤ zz) (Or.inr sz158) all0)
      have O161 : Old Z n0 T161.heap := O158.keep Kq161 (allS ge158 all0)
      have sf162 : Safe Z consts_1 T153.vm T161.heap b154 := (Safe.keep Kq161 (sfS sf160 sf0) H158 sf159)
      have sf163 : Safe Z consts_1 T153.vm T161.heap b158 := (Safe.keep Kq161 (sfS sf160 sf0) H158 sf160)
      have H161 : CHv Z consts_1 T153.vm T161.heap := H158.keep Kq161 (sfS sf160 sf0)
      have C161 : CHr Z consts_1 s.vm h0 T153.vm T161.heap := C158.trans (CHr.keep Kq161 (sfS sf160 sf0) H158)
      have hk161 := Nat.le_trans hk158 Kq161.1
      refine Go.tr st161 ?_
      show Go p.tables e below Kx T161 (mkF m 138 #[.val (.int t1), .val (.int t2), .val (.int c1), .val (.int c2), .val (.long od), .second, .val (.int sel), .val (.int u2), .val (.int v2), .val (.int o1), .val (.int o2), .val (.int kd), .val (.ref x148), .val (.ref x149), .val (.ref x151), .val (.ref x153), .val (.ref b154), .unset, .unset, .unset, .unset, .unset] [(.ref b158)])
      refine s_astore (pc' := 140) (Ls' := #[.val (.int t1), .val (.int t2), .val (.int c1), .val (.int c2), .val (.long od), .second, .val (.int sel), .val (.int u2), .val (.int v2), .val (.int o1), .val (.int o2), .val (.int kd), .val (.ref x148), .val (.ref x149), .val (.ref x151), .val (.ref x153), .val (.ref b154), .val (.ref b158), .unset, .unset, .unset, .unset]) X161.here hx (hb hby at_138) rfl rfl rfl ?_
      refine s_iloadN (pc' := 141) X161.here hx (hb hby at_140) rfl rfl ?_
      obtain ⟨_, _, ⟨T164, L164, k164, n164⟩, -, X164, ⟨Lc164, hQ164, l164, y164, z164⟩, st164⟩ := Jvm.LawKit.callS X161 hx (y := (⟨"com/example/data_roles/dataroles/policy/MaskEqualsPinLaw", "isNull", "(I)Z"⟩ : MethodName)) hown153 (mvT hZ153 (hw _ (List.mem_of_getElem? (i := 29) rfl))) (mvT hZ153 (hw _ (List.mem_of_getElem? (i := 30) rfl))) (mvT hZ153 (hw _ (List.mem_of_getElem? (i := 2) rfl))) (mvT hZ153 (hw _ (List.mem_of_getElem? (i := 31) rfl))) (by decide) (backOf (W := 0) (rmU l Z a0 hw [] c1 T161.heap n0 O161 ) hZ153 (hw _ (List.mem_of_getElem? (i := 31) rfl)) (hw _ (List.mem_of_getElem? (i := 2) rfl)) (by decide) (by decide)) (g := (mkF m 141 #[.val (.int t1), .val (.int t2), .val (.int c1), .val (.int c2), .val (.long od), .second, .val (.int sel), .val (.int u2), .val (.int v2), .val (.int o1), .val (.int o2), .val (.int kd), .val (.ref x148), .val (.ref x149), .val (.ref x151), .val (.ref x153), .val (.ref b154), .val (.ref b158), .unset, .unset, .unset, .unset] [(.int c1)])) rfl (by rw [hml]; rfl) (argsL := [(.int c1)]) (rest := []) (lenOf pd_6 rfl) rfl (by show 2 * 0 + _ ≤ _; exact Nat.le_of_eq rfl) (hb hby at_141) (fun _ _ => ⟨rfl, rfl, (by decide : 26 + 0 ≤ _), (by decide : 54 + 0 ≤ _)⟩)
      dsimp only [Pt.U, Pt.locs, Pt.cells, Pt.slots] at X164 l164 y164 z164 st164 hQ164
      subst l164 y164 z164
      obtain ⟨⟨r164, rfl, hr164⟩, Nq164, hE164⟩ := hQ164
      have hr164 : r164 = 0 := by
        rcases hr164 with ⟨q, z⟩ | ⟨q, z⟩
        · exact q
        · exact absurd hr150 z
      subst hr164
      have N164 := Fr.app N161 Nq164
      refine Go.st st164 ?_
      show Go p.tables e below Kx T164 (mkF m 144 #[.val (.int t1), .val (.int t2), .val (.int c1), .val (.int c2), .val (.long od), .second, .val (.int sel), .val (.int u2), .val (.int v2), .val (.int o1), .val (.int o2), .val (.int kd), .val (.ref x148), .val (.ref x149), .val (.ref x151), .val (.ref x153), .val (.ref b154), .val (.ref b158), .unset, .unset, .unset, .unset] [(.int (0 : Int32))])
      refine s_ifY (pc' := 151) X164.here hx (hb hby at_144) ((if0 _ _).trans (teq (by decide)).1) (by decide) (by decide) ?_
      refine s_iloadN (pc' := 152) X164.here hx (hb hby at_151) rfl rfl ?_
      obtain ⟨_, _, ⟨T165, L165, k165, n165⟩, -, X165, ⟨Lc165, hQ165, l165, y165, z165⟩, st165⟩ := Jvm.LawKit.callS X164 hx (y := (⟨"com/example/data_roles/dataroles/policy/MaskEqualsPinLaw", "keyOf", "(I)I"⟩ : MethodName)) hown153 (mvT hZ153 (hw _ (List.mem_of_getElem? (i := 45) rfl))) (mvT hZ153 (hw _ (List.mem_of_getElem? (i := 46) rfl))) (mvT hZ153 (hw _ (List.mem_of_getElem? (i := 2) rfl))) (mvT hZ153 (hw _ (List.mem_of_getElem? (i := 47) rfl))) (by decide) (backOf (W := 0) (rmK l Z a0 hw [] c1 T161.heap n0 O161 ) hZ153 (hw _ (List.mem_of_getElem? (i := 47) rfl)) (hw _ (List.mem_of_getElem? (i := 2) rfl)) (by decide) (by decide)) (g := (mkF m 152 #[.val (.int t1), .val (.int t2), .val (.int c1), .val (.int c2), .val (.long od), .second, .val (.int sel), .val (.int u2), .val (.int v2), .val (.int o1), .val (.int o2), .val (.int kd), .val (.ref x148), .val (.ref x149), .val (.ref x151), .val (.ref x153), .val (.ref b154), .val (.ref b158), .unset, .unset, .unset, .unset] [(.int c1)])) rfl (by rw [hml]; rfl) (argsL := [(.int c1)]) (rest := []) (lenOf pd_1 rfl) rfl (by show 2 * 0 + _ ≤ _; exact Nat.le_of_eq rfl) (hb hby at_152) (fun _ _ => ⟨rfl, hE164, (by decide : 26 + 0 ≤ _), (by decide : 54 + 0 ≤ _)⟩)
      dsimp only [Pt.U, Pt.locs, Pt.cells, Pt.slots] at X165 l165 y165 z165 st165 hQ165
      subst l165 y165 z165
      obtain ⟨rfl, Nq165, hE165⟩ := hQ165
      have N165 := Fr.app N164 Nq165
      refine Go.st st165 ?_
      show Go p.tables e below Kx T165 (mkF m 155 #[.val (.int t1), .val (.int t2), .val (.int c1), .val (.int c2), .val (.long od), .second, .val (.int sel), .val (.int u2), .val (.int v2), .val (.int o1), .val (.int o2), .val (.int kd), .val (.ref x148), .val (.ref x149), .val (.ref x151), .val (.ref x153), .val (.ref b154), .val (.ref b158), .unset, .unset, .unset, .unset] [(.int (keyf c1))])
      refine s_istore (pc' := 157) (Ls' := #[.val (.int t1), .val (.int t2), .val (.int c1), .val (.int c2), .val (.long od), .second, .val (.int sel), .val (.int u2), .val (.int v2), .val (.int o1), .val (.int o2), .val (.int kd), .val (.ref x148), .val (.ref x149), .val (.ref x151), .val (.ref x153), .val (.ref b154), .val (.ref b158), .val (.int (keyf c1)), .unset, .unset, .unset]) X165.here hx (hb hby at_155) rfl  rfl ?_
      refine s_iload (pc' := 159) X165.here hx (hb hby at_157) rfl rfl ?_
      obtain ⟨_, _, ⟨T166, L166, k166, n166⟩, -, X166, ⟨Lc166, hQ166, l166, y166, z166⟩, st166⟩ := Jvm.LawKit.callS X165 hx (y := (⟨"com/example/data_roles/dataroles/policy/MaskEqualsPinLaw", "isNull", "(I)Z"⟩ : MethodName)) hown153 (mvT hZ153 (hw _ (List.mem_of_getElem? (i := 29) rfl))) (mvT hZ153 (hw _ (List.mem_of_getElem? (i := 30) rfl))) (mvT hZ153 (hw _ (List.mem_of_getElem? (i := 2) rfl))) (mvT hZ153 (hw _ (List.mem_of_getElem? (i := 31) rfl))) (by decide) (backOf (W := 0) (rmU l Z a0 hw [] v2 T161.heap n0 O161 ) hZ153 (hw _ (List.mem_of_getElem? (i := 31) rfl)) (hw _ (List.mem_of_getElem? (i := 2) rfl)) (by decide) (by decide)) (g := (mkF m 159 #[.val (.int t1), .val (.int t2), .val (.int c1), .val (.int c2), .val (.long od), .second, .val (.int sel), .val (.int u2), .val (.int v2), .val (.int o1), .val (.int o2), .val (.int kd), .val (.ref x148), .val (.ref x149), .val (.ref x151), .val (.ref x153), .val (.ref b154), .val (.ref b158), .val (.int (keyf c1)), .unset, .unset, .unset] [(.int v2)])) rfl (by rw [hml]; rfl) (argsL := [(.int v2)]) (rest := []) (lenOf pd_6 rfl) rfl (by show 2 * 0 + _ ≤ _; exact Nat.le_of_eq rfl) (hb hby at_159) (fun _ _ => ⟨rfl, hE165, (by decide : 26 + 0 ≤ _), (by decide : 54 + 0 ≤ _)⟩)
      dsimp only [Pt.U, Pt.locs, Pt.cells, Pt.slots] at X166 l166 y166 z166 st166 hQ166
      subst l166 y166 z166
      obtain ⟨⟨r166, rfl, hr166⟩, Nq166, hE166⟩ := hQ166
      have hr166 : r166 = 0 := by
        rcases hr166 with ⟨q, z⟩ | ⟨q, z⟩
        · exact q
        · exact absurd hr152 z
      subst hr166
      have N166 := Fr.app N165 Nq166
      refine Go.st st166 ?_
      show Go p.tables e below Kx T166 (mkF m 162 #[.val (.int t1), .val (.int t2), .val (.int c1), .val (.int c2), .val (.long od), .second, .val (.int sel), .val (.int u2), .val (.int v2), .val (.int o1), .val (.int o2), .val (.int kd), .val (.ref x148), .val (.ref x149), .val (.ref x151), .val (.ref x153), .val (.ref b154), .val (.ref b158), .val (.int (keyf c1)), .unset, .unset, .unset] [(.int (0 : Int32))])
      refine s_ifY (pc' := 169) X166.here hx (hb hby at_162) ((if0 _ _).trans (teq (by decide)).1) (by decide) (by decide) ?_
      refine s_iload (pc' := 171) X166.here hx (hb hby at_169) rfl rfl ?_
      obtain ⟨_, _, ⟨T167, L167, k167, n167⟩, -, X167, ⟨Lc167, hQ167, l167, y167, z167⟩, st167⟩ := Jvm.LawKit.callS X166 hx (y := (⟨"com/example/data_roles/dataroles/policy/MaskEqualsPinLaw", "keyOf", "(I)I"⟩ : MethodName)) hown153 (mvT hZ153 (hw _ (List.mem_of_getElem? (i := 45) rfl))) (mvT hZ153 (hw _ (List.mem_of_getElem? (i := 46) rfl))) (mvT hZ153 (hw _ (List.mem_of_getElem? (i := 2) rfl))) (mvT hZ153 (hw _ (List.mem_of_getElem? (i := 47) rfl))) (by decide) (backOf (W := 0) (rmK l Z a0 hw [] v2 T161.heap n0 O161 ) hZ153 (hw _ (List.mem_of_getElem? (i := 47) rfl)) (hw _ (List.mem_of_getElem? (i := 2) rfl)) (by decide) (by decide)) (g := (mkF m 171 #[.val (.int t1), .val (.int t2), .val (.int c1), .val (.int c2), .val (.long od), .second, .val (.int sel), .val (.int u2), .val (.int v2), .val (.int o1), .val (.int o2), .val (.int kd), .val (.ref x148), .val (.ref x149), .val (.ref x151), .val (.ref x153), .val (.ref b154), .val (.ref b158), .val (.int (keyf c1)), .unset, .unset, .unset] [(.int v2)])) rfl (by rw [hml]; rfl) (argsL := [(.int v2)]) (rest := []) (lenOf pd_1 rfl) rfl (by show 2 * 0 + _ ≤ _; exact Nat.le_of_eq rfl) (hb hby at_171) (fun _ _ => ⟨rfl, hE166, (by decide : 26 + 0 ≤ _), (by decide : 54 + 0 ≤ _)⟩)
      dsimp only [Pt.U, Pt.locs, Pt.cells, Pt.slots] at X167 l167 y167 z167 st167 hQ167
      subst l167 y167 z167
      obtain ⟨rfl, Nq167, hE167⟩ := hQ167
      have N167 := Fr.app N166 Nq167
      refine Go.st st167 ?_
      show Go p.tables e below Kx T167 (mkF m 174 #[.val (.int t1), .val (.int t2), .val (.int c1), .val (.int c2), .val (.long od), .second, .val (.int sel), .val (.int u2), .val (.int v2), .val (.int o1), .val (.int o2), .val (.int kd), .val (.ref x148), .val (.ref x149), .val (.ref x151), .val (.ref x153), .val (.ref b154), .val (.ref b158), .val (.int (keyf c1)), .unset, .unset, .unset] [(.int (keyf v2))])
      refine s_istore (pc' := 176) (Ls' := #[.val (.int t1), .val (.int t2), .val (.int c1), .val (.int c2), .val (.long od), .second, .val (.int sel), .val (.int u2), .val (.int v2), .val (.int o1), .val (.int o2), .val (.int kd), .val (.ref x148), .val (.ref x149), .val (.ref x151), .val (.ref x153), .val (.ref b154), .val (.ref b158), .val (.int (keyf c1)), .val (.int (keyf v2)), .unset, .unset]) X167.here hx (hb hby at_174) rfl  rfl ?_
      refine s_iloadN (pc' := 177) X167.here hx (hb hby at_176) rfl rfl ?_
      obtain ⟨_, _, ⟨T168, L168, k168, n168⟩, -, X168, ⟨Lc168, hQ168, l168, y168, z168⟩, st168⟩ := Jvm.LawKit.callS X167 hx (y := (⟨"com/example/data_roles/dataroles/policy/MaskEqualsPinLaw", "keyOf", "(I)I"⟩ : MethodName)) hown153 (mvT hZ153 (hw _ (List.mem_of_getElem? (i := 45) rfl))) (mvT hZ153 (hw _ (List.mem_of_getElem? (i := 46) rfl))) (mvT hZ153 (hw _ (List.mem_of_getElem? (i := 2) rfl))) (mvT hZ153 (hw _ (List.mem_of_getElem? (i := 47) rfl))) (by decide) (backOf (W := 0) (rmK l Z a0 hw [] t1 T161.heap n0 O161 ) hZ153 (hw _ (List.mem_of_getElem? (i := 47) rfl)) (hw _ (List.mem_of_getElem? (i := 2) rfl)) (by decide) (by decide)) (g := (mkF m 177 #[.val (.int t1), .val (.int t2), .val (.int c1), .val (.int c2), .val (.long od), .second, .val (.int sel), .val (.int u2), .val (.int v2), .val (.int o1), .val (.int o2), .val (.int kd), .val (.ref x148), .val (.ref x149), .val (.ref x151), .val (.ref x153), .val (.ref b154), .val (.ref b158), .val (.int (keyf c1)), .val (.int (keyf v2)), .unset, .unset] [(.int t1)])) rfl (by rw [hml]; rfl) (argsL := [(.int t1)]) (rest := []) (lenOf pd_1 rfl) rfl (by show 2 * 0 + _ ≤ _; exact Nat.le_of_eq rfl) (hb hby at_177) (fun _ _ => ⟨rfl, hE167, (by decide : 26 + 0 ≤ _), (by decide : 54 + 0 ≤ _)⟩)
      dsimp only [Pt.U, Pt.locs, Pt.cells, Pt.slots] at X168 l168 y168 z168 st168 hQ168
      subst l168 y168 z168
      obtain ⟨rfl, Nq168, hE168⟩ := hQ168
      have N168 := Fr.app N167 Nq168
      refine Go.st st168 ?_
      show Go p.tables e below Kx T168 (mkF m 180 #[.val (.int t1), .val (.int t2), .val (.int c1), .val (.int c2), .val (.long od), .second, .val (.int sel), .val (.int u2), .val (.int v2), .val (.int o1), .val (.int o2), .val (.int kd), .val (.ref x148), .val (.ref x149), .val (.ref x151), .val (.ref x153), .val (.ref b154), .val (.ref b158), .val (.int (keyf c1)), .val (.int (keyf v2)), .unset, .unset] [(.int (keyf t1))])
      refine s_iload (pc' := 182) X168.here hx (hb hby at_180) rfl rfl ?_
      obtain ⟨_, _, ⟨T169, L169, k169, n169⟩, -, X169, ⟨Lc169, hQ169, l169, y169, z169⟩, st169⟩ := Jvm.LawKit.callS X168 hx (y := (⟨"com/example/data_roles/dataroles/policy/MaskEqualsPinLaw", "keyOf", "(I)I"⟩ : MethodName)) hown153 (mvT hZ153 (hw _ (List.mem_of_getElem? (i := 45) rfl))) (mvT hZ153 (hw _ (List.mem_of_getElem? (i := 46) rfl))) (mvT hZ153 (hw _ (List.mem_of_getElem? (i := 2) rfl))) (mvT hZ153 (hw _ (List.mem_of_getElem? (i := 47) rfl))) (by decide) (backOf (W := 1) (rmK l Z a0 hw [] u2 T161.heap n0 O161 ) hZ153 (hw _ (List.mem_of_getElem? (i := 47) rfl)) (hw _ (List.mem_of_getElem? (i := 2) rfl)) (by decide) (by decide)) (g := (mkF m 182 #[.val (.int t1), .val (.int t2), .val (.int c1), .val (.int c2), .val (.long od), .second, .val (.int sel), .val (.int u2), .val (.int v2), .val (.int o1), .val (.int o2), .val (.int kd), .val (.ref x148), .val (.ref x149), .val (.ref x151), .val (.ref x153), .val (.ref b154), .val (.ref b158), .val (.int (keyf c1)), .val (.int (keyf v2)), .unset, .unset] [(.int u2), (.int (keyf t1))])) rfl (by rw [hml]; rfl) (argsL := [(.int u2)]) (rest := [(.int (keyf t1))]) (lenOf pd_1 rfl) rfl (by show 2 * 0 + _ ≤ _; exact Nat.le_of_eq rfl) (hb hby at_182) (fun _ _ => ⟨rfl, hE168, (by decide : 26 + 0 ≤ _), (by decide : 54 + 0 ≤ _)⟩)
      dsimp only [Pt.U, Pt.locs, Pt.cells, Pt.slots] at X169 l169 y169 z169 st169 hQ169
      subst l169 y169 z169
      obtain ⟨rfl, Nq169, hE169⟩ := hQ169
      have N169 := Fr.app N168 Nq169
      refine Go.st st169 ?_
      show Go p.tables e below Kx T169 (mkF m 185 #[.val (.int t1), .val (.int t2), .val (.int c1), .val (.int c2), .val (.long od), .second, .val (.int sel), .val (.int u2), .val (.int v2), .val (.int o1), .val (.int o2), .val (.int kd), .val (.ref x148), .val (.ref x149), .val (.ref x151), .val (.ref x153), .val (.ref b154), .val (.ref b158), .val (.int (keyf c1)), .val (.int (keyf v2)), .unset, .unset] [(.int (keyf u2)), (.int (keyf t1))])
      have J207 : ∀ (sm : Int32) (TJ207 : State) (LJ207 : List Loc), Stand p l e room_1 (s.setVm T153.vm) m #[(.int t1), (.int t2), (.int c1), (.int c2), (.long od), (.int sel)] below meth c TJ207 LJ207 26 54 → Fr n0 LJ207 → TJ207.heap = T161.heap → ((sm = 1 ∧ (txt t1 = txt u2 ∧ txt c1 = txt v2 ∧ o1 = o2)) ∨ (sm = 0 ∧ ¬ (txt t1 = txt u2 ∧ txt c1 = txt v2 ∧ o1 = o2))) → Go p.tables e below Kx TJ207 (mkF m 207 #[.val (.int t1), .val (.int t2), .val (.int c1), .val (.int c2), .val (.long od), .second, .val (.int sel), .val (.int u2), .val (.int v2), .val (.int o1), .val (.int o2), .val (.int kd), .val (.ref x148), .val (.ref x149), .val (.ref x151), .val (.ref x153), .val (.ref b154), .val (.ref b158), .val (.int (keyf c1)), .val (.int (keyf v2)), .unset, .unset] [(.int sm)]) := by
        intro sm TJ207 LJ207 XJ207 NJ207 eJ207 hsm
        have hex1 : ∀ r : Int32, ((r = 1 ∧ (txt t1 = txt u2 ∧ txt c1 = txt v2 ∧ o1 = o2)) ∨ (r = 0 ∧ ¬ (txt t1 = txt u2 ∧ txt c1 = txt v2 ∧ o1 = o2))) → r = sm := fun r hr => ex_one hsm hr
        have hex2 : ∀ r : Int32, ((r = 1 ∧ (txt u2 = txt t1 ∧ txt v2 = txt c1 ∧ o2 = o1)) ∨ (r = 0 ∧ ¬ (txt u2 = txt t1 ∧ txt v2 = txt c1 ∧ o2 = o1))) → r = sm := fun r hr => ex_one hsm (by rw [eq_comm (a := txt t1), eq_comm (a := o1), eq_comm (a := txt c1)]; exact hr)
        refine s_istore (pc' := 209) (Ls' := #[.val (.int t1), .val (.int t2), .val (.int c1), .val (.int c2), .val (.long od), .second, .val (.int sel), .val (.int u2), .val (.int v2), .val (.int o1), .val (.int o2), .val (.int kd), .val (.ref x148), .val (.ref x149), .val (.ref x151), .val (.ref x153), .val (.ref b154), .val (.ref b158), .val (.int (keyf c1)), .val (.int (keyf v2)), .val (.int sm), .unset]) XJ207.here hx (hb hby at_207) rfl  rfl ?_
        refine s_iload (pc' := 211) XJ207.here hx (hb hby at_209) rfl rfl ?_
        by_cases hc170 : kd = (0 : Int32)
        · skip
          refine s_ifN (pc' := 214) XJ207.here hx (hb hby at_211) rfl ((if0 _ _).trans (teq hc170).2) ?_
          refine s_aload (pc' := 216) XJ207.here hx (hb hby at_214) rfl rfl rfl ?_
          refine s_aload (pc' := 218) XJ207.here hx (hb hby at_216) rfl rfl rfl ?_
          have f171 : Str Z T161.heap T148.heap.size x148 (txt t1) := (((((((Sq148.keep Kq149 all0).keep Kq151 all0).keep Kq153 all0).ext E154).keep Kq156 (allS (Nat.le_trans (Nat.le_trans (Nat.le_trans Kq149.1 Kq151.1) Kq153.1) (Nat.le_of_eq g154.symm)) all0)).ext E158).keep Kq161 (allS (Nat.le_trans (Nat.le_trans (Nat.le_trans (Nat.le_trans (Nat.le_trans Kq149.1 Kq151.1) Kq153.1) E154.1) Kq156.1) (Nat.le_of_eq g158.symm)) all0))
          have f172 : Str Z T161.heap T149.heap.size x149 (txt u2) := ((((((Sq149.keep Kq151 all0).keep Kq153 all0).ext E154).keep Kq156 (allS (Nat.le_trans (Nat.le_trans Kq151.1 Kq153.1) (Nat.le_of_eq g154.symm)) all0)).ext E158).keep Kq161 (allS (Nat.le_trans (Nat.le_trans (Nat.le_trans (Nat.le_trans Kq151.1 Kq153.1) E154.1) Kq156.1) (Nat.le_of_eq g158.symm)) all0))
          have f173 : Str Z T161.heap T151.heap.size x151 (txt c1) := (((((Sq151.keep Kq153 all0).ext E154).keep Kq156 (allS (Nat.le_trans Kq153.1 (Nat.le_of_eq g154.symm)) all0)).ext E158).keep Kq161 (allS (Nat.le_trans (Nat.le_trans (Nat.le_trans Kq153.1 E154.1) Kq156.1) (Nat.le_of_eq g158.symm)) all0))
          have f174 : Str Z T161.heap T153.heap.size x153 (txt v2) := ((((Sq153.ext E154).keep Kq156 (allS (Nat.le_of_eq g154.symm) all0)).ext E158).keep Kq161 (allS (Nat.le_trans (Nat.le_trans E154.1 Kq156.1) (Nat.le_of_eq g158.symm)) all0))
          have f175 : Exa Z T161.heap b154 "com/example/data_roles/dataroles/policy/Mask" := ((q1_156.ext E158).keep Kq161)
          have f176 : Fld Z T161.heap b154 "com/example/data_roles/dataroles/policy/Mask" "text" "Ljava/lang/String;" (.ref x148) := ((q2_156.ext E158).keep Kq161 (ninS (Nat.ne_of_lt (Nat.lt_of_lt_of_le (Nat.lt_of_lt_of_le A154.lt Kq156.1) (Nat.le_of_eq g158.symm))) nin0))
          have f177 : Fld Z T161.heap b154 "com/example/data_roles/dataroles/policy/Mask" "condition" "Ljava/lang/String;" (.ref x151) := ((q3_156.ext E158).keep Kq161 (ninS (Nat.ne_of_lt (Nat.lt_of_lt_of_le (Nat.lt_of_lt_of_le A154.lt Kq156.1) (Nat.le_of_eq g158.symm))) nin0))
          have f178 : Fld Z T161.heap b154 "com/example/data_roles/dataroles/policy/Mask" "order" "I" (.int o1) := ((q4_156.ext E158).keep Kq161 (ninS (Nat.ne_of_lt (Nat.lt_of_lt_of_le (Nat.lt_of_lt_of_le A154.lt Kq156.1) (Nat.le_of_eq g158.symm))) nin0))
          obtain ⟨cq179, kq179, q179a, q179b, q179c⟩ := isOf hZ153 eJ207 f175
          obtain ⟨_, _, ⟨T179, L179, k179, n179⟩, -, X179, ⟨Lc179, hQ179, l179, y179, z179⟩, st179⟩ := XJ207.virtualBack hx (y := (⟨"com/example/data_roles/dataroles/policy/Mask", "equals", "(Ljava/lang/Object;)Z"⟩ : MethodName)) (z := (⟨"com/example/data_roles/dataroles/policy/Mask", "equals", "(Ljava/lang/Object;)Z"⟩ : MethodName)) hown153 (mvT hZ153 (hw _ (List.mem_of_getElem? (i := 48) rfl))) (mvT hZ153 (hw _ (List.mem_of_getElem? (i := 49) rfl))) (notFace_of_selects (args := #[]) (mvT hZ153 (hw _ (List.mem_of_getElem? (i := 51) rfl)))) (mvT hZ153 (hw _ (List.mem_of_getElem? (i := 51) rfl))) (mvT hZ153 (hw _ (List.mem_of_getElem? (i := 50) rfl))) (by decide) (backOf (W := 0) (rmQ211 l Z a0 hw [] b154 b158 x148 x149 _ _ (txt t1) (txt u2) o1 o2 x151 _ (txt c1) x153 _ (txt v2) T161.heap n0 O161 G1 S1 P1 f175 f176 f177 f178 q1_161 q2_161 q3_161 q4_161 f171 f172 f173 f174) hZ153 (hw _ (List.mem_of_getElem? (i := 52) rfl)) (hw _ (List.mem_of_getElem? (i := 34) rfl)) (by decide) (by decide)) q179a q179c (g := (mkF m 218 #[.val (.int t1), .val (.int t2), .val (.int c1), .val (.int c2), .val (.long od), .second, .val (.int sel), .val (.int u2), .val (.int v2), .val (.int o1), .val (.int o2), .val (.int kd), .val (.ref x148), .val (.ref x149), .val (.ref x151), .val (.ref x153), .val (.ref b154), .val (.ref b158), .val (.int (keyf c1)), .val (.int (keyf v2)), .val (.int sm), .unset] [(.ref b158), (.ref b154)])) rfl (by rw [hml]; rfl) (Steps.refl _) (argsL := [(.ref b158)]) (rest := []) (lenOf pd_3 rfl) rfl (by show 2 * 0 + _ ≤ _; exact Nat.le_of_eq rfl) (hb hby at_218) (fun _ _ => ⟨rfl, eJ207, (by decide : 26 + 0 ≤ _), (by decide : 54 + 0 ≤ _)⟩)
          dsimp only [Pt.U, Pt.locs, Pt.cells, Pt.slots] at X179 l179 y179 z179 st179 hQ179
          subst l179 y179 z179
          obtain ⟨⟨r179, rfl, hr179⟩, Nq179, hE179⟩ := hQ179
          have hr179 : sm = r179 := (hex1 _ hr179).symm
          subst hr179
          have N179 := Fr.app NJ207 Nq179
          refine Go.tr st179 ?_
          show Go p.tables e below Kx T179 (mkF m 221 #[.val (.int t1), .val (.int t2), .val (.int c1), .val (.int c2), .val (.long od), .second, .val (.int sel), .val (.int u2), .val (.int v2), .val (.int o1), .val (.int o2), .val (.int kd), .val (.ref x148), .val (.ref x149), .val (.ref x151), .val (.ref x153), .val (.ref b154), .val (.ref b158), .val (.int (keyf c1)), .val (.int (keyf v2)), .val (.int sm), .unset] [(.int sm)])
          refine s_iload (pc' := 223) X179.here hx (hb hby at_221) rfl rfl ?_
          refine s_icmpN (pc' := 226) X179.here hx (hb hby at_223) rfl (teq rfl).2 ?_
          refine s_aload (pc' := 228) X179.here hx (hb hby at_226) rfl rfl rfl ?_
          refine s_aload (pc' := 230) X179.here hx (hb hby at_228) rfl rfl rfl ?_
          obtain ⟨cq180, kq180, q180a, q180b, q180c⟩ := isOf hZ153 hE179 q1_161
          obtain ⟨_, _, ⟨T180, L180, k180, n180⟩, -, X180, ⟨Lc180, hQ180, l180, y180, z180⟩, st180⟩ := X179.virtualBack hx (y := (⟨"com/example/data_roles/dataroles/policy/Mask", "equals", "(Ljava/lang/Object;)Z"⟩ : MethodName)) (z := (⟨"com/example/data_roles/dataroles/policy/Mask", "equals", "(Ljava/lang/Object;)Z"⟩ : MethodName)) hown153 (mvT hZ153 (hw _ (List.mem_of_getElem? (i := 48) rfl))) (mvT hZ153 (hw _ (List.mem_of_getElem? (i := 49) rfl))) (notFace_of_selects (args := #[]) (mvT hZ153 (hw _ (List.mem_of_getElem? (i := 51) rfl)))) (mvT hZ153 (hw _ (List.mem_of_getElem? (i := 51) rfl))) (mvT hZ153 (hw _ (List.mem_of_getElem? (i := 50) rfl))) (by decide) (backOf (W := 0) (rmQ211 l Z a0 hw [] b158 b154 x149 x148 _ _ (txt u2) (txt t1) o2 o1 x153 _ (txt v2) x151 _ (txt c1) T161.heap n0 O161 G1 S1 P1 q1_161 q2_161 q3_161 q4_161 f175 f176 f177 f178 f172 f171 f174 f173) hZ153 (hw _ (List.mem_of_getElem? (i := 52) rfl)) (hw _ (List.mem_of_getElem? (i := 34) rfl)) (by decide) (by decide)) q180a q180c (g := (mkF m 230 #[.val (.int t1), .val (.int t2), .val (.int c1), .val (.int c2), .val (.long od), .second, .val (.int sel), .val (.int u2), .val (.int v2), .val (.int o1), .val (.int o2), .val (.int kd), .val (.ref x148), .val (.ref x149), .val (.ref x151), .val (.ref x153), .val (.ref b154), .val (.ref b158), .val (.int (keyf c1)), .val (.int (keyf v2)), .val (.int sm), .unset] [(.ref b154), (.ref b158)])) rfl (by rw [hml]; rfl) (Steps.refl _) (argsL := [(.ref b154)]) (rest := []) (lenOf pd_3 rfl) rfl (by show 2 * 0 + _ ≤ _; exact Nat.le_of_eq rfl) (hb hby at_230) (fun _ _ => ⟨rfl, hE179, (by decide : 26 + 0 ≤ _), (by decide : 54 + 0 ≤ _)⟩)
          dsimp only [Pt.U, Pt.locs, Pt.cells, Pt.slots] at X180 l180 y180 z180 st180 hQ180
          subst l180 y180 z180
          obtain ⟨⟨r180, rfl, hr180⟩, Nq180, hE180⟩ := hQ180
          have hr180 : sm = r180 := (hex2 _ hr180).symm
          subst hr180
          have N180 := Fr.app N179 Nq180
          refine Go.tr st180 ?_
          show Go p.tables e below Kx T180 (mkF m 233 #[.val (.int t1), .val (.int t2), .val (.int c1), .val (.int c2), .val (.long od), .second, .val (.int sel), .val (.int u2), .val (.int v2), .val (.int o1), .val (.int o2), .val (.int kd), .val (.ref x148), .val (.ref x149), .val (.ref x151), .val (.ref x153), .val (.ref b154), .val (.ref b158), .val (.int (keyf c1)), .val (.int (keyf v2)), .val (.int sm), .unset] [(.int sm)])
          refine s_iload (pc' := 235) X180.here hx (hb hby at_233) rfl rfl ?_
          refine s_icmpN (pc' := 238) X180.here hx (hb hby at_235) rfl (teq rfl).2 ?_
          refine s_iconst (pc' := 239) (v := (1 : Int32)) X180.here hx (hb hby at_238) rfl rfl ?_
          refine s_goto (pc' := 243) X180.here hx (hb hby at_239) (by decide) (by decide) ?_
          obtain ⟨fs, hr, hrun, hended, hRW⟩ := X180.leaveW hS153 (by rw [hE180]; exact hk161) (v := (some (.int (1 : Int32)))) (fun h => by rw [Bd.returns] at h; cases h)
          have hCx := C161.trans (CHv.at X180 hZ153 hEL H161)
          refine Go.fin (retN X180 hx (t := .boolean) Bd.returns (by simp) (hb hby at_243) hr) (hF _ _ hrun hended ⟨_, _, rfl, ?_, ?_, hRW.1, hRW.2.1, hRW.2.2.1, hRW.2.2.2.mono (by decide) (by decide)⟩)
          · show QL Z t1 t2 c1 c2 od sel h0 n0 ((some (.int (1 : Int32))) : Option Value) T180.heap _
            rw [hE180]
            exact ⟨rfl, N180⟩
          · show CHr Z consts_1 s.vm s.heap T180.vm T180.heap
            rw [hE180, hh]; exact hCx
        · skip
          refine s_ifY (pc' := 244) XJ207.here hx (hb hby at_211) ((if0 _ _).trans (feq hc170).2) (by decide) (by decide) ?_
          refine s_iload (pc' := 246) XJ207.here hx (hb hby at_244) rfl rfl ?_
          refine s_iconst (pc' := 247) (v := (1 : Int32)) XJ207.here hx (hb hby at_246) rfl rfl ?_
          by_cases hc181 : kd = (1 : Int32)
          · skip
            refine s_icmpN (pc' := 250) XJ207.here hx (hb hby at_247) rfl (teq hc181).2 ?_
            refine s_aload (pc' := 252) XJ207.here hx (hb hby at_250) rfl rfl rfl ?_
            refine s_aconst_null (pc' := 253) XJ207.here hx (hb hby at_252) rfl ?_
            have f183 : Exa Z T161.heap b154 "com/example/data_roles/dataroles/policy/Mask" := ((q1_156.ext E158).keep Kq161)
            obtain ⟨cq182, kq182, q182a, q182b, q182c⟩ := isOf hZ153 eJ207 f183
            obtain ⟨_, _, ⟨T182, L182, k182, n182⟩, -, X182, ⟨Lc182, hQ182, l182, y182, z182⟩, st182⟩ := XJ207.virtualBack hx (y := (⟨"com/example/data_roles/dataroles/policy/Mask", "equals", "(Ljava/lang/Object;)Z"⟩ : MethodName)) (z := (⟨"com/example/data_roles/dataroles/policy/Mask", "equals", "(Ljava/lang/Object;)Z"⟩ : MethodName)) hown153 (mvT hZ153 (hw _ (List.mem_of_getElem? (i := 48) rfl))) (mvT hZ153 (hw _ (List.mem_of_getElem? (i := 49) rfl))) (notFace_of_selects (args := #[]) (mvT hZ153 (hw _ (List.mem_of_getElem? (i := 51) rfl)))) (mvT hZ153 (hw _ (List.mem_of_getElem? (i := 51) rfl))) (mvT hZ153 (hw _ (List.mem_of_getElem? (i := 50) rfl))) (by decide) (backOf (W := 0) (rmQ0 l Z a0 hw [] b154 T161.heap n0 O161 ) hZ153 (hw _ (List.mem_of_getElem? (i := 52) rfl)) (hw _ (List.mem_of_getElem? (i := 34) rfl)) (by decide) (by decide)) q182a q182c (g := (mkF m 253 #[.val (.int t1), .val (.int t2), .val (.int c1), .val (.int c2), .val (.long od), .second, .val (.int sel), .val (.int u2), .val (.int v2), .val (.int o1), .val (.int o2), .val (.int kd), .val (.ref x148), .val (.ref x149), .val (.ref x151), .val (.ref x153), .val (.ref b154), .val (.ref b158), .val (.int (keyf c1)), .val (.int (keyf v2)), .val (.int sm), .unset] [.null, (.ref b154)])) rfl (by rw [hml]; rfl) (Steps.refl _) (argsL := [.null]) (rest := []) (lenOf pd_3 rfl) rfl (by show 2 * 0 + _ ≤ _; exact Nat.le_of_eq rfl) (hb hby at_253) (fun _ _ => ⟨rfl, eJ207, (by decide : 26 + 0 ≤ _), (by decide : 54 + 0 ≤ _)⟩)
            dsimp only [Pt.U, Pt.locs, Pt.cells, Pt.slots] at X182 l182 y182 z182 st182 hQ182
            subst l182 y182 z182
            obtain ⟨rfl, Nq182, hE182⟩ := hQ182
            have N182 := Fr.app NJ207 Nq182
            refine Go.tr st182 ?_
            show Go p.tables e below Kx T182 (mkF m 256 #[.val (.int t1), .val (.int t2), .val (.int c1), .val (.int c2), .val (.long od), .second, .val (.int sel), .val (.int u2), .val (.int v2), .val (.int o1), .val (.int o2), .val (.int kd), .val (.ref x148), .val (.ref x149), .val (.ref x151), .val (.ref x153), .val (.ref b154), .val (.ref b158), .val (.int (keyf c1)), .val (.int (keyf v2)), .val (.int sm), .unset] [(.int (0 : Int32))])
            refine s_ifN (pc' := 259) X182.here hx (hb hby at_256) rfl ((if0 _ _).trans (teq (by decide)).2) ?_
            refine s_iconst (pc' := 260) (v := (1 : Int32)) X182.here hx (hb hby at_259) rfl rfl ?_
            refine s_goto (pc' := 264) X182.here hx (hb hby at_260) (by decide) (by decide) ?_
            obtain ⟨fs, hr, hrun, hended, hRW⟩ := X182.leaveW hS153 (by rw [hE182]; exact hk161) (v := (some (.int (1 : Int32)))) (fun h => by rw [Bd.returns] at h; cases h)
            have hCx := C161.trans (CHv.at X182 hZ153 hEL H161)
            refine Go.fin (retN X182 hx (t := .boolean) Bd.returns (by simp) (hb hby at_264) hr) (hF _ _ hrun hended ⟨_, _, rfl, ?_, ?_, hRW.1, hRW.2.1, hRW.2.2.1, hRW.2.2.2.mono (by decide) (by decide)⟩)
            · show QL Z t1 t2 c1 c2 od sel h0 n0 ((some (.int (1 : Int32))) : Option Value) T182.heap _
              rw [hE182]
              exact ⟨rfl, N182⟩
            · show CHr Z consts_1 s.vm s.heap T182.vm T182.heap
              rw [hE182, hh]; exact hCx
          · skip
            refine s_icmpY (pc' := 265) XJ207.here hx (hb hby at_247) (feq hc181).2 (by decide) (by decide) ?_
            refine s_iload (pc' := 267) XJ207.here hx (hb hby at_265) rfl rfl ?_
            refine s_iconst (pc' := 268) (v := (2 : Int32)) XJ207.here hx (hb hby at_267) rfl rfl ?_
            by_cases hc184 : kd = (2 : Int32)
            · skip
              refine s_icmpN (pc' := 271) XJ207.here hx (hb hby at_268) rfl (teq hc184).2 ?_
              refine s_aload (pc' := 273) XJ207.here hx (hb hby at_271) rfl rfl rfl ?_
              refine s_astore (pc' := 275) (Ls' := #[.val (.int t1), .val (.int t2), .val (.int c1), .val (.int c2), .val (.long od), .second, .val (.int sel), .val (.int u2), .val (.int v2), .val (.int o1), .val (.int o2), .val (.int kd), .val (.ref x148), .val (.ref x149), .val (.ref x151), .val (.ref x153), .val (.ref b154), .val (.ref b158), .val (.int (keyf c1)), .val (.int (keyf v2)), .val (.int sm), .val (.ref x149)]) XJ207.here hx (hb hby at_273) rfl rfl rfl ?_
              refine s_aload (pc' := 277) XJ207.here hx (hb hby at_275) rfl rfl rfl ?_
              refine s_aload (pc' := 279) XJ207.here hx (hb hby at_277) rfl rfl rfl ?_
              have f185 : Exa Z T161.heap x149 "java/lang/String" := ((((((Sq149.2.1.keep Kq151).keep Kq153).ext E154).keep Kq156).ext E158).keep Kq161)
              have f187 : Exa Z T161.heap b154 "com/example/data_roles/dataroles/policy/Mask" := ((q1_156.ext E158).keep Kq161)
              obtain ⟨cq186, kq186, q186a, q186b, q186c⟩ := isOf hZ153 eJ207 f187
              obtain ⟨_, _, ⟨T186, L186, k186, n186⟩, -, X186, ⟨Lc186, hQ186, l186, y186, z186⟩, st186⟩ := XJ207.virtualBack hx (y := (⟨"com/example/data_roles/dataroles/policy/Mask", "equals", "(Ljava/lang/Object;)Z"⟩ : MethodName)) (z := (⟨"com/example/data_roles/dataroles/policy/Mask", "equals", "(Ljava/lang/Object;)Z"⟩ : MethodName)) hown153 (mvT hZ153 (hw _ (List.mem_of_getElem? (i := 48) rfl))) (mvT hZ153 (hw _ (List.mem_of_getElem? (i := 49) rfl))) (notFace_of_selects (args := #[]) (mvT hZ153 (hw _ (List.mem_of_getElem? (i := 51) rfl)))) (mvT hZ153 (hw _ (List.mem_of_getElem? (i := 51) rfl))) (mvT hZ153 (hw _ (List.mem_of_getElem? (i := 50) rfl))) (by decide) (backOf (W := 0) (rmQ1 l Z a0 hw [] b154 x149 T161.heap n0 O161 f185) hZ153 (hw _ (List.mem_of_getElem? (i := 52) rfl)) (hw _ (List.mem_of_getElem? (i := 34) rfl)) (by decide) (by decide)) q186a q186c (g := (mkF m 279 #[.val (.int t1), .val (.int t2), .val (.int c1), .val (.int c2), .val (.long od), .second, .val (.int sel), .val (.int u2), .val (.int v2), .val (.int o1), .val (.int o2), .val (.int kd), .val (.ref x148), .val (.ref x149), .val (.ref x151), .val (.ref x153), .val (.ref b154), .val (.ref b158), .val (.int (keyf c1)), .val (.int (keyf v2)), .val (.int sm), .val (.ref x149)] [(.ref x149), (.ref b154)])) rfl (by rw [hml]; rfl) (Steps.refl _) (argsL := [(.ref x149)]) (rest := []) (lenOf pd_3 rfl) rfl (by show 2 * 0 + _ ≤ _; exact Nat.le_of_eq rfl) (hb hby at_279) (fun _ _ => ⟨rfl, eJ207, (by decide : 26 + 0 ≤ _), (by decide : 54 + 0 ≤ _)⟩)
              dsimp only [Pt.U, Pt.locs, Pt.cells, Pt.slots] at X186 l186 y186 z186 st186 hQ186
              subst l186 y186 z186
              obtain ⟨rfl, Nq186, hE186⟩ := hQ186
              have N186 := Fr.app NJ207 Nq186
              refine Go.tr st186 ?_
              show Go p.tables e below Kx T186 (mkF m 282 #[.val (.int t1), .val (.int t2), .val (.int c1), .val (.int c2), .val (.long od), .second, .val (.int sel), .val (.int u2), .val (.int v2), .val (.int o1), .val (.int o2), .val (.int kd), .val (.ref x148), .val (.ref x149), .val (.ref x151), .val (.ref x153), .val (.ref b154), .val (.ref b158), .val (.int (keyf c1)), .val (.int (keyf v2)), .val (.int sm), .val (.ref x149)] [(.int (0 : Int32))])
              refine s_ifN (pc' := 285) X186.here hx (hb hby at_282) rfl ((if0 _ _).trans (teq (by decide)).2) ?_
              refine s_iconst (pc' := 286) (v := (1 : Int32)) X186.here hx (hb hby at_285) rfl rfl ?_
              refine s_goto (pc' := 290) X186.here hx (hb hby at_286) (by decide) (by decide) ?_
              obtain ⟨fs, hr, hrun, hended, hRW⟩ := X186.leaveW hS153 (by rw [hE186]; exact hk161) (v := (some (.int (1 : Int32)))) (fun h => by rw [Bd.returns] at h; cases h)
              have hCx := C161.trans (CHv.at X186 hZ153 hEL H161)
              refine Go.fin (retN X186 hx (t := .boolean) Bd.returns (by simp) (hb hby at_290) hr) (hF _ _ hrun hended ⟨_, _, rfl, ?_, ?_, hRW.1, hRW.2.1, hRW.2.2.1, hRW.2.2.2.mono (by decide) (by decide)⟩)
              · show QL Z t1 t2 c1 c2 od sel h0 n0 ((some (.int (1 : Int32))) : Option Value) T186.heap _
                rw [hE186]
                exact ⟨rfl, N186⟩
              · show CHr Z consts_1 s.vm s.heap T186.vm T186.heap
                rw [hE186, hh]; exact hCx
            · skip
              refine s_icmpY (pc' := 291) XJ207.here hx (hb hby at_268) (feq hc184).2 (by decide) (by decide) ?_
              refine s_aload (pc' := 293) XJ207.here hx (hb hby at_291) rfl rfl rfl ?_
              refine s_aload (pc' := 295) XJ207.here hx (hb hby at_293) rfl rfl rfl ?_
              have f188 : Str Z T161.heap T148.heap.size x148 (txt t1) := (((((((Sq148.keep Kq149 all0).keep Kq151 all0).keep Kq153 all0).ext E154).keep Kq156 (allS (Nat.le_trans (Nat.le_trans (Nat.le_trans Kq149.1 Kq151.1) Kq153.1) (Nat.le_of_eq g154.symm)) all0)).ext E158).keep Kq161 (allS (Nat.le_trans (Nat.le_trans (Nat.le_trans (Nat.le_trans (Nat.le_trans Kq149.1 Kq151.1) Kq153.1) E154.1) Kq156.1) (Nat.le_of_eq g158.symm)) all0))
              have f189 : Str Z T161.heap T151.heap.size x151 (txt c1) := (((((Sq151.keep Kq153 all0).ext E154).keep Kq156 (allS (Nat.le_trans Kq153.1 (Nat.le_of_eq g154.symm)) all0)).ext E158).keep Kq161 (allS (Nat.le_trans (Nat.le_trans (Nat.le_trans Kq153.1 E154.1) Kq156.1) (Nat.le_of_eq g158.symm)) all0))
              have f190 : Exa Z T161.heap b154 "com/example/data_roles/dataroles/policy/Mask" := ((q1_156.ext E158).keep Kq161)
              have f191 : Fld Z T161.heap b154 "com/example/data_roles/dataroles/policy/Mask" "text" "Ljava/lang/String;" (.ref x148) := ((q2_156.ext E158).keep Kq161 (ninS (Nat.ne_of_lt (Nat.lt_of_lt_of_le (Nat.lt_of_lt_of_le A154.lt Kq156.1) (Nat.le_of_eq g158.symm))) nin0))
              have f192 : Fld Z T161.heap b154 "com/example/data_roles/dataroles/policy/Mask" "condition" "Ljava/lang/String;" (.ref x151) := ((q3_156.ext E158).keep Kq161 (ninS (Nat.ne_of_lt (Nat.lt_of_lt_of_le (Nat.lt_of_lt_of_le A154.lt Kq156.1) (Nat.le_of_eq g158.symm))) nin0))
              have f193 : Fld Z T161.heap b154 "com/example/data_roles/dataroles/policy/Mask" "order" "I" (.int o1) := ((q4_156.ext E158).keep Kq161 (ninS (Nat.ne_of_lt (Nat.lt_of_lt_of_le (Nat.lt_of_lt_of_le A154.lt Kq156.1) (Nat.le_of_eq g158.symm))) nin0))
              obtain ⟨cq194, kq194, q194a, q194b, q194c⟩ := isOf hZ153 eJ207 f190
              obtain ⟨_, _, ⟨T194, L194, k194, n194⟩, -, X194, ⟨Lc194, hQ194, l194, y194, z194⟩, st194⟩ := XJ207.virtualBack hx (y := (⟨"com/example/data_roles/dataroles/policy/Mask", "equals", "(Ljava/lang/Object;)Z"⟩ : MethodName)) (z := (⟨"com/example/data_roles/dataroles/policy/Mask", "equals", "(Ljava/lang/Object;)Z"⟩ : MethodName)) hown153 (mvT hZ153 (hw _ (List.mem_of_getElem? (i := 48) rfl))) (mvT hZ153 (hw _ (List.mem_of_getElem? (i := 49) rfl))) (notFace_of_selects (args := #[]) (mvT hZ153 (hw _ (List.mem_of_getElem? (i := 51) rfl)))) (mvT hZ153 (hw _ (List.mem_of_getElem? (i := 51) rfl))) (mvT hZ153 (hw _ (List.mem_of_getElem? (i := 50) rfl))) (by decide) (backOf (W := 0) (rmQ211 l Z a0 hw [] b154 b154 x148 x148 _ _ (txt t1) (txt t1) o1 o1 x151 _ (txt c1) x151 _ (txt c1) T161.heap n0 O161 G1 S1 P1 f190 f191 f192 f193 f190 f191 f192 f193 f188 f188 f189 f189) hZ153 (hw _ (List.mem_of_getElem? (i := 52) rfl)) (hw _ (List.mem_of_getElem? (i := 34) rfl)) (by decide) (by decide)) q194a q194c (g := (mkF m 295 #[.val (.int t1), .val (.int t2), .val (.int c1), .val (.int c2), .val (.long od), .second, .val (.int sel), .val (.int u2), .val (.int v2), .val (.int o1), .val (.int o2), .val (.int kd), .val (.ref x148), .val (.ref x149), .val (.ref x151), .val (.ref x153), .val (.ref b154), .val (.ref b158), .val (.int (keyf c1)), .val (.int (keyf v2)), .val (.int sm), .unset] [(.ref b154), (.ref b154)])) rfl (by rw [hml]; rfl) (Steps.refl _) (argsL := [(.ref b154)]) (rest := []) (lenOf pd_3 rfl) rfl (by show 2 * 0 + _ ≤ _; exact Nat.le_of_eq rfl) (hb hby at_295) (fun _ _ => ⟨rfl, eJ207, (by decide : 26 + 0 ≤ _), (by decide : 54 + 0 ≤ _)⟩)
              dsimp only [Pt.U, Pt.locs, Pt.cells, Pt.slots] at X194 l194 y194 z194 st194 hQ194
              subst l194 y194 z194
              obtain ⟨⟨r194, rfl, hr194⟩, Nq194, hE194⟩ := hQ194
              have hr194 : r194 = 1 := by
                rcases hr194 with ⟨q, -⟩ | ⟨-, q⟩
                · exact q
                · exact absurd ⟨rfl, rfl, rfl⟩ q
              subst hr194
              have N194 := Fr.app NJ207 Nq194
              refine Go.tr st194 ?_
              show Go p.tables e below Kx T194 (mkF m 298 #[.val (.int t1), .val (.int t2), .val (.int c1), .val (.int c2), .val (.long od), .second, .val (.int sel), .val (.int u2), .val (.int v2), .val (.int o1), .val (.int o2), .val (.int kd), .val (.ref x148), .val (.ref x149), .val (.ref x151), .val (.ref x153), .val (.ref b154), .val (.ref b158), .val (.int (keyf c1)), .val (.int (keyf v2)), .val (.int sm), .unset] [(.int (1 : Int32))])
              obtain ⟨fs, hr, hrun, hended, hRW⟩ := X194.leaveW hS153 (by rw [hE194]; exact hk161) (v := (some (.int (1 : Int32)))) (fun h => by rw [Bd.returns] at h; cases h)
              have hCx := C161.trans (CHv.at X194 hZ153 hEL H161)
              refine Go.fin (retN X194 hx (t := .boolean) Bd.returns (by simp) (hb hby at_298) hr) (hF _ _ hrun hended ⟨_, _, rfl, ?_, ?_, hRW.1, hRW.2.1, hRW.2.2.1, hRW.2.2.2.mono (by decide) (by decide)⟩)
              · show QL Z t1 t2 c1 c2 od sel h0 n0 ((some (.int (1 : Int32))) : Option Value) T194.heap _
                rw [hE194]
                exact ⟨rfl, N194⟩
              · show CHr Z consts_1 s.vm s.heap T194.vm T194.heap
                rw [hE194, hh]; exact hCx
      by_cases hc195 : (keyf t1) = (keyf u2)
      · skip
        refine s_icmpN (pc' := 188) X169.here hx (hb hby at_185) rfl (teq hc195).2 ?_
        refine s_iload (pc' := 190) X169.here hx (hb hby at_188) rfl rfl ?_
        refine s_iload (pc' := 192) X169.here hx (hb hby at_190) rfl rfl ?_
        by_cases hc196 : (keyf c1) = (keyf v2)
        · skip
          refine s_icmpN (pc' := 195) X169.here hx (hb hby at_192) rfl (teq hc196).2 ?_
          refine s_iload (pc' := 197) X169.here hx (hb hby at_195) rfl rfl ?_
          refine s_iload (pc' := 199) X169.here hx (hb hby at_197) rfl rfl ?_
          by_cases hc197 : o1 = o2
          · skip
            refine s_icmpN (pc' := 202) X169.here hx (hb hby at_199) rfl (teq hc197).2 ?_
            refine s_iconst (pc' := 203) (v := (1 : Int32)) X169.here hx (hb hby at_202) rfl rfl ?_
            refine s_goto (pc' := 207) X169.here hx (hb hby at_203) (by decide) (by decide) ?_
            exact J207 _ _ _ X169 N169 hE169 (Or.inl ⟨rfl, (key_iff t1 u2).mp hc195, ((key_iff c1 v2).mp hc196), hc197⟩)
          · skip
            refine s_icmpY (pc' := 206) X169.here hx (hb hby at_199) (feq hc197).2 (by decide) (by decide) ?_
            refine s_iconst (pc' := 207) (v := (0 : Int32)) X169.here hx (hb hby at_206) rfl rfl ?_
            exact J207 _ _ _ X169 N169 hE169 (Or.inr ⟨rfl, fun q => hc197 q.2.2⟩)
        · skip
          refine s_icmpY (pc' := 206) X169.here hx (hb hby at_192) (feq hc196).2 (by decide) (by decide) ?_
          refine s_iconst (pc' := 207) (v := (0 : Int32)) X169.here hx (hb hby at_206) rfl rfl ?_
          exact J207 _ _ _ X169 N169 hE169 (Or.inr ⟨rfl, fun q => (fun z => hc196 ((key_iff c1 v2).mpr z)) q.2.1⟩)
      · skip
        refine s_icmpY (pc' := 206) X169.here hx (hb hby at_185) (feq hc195).2 (by decide) (by decide) ?_
        refine s_iconst (pc' := 207) (v := (0 : Int32)) X169.here hx (hb hby at_206) rfl rfl ?_
        exact J207 _ _ _ X169 N169 hE169 (Or.inr ⟨rfl, fun q => hc195 ((key_iff t1 u2).mpr q.1)⟩)
    · skip
      have N152 := Fr.app N151 Nq152
      refine Go.st st152 ?_
      show Go p.tables e below Kx T152 (mkF m 96 #[.val (.int t1), .val (.int t2), .val (.int c1), .val (.int c2), .val (.long od), .second, .val (.int sel), .val (.int u2), .val (.int v2), .val (.int o1), .val (.int o2), .val (.int kd), .val (.ref x148), .val (.ref x149), .val (.ref x151), .unset, .unset, .unset, .unset, .unset, .unset, .unset] [(.int (1 : Int32))])
      refine s_ifN (pc' := 99) X152.here hx (hb hby at_96) rfl ((if0 _ _).trans (feq (by decide)).1) ?_
      refine s_aconst_null (pc' := 100) X152.here hx (hb hby at_99) rfl ?_
      refine s_goto (pc' := 108) X152.here hx (hb hby at_100) (by decide) (by decide) ?_
      refine s_astore (pc' := 110) (Ls' := #[.val (.int t1), .val (.int t2), .val (.int c1), .val (.int c2), .val (.long od), .second, .val (.int sel), .val (.int u2), .val (.int v2), .val (.int o1), .val (.int o2), .val (.int kd), .val (.ref x148), .val (.ref x149), .val (.ref x151), .val .null, .unset, .unset, .unset, .unset, .unset, .unset]) X152.here hx (hb hby at_108) rfl rfl rfl ?_
      obtain ⟨T198, h198, X198, e198, E198, A198, D198, -, st198⟩ := newO X152 hx hZ151 hown151 (hw _ (List.mem_of_getElem? (i := 32) rfl)) (hw _ (List.mem_of_getElem? (i := 33) rfl)) (hw _ (List.mem_of_getElem? (i := 34) rfl)) hE152 (g := (mkF m 110 #[.val (.int t1), .val (.int t2), .val (.int c1), .val (.int c2), .val (.long od), .second, .val (.int sel), .val (.int u2), .val (.int v2), .val (.int o1), .val (.int o2), .val (.int kd), .val (.ref x148), .val (.ref x149), .val (.ref x151), .val .null, .unset, .unset, .unset, .unset, .unset, .unset] [])) rfl (hb hby at_110) (by decide) (by decide)
      obtain ⟨b198, g198⟩ : ∃ z, z = T151.heap.size := ⟨_, rfl⟩
      rw [← g198] at A198 D198 st198
      have sz198 : h0.size ≤ b198 := Nat.le_trans K151.1 (Nat.le_of_eq g198.symm)
      have ge198 : n0 ≤ b198 := Nat.le_trans (O151.1 ▸ O151.2.1) (Nat.le_of_eq g198.symm)
      have sn198 : Safe Z consts_1 T151.vm T151.heap b198 := Safe.new (Nat.le_of_eq g198.symm)
      have K198 : Keep h0 h198 [] := K151.ext E198
      have O198 : Old Z n0 h198 := O151.ext E198
      have sf199 : Safe Z consts_1 T151.vm h198 b198 := (Safe.ext E198 Cr151.1 sn198)
      have H198 : CHv Z consts_1 T151.vm h198 := Cr151.1.ext E198
      have C198 : CHr Z consts_1 s.vm h0 T151.vm h198 := C151.trans (CHr.ext E198 Cr151.1)
      have hk198 := Nat.le_trans hk151 E198.1
      have F198_text : Fld Z h198 b198 "com/example/data_roles/dataroles/policy/Mask" "text" "Ljava/lang/String;" .null := D198 (Or.inr (hw _ (List.mem_of_getElem? (i := 40) rfl))) (ty := (.object "java/lang/String")) (by decide)
      have F198_condition : Fld Z h198 b198 "com/example/data_roles/dataroles/policy/Mask" "condition" "Ljava/lang/String;" .null := D198 (Or.inr (hw _ (List.mem_of_getElem? (i := 42) rfl))) (ty := (.object "java/lang/String")) (by decide)
      have F198_order : Fld Z h198 b198 "com/example/data_roles/dataroles/policy/Mask" "order" "I" (.int (0 : Int32)) := D198 (Or.inr (hw _ (List.mem_of_getElem? (i := 44) rfl))) (ty := .int) (by decide)
      refine Go.st st198 ?_
      show Go p.tables e below Kx T198 (mkF m 113 #[.val (.int t1), .val (.int t2), .val (.int c1), .val (.int c2), .val (.long od), .second, .val (.int sel), .val (.int u2), .val (.int v2), .val (.int o1), .val (.int o2), .val (.int kd), .val (.ref x148), .val (.ref x149), .val (.ref x151), .val .null, .unset, .unset, .unset, .unset, .unset, .unset] [(.ref b198)])
      refine s_dup (pc' := 114) X198.here hx (hb hby at_113) rfl rfl ?_
      refine s_aload (pc' := 116) X198.here hx (hb hby at_114) rfl rfl rfl ?_
      refine s_aload (pc' := 118) X198.here hx (hb hby at_116) rfl rfl rfl ?_
      refine s_iload (pc' := 120) X198.here hx (hb hby at_118) rfl rfl ?_
      obtain ⟨_, _, ⟨T200, L200, k200, n200⟩, -, X200, ⟨Lc200, hQ200, l200, y200, z200⟩, st200⟩ := X198.specialBack hx (y := (⟨"com/example/data_roles/dataroles/policy/Mask", "<init>", "(Ljava/lang/String;Ljava/lang/String;I)V"⟩ : MethodName)) rfl hown151 (mvT hZ151 (hw _ (List.mem_of_getElem? (i := 35) rfl))) (mvT hZ151 (hw _ (List.mem_of_getElem? (i := 36) rfl))) (mvT hZ151 (hw _ (List.mem_of_getElem? (i := 37) rfl))) (by decide) (backOf (W := 1) (rmI l Z a0 hw [] b198 x148 (.ref x151) o1 h198 n0 O198 rfl ge198 A198 F198_text F198_condition F198_order) hZ151 (hw _ (List.mem_of_getElem? (i := 37) rfl)) (hw _ (List.mem_of_getElem? (i := 34) rfl)) (by decide) (by decide)) (g := (mkF m 120 #[.val (.int t1), .val (.int t2), .val (.int c1), .val (.int c2), .val (.long od), .second, .val (.int sel), .val (.int u2), .val (.int v2), .val (.int o1), .val (.int o2), .val (.int kd), .val (.ref x148), .val (.ref x149), .val (.ref x151), .val .null, .unset, .unset, .unset, .unset, .unset, .unset] [(.int o1), (.ref x151), (.ref x148), (.ref b198), (.ref b198)])) rfl (by rw [hml]; rfl) (Steps.refl _) (a := b198) (argsL := [(.ref x148), (.ref x151), (.int o1)]) (rest := [(.ref b198)]) (lenOf pd_7 rfl) rfl (by show 2 * 0 + _ ≤ _; exact Nat.le_of_eq rfl) (hb hby at_120) (fun _ _ => ⟨rfl, e198, (by decide : 19 + 0 ≤ _), (by decide : 39 + 0 ≤ _)⟩)
      dsimp only [Pt.U, Pt.locs, Pt.cells, Pt.slots] at X200 l200 y200 z200 st200 hQ200
      subst l200 y200 z200
      obtain ⟨rfl, Nq200, Kq200, q1_200, q2_200, q3_200, q4_200⟩ := hQ200
      have N200 := Fr.app N152 Nq200
      have K200 : Keep h0 T200.heap [] := K198.trans Kq200 (allS (P := fun zz => zz ∈ [] ∨ h0.size ≤ zz) (Or.inr sz198) all0)
      have O200 : Old Z n0 T200.heap := O198.keep Kq200 (allS ge198 all0)
      have sf201 : Safe Z consts_1 T151.vm T200.heap b198 := (Safe.keep Kq200 (sfS sf199 sf0) H198 sf199)
      have H200 : CHv Z consts_1 T151.vm T200.heap := H198.keep Kq200 (sfS sf199 sf0)
      have C200 : CHr Z consts_1 s.vm h0 T151.vm T200.heap := C198.trans (CHr.keep Kq200 (sfS sf199 sf0) H198)
      have hk200 := Nat.le_trans hk198 Kq200.1
      refine Go.tr st200 ?_
      show Go p.tables e below Kx T200 (mkF m 123 #[.val (.int t1), .val (.int t2), .val (.int c1), .val (.int c2), .val (.long od), .second, .val (.int sel), .val (.int u2), .val (.int v2), .val (.int o1), .val (.int o2), .val (.int kd), .val (.ref x148), .val (.ref x149), .val (.ref x151), .val .null, .unset, .unset, .unset, .unset, .unset, .unset] [(.ref b198)])
      refine s_astore (pc' := 125) (Ls' := #[.val (.int t1), .val (.int t2), .val (.int c1), .val (.int c2), .val (.long od), .second, .val (.int sel), .val (.int u2), .val (.int v2), .val (.int o1), .val (.int o2), .val (.int kd), .val (.ref x148), .val (.ref x149), .val (.ref x151), .val .null, .val (.ref b198), .unset, .unset, .unset, .unset, .unset]) X200.here hx (hb hby at_123) rfl rfl rfl ?_
      obtain ⟨T202, h202, X202, e202, E202, A202, D202, -, st202⟩ := newO X200 hx hZ151 hown151 (hw _ (List.mem_of_getElem? (i := 32) rfl)) (hw _ (List.mem_of_getElem? (i := 33) rfl)) (hw _ (List.mem_of_getElem? (i := 34) rfl)) rfl (g := (mkF m 125 #[.val (.int t1), .val (.int t2), .val (.int c1), .val (.int c2), .val (.long od), .second, .val (.int sel), .val (.int u2), .val (.int v2), .val (.int o1), .val (.int o2), .val (.int kd), .val (.ref x148), .val (.ref x149), .val (.ref x151), .val .null, .val (.ref b198), .unset, .unset, .unset, .unset, .unset] [])) rfl (hb hby at_125) (by decide) (by decide)
      obtain ⟨b202, g202⟩ : ∃ z, z = T200.heap.size := ⟨_, rfl⟩
      rw [← g202] at A202 D202 st202
      have sz202 : h0.size ≤ b202 := Nat.le_trans K200.1 (Nat.le_of_eq g202.symm)
      have ge202 : n0 ≤ b202 := Nat.le_trans (O200.1 ▸ O200.2.1) (Nat.le_of_eq g202.symm)
      have sn202 : Safe Z consts_1 T151.vm T200.heap b202 := Safe.new (Nat.le_of_eq g202.symm)
      have K202 : Keep h0 h202 [] := K200.ext E202
      have O202 : Old Z n0 h202 := O200.ext E202
      have sf203 : Safe Z consts_1 T151.vm h202 b198 := (Safe.ext E202 H200 sf201)
      have sf204 : Safe Z consts_1 T151.vm h202 b202 := (Safe.ext E202 H200 sn202)
      have H202 : CHv Z consts_1 T151.vm h202 := H200.ext E202
      have C202 : CHr Z consts_1 s.vm h0 T151.vm h202 := C200.trans (CHr.ext E202 H200)
      have hk202 := Nat.le_trans hk200 E202.1
      have F202_text : Fld Z h202 b202 "com/example/data_roles/dataroles/policy/Mask" "text" "Ljava/lang/String;" .null := D202 (Or.inr (hw _ (List.mem_of_getElem? (i := 40) rfl))) (ty := (.object "java/lang/String")) (by decide)
      have F202_condition : Fld Z h202 b202 "com/example/data_roles/dataroles/policy/Mask" "condition" "Ljava/lang/String;" .null := D202 (Or.inr (hw _ (List.mem_of_getElem? (i := 42) rfl))) (ty := (.object "java/lang/String")) (by decide)
      have F202_order : Fld Z h202 b202 "com/example/data_roles/dataroles/policy/Mask" "order" "I" (.int (0 : Int32)) := D202 (Or.inr (hw _ (List.mem_of_getElem? (i := 44) rfl))) (ty := .int) (by decide)
      refine Go.st st202 ?_
      show Go p.tables e below Kx T202 (mkF m 128 #[.val (.int t1), .val (.int t2), .val (.int c1), .val (.int c2), .val (.long od), .second, .val (.int sel), .val (.int u2), .val (.int v2), .val (.int o1), .val (.int o2), .val (.int kd), .val (.ref x148), .val (.ref x149), .val (.ref x151), .val .null, .val (.ref b198), .unset, .unset, .unset, .unset, .unset] [(.ref b202)])
      refine s_dup (pc' := 129) X202.here hx (hb hby at_128) rfl rfl ?_
      refine s_aload (pc' := 131) X202.here hx (hb hby at_129) rfl rfl rfl ?_
      refine s_aload (pc' := 133) X202.here hx (hb hby at_131) rfl rfl rfl ?_
      refine s_iload (pc' := 135) X202.here hx (hb hby at_133) rfl rfl ?_
      obtain ⟨_, _, ⟨T205, L205, k205, n205⟩, -, X205, ⟨Lc205, hQ205, l205, y205, z205⟩, st205⟩ := X202.specialBack hx (y := (⟨"com/example/data_roles/dataroles/policy/Mask", "<init>", "(Ljava/lang/String;Ljava/lang/String;I)V"⟩ : MethodName)) rfl hown151 (mvT hZ151 (hw _ (List.mem_of_getElem? (i := 35) rfl))) (mvT hZ151 (hw _ (List.mem_of_getElem? (i := 36) rfl))) (mvT hZ151 (hw _ (List.mem_of_getElem? (i := 37) rfl))) (by decide) (backOf (W := 1) (rmI l Z a0 hw [] b202 x149 .null o2 h202 n0 O202 rfl ge202 A202 F202_text F202_condition F202_order) hZ151 (hw _ (List.mem_of_getElem? (i := 37) rfl)) (hw _ (List.mem_of_getElem? (i := 34) rfl)) (by decide) (by decide)) (g := (mkF m 135 #[.val (.int t1), .val (.int t2), .val (.int c1), .val (.int c2), .val (.long od), .second, .val (.int sel), .val (.int u2), .val (.int v2), .val (.int o1), .val (.int o2), .val (.int kd), .val (.ref x148), .val (.ref x149), .val (.ref x151), .val .null, .val (.ref b198), .unset, .unset, .unset, .unset, .unset] [(.int o2), .null, (.ref x149), (.ref b202), (.ref b202)])) rfl (by rw [hml]; rfl) (Steps.refl _) (a := b202) (argsL := [(.ref x149), .null, (.int o2)]) (rest := [(.ref b202)]) (lenOf pd_7 rfl) rfl (by show 2 * 0 + _ ≤ _; exact Nat.le_of_eq rfl) (hb hby at_135) (fun _ _ => ⟨rfl, e202, (by decide : 20 + 0 ≤ _), (by decide : 42 + 0 ≤ _)⟩)
      dsimp only [Pt.U, Pt.locs, Pt.cells, Pt.slots] at X205 l205 y205 z205 st205 hQ205
      subst l205 y205 z205
      obtain ⟨rfl, Nq205, Kq205, q1_205, q2_205, q3_205, q4_205⟩ := hQ205
      have N205 := Fr.app N200 Nq205
      have K205 : Keep h0 T205.heap [] := K202.trans Kq205 (allS (P := fun zz => zz ∈ [] ∨ h0.size ≤ zz) (Or.inr sz202) all0)
      have O205 : Old Z n0 T205.heap := O202.keep Kq205 (allS ge202 all0)
      have sf206 : Safe Z consts_1 T151.vm T205.heap b198 := (Safe.keep Kq205 (sfS sf204 sf0) H202 sf203)
      have sf207 : Safe Z consts_1 T151.vm T205.heap b202 := (Safe.keep Kq205 (sfS sf204 sf0) H202 sf204)
      have H205 : CHv Z consts_1 T151.vm T205.heap := H202.keep Kq205 (sfS sf204 sf0)
      have C205 : CHr Z consts_1 s.vm h0 T151.vm T205.heap := C202.trans (CHr.keep Kq205 (sfS sf204 sf0) H202)
      have hk205 := Nat.le_trans hk202 Kq205.1
      refine Go.tr st205 ?_
      show Go p.tables e below Kx T205 (mkF m 138 #[.val (.int t1), .val (.int t2), .val (.int c1), .val (.int c2), .val (.long od), .second, .val (.int sel), .val (.int u2), .val (.int v2), .val (.int o1), .val (.int o2), .val (.int kd), .val (.ref x148), .val (.ref x149), .val (.ref x151), .val .null, .val (.ref b198), .unset, .unset, .unset, .unset, .unset] [(.ref b202)])
      refine s_astore (pc' := 140) (Ls' := #[.val (.int t1), .val (.int t2), .val (.int c1), .val (.int c2), .val (.long od), .second, .val (.int sel), .val (.int u2), .val (.int v2), .val (.int o1), .val (.int o2), .val (.int kd), .val (.ref x148), .val (.ref x149), .val (.ref x151), .val .null, .val (.ref b198), .val (.ref b202), .unset, .unset, .unset, .unset]) X205.here hx (hb hby at_138) rfl rfl rfl ?_
      refine s_iloadN (pc' := 141) X205.here hx (hb hby at_140) rfl rfl ?_
      obtain ⟨_, _, ⟨T208, L208, k208, n208⟩, -, X208, ⟨Lc208, hQ208, l208, y208, z208⟩, st208⟩ := Jvm.LawKit.callS X205 hx (y := (⟨"com/example/data_roles/dataroles/policy/MaskEqualsPinLaw", "isNull", "(I)Z"⟩ : MethodName)) hown151 (mvT hZ151 (hw _ (List.mem_of_getElem? (i := 29) rfl))) (mvT hZ151 (hw _ (List.mem_of_getElem? (i := 30) rfl))) (mvT hZ151 (hw _ (List.mem_of_getElem? (i := 2) rfl))) (mvT hZ151 (hw _ (List.mem_of_getElem? (i := 31) rfl))) (by decide) (backOf (W := 0) (rmU l Z a0 hw [] c1 T205.heap n0 O205 ) hZ151 (hw _ (List.mem_of_getElem? (i := 31) rfl)) (hw _ (List.mem_of_getElem? (i := 2) rfl)) (by decide) (by decide)) (g := (mkF m 141 #[.val (.int t1), .val (.int t2), .val (.int c1), .val (.int c2), .val (.long od), .second, .val (.int sel), .val (.int u2), .val (.int v2), .val (.int o1), .val (.int o2), .val (.int kd), .val (.ref x148), .val (.ref x149), .val (.ref x151), .val .null, .val (.ref b198), .val (.ref b202), .unset, .unset, .unset, .unset] [(.int c1)])) rfl (by rw [hml]; rfl) (argsL := [(.int c1)]) (rest := []) (lenOf pd_6 rfl) rfl (by show 2 * 0 + _ ≤ _; exact Nat.le_of_eq rfl) (hb hby at_141) (fun _ _ => ⟨rfl, rfl, (by decide : 20 + 0 ≤ _), (by decide : 42 + 0 ≤ _)⟩)
      dsimp only [Pt.U, Pt.locs, Pt.cells, Pt.slots] at X208 l208 y208 z208 st208 hQ208
      subst l208 y208 z208
      obtain ⟨⟨r208, rfl, hr208⟩, Nq208, hE208⟩ := hQ208
      have hr208 : r208 = 0 := by
        rcases hr208 with ⟨q, z⟩ | ⟨q, z⟩
        · exact q
        · exact absurd hr150 z
      subst hr208
      have N208 := Fr.app N205 Nq208
      refine Go.st st208 ?_
      show Go p.tables e below Kx T208 (mkF m 144 #[.val (.int t1), .val (.int t2), .val (.int c1), .val (.int c2), .val (.long od), .second, .val (.int sel), .val (.int u2), .val (.int v2), .val (.int o1), .val (.int o2), .val (.int kd), .val (.ref x148), .val (.ref x149), .val (.ref x151), .val .null, .val (.ref b198), .val (.ref b202), .unset, .unset, .unset, .unset] [(.int (0 : Int32))])
      refine s_ifY (pc' := 151) X208.here hx (hb hby at_144) ((if0 _ _).trans (teq (by decide)).1) (by decide) (by decide) ?_
      refine s_iloadN (pc' := 152) X208.here hx (hb hby at_151) rfl rfl ?_
      obtain ⟨_, _, ⟨T209, L209, k209, n209⟩, -, X209, ⟨Lc209, hQ209, l209, y209, z209⟩, st209⟩ := Jvm.LawKit.callS X208 hx (y := (⟨"com/example/data_roles/dataroles/policy/MaskEqualsPinLaw", "keyOf", "(I)I"⟩ : MethodName)) hown151 (mvT hZ151 (hw _ (List.mem_of_getElem? (i := 45) rfl))) (mvT hZ151 (hw _ (List.mem_of_getElem? (i := 46) rfl))) (mvT hZ151 (hw _ (List.mem_of_getElem? (i := 2) rfl))) (mvT hZ151 (hw _ (List.mem_of_getElem? (i := 47) rfl))) (by decide) (backOf (W := 0) (rmK l Z a0 hw [] c1 T205.heap n0 O205 ) hZ151 (hw _ (List.mem_of_getElem? (i := 47) rfl)) (hw _ (List.mem_of_getElem? (i := 2) rfl)) (by decide) (by decide)) (g := (mkF m 152 #[.val (.int t1), .val (.int t2), .val (.int c1), .val (.int c2), .val (.long od), .second, .val (.int sel), .val (.int u2), .val (.int v2), .val (.int o1), .val (.int o2), .val (.int kd), .val (.ref x148), .val (.ref x149), .val (.ref x151), .val .null, .val (.ref b198), .val (.ref b202), .unset, .unset, .unset, .unset] [(.int c1)])) rfl (by rw [hml]; rfl) (argsL := [(.int c1)]) (rest := []) (lenOf pd_1 rfl) rfl (by show 2 * 0 + _ ≤ _; exact Nat.le_of_eq rfl) (hb hby at_152) (fun _ _ => ⟨rfl, hE208, (by decide : 20 + 0 ≤ _), (by decide : 42 + 0 ≤ _)⟩)
      dsimp only [Pt.U, Pt.locs, Pt.cells, Pt.slots] at X209 l209 y209 z209 st209 hQ209
      subst l209 y209 z209
      obtain ⟨rfl, Nq209, hE209⟩ := hQ209
      have N209 := Fr.app N208 Nq209
      refine Go.st st209 ?_
      show Go p.tables e below Kx T209 (mkF m 155 #[.val (.int t1), .val (.int t2), .val (.int c1), .val (.int c2), .val (.long od), .second, .val (.int sel), .val (.int u2), .val (.int v2), .val (.int o1), .val (.int o2), .val (.int kd), .val (.ref x148), .val (.ref x149), .val (.ref x151), .val .null, .val (.ref b198), .val (.ref b202), .unset, .unset, .unset, .unset] [(.int (keyf c1))])
      refine s_istore (pc' := 157) (Ls' := #[.val (.int t1), .val (.int t2), .val (.int c1), .val (.int c2), .val (.long od), .second, .val (.int sel), .val (.int u2), .val (.int v2), .val (.int o1), .val (.int o2), .val (.int kd), .val (.ref x148), .val (.ref x149), .val (.ref x151), .val .null, .val (.ref b198), .val (.ref b202), .val (.int (keyf c1)), .unset, .unset, .unset]) X209.here hx (hb hby at_155) rfl  rfl ?_
      refine s_iload (pc' := 159) X209.here hx (hb hby at_157) rfl rfl ?_
      obtain ⟨_, _, ⟨T210, L210, k210, n210⟩, -, X210, ⟨Lc210, hQ210, l210, y210, z210⟩, st210⟩ := Jvm.LawKit.callS X209 hx (y := (⟨"com/example/data_roles/dataroles/policy/MaskEqualsPinLaw", "isNull", "(I)Z"⟩ : MethodName)) hown151 (mvT hZ151 (hw _ (List.mem_of_getElem? (i := 29) rfl))) (mvT hZ151 (hw _ (List.mem_of_getElem? (i := 30) rfl))) (mvT hZ151 (hw _ (List.mem_of_getElem? (i := 2) rfl))) (mvT hZ151 (hw _ (List.mem_of_getElem? (i := 31) rfl))) (by decide) (backOf (W := 0) (rmU l Z a0 hw [] v2 T205.heap n0 O205 ) hZ151 (hw _ (List.mem_of_getElem? (i := 31) rfl)) (hw _ (List.mem_of_getElem? (i := 2) rfl)) (by decide) (by decide)) (g := (mkF m 159 #[.val (.int t1), .val (.int t2), .val (.int c1), .val (.int c2), .val (.long od), .second, .val (.int sel), .val (.int u2), .val (.int v2), .val (.int o1), .val (.int o2), .val (.int kd), .val (.ref x148), .val (.ref x149), .val (.ref x151), .val .null, .val (.ref b198), .val (.ref b202), .val (.int (keyf c1)), .unset, .unset, .unset] [(.int v2)])) rfl (by rw [hml]; rfl) (argsL := [(.int v2)]) (rest := []) (lenOf pd_6 rfl) rfl (by show 2 * 0 + _ ≤ _; exact Nat.le_of_eq rfl) (hb hby at_159) (fun _ _ => ⟨rfl, hE209, (by decide : 20 + 0 ≤ _), (by decide : 42 + 0 ≤ _)⟩)
      dsimp only [Pt.U, Pt.locs, Pt.cells, Pt.slots] at X210 l210 y210 z210 st210 hQ210
      subst l210 y210 z210
      obtain ⟨⟨r210, rfl, hr210⟩, Nq210, hE210⟩ := hQ210
      have hr210 : r210 = 1 := by
        rcases hr210 with ⟨q, z⟩ | ⟨q, z⟩
        · exact absurd z hr152
        · exact q
      subst hr210
      have N210 := Fr.app N209 Nq210
      refine Go.st st210 ?_
      show Go p.tables e below Kx T210 (mkF m 162 #[.val (.int t1), .val (.int t2), .val (.int c1), .val (.int c2), .val (.long od), .second, .val (.int sel), .val (.int u2), .val (.int v2), .val (.int o1), .val (.int o2), .val (.int kd), .val (.ref x148), .val (.ref x149), .val (.ref x151), .val .null, .val (.ref b198), .val (.ref b202), .val (.int (keyf c1)), .unset, .unset, .unset] [(.int (1 : Int32))])
      refine s_ifN (pc' := 165) X210.here hx (hb hby at_162) rfl ((if0 _ _).trans (feq (by decide)).1) ?_
      refine s_iconst (pc' := 166) (v := (-1 : Int32)) X210.here hx (hb hby at_165) rfl rfl ?_
      refine s_goto (pc' := 174) X210.here hx (hb hby at_166) (by decide) (by decide) ?_
      refine s_istore (pc' := 176) (Ls' := #[.val (.int t1), .val (.int t2), .val (.int c1), .val (.int c2), .val (.long od), .second, .val (.int sel), .val (.int u2), .val (.int v2), .val (.int o1), .val (.int o2), .val (.int kd), .val (.ref x148), .val (.ref x149), .val (.ref x151), .val .null, .val (.ref b198), .val (.ref b202), .val (.int (keyf c1)), .val (.int (-1 : Int32)), .unset, .unset]) X210.here hx (hb hby at_174) rfl  rfl ?_
      refine s_iloadN (pc' := 177) X210.here hx (hb hby at_176) rfl rfl ?_
      obtain ⟨_, _, ⟨T211, L211, k211, n211⟩, -, X211, ⟨Lc211, hQ211, l211, y211, z211⟩, st211⟩ := Jvm.LawKit.callS X210 hx (y := (⟨"com/example/data_roles/dataroles/policy/MaskEqualsPinLaw", "keyOf", "(I)I"⟩ : MethodName)) hown151 (mvT hZ151 (hw _ (List.mem_of_getElem? (i := 45) rfl))) (mvT hZ151 (hw _ (List.mem_of_getElem? (i := 46) rfl))) (mvT hZ151 (hw _ (List.mem_of_getElem? (i := 2) rfl))) (mvT hZ151 (hw _ (List.mem_of_getElem? (i := 47) rfl))) (by decide) (backOf (W := 0) (rmK l Z a0 hw [] t1 T205.heap n0 O205 ) hZ151 (hw _ (List.mem_of_getElem? (i := 47) rfl)) (hw _ (List.mem_of_getElem? (i := 2) rfl)) (by decide) (by decide)) (g := (mkF m 177 #[.val (.int t1), .val (.int t2), .val (.int c1), .val (.int c2), .val (.long od), .second, .val (.int sel), .val (.int u2), .val (.int v2), .val (.int o1), .val (.int o2), .val (.int kd), .val (.ref x148), .val (.ref x149), .val (.ref x151), .val .null, .val (.ref b198), .val (.ref b202), .val (.int (keyf c1)), .val (.int (-1 : Int32)), .unset, .unset] [(.int t1)])) rfl (by rw [hml]; rfl) (argsL := [(.int t1)]) (rest := []) (lenOf pd_1 rfl) rfl (by show 2 * 0 + _ ≤ _; exact Nat.le_of_eq rfl) (hb hby at_177) (fun _ _ => ⟨rfl, hE210, (by decide : 20 + 0 ≤ _), (by decide : 42 + 0 ≤ _)⟩)
      dsimp only [Pt.U, Pt.locs, Pt.cells, Pt.slots] at X211 l211 y211 z211 st211 hQ211
      subst l211 y211 z211
      obtain ⟨rfl, Nq211, hE211⟩ := hQ211
      have N211 := Fr.app N210 Nq211
      refine Go.st st211 ?_
      show Go p.tables e below Kx T211 (mkF m 180 #[.val (.int t1), .val (.int t2), .val (.int c1), .val (.int c2), .val (.long od), .second, .val (.int sel), .val (.int u2), .val (.int v2), .val (.int o1), .val (.int o2), .val (.int kd), .val (.ref x148), .val (.ref x149), .val (.ref x151), .val .null, .val (.ref b198), .val (.ref b202), .val (.int (keyf c1)), .val (.int (-1 : Int32)), .unset, .unset] [(.int (keyf t1))])
      refine s_iload (pc' := 182) X211.here hx (hb hby at_180) rfl rfl ?_
      obtain ⟨_, _, ⟨T212, L212, k212, n212⟩, -, X212, ⟨Lc212, hQ212, l212, y212, z212⟩, st212⟩ := Jvm.LawKit.callS X211 hx (y := (⟨"com/example/data_roles/dataroles/policy/MaskEqualsPinLaw", "keyOf", "(I)I"⟩ : MethodName)) hown151 (mvT hZ151 (hw _ (List.mem_of_getElem? (i := 45) rfl))) (mvT hZ151 (hw _ (List.mem_of_getElem? (i := 46) rfl))) (mvT hZ151 (hw _ (List.mem_of_getElem? (i := 2) rfl))) (mvT hZ151 (hw _ (List.mem_of_getElem? (i := 47) rfl))) (by decide) (backOf (W := 1) (rmK l Z a0 hw [] u2 T205.heap n0 O205 ) hZ151 (hw _ (List.mem_of_getElem? (i := 47) rfl)) (hw _ (List.mem_of_getElem? (i := 2) rfl)) (by decide) (by decide)) (g := (mkF m 182 #[.val (.int t1), .val (.int t2), .val (.int c1), .val (.int c2), .val (.long od), .second, .val (.int sel), .val (.int u2), .val (.int v2), .val (.int o1), .val (.int o2), .val (.int kd), .val (.ref x148), .val (.ref x149), .val (.ref x151), .val .null, .val (.ref b198), .val (.ref b202), .val (.int (keyf c1)), .val (.int (-1 : Int32)), .unset, .unset] [(.int u2), (.int (keyf t1))])) rfl (by rw [hml]; rfl) (argsL := [(.int u2)]) (rest := [(.int (keyf t1))]) (lenOf pd_1 rfl) rfl (by show 2 * 0 + _ ≤ _; exact Nat.le_of_eq rfl) (hb hby at_182) (fun _ _ => ⟨rfl, hE211, (by decide : 20 + 0 ≤ _), (by decide : 42 + 0 ≤ _)⟩)
      dsimp only [Pt.U, Pt.locs, Pt.cells, Pt.slots] at X212 l212 y212 z212 st212 hQ212
      subst l212 y212 z212
      obtain ⟨rfl, Nq212, hE212⟩ := hQ212
      have N212 := Fr.app N211 Nq212
      refine Go.st st212 ?_
      show Go p.tables e below Kx T212 (mkF m 185 #[.val (.int t1), .val (.int t2), .val (.int c1), .val (.int c2), .val (.long od), .second, .val (.int sel), .val (.int u2), .val (.int v2), .val (.int o1), .val (.int o2), .val (.int kd), .val (.ref x148), .val (.ref x149), .val (.ref x151), .val .null, .val (.ref b198), .val (.ref b202), .val (.int (keyf c1)), .val (.int (-1 : Int32)), .unset, .unset] [(.int (keyf u2)), (.int (keyf t1))])
      have J207 : ∀ (sm : Int32) (TJ207 : State) (LJ207 : List Loc), Stand p l e room_1 (s.setVm T151.vm) m #[(.int t1), (.int t2), (.int c1), (.int c2), (.long od), (.int sel)] below meth c TJ207 LJ207 20 42 → Fr n0 LJ207 → TJ207.heap = T205.heap → ((sm = 1 ∧ (txt t1 = txt u2 ∧ False ∧ o1 = o2)) ∨ (sm = 0 ∧ ¬ (txt t1 = txt u2 ∧ False ∧ o1 = o2))) → Go p.tables e below Kx TJ207 (mkF m 207 #[.val (.int t1), .val (.int t2), .val (.int c1), .val (.int c2), .val (.long od), .second, .val (.int sel), .val (.int u2), .val (.int v2), .val (.int o1), .val (.int o2), .val (.int kd), .val (.ref x148), .val (.ref x149), .val (.ref x151), .val .null, .val (.ref b198), .val (.ref b202), .val (.int (keyf c1)), .val (.int (-1 : Int32)), .unset, .unset] [(.int sm)]) := by
        intro sm TJ207 LJ207 XJ207 NJ207 eJ207 hsm
        have hex1 : ∀ r : Int32, ((r = 1 ∧ (txt t1 = txt u2 ∧ False ∧ o1 = o2)) ∨ (r = 0 ∧ ¬ (txt t1 = txt u2 ∧ False ∧ o1 = o2))) → r = sm := fun r hr => ex_one hsm hr
        have hex2 : ∀ r : Int32, ((r = 1 ∧ (txt u2 = txt t1 ∧ False ∧ o2 = o1)) ∨ (r = 0 ∧ ¬ (txt u2 = txt t1 ∧ False ∧ o2 = o1))) → r = sm := fun r hr => ex_one hsm (by rw [eq_comm (a := txt t1), eq_comm (a := o1)]; exact hr)
        refine s_istore (pc' := 209) (Ls' := #[.val (.int t1), .val (.int t2), .val (.int c1), .val (.int c2), .val (.long od), .second, .val (.int sel), .val (.int u2), .val (.int v2), .val (.int o1), .val (.int o2), .val (.int kd), .val (.ref x148), .val (.ref x149), .val (.ref x151), .val .null, .val (.ref b198), .val (.ref b202), .val (.int (keyf c1)), .val (.int (-1 : Int32)), .val (.int sm), .unset]) XJ207.here hx (hb hby at_207) rfl  rfl ?_
        refine s_iload (pc' := 211) XJ207.here hx (hb hby at_209) rfl rfl ?_
        by_cases hc213 : kd = (0 : Int32)
        · skip
          refine s_ifN (pc' := 214) XJ207.here hx (hb hby at_211) rfl ((if0 _ _).trans (teq hc213).2) ?_
          refine s_aload (pc' := 216) XJ207.here hx (hb hby at_214) rfl rfl rfl ?_
          refine s_aload (pc' := 218) XJ207.here hx (hb hby at_216) rfl rfl rfl ?_
          have f214 : Str Z T205.heap T148.heap.size x148 (txt t1) := ((((((Sq148.keep Kq149 all0).keep Kq151 all0).ext E198).keep Kq200 (allS (Nat.le_trans (Nat.le_trans Kq149.1 Kq151.1) (Nat.le_of_eq g198.symm)) all0)).ext E202).keep Kq205 (allS (Nat.le_trans (Nat.le_trans (Nat.le_trans (Nat.le_trans Kq149.1 Kq151.1) E198.1) Kq200.1) (Nat.le_of_eq g202.symm)) all0))
          have f215 : Str Z T205.heap T149.heap.size x149 (txt u2) := (((((Sq149.keep Kq151 all0).ext E198).keep Kq200 (allS (Nat.le_trans Kq151.1 (Nat.le_of_eq g198.symm)) all0)).ext E202).keep Kq205 (allS (Nat.le_trans (Nat.le_trans (Nat.le_trans Kq151.1 E198.1) Kq200.1) (Nat.le_of_eq g202.symm)) all0))
          have f216 : Str Z T205.heap T151.heap.size x151 (txt c1) := ((((Sq151.ext E198).keep Kq200 (allS (Nat.le_of_eq g198.symm) all0)).ext E202).keep Kq205 (allS (Nat.le_trans (Nat.le_trans E198.1 Kq200.1) (Nat.le_of_eq g202.symm)) all0))
          have f217 : Exa Z T205.heap b198 "com/example/data_roles/dataroles/policy/Mask" := ((q1_200.ext E202).keep Kq205)
          have f218 : Fld Z T205.heap b198 "com/example/data_roles/dataroles/policy/Mask" "text" "Ljava/lang/String;" (.ref x148) := ((q2_200.ext E202).keep Kq205 (ninS (Nat.ne_of_lt (Nat.lt_of_lt_of_le (Nat.lt_of_lt_of_le A198.lt Kq200.1) (Nat.le_of_eq g202.symm))) nin0))
          have f219 : Fld Z T205.heap b198 "com/example/data_roles/dataroles/policy/Mask" "condition" "Ljava/lang/String;" (.ref x151) := ((q3_200.ext E202).keep Kq205 (ninS (Nat.ne_of_lt (Nat.lt_of_lt_of_le (Nat.lt_of_lt_of_le A198.lt Kq200.1) (Nat.le_of_eq g202.symm))) nin0))
          have f220 : Fld Z T205.heap b198 "com/example/data_roles/dataroles/policy/Mask" "order" "I" (.int o1) := ((q4_200.ext E202).keep Kq205 (ninS (Nat.ne_of_lt (Nat.lt_of_lt_of_le (Nat.lt_of_lt_of_le A198.lt Kq200.1) (Nat.le_of_eq g202.symm))) nin0))
          obtain ⟨cq221, kq221, q221a, q221b, q221c⟩ := isOf hZ151 eJ207 f217
          obtain ⟨_, _, ⟨T221, L221, k221, n221⟩, -, X221, ⟨Lc221, hQ221, l221, y221, z221⟩, st221⟩ := XJ207.virtualBack hx (y := (⟨"com/example/data_roles/dataroles/policy/Mask", "equals", "(Ljava/lang/Object;)Z"⟩ : MethodName)) (z := (⟨"com/example/data_roles/dataroles/policy/Mask", "equals", "(Ljava/lang/Object;)Z"⟩ : MethodName)) hown151 (mvT hZ151 (hw _ (List.mem_of_getElem? (i := 48) rfl))) (mvT hZ151 (hw _ (List.mem_of_getElem? (i := 49) rfl))) (notFace_of_selects (args := #[]) (mvT hZ151 (hw _ (List.mem_of_getElem? (i := 51) rfl)))) (mvT hZ151 (hw _ (List.mem_of_getElem? (i := 51) rfl))) (mvT hZ151 (hw _ (List.mem_of_getElem? (i := 50) rfl))) (by decide) (backOf (W := 0) (rmQ210 l Z a0 hw [] b198 b202 x148 x149 _ _ (txt t1) (txt u2) o1 o2 x151 _ (txt c1) T205.heap n0 O205 G1 S1 P1 f217 f218 f219 f220 q1_205 q2_205 q3_205 q4_205 f214 f215 f216) hZ151 (hw _ (List.mem_of_getElem? (i := 52) rfl)) (hw _ (List.mem_of_getElem? (i := 34) rfl)) (by decide) (by decide)) q221a q221c (g := (mkF m 218 #[.val (.int t1), .val (.int t2), .val (.int c1), .val (.int c2), .val (.long od), .second, .val (.int sel), .val (.int u2), .val (.int v2), .val (.int o1), .val (.int o2), .val (.int kd), .val (.ref x148), .val (.ref x149), .val (.ref x151), .val .null, .val (.ref b198), .val (.ref b202), .val (.int (keyf c1)), .val (.int (-1 : Int32)), .val (.int sm), .unset] [(.ref b202), (.ref b198)])) rfl (by rw [hml]; rfl) (Steps.refl _) (argsL := [(.ref b202)]) (rest := []) (lenOf pd_3 rfl) rfl (by show 2 * 0 + _ ≤ _; exact Nat.le_of_eq rfl) (hb hby at_218) (fun _ _ => ⟨rfl, eJ207, (by decide : 20 + 0 ≤ _), (by decide : 42 + 0 ≤ _)⟩)
          dsimp only [Pt.U, Pt.locs, Pt.cells, Pt.slots] at X221 l221 y221 z221 st221 hQ221
          subst l221 y221 z221
          obtain ⟨⟨r221, rfl, hr221⟩, Nq221, hE221⟩ := hQ221
          have hr221 : sm = r221 := (hex1 _ hr221).symm
          subst hr221
          have N221 := Fr.app NJ207 Nq221
          refine Go.tr st221 ?_
          show Go p.tables e below Kx T221 (mkF m 221 #[.val (.int t1), .val (.int t2), .val (.int c1), .val (.int c2), .val (.long od), .second, .val (.int sel), .val (.int u2), .val (.int v2), .val (.int o1), .val (.int o2), .val (.int kd), .val (.ref x148), .val (.ref x149), .val (.ref x151), .val .null, .val (.ref b198), .val (.ref b202), .val (.int (keyf c1)), .val (.int (-1 : Int32)), .val (.int sm), .unset] [(.int sm)])
          refine s_iload (pc' := 223) X221.here hx (hb hby at_221) rfl rfl ?_
          refine s_icmpN (pc' := 226) X221.here hx (hb hby at_223) rfl (teq rfl).2 ?_
          refine s_aload (pc' := 228) X221.here hx (hb hby at_226) rfl rfl rfl ?_
          refine s_aload (pc' := 230) X221.here hx (hb hby at_228) rfl rfl rfl ?_
          obtain ⟨cq222, kq222, q222a, q222b, q222c⟩ := isOf hZ151 hE221 q1_205
          obtain ⟨_, _, ⟨T222, L222, k222, n222⟩, -, X222, ⟨Lc222, hQ222, l222, y222, z222⟩, st222⟩ := X221.virtualBack hx (y := (⟨"com/example/data_roles/dataroles/policy/Mask", "equals", "(Ljava/lang/Object;)Z"⟩ : MethodName)) (z := (⟨"com/example/data_roles/dataroles/policy/Mask", "equals", "(Ljava/lang/Object;)Z"⟩ : MethodName)) hown151 (mvT hZ151 (hw _ (List.mem_of_getElem? (i := 48) rfl))) (mvT hZ151 (hw _ (List.mem_of_getElem? (i := 49) rfl))) (notFace_of_selects (args := #[]) (mvT hZ151 (hw _ (List.mem_of_getElem? (i := 51) rfl)))) (mvT hZ151 (hw _ (List.mem_of_getElem? (i := 51) rfl))) (mvT hZ151 (hw _ (List.mem_of_getElem? (i := 50) rfl))) (by decide) (backOf (W := 0) (rmQ201 l Z a0 hw [] b202 b198 x149 x148 _ _ (txt u2) (txt t1) o2 o1 x151 _ (txt c1) T205.heap n0 O205 G1 S1 P1 q1_205 q2_205 q3_205 q4_205 f217 f218 f219 f220 f215 f214 f216) hZ151 (hw _ (List.mem_of_getElem? (i := 52) rfl)) (hw _ (List.mem_of_getElem? (i := 34) rfl)) (by decide) (by decide)) q222a q222c (g := (mkF m 230 #[.val (.int t1), .val (.int t2), .val (.int c1), .val (.int c2), .val (.long od), .second, .val (.int sel), .val (.int u2), .val (.int v2), .val (.int o1), .val (.int o2), .val (.int kd), .val (.ref x148), .val (.ref x149), .val (.ref x151), .val .null, .val (.ref b198), .val (.ref b202), .val (.int (keyf c1)), .val (.int (-1 : Int32)), .val (.int sm), .unset] [(.ref b198), (.ref b202)])) rfl (by rw [hml]; rfl) (Steps.refl _) (argsL := [(.ref b198)]) (rest := []) (lenOf pd_3 rfl) rfl (by show 2 * 0 + _ ≤ _; exact Nat.le_of_eq rfl) (hb hby at_230) (fun _ _ => ⟨rfl, hE221, (by decide : 20 + 0 ≤ _), (by decide : 42 + 0 ≤ _)⟩)
          dsimp only [Pt.U, Pt.locs, Pt.cells, Pt.slots] at X222 l222 y222 z222 st222 hQ222
          subst l222 y222 z222
          obtain ⟨⟨r222, rfl, hr222⟩, Nq222, hE222⟩ := hQ222
          have hr222 : sm = r222 := (hex2 _ hr222).symm
          subst hr222
          have N222 := Fr.app N221 Nq222
          refine Go.tr st222 ?_
          show Go p.tables e below Kx T222 (mkF m 233 #[.val (.int t1), .val (.int t2), .val (.int c1), .val (.int c2), .val (.long od), .second, .val (.int sel), .val (.int u2), .val (.int v2), .val (.int o1), .val (.int o2), .val (.int kd), .val (.ref x148), .val (.ref x149), .val (.ref x151), .val .null, .val (.ref b198), .val (.ref b202), .val (.int (keyf c1)), .val (.int (-1 : Int32)), .val (.int sm), .unset] [(.int sm)])
          refine s_iload (pc' := 235) X222.here hx (hb hby at_233) rfl rfl ?_
          refine s_icmpN (pc' := 238) X222.here hx (hb hby at_235) rfl (teq rfl).2 ?_
          refine s_iconst (pc' := 239) (v := (1 : Int32)) X222.here hx (hb hby at_238) rfl rfl ?_
          refine s_goto (pc' := 243) X222.here hx (hb hby at_239) (by decide) (by decide) ?_
          obtain ⟨fs, hr, hrun, hended, hRW⟩ := X222.leaveW hS151 (by rw [hE222]; exact hk205) (v := (some (.int (1 : Int32)))) (fun h => by rw [Bd.returns] at h; cases h)
          have hCx := C205.trans (CHv.at X222 hZ151 hEL H205)
          refine Go.fin (retN X222 hx (t := .boolean) Bd.returns (by simp) (hb hby at_243) hr) (hF _ _ hrun hended ⟨_, _, rfl, ?_, ?_, hRW.1, hRW.2.1, hRW.2.2.1, hRW.2.2.2.mono (by decide) (by decide)⟩)
          · show QL Z t1 t2 c1 c2 od sel h0 n0 ((some (.int (1 : Int32))) : Option Value) T222.heap _
            rw [hE222]
            exact ⟨rfl, N222⟩
          · show CHr Z consts_1 s.vm s.heap T222.vm T222.heap
            rw [hE222, hh]; exact hCx
        · skip
          refine s_ifY (pc' := 244) XJ207.here hx (hb hby at_211) ((if0 _ _).trans (feq hc213).2) (by decide) (by decide) ?_
          refine s_iload (pc' := 246) XJ207.here hx (hb hby at_244) rfl rfl ?_
          refine s_iconst (pc' := 247) (v := (1 : Int32)) XJ207.here hx (hb hby at_246) rfl rfl ?_
          by_cases hc223 : kd = (1 : Int32)
          · skip
            refine s_icmpN (pc' := 250) XJ207.here hx (hb hby at_247) rfl (teq hc223).2 ?_
            refine s_aload (pc' := 252) XJ207.here hx (hb hby at_250) rfl rfl rfl ?_
            refine s_aconst_null (pc' := 253) XJ207.here hx (hb hby at_252) rfl ?_
            have f225 : Exa Z T205.heap b198 "com/example/data_roles/dataroles/policy/Mask" := ((q1_200.ext E202).keep Kq205)
            obtain ⟨cq224, kq224, q224a, q224b, q224c⟩ := isOf hZ151 eJ207 f225
            obtain ⟨_, _, ⟨T224, L224, k224, n224⟩, -, X224, ⟨Lc224, hQ224, l224, y224, z224⟩, st224⟩ := XJ207.virtualBack hx (y := (⟨"com/example/data_roles/dataroles/policy/Mask", "equals", "(Ljava/lang/Object;)Z"⟩ : MethodName)) (z := (⟨"com/example/data_roles/dataroles/policy/Mask", "equals", "(Ljava/lang/Object;)Z"⟩ : MethodName)) hown151 (mvT hZ151 (hw _ (List.mem_of_getElem? (i := 48) rfl))) (mvT hZ151 (hw _ (List.mem_of_getElem? (i := 49) rfl))) (notFace_of_selects (args := #[]) (mvT hZ151 (hw _ (List.mem_of_getElem? (i := 51) rfl)))) (mvT hZ151 (hw _ (List.mem_of_getElem? (i := 51) rfl))) (mvT hZ151 (hw _ (List.mem_of_getElem? (i := 50) rfl))) (by decide) (backOf (W := 0) (rmQ0 l Z a0 hw [] b198 T205.heap n0 O205 ) hZ151 (hw _ (List.mem_of_getElem? (i := 52) rfl)) (hw _ (List.mem_of_getElem? (i := 34) rfl)) (by decide) (by decide)) q224a q224c (g := (mkF m 253 #[.val (.int t1), .val (.int t2), .val (.int c1), .val (.int c2), .val (.long od), .second, .val (.int sel), .val (.int u2), .val (.int v2), .val (.int o1), .val (.int o2), .val (.int kd), .val (.ref x148), .val (.ref x149), .val (.ref x151), .val .null, .val (.ref b198), .val (.ref b202), .val (.int (keyf c1)), .val (.int (-1 : Int32)), .val (.int sm), .unset] [.null, (.ref b198)])) rfl (by rw [hml]; rfl) (Steps.refl _) (argsL := [.null]) (rest := []) (lenOf pd_3 rfl) rfl (by show 2 * 0 + _ ≤ _; exact Nat.le_of_eq rfl) (hb hby at_253) (fun _ _ => ⟨rfl, eJ207, (by decide : 20 + 0 ≤ _), (by decide : 42 + 0 ≤ _)⟩)
            dsimp only [Pt.U, Pt.locs, Pt.cells, Pt.slots] at X224 l224 y224 z224 st224 hQ224
            subst l224 y224 z224
            obtain ⟨rfl, Nq224, hE224⟩ := hQ224
            have N224 := Fr.app NJ207 Nq224
            refine Go.tr st224 ?_
            show Go p.tables e below Kx T224 (mkF m 256 #[.val (.int t1), .val (.int t2), .val (.int c1), .val (.int c2), .val (.long od), .second, .val (.int sel), .val (.int u2), .val (.int v2), .val (.int o1), .val (.int o2), .val (.int kd), .val (.ref x148), .val (.ref x149), .val (.ref x151), .val .null, .val (.ref b198), .val (.ref b202), .val (.int (keyf c1)), .val (.int (-1 : Int32)), .val (.int sm), .unset] [(.int (0 : Int32))])
            refine s_ifN (pc' := 259) X224.here hx (hb hby at_256) rfl ((if0 _ _).trans (teq (by decide)).2) ?_
            refine s_iconst (pc' := 260) (v := (1 : Int32)) X224.here hx (hb hby at_259) rfl rfl ?_
            refine s_goto (pc' := 264) X224.here hx (hb hby at_260) (by decide) (by decide) ?_
            obtain ⟨fs, hr, hrun, hended, hRW⟩ := X224.leaveW hS151 (by rw [hE224]; exact hk205) (v := (some (.int (1 : Int32)))) (fun h => by rw [Bd.returns] at h; cases h)
            have hCx := C205.trans (CHv.at X224 hZ151 hEL H205)
            refine Go.fin (retN X224 hx (t := .boolean) Bd.returns (by simp) (hb hby at_264) hr) (hF _ _ hrun hended ⟨_, _, rfl, ?_, ?_, hRW.1, hRW.2.1, hRW.2.2.1, hRW.2.2.2.mono (by decide) (by decide)⟩)
            · show QL Z t1 t2 c1 c2 od sel h0 n0 ((some (.int (1 : Int32))) : Option Value) T224.heap _
              rw [hE224]
              exact ⟨rfl, N224⟩
            · show CHr Z consts_1 s.vm s.heap T224.vm T224.heap
              rw [hE224, hh]; exact hCx
          · skip
            refine s_icmpY (pc' := 265) XJ207.here hx (hb hby at_247) (feq hc223).2 (by decide) (by decide) ?_
            refine s_iload (pc' := 267) XJ207.here hx (hb hby at_265) rfl rfl ?_
            refine s_iconst (pc' := 268) (v := (2 : Int32)) XJ207.here hx (hb hby at_267) rfl rfl ?_
            by_cases hc226 : kd = (2 : Int32)
            · skip
              refine s_icmpN (pc' := 271) XJ207.here hx (hb hby at_268) rfl (teq hc226).2 ?_
              refine s_aload (pc' := 273) XJ207.here hx (hb hby at_271) rfl rfl rfl ?_
              refine s_astore (pc' := 275) (Ls' := #[.val (.int t1), .val (.int t2), .val (.int c1), .val (.int c2), .val (.long od), .second, .val (.int sel), .val (.int u2), .val (.int v2), .val (.int o1), .val (.int o2), .val (.int kd), .val (.ref x148), .val (.ref x149), .val (.ref x151), .val .null, .val (.ref b198), .val (.ref b202), .val (.int (keyf c1)), .val (.int (-1 : Int32)), .val (.int sm), .val (.ref x149)]) XJ207.here hx (hb hby at_273) rfl rfl rfl ?_
              refine s_aload (pc' := 277) XJ207.here hx (hb hby at_275) rfl rfl rfl ?_
              refine s_aload (pc' := 279) XJ207.here hx (hb hby at_277) rfl rfl rfl ?_
              have f227 : Exa Z T205.heap x149 "java/lang/String" := (((((Sq149.2.1.keep Kq151).ext E198).keep Kq200).ext E202).keep Kq205)
              have f229 : Exa Z T205.heap b198 "com/example/data_roles/dataroles/policy/Mask" := ((q1_200.ext E202).keep Kq205)
              obtain ⟨cq228, kq228, q228a, q228b, q228c⟩ := isOf hZ151 eJ207 f229
              obtain ⟨_, _, ⟨T228, L228, k228, n228⟩, -, X228, ⟨Lc228, hQ228, l228, y228, z228⟩, st228⟩ := XJ207.virtualBack hx (y := (⟨"com/example/data_roles/dataroles/policy/Mask", "equals", "(Ljava/lang/Object;)Z"⟩ : MethodName)) (z := (⟨"com/example/data_roles/dataroles/policy/Mask", "equals", "(Ljava/lang/Object;)Z"⟩ : MethodName)) hown151 (mvT hZ151 (hw _ (List.mem_of_getElem? (i := 48) rfl))) (mvT hZ151 (hw _ (List.mem_of_getElem? (i := 49) rfl))) (notFace_of_selects (args := #[]) (mvT hZ151 (hw _ (List.mem_of_getElem? (i := 51) rfl)))) (mvT hZ151 (hw _ (List.mem_of_getElem? (i := 51) rfl))) (mvT hZ151 (hw _ (List.mem_of_getElem? (i := 50) rfl))) (by decide) (backOf (W := 0) (rmQ1 l Z a0 hw [] b198 x149 T205.heap n0 O205 f227) hZ151 (hw _ (List.mem_of_getElem? (i := 52) rfl)) (hw _ (List.mem_of_getElem? (i := 34) rfl)) (by decide) (by decide)) q228a q228c (g := (mkF m 279 #[.val (.int t1), .val (.int t2), .val (.int c1), .val (.int c2), .val (.long od), .second, .val (.int sel), .val (.int u2), .val (.int v2), .val (.int o1), .val (.int o2), .val (.int kd), .val (.ref x148), .val (.ref x149), .val (.ref x151), .val .null, .val (.ref b198), .val (.ref b202), .val (.int (keyf c1)), .val (.int (-1 : Int32)), .val (.int sm), .val (.ref x149)] [(.ref x149), (.ref b198)])) rfl (by rw [hml]; rfl) (Steps.refl _) (argsL := [(.ref x149)]) (rest := []) (lenOf pd_3 rfl) rfl (by show 2 * 0 + _ ≤ _; exact Nat.le_of_eq rfl) (hb hby at_279) (fun _ _ => ⟨rfl, eJ207, (by decide : 20 + 0 ≤ _), (by decide : 42 + 0 ≤ _)⟩)
              dsimp only [Pt.U, Pt.locs, Pt.cells, Pt.slots] at X228 l228 y228 z228 st228 hQ228
              subst l228 y228 z228
              obtain ⟨rfl, Nq228, hE228⟩ := hQ228
              have N228 := Fr.app NJ207 Nq228
              refine Go.tr st228 ?_
              show Go p.tables e below Kx T228 (mkF m 282 #[.val (.int t1), .val (.int t2), .val (.int c1), .val (.int c2), .val (.long od), .second, .val (.int sel), .val (.int u2), .val (.int v2), .val (.int o1), .val (.int o2), .val (.int kd), .val (.ref x148), .val (.ref x149), .val (.ref x151), .val .null, .val (.ref b198), .val (.ref b202), .val (.int (keyf c1)), .val (.int (-1 : Int32)), .val (.int sm), .val (.ref x149)] [(.int (0 : Int32))])
              refine s_ifN (pc' := 285) X228.here hx (hb hby at_282) rfl ((if0 _ _).trans (teq (by decide)).2) ?_
              refine s_iconst (pc' := 286) (v := (1 : Int32)) X228.here hx (hb hby at_285) rfl rfl ?_
              refine s_goto (pc' := 290) X228.here hx (hb hby at_286) (by decide) (by decide) ?_
              obtain ⟨fs, hr, hrun, hended, hRW⟩ := X228.leaveW hS151 (by rw [hE228]; exact hk205) (v := (some (.int (1 : Int32)))) (fun h => by rw [Bd.returns] at h; cases h)
              have hCx := C205.trans (CHv.at X228 hZ151 hEL H205)
              refine Go.fin (retN X228 hx (t := .boolean) Bd.returns (by simp) (hb hby at_290) hr) (hF _ _ hrun hended ⟨_, _, rfl, ?_, ?_, hRW.1, hRW.2.1, hRW.2.2.1, hRW.2.2.2.mono (by decide) (by decide)⟩)
              · show QL Z t1 t2 c1 c2 od sel h0 n0 ((some (.int (1 : Int32))) : Option Value) T228.heap _
                rw [hE228]
                exact ⟨rfl, N228⟩
              · show CHr Z consts_1 s.vm s.heap T228.vm T228.heap
                rw [hE228, hh]; exact hCx
            · skip
              refine s_icmpY (pc' := 291) XJ207.here hx (hb hby at_268) (feq hc226).2 (by decide) (by decide) ?_
              refine s_aload (pc' := 293) XJ207.here hx (hb hby at_291) rfl rfl rfl ?_
              refine s_aload (pc' := 295) XJ207.here hx (hb hby at_293) rfl rfl rfl ?_
              have f230 : Str Z T205.heap T148.heap.size x148 (txt t1) := ((((((Sq148.keep Kq149 all0).keep Kq151 all0).ext E198).keep Kq200 (allS (Nat.le_trans (Nat.le_trans Kq149.1 Kq151.1) (Nat.le_of_eq g198.symm)) all0)).ext E202).keep Kq205 (allS (Nat.le_trans (Nat.le_trans (Nat.le_trans (Nat.le_trans Kq149.1 Kq151.1) E198.1) Kq200.1) (Nat.le_of_eq g202.symm)) all0))
              have f231 : Str Z T205.heap T151.heap.size x151 (txt c1) := ((((Sq151.ext E198).keep Kq200 (allS (Nat.le_of_eq g198.symm) all0)).ext E202).keep Kq205 (allS (Nat.le_trans (Nat.le_trans E198.1 Kq200.1) (Nat.le_of_eq g202.symm)) all0))
              have f232 : Exa Z T205.heap b198 "com/example/data_roles/dataroles/policy/Mask" := ((q1_200.ext E202).keep Kq205)
              have f233 : Fld Z T205.heap b198 "com/example/data_roles/dataroles/policy/Mask" "text" "Ljava/lang/String;" (.ref x148) := ((q2_200.ext E202).keep Kq205 (ninS (Nat.ne_of_lt (Nat.lt_of_lt_of_le (Nat.lt_of_lt_of_le A198.lt Kq200.1) (Nat.le_of_eq g202.symm))) nin0))
              have f234 : Fld Z T205.heap b198 "com/example/data_roles/dataroles/policy/Mask" "condition" "Ljava/lang/String;" (.ref x151) := ((q3_200.ext E202).keep Kq205 (ninS (Nat.ne_of_lt (Nat.lt_of_lt_of_le (Nat.lt_of_lt_of_le A198.lt Kq200.1) (Nat.le_of_eq g202.symm))) nin0))
              have f235 : Fld Z T205.heap b198 "com/example/data_roles/dataroles/policy/Mask" "order" "I" (.int o1) := ((q4_200.ext E202).keep Kq205 (ninS (Nat.ne_of_lt (Nat.lt_of_lt_of_le (Nat.lt_of_lt_of_le A198.lt Kq200.1) (Nat.le_of_eq g202.symm))) nin0))
              obtain ⟨cq236, kq236, q236a, q236b, q236c⟩ := isOf hZ151 eJ207 f232
              obtain ⟨_, _, ⟨T236, L236, k236, n236⟩, -, X236, ⟨Lc236, hQ236, l236, y236, z236⟩, st236⟩ := XJ207.virtualBack hx (y := (⟨"com/example/data_roles/dataroles/policy/Mask", "equals", "(Ljava/lang/Object;)Z"⟩ : MethodName)) (z := (⟨"com/example/data_roles/dataroles/policy/Mask", "equals", "(Ljava/lang/Object;)Z"⟩ : MethodName)) hown151 (mvT hZ151 (hw _ (List.mem_of_getElem? (i := 48) rfl))) (mvT hZ151 (hw _ (List.mem_of_getElem? (i := 49) rfl))) (notFace_of_selects (args := #[]) (mvT hZ151 (hw _ (List.mem_of_getElem? (i := 51) rfl)))) (mvT hZ151 (hw _ (List.mem_of_getElem? (i := 51) rfl))) (mvT hZ151 (hw _ (List.mem_of_getElem? (i := 50) rfl))) (by decide) (backOf (W := 0) (rmQ211 l Z a0 hw [] b198 b198 x148 x148 _ _ (txt t1) (txt t1) o1 o1 x151 _ (txt c1) x151 _ (txt c1) T205.heap n0 O205 G1 S1 P1 f232 f233 f234 f235 f232 f233 f234 f235 f230 f230 f231 f231) hZ151 (hw _ (List.mem_of_getElem? (i := 52) rfl)) (hw _ (List.mem_of_getElem? (i := 34) rfl)) (by decide) (by decide)) q236a q236c (g := (mkF m 295 #[.val (.int t1), .val (.int t2), .val (.int c1), .val (.int c2), .val (.long od), .second, .val (.int sel), .val (.int u2), .val (.int v2), .val (.int o1), .val (.int o2), .val (.int kd), .val (.ref x148), .val (.ref x149), .val (.ref x151), .val .null, .val (.ref b198), .val (.ref b202), .val (.int (keyf c1)), .val (.int (-1 : Int32)), .val (.int sm), .unset] [(.ref b198), (.ref b198)])) rfl (by rw [hml]; rfl) (Steps.refl _) (argsL := [(.ref b198)]) (rest := []) (lenOf pd_3 rfl) rfl (by show 2 * 0 + _ ≤ _; exact Nat.le_of_eq rfl) (hb hby at_295) (fun _ _ => ⟨rfl, eJ207, (by decide : 20 + 0 ≤ _), (by decide : 42 + 0 ≤ _)⟩)
              dsimp only [Pt.U, Pt.locs, Pt.cells, Pt.slots] at X236 l236 y236 z236 st236 hQ236
              subst l236 y236 z236
              obtain ⟨⟨r236, rfl, hr236⟩, Nq236, hE236⟩ := hQ236
              have hr236 : r236 = 1 := by
                rcases hr236 with ⟨q, -⟩ | ⟨-, q⟩
                · exact q
                · exact absurd ⟨rfl, rfl, rfl⟩ q
              subst hr236
              have N236 := Fr.app NJ207 Nq236
              refine Go.tr st236 ?_
              show Go p.tables e below Kx T236 (mkF m 298 #[.val (.int t1), .val (.int t2), .val (.int c1), .val (.int c2), .val (.long od), .second, .val (.int sel), .val (.int u2), .val (.int v2), .val (.int o1), .val (.int o2), .val (.int kd), .val (.ref x148), .val (.ref x149), .val (.ref x151), .val .null, .val (.ref b198), .val (.ref b202), .val (.int (keyf c1)), .val (.int (-1 : Int32)), .val (.int sm), .unset] [(.int (1 : Int32))])
              obtain ⟨fs, hr, hrun, hended, hRW⟩ := X236.leaveW hS151 (by rw [hE236]; exact hk205) (v := (some (.int (1 : Int32)))) (fun h => by rw [Bd.returns] at h; cases h)
              have hCx := C205.trans (CHv.at X236 hZ151 hEL H205)
              refine Go.fin (retN X236 hx (t := .boolean) Bd.returns (by simp) (hb hby at_298) hr) (hF _ _ hrun hended ⟨_, _, rfl, ?_, ?_, hRW.1, hRW.2.1, hRW.2.2.1, hRW.2.2.2.mono (by decide) (by decide)⟩)
              · show QL Z t1 t2 c1 c2 od sel h0 n0 ((some (.int (1 : Int32))) : Option Value) T236.heap _
                rw [hE236]
                exact ⟨rfl, N236⟩
              · show CHr Z consts_1 s.vm s.heap T236.vm T236.heap
                rw [hE236, hh]; exact hCx
      by_cases hc237 : (keyf t1) = (keyf u2)
      · skip
        refine s_icmpN (pc' := 188) X212.here hx (hb hby at_185) rfl (teq hc237).2 ?_
        refine s_iload (pc' := 190) X212.here hx (hb hby at_188) rfl rfl ?_
        refine s_iload (pc' := 192) X212.here hx (hb hby at_190) rfl rfl ?_
        refine s_icmpY (pc' := 206) X212.here hx (hb hby at_192) (feq (key_nn c1)).2 (by decide) (by decide) ?_
        refine s_iconst (pc' := 207) (v := (0 : Int32)) X212.here hx (hb hby at_206) rfl rfl ?_
        exact J207 _ _ _ X212 N212 hE212 (Or.inr ⟨rfl, fun q => id q.2.1⟩)
      · skip
        refine s_icmpY (pc' := 206) X212.here hx (hb hby at_185) (feq hc237).2 (by decide) (by decide) ?_
        refine s_iconst (pc' := 207) (v := (0 : Int32)) X212.here hx (hb hby at_206) rfl rfl ?_
        exact J207 _ _ _ X212 N212 hE212 (Or.inr ⟨rfl, fun q => hc237 ((key_iff t1 u2).mpr q.1)⟩)
  · skip
    have N150 := Fr.app N149 Nq150
    refine Go.st st150 ?_
    show Go p.tables e below Kx T150 (mkF m 78 #[.val (.int t1), .val (.int t2), .val (.int c1), .val (.int c2), .val (.long od), .second, .val (.int sel), .val (.int u2), .val (.int v2), .val (.int o1), .val (.int o2), .val (.int kd), .val (.ref x148), .val (.ref x149), .unset, .unset, .unset, .unset, .unset, .unset, .unset, .unset] [(.int (1 : Int32))])
    refine s_ifN (pc' := 81) X150.here hx (hb hby at_78) rfl ((if0 _ _).trans (feq (by decide)).1) ?_
    refine s_aconst_null (pc' := 82) X150.here hx (hb hby at_81) rfl ?_
    refine s_goto (pc' := 89) X150.here hx (hb hby at_82) (by decide) (by decide) ?_
    refine s_astore (pc' := 91) (Ls' := #[.val (.int t1), .val (.int t2), .val (.int c1), .val (.int c2), .val (.long od), .second, .val (.int sel), .val (.int u2), .val (.int v2), .val (.int o1), .val (.int o2), .val (.int kd), .val (.ref x148), .val (.ref x149), .val .null, .unset, .unset, .unset, .unset, .unset, .unset, .unset]) X150.here hx (hb hby at_89) rfl rfl rfl ?_
    refine s_iload (pc' := 93) X150.here hx (hb hby at_91) rfl rfl ?_
    obtain ⟨_, _, ⟨T238, L238, k238, n238⟩, -, X238, ⟨Lc238, hQ238, l238, y238, z238⟩, st238⟩ := Jvm.LawKit.callS X150 hx (y := (⟨"com/example/data_roles/dataroles/policy/MaskEqualsPinLaw", "isNull", "(I)Z"⟩ : MethodName)) hown149 (mvT hZ149 (hw _ (List.mem_of_getElem? (i := 29) rfl))) (mvT hZ149 (hw _ (List.mem_of_getElem? (i := 30) rfl))) (mvT hZ149 (hw _ (List.mem_of_getElem? (i := 2) rfl))) (mvT hZ149 (hw _ (List.mem_of_getElem? (i := 31) rfl))) (by decide) (backOf (W := 0) (rmU l Z a0 hw [] v2 T149.heap n0 O149 ) hZ149 (hw _ (List.mem_of_getElem? (i := 31) rfl)) (hw _ (List.mem_of_getElem? (i := 2) rfl)) (by decide) (by decide)) (g := (mkF m 93 #[.val (.int t1), .val (.int t2), .val (.int c1), .val (.int c2), .val (.long od), .second, .val (.int sel), .val (.int u2), .val (.int v2), .val (.int o1), .val (.int o2), .val (.int kd), .val (.ref x148), .val (.ref x149), .val .null, .unset, .unset, .unset, .unset, .unset, .unset, .unset] [(.int v2)])) rfl (by rw [hml]; rfl) (argsL := [(.int v2)]) (rest := []) (lenOf pd_6 rfl) rfl (by show 2 * 0 + _ ≤ _; exact Nat.le_of_eq rfl) (hb hby at_93) (fun _ _ => ⟨rfl, hE150, (by decide : 12 + 0 ≤ _), (by decide : 24 + 0 ≤ _)⟩)
    dsimp only [Pt.U, Pt.locs, Pt.cells, Pt.slots] at X238 l238 y238 z238 st238 hQ238
    subst l238 y238 z238
    obtain ⟨⟨r238, rfl, hr238⟩, Nq238, hE238⟩ := hQ238
    rcases hr238 with ⟨rfl, hr238⟩ | ⟨rfl, hr238⟩
    · skip
      have N238 := Fr.app N150 Nq238
      refine Go.st st238 ?_
      show Go p.tables e below Kx T238 (mkF m 96 #[.val (.int t1), .val (.int t2), .val (.int c1), .val (.int c2), .val (.long od), .second, .val (.int sel), .val (.int u2), .val (.int v2), .val (.int o1), .val (.int o2), .val (.int kd), .val (.ref x148), .val (.ref x149), .val .null, .unset, .unset, .unset, .unset, .unset, .unset, .unset] [(.int (0 : Int32))])
      refine s_ifY (pc' := 103) X238.here hx (hb hby at_96) ((if0 _ _).trans (teq (by decide)).1) (by decide) (by decide) ?_
      refine s_iload (pc' := 105) X238.here hx (hb hby at_103) rfl rfl ?_
      obtain ⟨_, _, ⟨T239, L239, k239, n239⟩, -, X239, hS'239, hg'239, ⟨Lc239, hQ239, l239, y239, z239, Cr239⟩, st239⟩ := callSS X238 hx (y := (⟨"com/example/data_roles/dataroles/policy/MaskEqualsPinLaw", "mk", "(I)Ljava/lang/String;"⟩ : MethodName)) hown149 (mvT hZ149 (hw _ (List.mem_of_getElem? (i := 0) rfl))) (mvT hZ149 (hw _ (List.mem_of_getElem? (i := 1) rfl))) (mvT hZ149 (hw _ (List.mem_of_getElem? (i := 2) rfl))) (mvT hZ149 (hw _ (List.mem_of_getElem? (i := 3) rfl))) (by decide) (backOfSH (W := 0) (rmM l Z a0 hw [] v2 T149.heap n0 O149 hEL wS G1 S1 P1) hZ149 (hw _ (List.mem_of_getElem? (i := 3) rfl)) (hw _ (List.mem_of_getElem? (i := 2) rfl)) (by decide) (by decide) hEL Cr149.1) (g := (mkF m 105 #[.val (.int t1), .val (.int t2), .val (.int c1), .val (.int c2), .val (.long od), .second, .val (.int sel), .val (.int u2), .val (.int v2), .val (.int o1), .val (.int o2), .val (.int kd), .val (.ref x148), .val (.ref x149), .val .null, .unset, .unset, .unset, .unset, .unset, .unset, .unset] [(.int v2)])) rfl (by rw [hml]; rfl) (argsL := [(.int v2)]) (rest := []) (lenOf pd_5 rfl) rfl (by show 2 * 0 + _ ≤ _; exact Nat.le_of_eq rfl) (hb hby at_105) (fun _ _ => ⟨rfl, hE238, (by decide : 12 + 6 ≤ _), (by decide : 24 + 12 ≤ _)⟩)
      dsimp only [Pt.U, Pt.locs, Pt.cells, Pt.slots] at X239 l239 y239 z239 st239 hQ239 hS'239 hg'239 Cr239
      subst l239 y239 z239
      obtain ⟨x239, rfl, Nq239, Kq239, Sq239⟩ := hQ239
      have N239 := Fr.app N238 Nq239
      have X239 : Stand p l e _ (s.setVm T239.vm) m _ below meth c T239 _ _ _ := X239
      obtain ⟨hZ239, hown239⟩ := wideOn hZ149 hS'239 hown149
      have hS239 : s.Since T239.vm T239.heap.size := hS149.trans hS'239 (Nat.le_trans hk149 (by rw [hE238] at hg'239; exact hg'239))
      have hk239 := Nat.le_refl T239.heap.size
      have C239 := C149.trans Cr239
      have K239 : Keep h0 T239.heap [] := K149.trans Kq239 all0
      have O239 : Old Z n0 T239.heap := O149.keep Kq239 all0
      refine Go.tr st239 ?_
      show Go p.tables e below Kx T239 (mkF m 108 #[.val (.int t1), .val (.int t2), .val (.int c1), .val (.int c2), .val (.long od), .second, .val (.int sel), .val (.int u2), .val (.int v2), .val (.int o1), .val (.int o2), .val (.int kd), .val (.ref x148), .val (.ref x149), .val .null, .unset, .unset, .unset, .unset, .unset, .unset, .unset] [(.ref x239)])
      refine s_astore (pc' := 110) (Ls' := #[.val (.int t1), .val (.int t2), .val (.int c1), .val (.int c2), .val (.long od), .second, .val (.int sel), .val (.int u2), .val (.int v2), .val (.int o1), .val (.int o2), .val (.int kd), .val (.ref x148), .val (.ref x149), .val .null, .val (.ref x239), .unset, .unset, .unset, .unset, .unset, .unset]) X239.here hx (hb hby at_108) rfl rfl rfl ?_
      obtain ⟨T240, h240, X240, e240, E240, A240, D240, -, st240⟩ := newO X239 hx hZ239 hown239 (hw _ (List.mem_of_getElem? (i := 32) rfl)) (hw _ (List.mem_of_getElem? (i := 33) rfl)) (hw _ (List.mem_of_getElem? (i := 34) rfl)) rfl (g := (mkF m 110 #[.val (.int t1), .val (.int t2), .val (.int c1), .val (.int c2), .val (.long od), .second, .val (.int sel), .val (.int u2), .val (.int v2), .val (.int o1), .val (.int o2), .val (.int kd), .val (.ref x148), .val (.ref x149), .val .null, .val (.ref x239), .unset, .unset, .unset, .unset, .unset, .unset] [])) rfl (hb hby at_110) (by decide) (by decide)
      obtain ⟨b240, g240⟩ : ∃ z, z = T239.heap.size := ⟨_, rfl⟩
      rw [← g240] at A240 D240 st240
      have sz240 : h0.size ≤ b240 := Nat.le_trans K239.1 (Nat.le_of_eq g240.symm)
      have ge240 : n0 ≤ b240 := Nat.le_trans (O239.1 ▸ O239.2.1) (Nat.le_of_eq g240.symm)
      have sn240 : Safe Z consts_1 T239.vm T239.heap b240 := Safe.new (Nat.le_of_eq g240.symm)
      have K240 : Keep h0 h240 [] := K239.ext E240
      have O240 : Old Z n0 h240 := O239.ext E240
      have sf241 : Safe Z consts_1 T239.vm h240 b240 := (Safe.ext E240 Cr239.1 sn240)
      have H240 : CHv Z consts_1 T239.vm h240 := Cr239.1.ext E240
      have C240 : CHr Z consts_1 s.vm h0 T239.vm h240 := C239.trans (CHr.ext E240 Cr239.1)
      have hk240 := Nat.le_trans hk239 E240.1
      have F240_text : Fld Z h240 b240 "com/example/data_roles/dataroles/policy/Mask" "text" "Ljava/lang/String;" .null := D240 (Or.inr (hw _ (List.mem_of_getElem? (i := 40) rfl))) (ty := (.object "java/lang/String")) (by decide)
      have F240_condition : Fld Z h240 b240 "com/example/data_roles/dataroles/policy/Mask" "condition" "Ljava/lang/String;" .null := D240 (Or.inr (hw _ (List.mem_of_getElem? (i := 42) rfl))) (ty := (.object "java/lang/String")) (by decide)
      have F240_order : Fld Z h240 b240 "com/example/data_roles/dataroles/policy/Mask" "order" "I" (.int (0 : Int32)) := D240 (Or.inr (hw _ (List.mem_of_getElem? (i := 44) rfl))) (ty := .int) (by decide)
      refine Go.st st240 ?_
      show Go p.tables e below Kx T240 (mkF m 113 #[.val (.int t1), .val (.int t2), .val (.int c1), .val (.int c2), .val (.long od), .second, .val (.int sel), .val (.int u2), .val (.int v2), .val (.int o1), .val (.int o2), .val (.int kd), .val (.ref x148), .val (.ref x149), .val .null, .val (.ref x239), .unset, .unset, .unset, .unset, .unset, .unset] [(.ref b240)])
      refine s_dup (pc' := 114) X240.here hx (hb hby at_113) rfl rfl ?_
      refine s_aload (pc' := 116) X240.here hx (hb hby at_114) rfl rfl rfl ?_
      refine s_aload (pc' := 118) X240.here hx (hb hby at_116) rfl rfl rfl ?_
      refine s_iload (pc' := 120) X240.here hx (hb hby at_118) rfl rfl ?_
      obtain ⟨_, _, ⟨T242, L242, k242, n242⟩, -, X242, ⟨Lc242, hQ242, l242, y242, z242⟩, st242⟩ := X240.specialBack hx (y := (⟨"com/example/data_roles/dataroles/policy/Mask", "<init>", "(Ljava/lang/String;Ljava/lang/String;I)V"⟩ : MethodName)) rfl hown239 (mvT hZ239 (hw _ (List.mem_of_getElem? (i := 35) rfl))) (mvT hZ239 (hw _ (List.mem_of_getElem? (i := 36) rfl))) (mvT hZ239 (hw _ (List.mem_of_getElem? (i := 37) rfl))) (by decide) (backOf (W := 1) (rmI l Z a0 hw [] b240 x148 .null o1 h240 n0 O240 rfl ge240 A240 F240_text F240_condition F240_order) hZ239 (hw _ (List.mem_of_getElem? (i := 37) rfl)) (hw _ (List.mem_of_getElem? (i := 34) rfl)) (by decide) (by decide)) (g := (mkF m 120 #[.val (.int t1), .val (.int t2), .val (.int c1), .val (.int c2), .val (.long od), .second, .val (.int sel), .val (.int u2), .val (.int v2), .val (.int o1), .val (.int o2), .val (.int kd), .val (.ref x148), .val (.ref x149), .val .null, .val (.ref x239), .unset, .unset, .unset, .unset, .unset, .unset] [(.int o1), .null, (.ref x148), (.ref b240), (.ref b240)])) rfl (by rw [hml]; rfl) (Steps.refl _) (a := b240) (argsL := [(.ref x148), .null, (.int o1)]) (rest := [(.ref b240)]) (lenOf pd_7 rfl) rfl (by show 2 * 0 + _ ≤ _; exact Nat.le_of_eq rfl) (hb hby at_120) (fun _ _ => ⟨rfl, e240, (by decide : 19 + 0 ≤ _), (by decide : 39 + 0 ≤ _)⟩)
      dsimp only [Pt.U, Pt.locs, Pt.cells, Pt.slots] at X242 l242 y242 z242 st242 hQ242
      subst l242 y242 z242
      obtain ⟨rfl, Nq242, Kq242, q1_242, q2_242, q3_242, q4_242⟩ := hQ242
      have N242 := Fr.app N239 Nq242
      have K242 : Keep h0 T242.heap [] := K240.trans Kq242 (allS (P := fun zz => zz ∈ [] ∨ h0.size ≤ zz) (Or.inr sz240) all0)
      have O242 : Old Z n0 T242.heap := O240.keep Kq242 (allS ge240 all0)
      have sf243 : Safe Z consts_1 T239.vm T242.heap b240 := (Safe.keep Kq242 (sfS sf241 sf0) H240 sf241)
      have H242 : CHv Z consts_1 T239.vm T242.heap := H240.keep Kq242 (sfS sf241 sf0)
      have C242 : CHr Z consts_1 s.vm h0 T239.vm T242.heap := C240.trans (CHr.keep Kq242 (sfS sf241 sf0) H240)
      have hk242 := Nat.le_trans hk240 Kq242.1
      refine Go.tr st242 ?_
      show Go p.tables e below Kx T242 (mkF m 123 #[.val (.int t1), .val (.int t2), .val (.int c1), .val (.int c2), .val (.long od), .second, .val (.int sel), .val (.int u2), .val (.int v2), .val (.int o1), .val (.int o2), .val (.int kd), .val (.ref x148), .val (.ref x149), .val .null, .val (.ref x239), .unset, .unset, .unset, .unset, .unset, .unset] [(.ref b240)])
      refine s_astore (pc' := 125) (Ls' := #[.val (.int t1), .val (.int t2), .val (.int c1), .val (.int c2), .val (.long od), .second, .val (.int sel), .val (.int u2), .val (.int v2), .val (.int o1), .val (.int o2), .val (.int kd), .val (.ref x148), .val (.ref x149), .val .null, .val (.ref x239), .val (.ref b240), .unset, .unset, .unset, .unset, .unset]) X242.here hx (hb hby at_123) rfl rfl rfl ?_
      obtain ⟨T244, h244, X244, e244, E244, A244, D244, -, st244⟩ := newO X242 hx hZ239 hown239 (hw _ (List.mem_of_getElem? (i := 32) rfl)) (hw _ (List.mem_of_getElem? (i := 33) rfl)) (hw _ (List.mem_of_getElem? (i := 34) rfl)) rfl (g := (mkF m 125 #[.val (.int t1), .val (.int t2), .val (.int c1), .val (.int c2), .val (.long od), .second, .val (.int sel), .val (.int u2), .val (.int v2), .val (.int o1), .val (.int o2), .val (.int kd), .val (.ref x148), .val (.ref x149), .val .null, .val (.ref x239), .val (.ref b240), .unset, .unset, .unset, .unset, .unset] [])) rfl (hb hby at_125) (by decide) (by decide)
      obtain ⟨b244, g244⟩ : ∃ z, z = T242.heap.size := ⟨_, rfl⟩
      rw [← g244] at A244 D244 st244
      have sz244 : h0.size ≤ b244 := Nat.le_trans K242.1 (Nat.le_of_eq g244.symm)
      have ge244 : n0 ≤ b244 := Nat.le_trans (O242.1 ▸ O242.2.1) (Nat.le_of_eq g244.symm)
      have sn244 : Safe Z consts_1 T239.vm T242.heap b244 := Safe.new (Nat.le_of_eq g244.symm)
      have K244 : Keep h0 h244 [] := K242.ext E244
      have O244 : Old Z n0 h244 := O242.ext E244
      have sf245 : Safe Z consts_1 T239.vm h244 b240 := (Safe.ext E244 H242 sf243)
      have sf246 : Safe Z consts_1 T239.vm h244 b244 := (Safe.ext E244 H242 sn244)
      have H244 : CHv Z consts_1 T239.vm h244 := H242.ext E244
      have C244 : CHr Z consts_1 s.vm h0 T239.vm h244 := C242.trans (CHr.ext E244 H242)
      have hk244 := Nat.le_trans hk242 E244.1
      have F244_text : Fld Z h244 b244 "com/example/data_roles/dataroles/policy/Mask" "text" "Ljava/lang/String;" .null := D244 (Or.inr (hw _ (List.mem_of_getElem? (i := 40) rfl))) (ty := (.object "java/lang/String")) (by decide)
      have F244_condition : Fld Z h244 b244 "com/example/data_roles/dataroles/policy/Mask" "condition" "Ljava/lang/String;" .null := D244 (Or.inr (hw _ (List.mem_of_getElem? (i := 42) rfl))) (ty := (.object "java/lang/String")) (by decide)
      have F244_order : Fld Z h244 b244 "com/example/data_roles/dataroles/policy/Mask" "order" "I" (.int (0 : Int32)) := D244 (Or.inr (hw _ (List.mem_of_getElem? (i := 44) rfl))) (ty := .int) (by decide)
      refine Go.st st244 ?_
      show Go p.tables e below Kx T244 (mkF m 128 #[.val (.int t1), .val (.int t2), .val (.int c1), .val (.int c2), .val (.long od), .second, .val (.int sel), .val (.int u2), .val (.int v2), .val (.int o1), .val (.int o2), .val (.int kd), .val (.ref x148), .val (.ref x149), .val .null, .val (.ref x239), .val (.ref b240), .unset, .unset, .unset, .unset, .unset] [(.ref b244)])
      refine s_dup (pc' := 129) X244.here hx (hb hby at_128) rfl rfl ?_
      refine s_aload (pc' := 131) X244.here hx (hb hby at_129) rfl rfl rfl ?_
      refine s_aload (pc' := 133) X244.here hx (hb hby at_131) rfl rfl rfl ?_
      refine s_iload (pc' := 135) X244.here hx (hb hby at_133) rfl rfl ?_
      obtain ⟨_, _, ⟨T247, L247, k247, n247⟩, -, X247, ⟨Lc247, hQ247, l247, y247, z247⟩, st247⟩ := X244.specialBack hx (y := (⟨"com/example/data_roles/dataroles/policy/Mask", "<init>", "(Ljava/lang/String;Ljava/lang/String;I)V"⟩ : MethodName)) rfl hown239 (mvT hZ239 (hw _ (List.mem_of_getElem? (i := 35) rfl))) (mvT hZ239 (hw _ (List.mem_of_getElem? (i := 36) rfl))) (mvT hZ239 (hw _ (List.mem_of_getElem? (i := 37) rfl))) (by decide) (backOf (W := 1) (rmI l Z a0 hw [] b244 x149 (.ref x239) o2 h244 n0 O244 rfl ge244 A244 F244_text F244_condition F244_order) hZ239 (hw _ (List.mem_of_getElem? (i := 37) rfl)) (hw _ (List.mem_of_getElem? (i := 34) rfl)) (by decide) (by decide)) (g := (mkF m 135 #[.val (.int t1), .val (.int t2), .val (.int c1), .val (.int c2), .val (.long od), .second, .val (.int sel), .val (.int u2), .val (.int v2), .val (.int o1), .val (.int o2), .val (.int kd), .val (.ref x148), .val (.ref x149), .val .null, .val (.ref x239), .val (.ref b240), .unset, .unset, .unset, .unset, .unset] [(.int o2), (.ref x239), (.ref x149), (.ref b244), (.ref b244)])) rfl (by rw [hml]; rfl) (Steps.refl _) (a := b244) (argsL := [(.ref x149), (.ref x239), (.int o2)]) (rest := [(.ref b244)]) (lenOf pd_7 rfl) rfl (by show 2 * 0 + _ ≤ _; exact Nat.le_of_eq rfl) (hb hby at_135) (fun _ _ => ⟨rfl, e244, (by decide : 20 + 0 ≤ _), (by decide : 42 + 0 ≤ _)⟩)
      dsimp only [Pt.U, Pt.locs, Pt.cells, Pt.slots] at X247 l247 y247 z247 st247 hQ247
      subst l247 y247 z247
      obtain ⟨rfl, Nq247, Kq247, q1_247, q2_247, q3_247, q4_247⟩ := hQ247
      have N247 := Fr.app N242 Nq247
      have K247 : Keep h0 T247.heap [] := K244.trans Kq247 (allS (P := fun zz => zz ∈ [] ∨ h0.size ≤ zz) (Or.inr sz244) all0)
      have O247 : Old Z n0 T247.heap := O244.keep Kq247 (allS ge244 all0)
      have sf248 : Safe Z consts_1 T239.vm T247.heap b240 := (Safe.keep Kq247 (sfS sf246 sf0) H244 sf245)
      have sf249 : Safe Z consts_1 T239.vm T247.heap b244 := (Safe.keep Kq247 (sfS sf246 sf0) H244 sf246)
      have H247 : CHv Z consts_1 T239.vm T247.heap := H244.keep Kq247 (sfS sf246 sf0)
      have C247 : CHr Z consts_1 s.vm h0 T239.vm T247.heap := C244.trans (CHr.keep Kq247 (sfS sf246 sf0) H244)
      have hk247 := Nat.le_trans hk244 Kq247.1
      refine Go.tr st247 ?_
      show Go p.tables e below Kx T247 (mkF m 138 #[.val (.int t1), .val (.int t2), .val (.int c1), .val (.int c2), .val (.long od), .second, .val (.int sel), .val (.int u2), .val (.int v2), .val (.int o1), .val (.int o2), .val (.int kd), .val (.ref x148), .val (.ref x149), .val .null, .val (.ref x239), .val (.ref b240), .unset, .unset, .unset, .unset, .unset] [(.ref b244)])
      refine s_astore (pc' := 140) (Ls' := #[.val (.int t1), .val (.int t2), .val (.int c1), .val (.int c2), .val (.long od), .second, .val (.int sel), .val (.int u2), .val (.int v2), .val (.int o1), .val (.int o2), .val (.int kd), .val (.ref x148), .val (.ref x149), .val .null, .val (.ref x239), .val (.ref b240), .val (.ref b244), .unset, .unset, .unset, .unset]) X247.here hx (hb hby at_138) rfl rfl rfl ?_
      refine s_iloadN (pc' := 141) X247.here hx (hb hby at_140) rfl rfl ?_
      obtain ⟨_, _, ⟨T250, L250, k250, n250⟩, -, X250, ⟨Lc250, hQ250, l250, y250, z250⟩, st250⟩ := Jvm.LawKit.callS X247 hx (y := (⟨"com/example/data_roles/dataroles/policy/MaskEqualsPinLaw", "isNull", "(I)Z"⟩ : MethodName)) hown239 (mvT hZ239 (hw _ (List.mem_of_getElem? (i := 29) rfl))) (mvT hZ239 (hw _ (List.mem_of_getElem? (i := 30) rfl))) (mvT hZ239 (hw _ (List.mem_of_getElem? (i := 2) rfl))) (mvT hZ239 (hw _ (List.mem_of_getElem? (i := 31) rfl))) (by decide) (backOf (W := 0) (rmU l Z a0 hw [] c1 T247.heap n0 O247 ) hZ239 (hw _ (List.mem_of_getElem? (i := 31) rfl)) (hw _ (List.mem_of_getElem? (i := 2) rfl)) (by decide) (by decide)) (g := (mkF m 141 #[.val (.int t1), .val (.int t2), .val (.int c1), .val (.int c2), .val (.long od), .second, .val (.int sel), .val (.int u2), .val (.int v2), .val (.int o1), .val (.int o2), .val (.int kd), .val (.ref x148), .val (.ref x149), .val .null, .val (.ref x239), .val (.ref b240), .val (.ref b244), .unset, .unset, .unset, .unset] [(.int c1)])) rfl (by rw [hml]; rfl) (argsL := [(.int c1)]) (rest := []) (lenOf pd_6 rfl) rfl (by show 2 * 0 + _ ≤ _; exact Nat.le_of_eq rfl) (hb hby at_141) (fun _ _ => ⟨rfl, rfl, (by decide : 20 + 0 ≤ _), (by decide : 42 + 0 ≤ _)⟩)
      dsimp only [Pt.U, Pt.locs, Pt.cells, Pt.slots] at X250 l250 y250 z250 st250 hQ250
      subst l250 y250 z250
      obtain ⟨⟨r250, rfl, hr250⟩, Nq250, hE250⟩ := hQ250
      have hr250 : r250 = 1 := by
        rcases hr250 with ⟨q, z⟩ | ⟨q, z⟩
        · exact absurd z hr150
        · exact q
      subst hr250
      have N250 := Fr.app N247 Nq250
      refine Go.st st250 ?_
      show Go p.tables e below Kx T250 (mkF m 144 #[.val (.int t1), .val (.int t2), .val (.int c1), .val (.int c2), .val (.long od), .second, .val (.int sel), .val (.int u2), .val (.int v2), .val (.int o1), .val (.int o2), .val (.int kd), .val (.ref x148), .val (.ref x149), .val .null, .val (.ref x239), .val (.ref b240), .val (.ref b244), .unset, .unset, .unset, .unset] [(.int (1 : Int32))])
      refine s_ifN (pc' := 147) X250.here hx (hb hby at_144) rfl ((if0 _ _).trans (feq (by decide)).1) ?_
      refine s_iconst (pc' := 148) (v := (-1 : Int32)) X250.here hx (hb hby at_147) rfl rfl ?_
      refine s_goto (pc' := 155) X250.here hx (hb hby at_148) (by decide) (by decide) ?_
      refine s_istore (pc' := 157) (Ls' := #[.val (.int t1), .val (.int t2), .val (.int c1), .val (.int c2), .val (.long od), .second, .val (.int sel), .val (.int u2), .val (.int v2), .val (.int o1), .val (.int o2), .val (.int kd), .val (.ref x148), .val (.ref x149), .val .null, .val (.ref x239), .val (.ref b240), .val (.ref b244), .val (.int (-1 : Int32)), .unset, .unset, .unset]) X250.here hx (hb hby at_155) rfl  rfl ?_
      refine s_iload (pc' := 159) X250.here hx (hb hby at_157) rfl rfl ?_
      obtain ⟨_, _, ⟨T251, L251, k251, n251⟩, -, X251, ⟨Lc251, hQ251, l251, y251, z251⟩, st251⟩ := Jvm.LawKit.callS X250 hx (y := (⟨"com/example/data_roles/dataroles/policy/MaskEqualsPinLaw", "isNull", "(I)Z"⟩ : MethodName)) hown239 (mvT hZ239 (hw _ (List.mem_of_getElem? (i := 29) rfl))) (mvT hZ239 (hw _ (List.mem_of_getElem? (i := 30) rfl))) (mvT hZ239 (hw _ (List.mem_of_getElem? (i := 2) rfl))) (mvT hZ239 (hw _ (List.mem_of_getElem? (i := 31) rfl))) (by decide) (backOf (W := 0) (rmU l Z a0 hw [] v2 T247.heap n0 O247 ) hZ239 (hw _ (List.mem_of_getElem? (i := 31) rfl)) (hw _ (List.mem_of_getElem? (i := 2) rfl)) (by decide) (by decide)) (g := (mkF m 159 #[.val (.int t1), .val (.int t2), .val (.int c1), .val (.int c2), .val (.long od), .second, .val (.int sel), .val (.int u2), .val (.int v2), .val (.int o1), .val (.int o2), .val (.int kd), .val (.ref x148), .val (.ref x149), .val .null, .val (.ref x239), .val (.ref b240), .val (.ref b244), .val (.int (-1 : Int32)), .unset, .unset, .unset] [(.int v2)])) rfl (by rw [hml]; rfl) (argsL := [(.int v2)]) (rest := []) (lenOf pd_6 rfl) rfl (by show 2 * 0 + _ ≤ _; exact Nat.le_of_eq rfl) (hb hby at_159) (fun _ _ => ⟨rfl, hE250, (by decide : 20 + 0 ≤ _), (by decide : 42 + 0 ≤ _)⟩)
      dsimp only [Pt.U, Pt.locs, Pt.cells, Pt.slots] at X251 l251 y251 z251 st251 hQ251
      subst l251 y251 z251
      obtain ⟨⟨r251, rfl, hr251⟩, Nq251, hE251⟩ := hQ251
      have hr251 : r251 = 0 := by
        rcases hr251 with ⟨q, z⟩ | ⟨q, z⟩
        · exact q
        · exact absurd hr238 z
      subst hr251
      have N251 := Fr.app N250 Nq251
      refine Go.st st251 ?_
      show Go p.tables e below Kx T251 (mkF m 162 #[.val (.int t1), .val (.int t2), .val (.int c1), .val (.int c2), .val (.long od), .second, .val (.int sel), .val (.int u2), .val (.int v2), .val (.int o1), .val (.int o2), .val (.int kd), .val (.ref x148), .val (.ref x149), .val .null, .val (.ref x239), .val (.ref b240), .val (.ref b244), .val (.int (-1 : Int32)), .unset, .unset, .unset] [(.int (0 : Int32))])
      refine s_ifY (pc' := 169) X251.here hx (hb hby at_162) ((if0 _ _).trans (teq (by decide)).1) (by decide) (by decide) ?_
      refine s_iload (pc' := 171) X251.here hx (hb hby at_169) rfl rfl ?_
      obtain ⟨_, _, ⟨T252, L252, k252, n252⟩, -, X252, ⟨Lc252, hQ252, l252, y252, z252⟩, st252⟩ := Jvm.LawKit.callS X251 hx (y := (⟨"com/example/data_roles/dataroles/policy/MaskEqualsPinLaw", "keyOf", "(I)I"⟩ : MethodName)) hown239 (mvT hZ239 (hw _ (List.mem_of_getElem? (i := 45) rfl))) (mvT hZ239 (hw _ (List.mem_of_getElem? (i := 46) rfl))) (mvT hZ239 (hw _ (List.mem_of_getElem? (i := 2) rfl))) (mvT hZ239 (hw _ (List.mem_of_getElem? (i := 47) rfl))) (by decide) (backOf (W := 0) (rmK l Z a0 hw [] v2 T247.heap n0 O247 ) hZ239 (hw _ (List.mem_of_getElem? (i := 47) rfl)) (hw _ (List.mem_of_getElem? (i := 2) rfl)) (by decide) (by decide)) (g := (mkF m 171 #[.val (.int t1), .val (.int t2), .val (.int c1), .val (.int c2), .val (.long od), .second, .val (.int sel), .val (.int u2), .val (.int v2), .val (.int o1), .val (.int o2), .val (.int kd), .val (.ref x148), .val (.ref x149), .val .null, .val (.ref x239), .val (.ref b240), .val (.ref b244), .val (.int (-1 : Int32)), .unset, .unset, .unset] [(.int v2)])) rfl (by rw [hml]; rfl) (argsL := [(.int v2)]) (rest := []) (lenOf pd_1 rfl) rfl (by show 2 * 0 + _ ≤ _; exact Nat.le_of_eq rfl) (hb hby at_171) (fun _ _ => ⟨rfl, hE251, (by decide : 20 + 0 ≤ _), (by decide : 42 + 0 ≤ _)⟩)
      dsimp only [Pt.U, Pt.locs, Pt.cells, Pt.slots] at X252 l252 y252 z252 st252 hQ252
      subst l252 y252 z252
      obtain ⟨rfl, Nq252, hE252⟩ := hQ252
      have N252 := Fr.app N251 Nq252
      refine Go.st st252 ?_
      show Go p.tables e below Kx T252 (mkF m 174 #[.val (.int t1), .val (.int t2), .val (.int c1), .val (.int c2), .val (.long od), .second, .val (.int sel), .val (.int u2), .val (.int v2), .val (.int o1), .val (.int o2), .val (.int kd), .val (.ref x148), .val (.ref x149), .val .null, .val (.ref x239), .val (.ref b240), .val (.ref b244), .val (.int (-1 : Int32)), .unset, .unset, .unset] [(.int (keyf v2))])
      refine s_istore (pc' := 176) (Ls' := #[.val (.int t1), .val (.int t2), .val (.int c1), .val (.int c2), .val (.long od), .second, .val (.int sel), .val (.int u2), .val (.int v2), .val (.int o1), .val (.int o2), .val (.int kd), .val (.ref x148), .val (.ref x149), .val .null, .val (.ref x239), .val (.ref b240), .val (.ref b244), .val (.int (-1 : Int32)), .val (.int (keyf v2)), .unset, .unset]) X252.here hx (hb hby at_174) rfl  rfl ?_
      refine s_iloadN (pc' := 177) X252.here hx (hb hby at_176) rfl rfl ?_
      obtain ⟨_, _, ⟨T253, L253, k253, n253⟩, -, X253, ⟨Lc253, hQ253, l253, y253, z253⟩, st253⟩ := Jvm.LawKit.callS X252 hx (y := (⟨"com/example/data_roles/dataroles/policy/MaskEqualsPinLaw", "keyOf", "(I)I"⟩ : MethodName)) hown239 (mvT hZ239 (hw _ (List.mem_of_getElem? (i := 45) rfl))) (mvT hZ239 (hw _ (List.mem_of_getElem? (i := 46) rfl))) (mvT hZ239 (hw _ (List.mem_of_getElem? (i := 2) rfl))) (mvT hZ239 (hw _ (List.mem_of_getElem? (i := 47) rfl))) (by decide) (backOf (W := 0) (rmK l Z a0 hw [] t1 T247.heap n0 O247 ) hZ239 (hw _ (List.mem_of_getElem? (i := 47) rfl)) (hw _ (List.mem_of_getElem? (i := 2) rfl)) (by decide) (by decide)) (g := (mkF m 177 #[.val (.int t1), .val (.int t2), .val (.int c1), .val (.int c2), .val (.long od), .second, .val (.int sel), .val (.int u2), .val (.int v2), .val (.int o1), .val (.int o2), .val (.int kd), .val (.ref x148), .val (.ref x149), .val .null, .val (.ref x239), .val (.ref b240), .val (.ref b244), .val (.int (-1 : Int32)), .val (.int (keyf v2)), .unset, .unset] [(.int t1)])) rfl (by rw [hml]; rfl) (argsL := [(.int t1)]) (rest := []) (lenOf pd_1 rfl) rfl (by show 2 * 0 + _ ≤ _; exact Nat.le_of_eq rfl) (hb hby at_177) (fun _ _ => ⟨rfl, hE252, (by decide : 20 + 0 ≤ _), (by decide : 42 + 0 ≤ _)⟩)
      dsimp only [Pt.U, Pt.locs, Pt.cells, Pt.slots] at X253 l253 y253 z253 st253 hQ253
      subst l253 y253 z253
      obtain ⟨rfl, Nq253, hE253⟩ := hQ253
      have N253 := Fr.app N252 Nq253
      refine Go.st st253 ?_
      show Go p.tables e below Kx T253 (mkF m 180 #[.val (.int t1), .val (.int t2), .val (.int c1), .val (.int c2), .val (.long od), .second, .val (.int sel), .val (.int u2), .val (.int v2), .val (.int o1), .val (.int o2), .val (.int kd), .val (.ref x148), .val (.ref x149), .val .null, .val (.ref x239), .val (.ref b240), .val (.ref b244), .val (.int (-1 : Int32)), .val (.int (keyf v2)), .unset, .unset] [(.int (keyf t1))])
      refine s_iload (pc' := 182) X253.here hx (hb hby at_180) rfl rfl ?_
      obtain ⟨_, _, ⟨T254, L254, k254, n254⟩, -, X254, ⟨Lc254, hQ254, l254, y254, z254⟩, st254⟩ := Jvm.LawKit.callS X253 hx (y := (⟨"com/example/data_roles/dataroles/policy/MaskEqualsPinLaw", "keyOf", "(I)I"⟩ : MethodName)) hown239 (mvT hZ239 (hw _ (List.mem_of_getElem? (i := 45) rfl))) (mvT hZ239 (hw _ (List.mem_of_getElem? (i := 46) rfl))) (mvT hZ239 (hw _ (List.mem_of_getElem? (i := 2) rfl))) (mvT hZ239 (hw _ (List.mem_of_getElem? (i := 47) rfl))) (by decide) (backOf (W := 1) (rmK l Z a0 hw [] u2 T247.heap n0 O247 ) hZ239 (hw _ (List.mem_of_getElem? (i := 47) rfl)) (hw _ (List.mem_of_getElem? (i := 2) rfl)) (by decide) (by decide)) (g := (mkF m 182 #[.val (.int t1), .val (.int t2), .val (.int c1), .val (.int c2), .val (.long od), .second, .val (.int sel), .val (.int u2), .val (.int v2), .val (.int o1), .val (.int o2), .val (.int kd), .val (.ref x148), .val (.ref x149), .val .null, .val (.ref x239), .val (.ref b240), .val (.ref b244), .val (.int (-1 : Int32)), .val (.int (keyf v2)), .unset, .unset] [(.int u2), (.int (keyf t1))])) rfl (by rw [hml]; rfl) (argsL := [(.int u2)]) (rest := [(.int (keyf t1))]) (lenOf pd_1 rfl) rfl (by show 2 * 0 + _ ≤ _; exact Nat.le_of_eq rfl) (hb hby at_182) (fun _ _ => ⟨rfl, hE253, (by decide : 20 + 0 ≤ _), (by decide : 42 + 0 ≤ _)⟩)
      dsimp only [Pt.U, Pt.locs, Pt.cells, Pt.slots] at X254 l254 y254 z254 st254 hQ254
      subst l254 y254 z254
      obtain ⟨rfl, Nq254, hE254⟩ := hQ254
      have N254 := Fr.app N253 Nq254
      refine Go.st st254 ?_
      show Go p.tables e below Kx T254 (mkF m 185 #[.val (.int t1), .val (.int t2), .val (.int c1), .val (.int c2), .val (.long od), .second, .val (.int sel), .val (.int u2), .val (.int v2), .val (.int o1), .val (.int o2), .val (.int kd), .val (.ref x148), .val (.ref x149), .val .null, .val (.ref x239), .val (.ref b240), .val (.ref b244), .val (.int (-1 : Int32)), .val (.int (keyf v2)), .unset, .unset] [(.int (keyf u2)), (.int (keyf t1))])
      have J207 : ∀ (sm : Int32) (TJ207 : State) (LJ207 : List Loc), Stand p l e room_1 (s.setVm T239.vm) m #[(.int t1), (.int t2), (.int c1), (.int c2), (.long od), (.int sel)] below meth c TJ207 LJ207 20 42 → Fr n0 LJ207 → TJ207.heap = T247.heap → ((sm = 1 ∧ (txt t1 = txt u2 ∧ False ∧ o1 = o2)) ∨ (sm = 0 ∧ ¬ (txt t1 = txt u2 ∧ False ∧ o1 = o2))) → Go p.tables e below Kx TJ207 (mkF m 207 #[.val (.int t1), .val (.int t2), .val (.int c1), .val (.int c2), .val (.long od), .second, .val (.int sel), .val (.int u2), .val (.int v2), .val (.int o1), .val (.int o2), .val (.int kd), .val (.ref x148), .val (.ref x149), .val .null, .val (.ref x239), .val (.ref b240), .val (.ref b244), .val (.int (-1 : Int32)), .val (.int (keyf v2)), .unset, .unset] [(.int sm)]) := by
        intro sm TJ207 LJ207 XJ207 NJ207 eJ207 hsm
        have hex1 : ∀ r : Int32, ((r = 1 ∧ (txt t1 = txt u2 ∧ False ∧ o1 = o2)) ∨ (r = 0 ∧ ¬ (txt t1 = txt u2 ∧ False ∧ o1 = o2))) → r = sm := fun r hr => ex_one hsm hr
        have hex2 : ∀ r : Int32, ((r = 1 ∧ (txt u2 = txt t1 ∧ False ∧ o2 = o1)) ∨ (r = 0 ∧ ¬ (txt u2 = txt t1 ∧ False ∧ o2 = o1))) → r = sm := fun r hr => ex_one hsm (by rw [eq_comm (a := txt t1), eq_comm (a := o1)]; exact hr)
        refine s_istore (pc' := 209) (Ls' := #[.val (.int t1), .val (.int t2), .val (.int c1), .val (.int c2), .val (.long od), .second, .val (.int sel), .val (.int u2), .val (.int v2), .val (.int o1), .val (.int o2), .val (.int kd), .val (.ref x148), .val (.ref x149), .val .null, .val (.ref x239), .val (.ref b240), .val (.ref b244), .val (.int (-1 : Int32)), .val (.int (keyf v2)), .val (.int sm), .unset]) XJ207.here hx (hb hby at_207) rfl  rfl ?_
        refine s_iload (pc' := 211) XJ207.here hx (hb hby at_209) rfl rfl ?_
        by_cases hc255 : kd = (0 : Int32)
        · skip
          refine s_ifN (pc' := 214) XJ207.here hx (hb hby at_211) rfl ((if0 _ _).trans (teq hc255).2) ?_
          refine s_aload (pc' := 216) XJ207.here hx (hb hby at_214) rfl rfl rfl ?_
          refine s_aload (pc' := 218) XJ207.here hx (hb hby at_216) rfl rfl rfl ?_
          have f256 : Str Z T247.heap T148.heap.size x148 (txt t1) := ((((((Sq148.keep Kq149 all0).keep Kq239 all0).ext E240).keep Kq242 (allS (Nat.le_trans (Nat.le_trans Kq149.1 Kq239.1) (Nat.le_of_eq g240.symm)) all0)).ext E244).keep Kq247 (allS (Nat.le_trans (Nat.le_trans (Nat.le_trans (Nat.le_trans Kq149.1 Kq239.1) E240.1) Kq242.1) (Nat.le_of_eq g244.symm)) all0))
          have f257 : Str Z T247.heap T149.heap.size x149 (txt u2) := (((((Sq149.keep Kq239 all0).ext E240).keep Kq242 (allS (Nat.le_trans Kq239.1 (Nat.le_of_eq g240.symm)) all0)).ext E244).keep Kq247 (allS (Nat.le_trans (Nat.le_trans (Nat.le_trans Kq239.1 E240.1) Kq242.1) (Nat.le_of_eq g244.symm)) all0))
          have f258 : Str Z T247.heap T239.heap.size x239 (txt v2) := ((((Sq239.ext E240).keep Kq242 (allS (Nat.le_of_eq g240.symm) all0)).ext E244).keep Kq247 (allS (Nat.le_trans (Nat.le_trans E240.1 Kq242.1) (Nat.le_of_eq g244.symm)) all0))
          have f259 : Exa Z T247.heap b240 "com/example/data_roles/dataroles/policy/Mask" := ((q1_242.ext E244).keep Kq247)
          have f260 : Fld Z T247.heap b240 "com/example/data_roles/dataroles/policy/Mask" "text" "Ljava/lang/String;" (.ref x148) := ((q2_242.ext E244).keep Kq247 (ninS (Nat.ne_of_lt (Nat.lt_of_lt_of_le (Nat.lt_of_lt_of_le A240.lt Kq242.1) (Nat.le_of_eq g244.symm))) nin0))
          have f261 : Fld Z T247.heap b240 "com/example/data_roles/dataroles/policy/Mask" "condition" "Ljava/lang/String;" .null := ((q3_242.ext E244).keep Kq247 (ninS (Nat.ne_of_lt (Nat.lt_of_lt_of_le (Nat.lt_of_lt_of_le A240.lt Kq242.1) (Nat.le_of_eq g244.symm))) nin0))
          have f262 : Fld Z T247.heap b240 "com/example/data_roles/dataroles/policy/Mask" "order" "I" (.int o1) := ((q4_242.ext E244).keep Kq247 (ninS (Nat.ne_of_lt (Nat.lt_of_lt_of_le (Nat.lt_of_lt_of_le A240.lt Kq242.1) (Nat.le_of_eq g244.symm))) nin0))
          obtain ⟨cq263, kq263, q263a, q263b, q263c⟩ := isOf hZ239 eJ207 f259
          obtain ⟨_, _, ⟨T263, L263, k263, n263⟩, -, X263, ⟨Lc263, hQ263, l263, y263, z263⟩, st263⟩ := XJ207.virtualBack hx (y := (⟨"com/example/data_roles/dataroles/policy/Mask", "equals", "(Ljava/lang/Object;)Z"⟩ : MethodName)) (z := (⟨"com/example/data_roles/dataroles/policy/Mask", "equals", "(Ljava/lang/Object;)Z"⟩ : MethodName)) hown239 (mvT hZ239 (hw _ (List.mem_of_getElem? (i := 48) rfl))) (mvT hZ239 (hw _ (List.mem_of_getElem? (i := 49) rfl))) (notFace_of_selects (args := #[]) (mvT hZ239 (hw _ (List.mem_of_getElem? (i := 51) rfl)))) (mvT hZ239 (hw _ (List.mem_of_getElem? (i := 51) rfl))) (mvT hZ239 (hw _ (List.mem_of_getElem? (i := 50) rfl))) (by decide) (backOf (W := 0) (rmQ201 l Z a0 hw [] b240 b244 x148 x149 _ _ (txt t1) (txt u2) o1 o2 x239 _ (txt v2) T247.heap n0 O247 G1 S1 P1 f259 f260 f261 f262 q1_247 q2_247 q3_247 q4_247 f256 f257 f258) hZ239 (hw _ (List.mem_of_getElem? (i := 52) rfl)) (hw _ (List.mem_of_getElem? (i := 34) rfl)) (by decide) (by decide)) q263a q263c (g := (mkF m 218 #[.val (.int t1), .val (.int t2), .val (.int c1), .val (.int c2), .val (.long od), .second, .val (.int sel), .val (.int u2), .val (.int v2), .val (.int o1), .val (.int o2), .val (.int kd), .val (.ref x148), .val (.ref x149), .val .null, .val (.ref x239), .val (.ref b240), .val (.ref b244), .val (.int (-1 : Int32)), .val (.int (keyf v2)), .val (.int sm), .unset] [(.ref b244), (.ref b240)])) rfl (by rw [hml]; rfl) (Steps.refl _) (argsL := [(.ref b244)]) (rest := []) (lenOf pd_3 rfl) rfl (by show 2 * 0 + _ ≤ _; exact Nat.le_of_eq rfl) (hb hby at_218) (fun _ _ => ⟨rfl, eJ207, (by decide : 20 + 0 ≤ _), (by decide : 42 + 0 ≤ _)⟩)
          dsimp only [Pt.U, Pt.locs, Pt.cells, Pt.slots] at X263 l263 y263 z263 st263 hQ263
          subst l263 y263 z263
          obtain ⟨⟨r263, rfl, hr263⟩, Nq263, hE263⟩ := hQ263
          have hr263 : sm = r263 := (hex1 _ hr263).symm
          subst hr263
          have N263 := Fr.app NJ207 Nq263
          refine Go.tr st263 ?_
          show Go p.tables e below Kx T263 (mkF m 221 #[.val (.int t1), .val (.int t2), .val (.int c1), .val (.int c2), .val (.long od), .second, .val (.int sel), .val (.int u2), .val (.int v2), .val (.int o1), .val (.int o2), .val (.int kd), .val (.ref x148), .val (.ref x149), .val .null, .val (.ref x239), .val (.ref b240), .val (.ref b244), .val (.int (-1 : Int32)), .val (.int (keyf v2)), .val (.int sm), .unset] [(.int sm)])
          refine s_iload (pc' := 223) X263.here hx (hb hby at_221) rfl rfl ?_
          refine s_icmpN (pc' := 226) X263.here hx (hb hby at_223) rfl (teq rfl).2 ?_
          refine s_aload (pc' := 228) X263.here hx (hb hby at_226) rfl rfl rfl ?_
          refine s_aload (pc' := 230) X263.here hx (hb hby at_228) rfl rfl rfl ?_
          obtain ⟨cq264, kq264, q264a, q264b, q264c⟩ := isOf hZ239 hE263 q1_247
          obtain ⟨_, _, ⟨T264, L264, k264, n264⟩, -, X264, ⟨Lc264, hQ264, l264, y264, z264⟩, st264⟩ := X263.virtualBack hx (y := (⟨"com/example/data_roles/dataroles/policy/Mask", "equals", "(Ljava/lang/Object;)Z"⟩ : MethodName)) (z := (⟨"com/example/data_roles/dataroles/policy/Mask", "equals", "(Ljava/lang/Object;)Z"⟩ : MethodName)) hown239 (mvT hZ239 (hw _ (List.mem_of_getElem? (i := 48) rfl))) (mvT hZ239 (hw _ (List.mem_of_getElem? (i := 49) rfl))) (notFace_of_selects (args := #[]) (mvT hZ239 (hw _ (List.mem_of_getElem? (i := 51) rfl)))) (mvT hZ239 (hw _ (List.mem_of_getElem? (i := 51) rfl))) (mvT hZ239 (hw _ (List.mem_of_getElem? (i := 50) rfl))) (by decide) (backOf (W := 0) (rmQ210 l Z a0 hw [] b244 b240 x149 x148 _ _ (txt u2) (txt t1) o2 o1 x239 _ (txt v2) T247.heap n0 O247 G1 S1 P1 q1_247 q2_247 q3_247 q4_247 f259 f260 f261 f262 f257 f256 f258) hZ239 (hw _ (List.mem_of_getElem? (i := 52) rfl)) (hw _ (List.mem_of_getElem? (i := 34) rfl)) (by decide) (by decide)) q264a q264c (g := (mkF m 230 #[.val (.int t1), .val (.int t2), .val (.int c1), .val (.int c2), .val (.long od), .second, .val (.int sel), .val (.int u2), .val (.int v2), .val (.int o1), .val (.int o2), .val (.int kd), .val (.ref x148), .val (.ref x149), .val .null, .val (.ref x239), .val (.ref b240), .val (.ref b244), .val (.int (-1 : Int32)), .val (.int (keyf v2)), .val (.int sm), .unset] [(.ref b240), (.ref b244)])) rfl (by rw [hml]; rfl) (Steps.refl _) (argsL := [(.ref b240)]) (rest := []) (lenOf pd_3 rfl) rfl (by show 2 * 0 + _ ≤ _; exact Nat.le_of_eq rfl) (hb hby at_230) (fun _ _ => ⟨rfl, hE263, (by decide : 20 + 0 ≤ _), (by decide : 42 + 0 ≤ _)⟩)
          dsimp only [Pt.U, Pt.locs, Pt.cells, Pt.slots] at X264 l264 y264 z264 st264 hQ264
          subst l264 y264 z264
          obtain ⟨⟨r264, rfl, hr264⟩, Nq264, hE264⟩ := hQ264
          have hr264 : sm = r264 := (hex2 _ hr264).symm
          subst hr264
          have N264 := Fr.app N263 Nq264
          refine Go.tr st264 ?_
          show Go p.tables e below Kx T264 (mkF m 233 #[.val (.int t1), .val (.int t2), .val (.int c1), .val (.int c2), .val (.long od), .second, .val (.int sel), .val (.int u2), .val (.int v2), .val (.int o1), .val (.int o2), .val (.int kd), .val (.ref x148), .val (.ref x149), .val .null, .val (.ref x239), .val (.ref b240), .val (.ref b244), .val (.int (-1 : Int32)), .val (.int (keyf v2)), .val (.int sm), .unset] [(.int sm)])
          refine s_iload (pc' := 235) X264.here hx (hb hby at_233) rfl rfl ?_
          refine s_icmpN (pc' := 238) X264.here hx (hb hby at_235) rfl (teq rfl).2 ?_
          refine s_iconst (pc' := 239) (v := (1 : Int32)) X264.here hx (hb hby at_238) rfl rfl ?_
          refine s_goto (pc' := 243) X264.here hx (hb hby at_239) (by decide) (by decide) ?_
          obtain ⟨fs, hr, hrun, hended, hRW⟩ := X264.leaveW hS239 (by rw [hE264]; exact hk247) (v := (some (.int (1 : Int32)))) (fun h => by rw [Bd.returns] at h; cases h)
          have hCx := C247.trans (CHv.at X264 hZ239 hEL H247)
          refine Go.fin (retN X264 hx (t := .boolean) Bd.returns (by simp) (hb hby at_243) hr) (hF _ _ hrun hended ⟨_, _, rfl, ?_, ?_, hRW.1, hRW.2.1, hRW.2.2.1, hRW.2.2.2.mono (by decide) (by decide)⟩)
          · show QL Z t1 t2 c1 c2 od sel h0 n0 ((some (.int (1 : Int32))) : Option Value) T264.heap _
            rw [hE264]
            exact ⟨rfl, N264⟩
          · show CHr Z consts_1 s.vm s.heap T264.vm T264.heap
            rw [hE264, hh]; exact hCx
        · skip
          refine s_ifY (pc' := 244) XJ207.here hx (hb hby at_211) ((if0 _ _).trans (feq hc255).2) (by decide) (by decide) ?_
          refine s_iload (pc' := 246) XJ207.here hx (hb hby at_244) rfl rfl ?_
          refine s_iconst (pc' := 247) (v := (1 : Int32)) XJ207.here hx (hb hby at_246) rfl rfl ?_
          by_cases hc265 : kd = (1 : Int32)
          · skip
            refine s_icmpN (pc' := 250) XJ207.here hx (hb hby at_247) rfl (teq hc265).2 ?_
            refine s_aload (pc' := 252) XJ207.here hx (hb hby at_250) rfl rfl rfl ?_
            refine s_aconst_null (pc' := 253) XJ207.here hx (hb hby at_252) rfl ?_
            have f267 : Exa Z T247.heap b240 "com/example/data_roles/dataroles/policy/Mask" := ((q1_242.ext E244).keep Kq247)
            obtain ⟨cq266, kq266, q266a, q266b, q266c⟩ := isOf hZ239 eJ207 f267
            obtain ⟨_, _, ⟨T266, L266, k266, n266⟩, -, X266, ⟨Lc266, hQ266, l266, y266, z266⟩, st266⟩ := XJ207.virtualBack hx (y := (⟨"com/example/data_roles/dataroles/policy/Mask", "equals", "(Ljava/lang/Object;)Z"⟩ : MethodName)) (z := (⟨"com/example/data_roles/dataroles/policy/Mask", "equals", "(Ljava/lang/Object;)Z"⟩ : MethodName)) hown239 (mvT hZ239 (hw _ (List.mem_of_getElem? (i := 48) rfl))) (mvT hZ239 (hw _ (List.mem_of_getElem? (i := 49) rfl))) (notFace_of_selects (args := #[]) (mvT hZ239 (hw _ (List.mem_of_getElem? (i := 51) rfl)))) (mvT hZ239 (hw _ (List.mem_of_getElem? (i := 51) rfl))) (mvT hZ239 (hw _ (List.mem_of_getElem? (i := 50) rfl))) (by decide) (backOf (W := 0) (rmQ0 l Z a0 hw [] b240 T247.heap n0 O247 ) hZ239 (hw _ (List.mem_of_getElem? (i := 52) rfl)) (hw _ (List.mem_of_getElem? (i := 34) rfl)) (by decide) (by decide)) q266a q266c (g := (mkF m 253 #[.val (.int t1), .val (.int t2), .val (.int c1), .val (.int c2), .val (.long od), .second, .val (.int sel), .val (.int u2), .val (.int v2), .val (.int o1), .val (.int o2), .val (.int kd), .val (.ref x148), .val (.ref x149), .val .null, .val (.ref x239), .val (.ref b240), .val (.ref b244), .val (.int (-1 : Int32)), .val (.int (keyf v2)), .val (.int sm), .unset] [.null, (.ref b240)])) rfl (by rw [hml]; rfl) (Steps.refl _) (argsL := [.null]) (rest := []) (lenOf pd_3 rfl) rfl (by show 2 * 0 + _ ≤ _; exact Nat.le_of_eq rfl) (hb hby at_253) (fun _ _ => ⟨rfl, eJ207, (by decide : 20 + 0 ≤ _), (by decide : 42 + 0 ≤ _)⟩)
            dsimp only [Pt.U, Pt.locs, Pt.cells, Pt.slots] at X266 l266 y266 z266 st266 hQ266
            subst l266 y266 z266
            obtain ⟨rfl, Nq266, hE266⟩ := hQ266
            have N266 := Fr.app NJ207 Nq266
            refine Go.tr st266 ?_
            show Go p.tables e below Kx T266 (mkF m 256 #[.val (.int t1), .val (.int t2), .val (.int c1), .val (.int c2), .val (.long od), .second, .val (.int sel), .val (.int u2), .val (.int v2), .val (.int o1), .val (.int o2), .val (.int kd), .val (.ref x148), .val (.ref x149), .val .null, .val (.ref x239), .val (.ref b240), .val (.ref b244), .val (.int (-1 : Int32)), .val (.int (keyf v2)), .val (.int sm), .unset] [(.int (0 : Int32))])
            refine s_ifN (pc' := 259) X266.here hx (hb hby at_256) rfl ((if0 _ _).trans (teq (by decide)).2) ?_
            refine s_iconst (pc' := 260) (v := (1 : Int32)) X266.here hx (hb hby at_259) rfl rfl ?_
            refine s_goto (pc' := 264) X266.here hx (hb hby at_260) (by decide) (by decide) ?_
            obtain ⟨fs, hr, hrun, hended, hRW⟩ := X266.leaveW hS239 (by rw [hE266]; exact hk247) (v := (some (.int (1 : Int32)))) (fun h => by rw [Bd.returns] at h; cases h)
            have hCx := C247.trans (CHv.at X266 hZ239 hEL H247)
            refine Go.fin (retN X266 hx (t := .boolean) Bd.returns (by simp) (hb hby at_264) hr) (hF _ _ hrun hended ⟨_, _, rfl, ?_, ?_, hRW.1, hRW.2.1, hRW.2.2.1, hRW.2.2.2.mono (by decide) (by decide)⟩)
            · show QL Z t1 t2 c1 c2 od sel h0 n0 ((some (.int (1 : Int32))) : Option Value) T266.heap _
              rw [hE266]
              exact ⟨rfl, N266⟩
            · show CHr Z consts_1 s.vm s.heap T266.vm T266.heap
              rw [hE266, hh]; exact hCx
          · skip
            refine s_icmpY (pc' := 265) XJ207.here hx (hb hby at_247) (feq hc265).2 (by decide) (by decide) ?_
            refine s_iload (pc' := 267) XJ207.here hx (hb hby at_265) rfl rfl ?_
            refine s_iconst (pc' := 268) (v := (2 : Int32)) XJ207.here hx (hb hby at_267) rfl rfl ?_
            by_cases hc268 : kd = (2 : Int32)
            · skip
              refine s_icmpN (pc' := 271) XJ207.here hx (hb hby at_268) rfl (teq hc268).2 ?_
              refine s_aload (pc' := 273) XJ207.here hx (hb hby at_271) rfl rfl rfl ?_
              refine s_astore (pc' := 275) (Ls' := #[.val (.int t1), .val (.int t2), .val (.int c1), .val (.int c2), .val (.long od), .second, .val (.int sel), .val (.int u2), .val (.int v2), .val (.int o1), .val (.int o2), .val (.int kd), .val (.ref x148), .val (.ref x149), .val .null, .val (.ref x239), .val (.ref b240), .val (.ref b244), .val (.int (-1 : Int32)), .val (.int (keyf v2)), .val (.int sm), .val (.ref x149)]) XJ207.here hx (hb hby at_273) rfl rfl rfl ?_
              refine s_aload (pc' := 277) XJ207.here hx (hb hby at_275) rfl rfl rfl ?_
              refine s_aload (pc' := 279) XJ207.here hx (hb hby at_277) rfl rfl rfl ?_
              have f269 : Exa Z T247.heap x149 "java/lang/String" := (((((Sq149.2.1.keep Kq239).ext E240).keep Kq242).ext E244).keep Kq247)
              have f271 : Exa Z T247.heap b240 "com/example/data_roles/dataroles/policy/Mask" := ((q1_242.ext E244).keep Kq247)
              obtain ⟨cq270, kq270, q270a, q270b, q270c⟩ := isOf hZ239 eJ207 f271
              obtain ⟨_, _, ⟨T270, L270, k270, n270⟩, -, X270, ⟨Lc270, hQ270, l270, y270, z270⟩, st270⟩ := XJ207.virtualBack hx (y := (⟨"com/example/data_roles/dataroles/policy/Mask", "equals", "(Ljava/lang/Object;)Z"⟩ : MethodName)) (z := (⟨"com/example/data_roles/dataroles/policy/Mask", "equals", "(Ljava/lang/Object;)Z"⟩ : MethodName)) hown239 (mvT hZ239 (hw _ (List.mem_of_getElem? (i := 48) rfl))) (mvT hZ239 (hw _ (List.mem_of_getElem? (i := 49) rfl))) (notFace_of_selects (args := #[]) (mvT hZ239 (hw _ (List.mem_of_getElem? (i := 51) rfl)))) (mvT hZ239 (hw _ (List.mem_of_getElem? (i := 51) rfl))) (mvT hZ239 (hw _ (List.mem_of_getElem? (i := 50) rfl))) (by decide) (backOf (W := 0) (rmQ1 l Z a0 hw [] b240 x149 T247.heap n0 O247 f269) hZ239 (hw _ (List.mem_of_getElem? (i := 52) rfl)) (hw _ (List.mem_of_getElem? (i := 34) rfl)) (by decide) (by decide)) q270a q270c (g := (mkF m 279 #[.val (.int t1), .val (.int t2), .val (.int c1), .val (.int c2), .val (.long od), .second, .val (.int sel), .val (.int u2), .val (.int v2), .val (.int o1), .val (.int o2), .val (.int kd), .val (.ref x148), .val (.ref x149), .val .null, .val (.ref x239), .val (.ref b240), .val (.ref b244), .val (.int (-1 : Int32)), .val (.int (keyf v2)), .val (.int sm), .val (.ref x149)] [(.ref x149), (.ref b240)])) rfl (by rw [hml]; rfl) (Steps.refl _) (argsL := [(.ref x149)]) (rest := []) (lenOf pd_3 rfl) rfl (by show 2 * 0 + _ ≤ _; exact Nat.le_of_eq rfl) (hb hby at_279) (fun _ _ => ⟨rfl, eJ207, (by decide : 20 + 0 ≤ _), (by decide : 42 + 0 ≤ _)⟩)
              dsimp only [Pt.U, Pt.locs, Pt.cells, Pt.slots] at X270 l270 y270 z270 st270 hQ270
              subst l270 y270 z270
              obtain ⟨rfl, Nq270, hE270⟩ := hQ270
              have N270 := Fr.app NJ207 Nq270
              refine Go.tr st270 ?_
              show Go p.tables e below Kx T270 (mkF m 282 #[.val (.int t1), .val (.int t2), .val (.int c1), .val (.int c2), .val (.long od), .second, .val (.int sel), .val (.int u2), .val (.int v2), .val (.int o1), .val (.int o2), .val (.int kd), .val (.ref x148), .val (.ref x149), .val .null, .val (.ref x239), .val (.ref b240), .val (.ref b244), .val (.int (-1 : Int32)), .val (.int (keyf v2)), .val (.int sm), .val (.ref x149)] [(.int (0 : Int32))])
              refine s_ifN (pc' := 285) X270.here hx (hb hby at_282) rfl ((if0 _ _).trans (teq (by decide)).2) ?_
              refine s_iconst (pc' := 286) (v := (1 : Int32)) X270.here hx (hb hby at_285) rfl rfl ?_
              refine s_goto (pc' := 290) X270.here hx (hb hby at_286) (by decide) (by decide) ?_
              obtain ⟨fs, hr, hrun, hended, hRW⟩ := X270.leaveW hS239 (by rw [hE270]; exact hk247) (v := (some (.int (1 : Int32)))) (fun h => by rw [Bd.returns] at h; cases h)
              have hCx := C247.trans (CHv.at X270 hZ239 hEL H247)
              refine Go.fin (retN X270 hx (t := .boolean) Bd.returns (by simp) (hb hby at_290) hr) (hF _ _ hrun hended ⟨_, _, rfl, ?_, ?_, hRW.1, hRW.2.1, hRW.2.2.1, hRW.2.2.2.mono (by decide) (by decide)⟩)
              · show QL Z t1 t2 c1 c2 od sel h0 n0 ((some (.int (1 : Int32))) : Option Value) T270.heap _
                rw [hE270]
                exact ⟨rfl, N270⟩
              · show CHr Z consts_1 s.vm s.heap T270.vm T270.heap
                rw [hE270, hh]; exact hCx
            · skip
              refine s_icmpY (pc' := 291) XJ207.here hx (hb hby at_268) (feq hc268).2 (by decide) (by decide) ?_
              refine s_aload (pc' := 293) XJ207.here hx (hb hby at_291) rfl rfl rfl ?_
              refine s_aload (pc' := 295) XJ207.here hx (hb hby at_293) rfl rfl rfl ?_
              have f272 : Str Z T247.heap T148.heap.size x148 (txt t1) := ((((((Sq148.keep Kq149 all0).keep Kq239 all0).ext E240).keep Kq242 (allS (Nat.le_trans (Nat.le_trans Kq149.1 Kq239.1) (Nat.le_of_eq g240.symm)) all0)).ext E244).keep Kq247 (allS (Nat.le_trans (Nat.le_trans (Nat.le_trans (Nat.le_trans Kq149.1 Kq239.1) E240.1) Kq242.1) (Nat.le_of_eq g244.symm)) all0))
              have f273 : Exa Z T247.heap b240 "com/example/data_roles/dataroles/policy/Mask" := ((q1_242.ext E244).keep Kq247)
              have f274 : Fld Z T247.heap b240 "com/example/data_roles/dataroles/policy/Mask" "text" "Ljava/lang/String;" (.ref x148) := ((q2_242.ext E244).keep Kq247 (ninS (Nat.ne_of_lt (Nat.lt_of_lt_of_le (Nat.lt_of_lt_of_le A240.lt Kq242.1) (Nat.le_of_eq g244.symm))) nin0))
              have f275 : Fld Z T247.heap b240 "com/example/data_roles/dataroles/policy/Mask" "condition" "Ljava/lang/String;" .null := ((q3_242.ext E244).keep Kq247 (ninS (Nat.ne_of_lt (Nat.lt_of_lt_of_le (Nat.lt_of_lt_of_le A240.lt Kq242.1) (Nat.le_of_eq g244.symm))) nin0))
              have f276 : Fld Z T247.heap b240 "com/example/data_roles/dataroles/policy/Mask" "order" "I" (.int o1) := ((q4_242.ext E244).keep Kq247 (ninS (Nat.ne_of_lt (Nat.lt_of_lt_of_le (Nat.lt_of_lt_of_le A240.lt Kq242.1) (Nat.le_of_eq g244.symm))) nin0))
              obtain ⟨cq277, kq277, q277a, q277b, q277c⟩ := isOf hZ239 eJ207 f273
              obtain ⟨_, _, ⟨T277, L277, k277, n277⟩, -, X277, ⟨Lc277, hQ277, l277, y277, z277⟩, st277⟩ := XJ207.virtualBack hx (y := (⟨"com/example/data_roles/dataroles/policy/Mask", "equals", "(Ljava/lang/Object;)Z"⟩ : MethodName)) (z := (⟨"com/example/data_roles/dataroles/policy/Mask", "equals", "(Ljava/lang/Object;)Z"⟩ : MethodName)) hown239 (mvT hZ239 (hw _ (List.mem_of_getElem? (i := 48) rfl))) (mvT hZ239 (hw _ (List.mem_of_getElem? (i := 49) rfl))) (notFace_of_selects (args := #[]) (mvT hZ239 (hw _ (List.mem_of_getElem? (i := 51) rfl)))) (mvT hZ239 (hw _ (List.mem_of_getElem? (i := 51) rfl))) (mvT hZ239 (hw _ (List.mem_of_getElem? (i := 50) rfl))) (by decide) (backOf (W := 0) (rmQ200 l Z a0 hw [] b240 b240 x148 x148 _ _ (txt t1) (txt t1) o1 o1 T247.heap n0 O247 G1 S1 P1 f273 f274 f275 f276 f273 f274 f275 f276 f272 f272) hZ239 (hw _ (List.mem_of_getElem? (i := 52) rfl)) (hw _ (List.mem_of_getElem? (i := 34) rfl)) (by decide) (by decide)) q277a q277c (g := (mkF m 295 #[.val (.int t1), .val (.int t2), .val (.int c1), .val (.int c2), .val (.long od), .second, .val (.int sel), .val (.int u2), .val (.int v2), .val (.int o1), .val (.int o2), .val (.int kd), .val (.ref x148), .val (.ref x149), .val .null, .val (.ref x239), .val (.ref b240), .val (.ref b244), .val (.int (-1 : Int32)), .val (.int (keyf v2)), .val (.int sm), .unset] [(.ref b240), (.ref b240)])) rfl (by rw [hml]; rfl) (Steps.refl _) (argsL := [(.ref b240)]) (rest := []) (lenOf pd_3 rfl) rfl (by show 2 * 0 + _ ≤ _; exact Nat.le_of_eq rfl) (hb hby at_295) (fun _ _ => ⟨rfl, eJ207, (by decide : 20 + 0 ≤ _), (by decide : 42 + 0 ≤ _)⟩)
              dsimp only [Pt.U, Pt.locs, Pt.cells, Pt.slots] at X277 l277 y277 z277 st277 hQ277
              subst l277 y277 z277
              obtain ⟨⟨r277, rfl, hr277⟩, Nq277, hE277⟩ := hQ277
              have hr277 : r277 = 1 := by
                rcases hr277 with ⟨q, -⟩ | ⟨-, q⟩
                · exact q
                · exact absurd ⟨rfl, trivial, rfl⟩ q
              subst hr277
              have N277 := Fr.app NJ207 Nq277
              refine Go.tr st277 ?_
              show Go p.tables e below Kx T277 (mkF m 298 #[.val (.int t1), .val (.int t2), .val (.int c1), .val (.int c2), .val (.long od), .second, .val (.int sel), .val (.int u2), .val (.int v2), .val (.int o1), .val (.int o2), .val (.int kd), .val (.ref x148), .val (.ref x149), .val .null, .val (.ref x239), .val (.ref b240), .val (.ref b244), .val (.int (-1 : Int32)), .val (.int (keyf v2)), .val (.int sm), .unset] [(.int (1 : Int32))])
              obtain ⟨fs, hr, hrun, hended, hRW⟩ := X277.leaveW hS239 (by rw [hE277]; exact hk247) (v := (some (.int (1 : Int32)))) (fun h => by rw [Bd.returns] at h; cases h)
              have hCx := C247.trans (CHv.at X277 hZ239 hEL H247)
              refine Go.fin (retN X277 hx (t := .boolean) Bd.returns (by simp) (hb hby at_298) hr) (hF _ _ hrun hended ⟨_, _, rfl, ?_, ?_, hRW.1, hRW.2.1, hRW.2.2.1, hRW.2.2.2.mono (by decide) (by decide)⟩)
              · show QL Z t1 t2 c1 c2 od sel h0 n0 ((some (.int (1 : Int32))) : Option Value) T277.heap _
                rw [hE277]
                exact ⟨rfl, N277⟩
              · show CHr Z consts_1 s.vm s.heap T277.vm T277.heap
                rw [hE277, hh]; exact hCx
      by_cases hc278 : (keyf t1) = (keyf u2)
      · skip
        refine s_icmpN (pc' := 188) X254.here hx (hb hby at_185) rfl (teq hc278).2 ?_
        refine s_iload (pc' := 190) X254.here hx (hb hby at_188) rfl rfl ?_
        refine s_iload (pc' := 192) X254.here hx (hb hby at_190) rfl rfl ?_
        refine s_icmpY (pc' := 206) X254.here hx (hb hby at_192) (feq (fun z => key_nn v2 z.symm)).2 (by decide) (by decide) ?_
        refine s_iconst (pc' := 207) (v := (0 : Int32)) X254.here hx (hb hby at_206) rfl rfl ?_
        exact J207 _ _ _ X254 N254 hE254 (Or.inr ⟨rfl, fun q => id q.2.1⟩)
      · skip
        refine s_icmpY (pc' := 206) X254.here hx (hb hby at_185) (feq hc278).2 (by decide) (by decide) ?_
        refine s_iconst (pc' := 207) (v := (0 : Int32)) X254.here hx (hb hby at_206) rfl rfl ?_
        exact J207 _ _ _ X254 N254 hE254 (Or.inr ⟨rfl, fun q => hc278 ((key_iff t1 u2).mpr q.1)⟩)
    · skip
      have N238 := Fr.app N150 Nq238
      refine Go.st st238 ?_
      show Go p.tables e below Kx T238 (mkF m 96 #[.val (.int t1), .val (.int t2), .val (.int c1), .val (.int c2), .val (.long od), .second, .val (.int sel), .val (.int u2), .val (.int v2), .val (.int o1), .val (.int o2), .val (.int kd), .val (.ref x148), .val (.ref x149), .val .null, .unset, .unset, .unset, .unset, .unset, .unset, .unset] [(.int (1 : Int32))])
      refine s_ifN (pc' := 99) X238.here hx (hb hby at_96) rfl ((if0 _ _).trans (feq (by decide)).1) ?_
      refine s_aconst_null (pc' := 100) X238.here hx (hb hby at_99) rfl ?_
      refine s_goto (pc' := 108) X238.here hx (hb hby at_100) (by decide) (by decide) ?_
      refine s_astore (pc' := 110) (Ls' := #[.val (.int t1), .val (.int t2), .val (.int c1), .val (.int c2), .val (.long od), .second, .val (.int sel), .val (.int u2), .val (.int v2), .val (.int o1), .val (.int o2), .val (.int kd), .val (.ref x148), .val (.ref x149), .val .null, .val .null, .unset, .unset, .unset, .unset, .unset, .unset]) X238.here hx (hb hby at_108) rfl rfl rfl ?_
      obtain ⟨T279, h279, X279, e279, E279, A279, D279, -, st279⟩ := newO X238 hx hZ149 hown149 (hw _ (List.mem_of_getElem? (i := 32) rfl)) (hw _ (List.mem_of_getElem? (i := 33) rfl)) (hw _ (List.mem_of_getElem? (i := 34) rfl)) hE238 (g := (mkF m 110 #[.val (.int t1), .val (.int t2), .val (.int c1), .val (.int c2), .val (.long od), .second, .val (.int sel), .val (.int u2), .val (.int v2), .val (.int o1), .val (.int o2), .val (.int kd), .val (.ref x148), .val (.ref x149), .val .null, .val .null, .unset, .unset, .unset, .unset, .unset, .unset] [])) rfl (hb hby at_110) (by decide) (by decide)
      obtain ⟨b279, g279⟩ : ∃ z, z = T149.heap.size := ⟨_, rfl⟩
      rw [← g279] at A279 D279 st279
      have sz279 : h0.size ≤ b279 := Nat.le_trans K149.1 (Nat.le_of_eq g279.symm)
      have ge279 : n0 ≤ b279 := Nat.le_trans (O149.1 ▸ O149.2.1) (Nat.le_of_eq g279.symm)
      have sn279 : Safe Z consts_1 T149.vm T149.heap b279 := Safe.new (Nat.le_of_eq g279.symm)
      have K279 : Keep h0 h279 [] := K149.ext E279
      have O279 : Old Z n0 h279 := O149.ext E279
      have sf280 : Safe Z consts_1 T149.vm h279 b279 := (Safe.ext E279 Cr149.1 sn279)
      have H279 : CHv Z consts_1 T149.vm h279 := Cr149.1.ext E279
      have C279 : CHr Z consts_1 s.vm h0 T149.vm h279 := C149.trans (CHr.ext E279 Cr149.1)
      have hk279 := Nat.le_trans hk149 E279.1
      have F279_text : Fld Z h279 b279 "com/example/data_roles/dataroles/policy/Mask" "text" "Ljava/lang/String;" .null := D279 (Or.inr (hw _ (List.mem_of_getElem? (i := 40) rfl))) (ty := (.object "java/lang/String")) (by decide)
      have F279_condition : Fld Z h279 b279 "com/example/data_roles/dataroles/policy/Mask" "condition" "Ljava/lang/String;" .null := D279 (Or.inr (hw _ (List.mem_of_getElem? (i := 42) rfl))) (ty := (.object "java/lang/String")) (by decide)
      have F279_order : Fld Z h279 b279 "com/example/data_roles/dataroles/policy/Mask" "order" "I" (.int (0 : Int32)) := D279 (Or.inr (hw _ (List.mem_of_getElem? (i := 44) rfl))) (ty := .int) (by decide)
      refine Go.st st279 ?_
      show Go p.tables e below Kx T279 (mkF m 113 #[.val (.int t1), .val (.int t2), .val (.int c1), .val (.int c2), .val (.long od), .second, .val (.int sel), .val (.int u2), .val (.int v2), .val (.int o1), .val (.int o2), .val (.int kd), .val (.ref x148), .val (.ref x149), .val .null, .val .null, .unset, .unset, .unset, .unset, .unset, .unset] [(.ref b279)])
      refine s_dup (pc' := 114) X279.here hx (hb hby at_113) rfl rfl ?_
      refine s_aload (pc' := 116) X279.here hx (hb hby at_114) rfl rfl rfl ?_
      refine s_aload (pc' := 118) X279.here hx (hb hby at_116) rfl rfl rfl ?_
      refine s_iload (pc' := 120) X279.here hx (hb hby at_118) rfl rfl ?_
      obtain ⟨_, _, ⟨T281, L281, k281, n281⟩, -, X281, ⟨Lc281, hQ281, l281, y281, z281⟩, st281⟩ := X279.specialBack hx (y := (⟨"com/example/data_roles/dataroles/policy/Mask", "<init>", "(Ljava/lang/String;Ljava/lang/String;I)V"⟩ : MethodName)) rfl hown149 (mvT hZ149 (hw _ (List.mem_of_getElem? (i := 35) rfl))) (mvT hZ149 (hw _ (List.mem_of_getElem? (i := 36) rfl))) (mvT hZ149 (hw _ (List.mem_of_getElem? (i := 37) rfl))) (by decide) (backOf (W := 1) (rmI l Z a0 hw [] b279 x148 .null o1 h279 n0 O279 rfl ge279 A279 F279_text F279_condition F279_order) hZ149 (hw _ (List.mem_of_getElem? (i := 37) rfl)) (hw _ (List.mem_of_getElem? (i := 34) rfl)) (by decide) (by decide)) (g := (mkF m 120 #[.val (.int t1), .val (.int t2), .val (.int c1), .val (.int c2), .val (.long od), .second, .val (.int sel), .val (.int u2), .val (.int v2), .val (.int o1), .val (.int o2), .val (.int kd), .val (.ref x148), .val (.ref x149), .val .null, .val .null, .unset, .unset, .unset, .unset, .unset, .unset] [(.int o1), .null, (.ref x148), (.ref b279), (.ref b279)])) rfl (by rw [hml]; rfl) (Steps.refl _) (a := b279) (argsL := [(.ref x148), .null, (.int o1)]) (rest := [(.ref b279)]) (lenOf pd_7 rfl) rfl (by show 2 * 0 + _ ≤ _; exact Nat.le_of_eq rfl) (hb hby at_120) (fun _ _ => ⟨rfl, e279, (by decide : 13 + 0 ≤ _), (by decide : 27 + 0 ≤ _)⟩)
      dsimp only [Pt.U, Pt.locs, Pt.cells, Pt.slots] at X281 l281 y281 z281 st281 hQ281
      subst l281 y281 z281
      obtain ⟨rfl, Nq281, Kq281, q1_281, q2_281, q3_281, q4_281⟩ := hQ281
      have N281 := Fr.app N238 Nq281
      have K281 : Keep h0 T281.heap [] := K279.trans Kq281 (allS (P := fun zz => zz ∈ [] ∨ h0.size ≤ zz) (Or.inr sz279) all0)
      have O281 : Old Z n0 T281.heap := O279.keep Kq281 (allS ge279 all0)
      have sf282 : Safe Z consts_1 T149.vm T281.heap b279 := (Safe.keep Kq281 (sfS sf280 sf0) H279 sf280)
      have H281 : CHv Z consts_1 T149.vm T281.heap := H279.keep Kq281 (sfS sf280 sf0)
      have C281 : CHr Z consts_1 s.vm h0 T149.vm T281.heap := C279.trans (CHr.keep Kq281 (sfS sf280 sf0) H279)
      have hk281 := Nat.le_trans hk279 Kq281.1
      refine Go.tr st281 ?_
      show Go p.tables e below Kx T281 (mkF m 123 #[.val (.int t1), .val (.int t2), .val (.int c1), .val (.int c2), .val (.long od), .second, .val (.int sel), .val (.int u2), .val (.int v2), .val (.int o1), .val (.int o2), .val (.int kd), .val (.ref x148), .val (.ref x149), .val .null, .val .null, .unset, .unset, .unset, .unset, .unset, .unset] [(.ref b279)])
      refine s_astore (pc' := 125) (Ls' := #[.val (.int t1), .val (.int t2), .val (.int c1), .val (.int c2), .val (.long od), .second, .val (.int sel), .val (.int u2), .val (.int v2), .val (.int o1), .val (.int o2), .val (.int kd), .val (.ref x148), .val (.ref x149), .val .null, .val .null, .val (.ref b279), .unset, .unset, .unset, .unset, .unset]) X281.here hx (hb hby at_123) rfl rfl rfl ?_
      obtain ⟨T283, h283, X283, e283, E283, A283, D283, -, st283⟩ := newO X281 hx hZ149 hown149 (hw _ (List.mem_of_getElem? (i := 32) rfl)) (hw _ (List.mem_of_getElem? (i := 33) rfl)) (hw _ (List.mem_of_getElem? (i := 34) rfl)) rfl (g := (mkF m 125 #[.val (.int t1), .val (.int t2), .val (.int c1), .val (.int c2), .val (.long od), .second, .val (.int sel), .val (.int u2), .val (.int v2), .val (.int o1), .val (.int o2), .val (.int kd), .val (.ref x148), .val (.ref x149), .val .null, .val .null, .val (.ref b279), .unset, .unset, .unset, .unset, .unset] [])) rfl (hb hby at_125) (by decide) (by decide)
      obtain ⟨b283, g283⟩ : ∃ z, z = T281.heap.size := ⟨_, rfl⟩
      rw [← g283] at A283 D283 st283
      have sz283 : h0.size ≤ b283 := Nat.le_trans K281.1 (Nat.le_of_eq g283.symm)
      have ge283 : n0 ≤ b283 := Nat.le_trans (O281.1 ▸ O281.2.1) (Nat.le_of_eq g283.symm)
      have sn283 : Safe Z consts_1 T149.vm T281.heap b283 := Safe.new (Nat.le_of_eq g283.symm)
      have K283 : Keep h0 h283 [] := K281.ext E283
      have O283 : Old Z n0 h283 := O281.ext E283
      have sf284 : Safe Z consts_1 T149.vm h283 b279 := (Safe.ext E283 H281 sf282)
      have sf285 : Safe Z consts_1 T149.vm h283 b283 := (Safe.ext E283 H281 sn283)
      have H283 : CHv Z consts_1 T149.vm h283 := H281.ext E283
      have C283 : CHr Z consts_1 s.vm h0 T149.vm h283 := C281.trans (CHr.ext E283 H281)
      have hk283 := Nat.le_trans hk281 E283.1
      have F283_text : Fld Z h283 b283 "com/example/data_roles/dataroles/policy/Mask" "text" "Ljava/lang/String;" .null := D283 (Or.inr (hw _ (List.mem_of_getElem? (i := 40) rfl))) (ty := (.object "java/lang/String")) (by decide)
      have F283_condition : Fld Z h283 b283 "com/example/data_roles/dataroles/policy/Mask" "condition" "Ljava/lang/String;" .null := D283 (Or.inr (hw _ (List.mem_of_getElem? (i := 42) rfl))) (ty := (.object "java/lang/String")) (by decide)
      have F283_order : Fld Z h283 b283 "com/example/data_roles/dataroles/policy/Mask" "order" "I" (.int (0 : Int32)) := D283 (Or.inr (hw _ (List.mem_of_getElem? (i := 44) rfl))) (ty := .int) (by decide)
      refine Go.st st283 ?_
      show Go p.tables e below Kx T283 (mkF m 128 #[.val (.int t1), .val (.int t2), .val (.int c1), .val (.int c2), .val (.long od), .second, .val (.int sel), .val (.int u2), .val (.int v2), .val (.int o1), .val (.int o2), .val (.int kd), .val (.ref x148), .val (.ref x149), .val .null, .val .null, .val (.ref b279), .unset, .unset, .unset, .unset, .unset] [(.ref b283)])
      refine s_dup (pc' := 129) X283.here hx (hb hby at_128) rfl rfl ?_
      refine s_aload (pc' := 131) X283.here hx (hb hby at_129) rfl rfl rfl ?_
      refine s_aload (pc' := 133) X283.here hx (hb hby at_131) rfl rfl rfl ?_
      refine s_iload (pc' := 135) X283.here hx (hb hby at_133) rfl rfl ?_
      obtain ⟨_, _, ⟨T286, L286, k286, n286⟩, -, X286, ⟨Lc286, hQ286, l286, y286, z286⟩, st286⟩ := X283.specialBack hx (y := (⟨"com/example/data_roles/dataroles/policy/Mask", "<init>", "(Ljava/lang/String;Ljava/lang/String;I)V"⟩ : MethodName)) rfl hown149 (mvT hZ149 (hw _ (List.mem_of_getElem? (i := 35) rfl))) (mvT hZ149 (hw _ (List.mem_of_getElem? (i := 36) rfl))) (mvT hZ149 (hw _ (List.mem_of_getElem? (i := 37) rfl))) (by decide) (backOf (W := 1) (rmI l Z a0 hw [] b283 x149 .null o2 h283 n0 O283 rfl ge283 A283 F283_text F283_condition F283_order) hZ149 (hw _ (List.mem_of_getElem? (i := 37) rfl)) (hw _ (List.mem_of_getElem? (i := 34) rfl)) (by decide) (by decide)) (g := (mkF m 135 #[.val (.int t1), .val (.int t2), .val (.int c1), .val (.int c2), .val (.long od), .second, .val (.int sel), .val (.int u2), .val (.int v2), .val (.int o1), .val (.int o2), .val (.int kd), .val (.ref x148), .val (.ref x149), .val .null, .val .null, .val (.ref b279), .unset, .unset, .unset, .unset, .unset] [(.int o2), .null, (.ref x149), (.ref b283), (.ref b283)])) rfl (by rw [hml]; rfl) (Steps.refl _) (a := b283) (argsL := [(.ref x149), .null, (.int o2)]) (rest := [(.ref b283)]) (lenOf pd_7 rfl) rfl (by show 2 * 0 + _ ≤ _; exact Nat.le_of_eq rfl) (hb hby at_135) (fun _ _ => ⟨rfl, e283, (by decide : 14 + 0 ≤ _), (by decide : 30 + 0 ≤ _)⟩)
      dsimp only [Pt.U, Pt.locs, Pt.cells, Pt.slots] at X286 l286 y286 z286 st286 hQ286
      subst l286 y286 z286
      obtain ⟨rfl, Nq286, Kq286, q1_286, q2_286, q3_286, q4_286⟩ := hQ286
      have N286 := Fr.app N281 Nq286
      have K286 : Keep h0 T286.heap [] := K283.trans Kq286 (allS (P := fun zz => zz ∈ [] ∨ h0.size ≤ zz) (Or.inr sz283) all0)
      have O286 : Old Z n0 T286.heap := O283.keep Kq286 (allS ge283 all0)
      have sf287 : Safe Z consts_1 T149.vm T286.heap b279 := (Safe.keep Kq286 (sfS sf285 sf0) H283 sf284)
      have sf288 : Safe Z consts_1 T149.vm T286.heap b283 := (Safe.keep Kq286 (sfS sf285 sf0) H283 sf285)
      have H286 : CHv Z consts_1 T149.vm T286.heap := H283.keep Kq286 (sfS sf285 sf0)
      have C286 : CHr Z consts_1 s.vm h0 T149.vm T286.heap := C283.trans (CHr.keep Kq286 (sfS sf285 sf0) H283)
      have hk286 := Nat.le_trans hk283 Kq286.1
      refine Go.tr st286 ?_
      show Go p.tables e below Kx T286 (mkF m 138 #[.val (.int t1), .val (.int t2), .val (.int c1), .val (.int c2), .val (.long od), .second, .val (.int sel), .val (.int u2), .val (.int v2), .val (.int o1), .val (.int o2), .val (.int kd), .val (.ref x148), .val (.ref x149), .val .null, .val .null, .val (.ref b279), .unset, .unset, .unset, .unset, .unset] [(.ref b283)])
      refine s_astore (pc' := 140) (Ls' := #[.val (.int t1), .val (.int t2), .val (.int c1), .val (.int c2), .val (.long od), .second, .val (.int sel), .val (.int u2), .val (.int v2), .val (.int o1), .val (.int o2), .val (.int kd), .val (.ref x148), .val (.ref x149), .val .null, .val .null, .val (.ref b279), .val (.ref b283), .unset, .unset, .unset, .unset]) X286.here hx (hb hby at_138) rfl rfl rfl ?_
      refine s_iloadN (pc' := 141) X286.here hx (hb hby at_140) rfl rfl ?_
      obtain ⟨_, _, ⟨T289, L289, k289, n289⟩, -, X289, ⟨Lc289, hQ289, l289, y289, z289⟩, st289⟩ := Jvm.LawKit.callS X286 hx (y := (⟨"com/example/data_roles/dataroles/policy/MaskEqualsPinLaw", "isNull", "(I)Z"⟩ : MethodName)) hown149 (mvT hZ149 (hw _ (List.mem_of_getElem? (i := 29) rfl))) (mvT hZ149 (hw _ (List.mem_of_getElem? (i := 30) rfl))) (mvT hZ149 (hw _ (List.mem_of_getElem? (i := 2) rfl))) (mvT hZ149 (hw _ (List.mem_of_getElem? (i := 31) rfl))) (by decide) (backOf (W := 0) (rmU l Z a0 hw [] c1 T286.heap n0 O286 ) hZ149 (hw _ (List.mem_of_getElem? (i := 31) rfl)) (hw _ (List.mem_of_getElem? (i := 2) rfl)) (by decide) (by decide)) (g := (mkF m 141 #[.val (.int t1), .val (.int t2), .val (.int c1), .val (.int c2), .val (.long od), .second, .val (.int sel), .val (.int u2), .val (.int v2), .val (.int o1), .val (.int o2), .val (.int kd), .val (.ref x148), .val (.ref x149), .val .null, .val .null, .val (.ref b279), .val (.ref b283), .unset, .unset, .unset, .unset] [(.int c1)])) rfl (by rw [hml]; rfl) (argsL := [(.int c1)]) (rest := []) (lenOf pd_6 rfl) rfl (by show 2 * 0 + _ ≤ _; exact Nat.le_of_eq rfl) (hb hby at_141) (fun _ _ => ⟨rfl, rfl, (by decide : 14 + 0 ≤ _), (by decide : 30 + 0 ≤ _)⟩)
      dsimp only [Pt.U, Pt.locs, Pt.cells, Pt.slots] at X289 l289 y289 z289 st289 hQ289
      subst l289 y289 z289
      obtain ⟨⟨r289, rfl, hr289⟩, Nq289, hE289⟩ := hQ289
      have hr289 : r289 = 1 := by
        rcases hr289 with ⟨q, z⟩ | ⟨q, z⟩
        · exact absurd z hr150
        · exact q
      subst hr289
      have N289 := Fr.app N286 Nq289
      refine Go.st st289 ?_
      show Go p.tables e below Kx T289 (mkF m 144 #[.val (.int t1), .val (.int t2), .val (.int c1), .val (.int c2), .val (.long od), .second, .val (.int sel), .val (.int u2), .val (.int v2), .val (.int o1), .val (.int o2), .val (.int kd), .val (.ref x148), .val (.ref x149), .val .null, .val .null, .val (.ref b279), .val (.ref b283), .unset, .unset, .unset, .unset] [(.int (1 : Int32))])
      refine s_ifN (pc' := 147) X289.here hx (hb hby at_144) rfl ((if0 _ _).trans (feq (by decide)).1) ?_
      refine s_iconst (pc' := 148) (v := (-1 : Int32)) X289.here hx (hb hby at_147) rfl rfl ?_
      refine s_goto (pc' := 155) X289.here hx (hb hby at_148) (by decide) (by decide) ?_
      refine s_istore (pc' := 157) (Ls' := #[.val (.int t1), .val (.int t2), .val (.int c1), .val (.int c2), .val (.long od), .second, .val (.int sel), .val (.int u2), .val (.int v2), .val (.int o1), .val (.int o2), .val (.int kd), .val (.ref x148), .val (.ref x149), .val .null, .val .null, .val (.ref b279), .val (.ref b283), .val (.int (-1 : Int32)), .unset, .unset, .unset]) X289.here hx (hb hby at_155) rfl  rfl ?_
      refine s_iload (pc' := 159) X289.here hx (hb hby at_157) rfl rfl ?_
      obtain ⟨_, _, ⟨T290, L290, k290, n290⟩, -, X290, ⟨Lc290, hQ290, l290, y290, z290⟩, st290⟩ := Jvm.LawKit.callS X289 hx (y := (⟨"com/example/data_roles/dataroles/policy/MaskEqualsPinLaw", "isNull", "(I)Z"⟩ : MethodName)) hown149 (mvT hZ149 (hw _ (List.mem_of_getElem? (i := 29) rfl))) (mvT hZ149 (hw _ (List.mem_of_getElem? (i := 30) rfl))) (mvT hZ149 (hw _ (List.mem_of_getElem? (i := 2) rfl))) (mvT hZ149 (hw _ (List.mem_of_getElem? (i := 31) rfl))) (by decide) (backOf (W := 0) (rmU l Z a0 hw [] v2 T286.heap n0 O286 ) hZ149 (hw _ (List.mem_of_getElem? (i := 31) rfl)) (hw _ (List.mem_of_getElem? (i := 2) rfl)) (by decide) (by decide)) (g := (mkF m 159 #[.val (.int t1), .val (.int t2), .val (.int c1), .val (.int c2), .val (.long od), .second, .val (.int sel), .val (.int u2), .val (.int v2), .val (.int o1), .val (.int o2), .val (.int kd), .val (.ref x148), .val (.ref x149), .val .null, .val .null, .val (.ref b279), .val (.ref b283), .val (.int (-1 : Int32)), .unset, .unset, .unset] [(.int v2)])) rfl (by rw [hml]; rfl) (argsL := [(.int v2)]) (rest := []) (lenOf pd_6 rfl) rfl (by show 2 * 0 + _ ≤ _; exact Nat.le_of_eq rfl) (hb hby at_159) (fun _ _ => ⟨rfl, hE289, (by decide : 14 + 0 ≤ _), (by decide : 30 + 0 ≤ _)⟩)
      dsimp only [Pt.U, Pt.locs, Pt.cells, Pt.slots] at X290 l290 y290 z290 st290 hQ290
      subst l290 y290 z290
      obtain ⟨⟨r290, rfl, hr290⟩, Nq290, hE290⟩ := hQ290
      have hr290 : r290 = 1 := by
        rcases hr290 with ⟨q, z⟩ | ⟨q, z⟩
        · exact absurd z hr238
        · exact q
      subst hr290
      have N290 := Fr.app N289 Nq290
      refine Go.st st290 ?_
      show Go p.tables e below Kx T290 (mkF m 162 #[.val (.int t1), .val (.int t2), .val (.int c1), .val (.int c2), .val (.long od), .second, .val (.int sel), .val (.int u2), .val (.int v2), .val (.int o1), .val (.int o2), .val (.int kd), .val (.ref x148), .val (.ref x149), .val .null, .val .null, .val (.ref b279), .val (.ref b283), .val (.int (-1 : Int32)), .unset, .unset, .unset] [(.int (1 : Int32))])
      refine s_ifN (pc' := 165) X290.here hx (hb hby at_162) rfl ((if0 _ _).trans (feq (by decide)).1) ?_
      refine s_iconst (pc' := 166) (v := (-1 : Int32)) X290.here hx (hb hby at_165) rfl rfl ?_
      refine s_goto (pc' := 174) X290.here hx (hb hby at_166) (by decide) (by decide) ?_
      refine s_istore (pc' := 176) (Ls' := #[.val (.int t1), .val (.int t2), .val (.int c1), .val (.int c2), .val (.long od), .second, .val (.int sel), .val (.int u2), .val (.int v2), .val (.int o1), .val (.int o2), .val (.int kd), .val (.ref x148), .val (.ref x149), .val .null, .val .null, .val (.ref b279), .val (.ref b283), .val (.int (-1 : Int32)), .val (.int (-1 : Int32)), .unset, .unset]) X290.here hx (hb hby at_174) rfl  rfl ?_
      refine s_iloadN (pc' := 177) X290.here hx (hb hby at_176) rfl rfl ?_
      obtain ⟨_, _, ⟨T291, L291, k291, n291⟩, -, X291, ⟨Lc291, hQ291, l291, y291, z291⟩, st291⟩ := Jvm.LawKit.callS X290 hx (y := (⟨"com/example/data_roles/dataroles/policy/MaskEqualsPinLaw", "keyOf", "(I)I"⟩ : MethodName)) hown149 (mvT hZ149 (hw _ (List.mem_of_getElem? (i := 45) rfl))) (mvT hZ149 (hw _ (List.mem_of_getElem? (i := 46) rfl))) (mvT hZ149 (hw _ (List.mem_of_getElem? (i := 2) rfl))) (mvT hZ149 (hw _ (List.mem_of_getElem? (i := 47) rfl))) (by decide) (backOf (W := 0) (rmK l Z a0 hw [] t1 T286.heap n0 O286 ) hZ149 (hw _ (List.mem_of_getElem? (i := 47) rfl)) (hw _ (List.mem_of_getElem? (i := 2) rfl)) (by decide) (by decide)) (g := (mkF m 177 #[.val (.int t1), .val (.int t2), .val (.int c1), .val (.int c2), .val (.long od), .second, .val (.int sel), .val (.int u2), .val (.int v2), .val (.int o1), .val (.int o2), .val (.int kd), .val (.ref x148), .val (.ref x149), .val .null, .val .null, .val (.ref b279), .val (.ref b283), .val (.int (-1 : Int32)), .val (.int (-1 : Int32)), .unset, .unset] [(.int t1)])) rfl (by rw [hml]; rfl) (argsL := [(.int t1)]) (rest := []) (lenOf pd_1 rfl) rfl (by show 2 * 0 + _ ≤ _; exact Nat.le_of_eq rfl) (hb hby at_177) (fun _ _ => ⟨rfl, hE290, (by decide : 14 + 0 ≤ _), (by decide : 30 + 0 ≤ _)⟩)
      dsimp only [Pt.U, Pt.locs, Pt.cells, Pt.slots] at X291 l291 y291 z291 st291 hQ291
      subst l291 y291 z291
      obtain ⟨rfl, Nq291, hE291⟩ := hQ291
      have N291 := Fr.app N290 Nq291
      refine Go.st st291 ?_
      show Go p.tables e below Kx T291 (mkF m 180 #[.val (.int t1), .val (.int t2), .val (.int c1), .val (.int c2), .val (.long od), .second, .val (.int sel), .val (.int u2), .val (.int v2), .val (.int o1), .val (.int o2), .val (.int kd), .val (.ref x148), .val (.ref x149), .val .null, .val .null, .val (.ref b279), .val (.ref b283), .val (.int (-1 : Int32)), .val (.int (-1 : Int32)), .unset, .unset] [(.int (keyf t1))])
      refine s_iload (pc' := 182) X291.here hx (hb hby at_180) rfl rfl ?_
      obtain ⟨_, _, ⟨T292, L292, k292, n292⟩, -, X292, ⟨Lc292, hQ292, l292, y292, z292⟩, st292⟩ := Jvm.LawKit.callS X291 hx (y := (⟨"com/example/data_roles/dataroles/policy/MaskEqualsPinLaw", "keyOf", "(I)I"⟩ : MethodName)) hown149 (mvT hZ149 (hw _ (List.mem_of_getElem? (i := 45) rfl))) (mvT hZ149 (hw _ (List.mem_of_getElem? (i := 46) rfl))) (mvT hZ149 (hw _ (List.mem_of_getElem? (i := 2) rfl))) (mvT hZ149 (hw _ (List.mem_of_getElem? (i := 47) rfl))) (by decide) (backOf (W := 1) (rmK l Z a0 hw [] u2 T286.heap n0 O286 ) hZ149 (hw _ (List.mem_of_getElem? (i := 47) rfl)) (hw _ (List.mem_of_getElem? (i := 2) rfl)) (by decide) (by decide)) (g := (mkF m 182 #[.val (.int t1), .val (.int t2), .val (.int c1), .val (.int c2), .val (.long od), .second, .val (.int sel), .val (.int u2), .val (.int v2), .val (.int o1), .val (.int o2), .val (.int kd), .val (.ref x148), .val (.ref x149), .val .null, .val .null, .val (.ref b279), .val (.ref b283), .val (.int (-1 : Int32)), .val (.int (-1 : Int32)), .unset, .unset] [(.int u2), (.int (keyf t1))])) rfl (by rw [hml]; rfl) (argsL := [(.int u2)]) (rest := [(.int (keyf t1))]) (lenOf pd_1 rfl) rfl (by show 2 * 0 + _ ≤ _; exact Nat.le_of_eq rfl) (hb hby at_182) (fun _ _ => ⟨rfl, hE291, (by decide : 14 + 0 ≤ _), (by decide : 30 + 0 ≤ _)⟩)
      dsimp only [Pt.U, Pt.locs, Pt.cells, Pt.slots] at X292 l292 y292 z292 st292 hQ292
      subst l292 y292 z292
      obtain ⟨rfl, Nq292, hE292⟩ := hQ292
      have N292 := Fr.app N291 Nq292
      refine Go.st st292 ?_
      show Go p.tables e below Kx T292 (mkF m 185 #[.val (.int t1), .val (.int t2), .val (.int c1), .val (.int c2), .val (.long od), .second, .val (.int sel), .val (.int u2), .val (.int v2), .val (.int o1), .val (.int o2), .val (.int kd), .val (.ref x148), .val (.ref x149), .val .null, .val .null, .val (.ref b279), .val (.ref b283), .val (.int (-1 : Int32)), .val (.int (-1 : Int32)), .unset, .unset] [(.int (keyf u2)), (.int (keyf t1))])
      have J207 : ∀ (sm : Int32) (TJ207 : State) (LJ207 : List Loc), Stand p l e room_1 (s.setVm T149.vm) m #[(.int t1), (.int t2), (.int c1), (.int c2), (.long od), (.int sel)] below meth c TJ207 LJ207 14 30 → Fr n0 LJ207 → TJ207.heap = T286.heap → ((sm = 1 ∧ (txt t1 = txt u2 ∧ True ∧ o1 = o2)) ∨ (sm = 0 ∧ ¬ (txt t1 = txt u2 ∧ True ∧ o1 = o2))) → Go p.tables e below Kx TJ207 (mkF m 207 #[.val (.int t1), .val (.int t2), .val (.int c1), .val (.int c2), .val (.long od), .second, .val (.int sel), .val (.int u2), .val (.int v2), .val (.int o1), .val (.int o2), .val (.int kd), .val (.ref x148), .val (.ref x149), .val .null, .val .null, .val (.ref b279), .val (.ref b283), .val (.int (-1 : Int32)), .val (.int (-1 : Int32)), .unset, .unset] [(.int sm)]) := by
        intro sm TJ207 LJ207 XJ207 NJ207 eJ207 hsm
        have hex1 : ∀ r : Int32, ((r = 1 ∧ (txt t1 = txt u2 ∧ True ∧ o1 = o2)) ∨ (r = 0 ∧ ¬ (txt t1 = txt u2 ∧ True ∧ o1 = o2))) → r = sm := fun r hr => ex_one hsm hr
        have hex2 : ∀ r : Int32, ((r = 1 ∧ (txt u2 = txt t1 ∧ True ∧ o2 = o1)) ∨ (r = 0 ∧ ¬ (txt u2 = txt t1 ∧ True ∧ o2 = o1))) → r = sm := fun r hr => ex_one hsm (by rw [eq_comm (a := txt t1), eq_comm (a := o1)]; exact hr)
        refine s_istore (pc' := 209) (Ls' := #[.val (.int t1), .val (.int t2), .val (.int c1), .val (.int c2), .val (.long od), .second, .val (.int sel), .val (.int u2), .val (.int v2), .val (.int o1), .val (.int o2), .val (.int kd), .val (.ref x148), .val (.ref x149), .val .null, .val .null, .val (.ref b279), .val (.ref b283), .val (.int (-1 : Int32)), .val (.int (-1 : Int32)), .val (.int sm), .unset]) XJ207.here hx (hb hby at_207) rfl  rfl ?_
        refine s_iload (pc' := 211) XJ207.here hx (hb hby at_209) rfl rfl ?_
        by_cases hc293 : kd = (0 : Int32)
        · skip
          refine s_ifN (pc' := 214) XJ207.here hx (hb hby at_211) rfl ((if0 _ _).trans (teq hc293).2) ?_
          refine s_aload (pc' := 216) XJ207.here hx (hb hby at_214) rfl rfl rfl ?_
          refine s_aload (pc' := 218) XJ207.here hx (hb hby at_216) rfl rfl rfl ?_
          have f294 : Str Z T286.heap T148.heap.size x148 (txt t1) := (((((Sq148.keep Kq149 all0).ext E279).keep Kq281 (allS (Nat.le_trans Kq149.1 (Nat.le_of_eq g279.symm)) all0)).ext E283).keep Kq286 (allS (Nat.le_trans (Nat.le_trans (Nat.le_trans Kq149.1 E279.1) Kq281.1) (Nat.le_of_eq g283.symm)) all0))
          have f295 : Str Z T286.heap T149.heap.size x149 (txt u2) := ((((Sq149.ext E279).keep Kq281 (allS (Nat.le_of_eq g279.symm) all0)).ext E283).keep Kq286 (allS (Nat.le_trans (Nat.le_trans E279.1 Kq281.1) (Nat.le_of_eq g283.symm)) all0))
          have f296 : Exa Z T286.heap b279 "com/example/data_roles/dataroles/policy/Mask" := ((q1_281.ext E283).keep Kq286)
          have f297 : Fld Z T286.heap b279 "com/example/data_roles/dataroles/policy/Mask" "text" "Ljava/lang/String;" (.ref x148) := ((q2_281.ext E283).keep Kq286 (ninS (Nat.ne_of_lt (Nat.lt_of_lt_of_le (Nat.lt_of_lt_of_le A279.lt Kq281.1) (Nat.le_of_eq g283.symm))) nin0))
          have f298 : Fld Z T286.heap b279 "com/example/data_roles/dataroles/policy/Mask" "condition" "Ljava/lang/String;" .null := ((q3_281.ext E283).keep Kq286 (ninS (Nat.ne_of_lt (Nat.lt_of_lt_of_le (Nat.lt_of_lt_of_le A279.lt Kq281.1) (Nat.le_of_eq g283.symm))) nin0))
          have f299 : Fld Z T286.heap b279 "com/example/data_roles/dataroles/policy/Mask" "order" "I" (.int o1) := ((q4_281.ext E283).keep Kq286 (ninS (Nat.ne_of_lt (Nat.lt_of_lt_of_le (Nat.lt_of_lt_of_le A279.lt Kq281.1) (Nat.le_of_eq g283.symm))) nin0))
          obtain ⟨cq300, kq300, q300a, q300b, q300c⟩ := isOf hZ149 eJ207 f296
          obtain ⟨_, _, ⟨T300, L300, k300, n300⟩, -, X300, ⟨Lc300, hQ300, l300, y300, z300⟩, st300⟩ := XJ207.virtualBack hx (y := (⟨"com/example/data_roles/dataroles/policy/Mask", "equals", "(Ljava/lang/Object;)Z"⟩ : MethodName)) (z := (⟨"com/example/data_roles/dataroles/policy/Mask", "equals", "(Ljava/lang/Object;)Z"⟩ : MethodName)) hown149 (mvT hZ149 (hw _ (List.mem_of_getElem? (i := 48) rfl))) (mvT hZ149 (hw _ (List.mem_of_getElem? (i := 49) rfl))) (notFace_of_selects (args := #[]) (mvT hZ149 (hw _ (List.mem_of_getElem? (i := 51) rfl)))) (mvT hZ149 (hw _ (List.mem_of_getElem? (i := 51) rfl))) (mvT hZ149 (hw _ (List.mem_of_getElem? (i := 50) rfl))) (by decide) (backOf (W := 0) (rmQ200 l Z a0 hw [] b279 b283 x148 x149 _ _ (txt t1) (txt u2) o1 o2 T286.heap n0 O286 G1 S1 P1 f296 f297 f298 f299 q1_286 q2_286 q3_286 q4_286 f294 f295) hZ149 (hw _ (List.mem_of_getElem? (i := 52) rfl)) (hw _ (List.mem_of_getElem? (i := 34) rfl)) (by decide) (by decide)) q300a q300c (g := (mkF m 218 #[.val (.int t1), .val (.int t2), .val (.int c1), .val (.int c2), .val (.long od), .second, .val (.int sel), .val (.int u2), .val (.int v2), .val (.int o1), .val (.int o2), .val (.int kd), .val (.ref x148), .val (.ref x149), .val .null, .val .null, .val (.ref b279), .val (.ref b283), .val (.int (-1 : Int32)), .val (.int (-1 : Int32)), .val (.int sm), .unset] [(.ref b283), (.ref b279)])) rfl (by rw [hml]; rfl) (Steps.refl _) (argsL := [(.ref b283)]) (rest := []) (lenOf pd_3 rfl) rfl (by show 2 * 0 + _ ≤ _; exact Nat.le_of_eq rfl) (hb hby at_218) (fun _ _ => ⟨rfl, eJ207, (by decide : 14 + 0 ≤ _), (by decide : 30 + 0 ≤ _)⟩)
          dsimp only [Pt.U, Pt.locs, Pt.cells, Pt.slots] at X300 l300 y300 z300 st300 hQ300
          subst l300 y300 z300
          obtain ⟨⟨r300, rfl, hr300⟩, Nq300, hE300⟩ := hQ300
          have hr300 : sm = r300 := (hex1 _ hr300).symm
          subst hr300
          have N300 := Fr.app NJ207 Nq300
          refine Go.tr st300 ?_
          show Go p.tables e below Kx T300 (mkF m 221 #[.val (.int t1), .val (.int t2), .val (.int c1), .val (.int c2), .val (.long od), .second, .val (.int sel), .val (.int u2), .val (.int v2), .val (.int o1), .val (.int o2), .val (.int kd), .val (.ref x148), .val (.ref x149), .val .null, .val .null, .val (.ref b279), .val (.ref b283), .val (.int (-1 : Int32)), .val (.int (-1 : Int32)), .val (.int sm), .unset] [(.int sm)])
          refine s_iload (pc' := 223) X300.here hx (hb hby at_221) rfl rfl ?_
          refine s_icmpN (pc' := 226) X300.here hx (hb hby at_223) rfl (teq rfl).2 ?_
          refine s_aload (pc' := 228) X300.here hx (hb hby at_226) rfl rfl rfl ?_
          refine s_aload (pc' := 230) X300.here hx (hb hby at_228) rfl rfl rfl ?_
          obtain ⟨cq301, kq301, q301a, q301b, q301c⟩ := isOf hZ149 hE300 q1_286
          obtain ⟨_, _, ⟨T301, L301, k301, n301⟩, -, X301, ⟨Lc301, hQ301, l301, y301, z301⟩, st301⟩ := X300.virtualBack hx (y := (⟨"com/example/data_roles/dataroles/policy/Mask", "equals", "(Ljava/lang/Object;)Z"⟩ : MethodName)) (z := (⟨"com/example/data_roles/dataroles/policy/Mask", "equals", "(Ljava/lang/Object;)Z"⟩ : MethodName)) hown149 (mvT hZ149 (hw _ (List.mem_of_getElem? (i := 48) rfl))) (mvT hZ149 (hw _ (List.mem_of_getElem? (i := 49) rfl))) (notFace_of_selects (args := #[]) (mvT hZ149 (hw _ (List.mem_of_getElem? (i := 51) rfl)))) (mvT hZ149 (hw _ (List.mem_of_getElem? (i := 51) rfl))) (mvT hZ149 (hw _ (List.mem_of_getElem? (i := 50) rfl))) (by decide) (backOf (W := 0) (rmQ200 l Z a0 hw [] b283 b279 x149 x148 _ _ (txt u2) (txt t1) o2 o1 T286.heap n0 O286 G1 S1 P1 q1_286 q2_286 q3_286 q4_286 f296 f297 f298 f299 f295 f294) hZ149 (hw _ (List.mem_of_getElem? (i := 52) rfl)) (hw _ (List.mem_of_getElem? (i := 34) rfl)) (by decide) (by decide)) q301a q301c (g := (mkF m 230 #[.val (.int t1), .val (.int t2), .val (.int c1), .val (.int c2), .val (.long od), .second, .val (.int sel), .val (.int u2), .val (.int v2), .val (.int o1), .val (.int o2), .val (.int kd), .val (.ref x148), .val (.ref x149), .val .null, .val .null, .val (.ref b279), .val (.ref b283), .val (.int (-1 : Int32)), .val (.int (-1 : Int32)), .val (.int sm), .unset] [(.ref b279), (.ref b283)])) rfl (by rw [hml]; rfl) (Steps.refl _) (argsL := [(.ref b279)]) (rest := []) (lenOf pd_3 rfl) rfl (by show 2 * 0 + _ ≤ _; exact Nat.le_of_eq rfl) (hb hby at_230) (fun _ _ => ⟨rfl, hE300, (by decide : 14 + 0 ≤ _), (by decide : 30 + 0 ≤ _)⟩)
          dsimp only [Pt.U, Pt.locs, Pt.cells, Pt.slots] at X301 l301 y301 z301 st301 hQ301
          subst l301 y301 z301
          obtain ⟨⟨r301, rfl, hr301⟩, Nq301, hE301⟩ := hQ301
          have hr301 : sm = r301 := (hex2 _ hr301).symm
          subst hr301
          have N301 := Fr.app N300 Nq301
          refine Go.tr st301 ?_
          show Go p.tables e below Kx T301 (mkF m 233 #[.val (.int t1), .val (.int t2), .val (.int c1), .val (.int c2), .val (.long od), .second, .val (.int sel), .val (.int u2), .val (.int v2), .val (.int o1), .val (.int o2), .val (.int kd), .val (.ref x148), .val (.ref x149), .val .null, .val .null, .val (.ref b279), .val (.ref b283), .val (.int (-1 : Int32)), .val (.int (-1 : Int32)), .val (.int sm), .unset] [(.int sm)])
          refine s_iload (pc' := 235) X301.here hx (hb hby at_233) rfl rfl ?_
          refine s_icmpN (pc' := 238) X301.here hx (hb hby at_235) rfl (teq rfl).2 ?_
          refine s_iconst (pc' := 239) (v := (1 : Int32)) X301.here hx (hb hby at_238) rfl rfl ?_
          refine s_goto (pc' := 243) X301.here hx (hb hby at_239) (by decide) (by decide) ?_
          obtain ⟨fs, hr, hrun, hended, hRW⟩ := X301.leaveW hS149 (by rw [hE301]; exact hk286) (v := (some (.int (1 : Int32)))) (fun h => by rw [Bd.returns] at h; cases h)
          have hCx := C286.trans (CHv.at X301 hZ149 hEL H286)
          refine Go.fin (retN X301 hx (t := .boolean) Bd.returns (by simp) (hb hby at_243) hr) (hF _ _ hrun hended ⟨_, _, rfl, ?_, ?_, hRW.1, hRW.2.1, hRW.2.2.1, hRW.2.2.2.mono (by decide) (by decide)⟩)
          · show QL Z t1 t2 c1 c2 od sel h0 n0 ((some (.int (1 : Int32))) : Option Value) T301.heap _
            rw [hE301]
            exact ⟨rfl, N301⟩
          · show CHr Z consts_1 s.vm s.heap T301.vm T301.heap
            rw [hE301, hh]; exact hCx
        · skip
          refine s_ifY (pc' := 244) XJ207.here hx (hb hby at_211) ((if0 _ _).trans (feq hc293).2) (by decide) (by decide) ?_
          refine s_iload (pc' := 246) XJ207.here hx (hb hby at_244) rfl rfl ?_
          refine s_iconst (pc' := 247) (v := (1 : Int32)) XJ207.here hx (hb hby at_246) rfl rfl ?_
          by_cases hc302 : kd = (1 : Int32)
          · skip
            refine s_icmpN (pc' := 250) XJ207.here hx (hb hby at_247) rfl (teq hc302).2 ?_
            refine s_aload (pc' := 252) XJ207.here hx (hb hby at_250) rfl rfl rfl ?_
            refine s_aconst_null (pc' := 253) XJ207.here hx (hb hby at_252) rfl ?_
            have f304 : Exa Z T286.heap b279 "com/example/data_roles/dataroles/policy/Mask" := ((q1_281.ext E283).keep Kq286)
            obtain ⟨cq303, kq303, q303a, q303b, q303c⟩ := isOf hZ149 eJ207 f304
            obtain ⟨_, _, ⟨T303, L303, k303, n303⟩, -, X303, ⟨Lc303, hQ303, l303, y303, z303⟩, st303⟩ := XJ207.virtualBack hx (y := (⟨"com/example/data_roles/dataroles/policy/Mask", "equals", "(Ljava/lang/Object;)Z"⟩ : MethodName)) (z := (⟨"com/example/data_roles/dataroles/policy/Mask", "equals", "(Ljava/lang/Object;)Z"⟩ : MethodName)) hown149 (mvT hZ149 (hw _ (List.mem_of_getElem? (i := 48) rfl))) (mvT hZ149 (hw _ (List.mem_of_getElem? (i := 49) rfl))) (notFace_of_selects (args := #[]) (mvT hZ149 (hw _ (List.mem_of_getElem? (i := 51) rfl)))) (mvT hZ149 (hw _ (List.mem_of_getElem? (i := 51) rfl))) (mvT hZ149 (hw _ (List.mem_of_getElem? (i := 50) rfl))) (by decide) (backOf (W := 0) (rmQ0 l Z a0 hw [] b279 T286.heap n0 O286 ) hZ149 (hw _ (List.mem_of_getElem? (i := 52) rfl)) (hw _ (List.mem_of_getElem? (i := 34) rfl)) (by decide) (by decide)) q303a q303c (g := (mkF m 253 #[.val (.int t1), .val (.int t2), .val (.int c1), .val (.int c2), .val (.long od), .second, .val (.int sel), .val (.int u2), .val (.int v2), .val (.int o1), .val (.int o2), .val (.int kd), .val (.ref x148), .val (.ref x149), .val .null, .val .null, .val (.ref b279), .val (.ref b283), .val (.int (-1 : Int32)), .val (.int (-1 : Int32)), .val (.int sm), .unset] [.null, (.ref b279)])) rfl (by rw [hml]; rfl) (Steps.refl _) (argsL := [.null]) (rest := []) (lenOf pd_3 rfl) rfl (by show 2 * 0 + _ ≤ _; exact Nat.le_of_eq rfl) (hb hby at_253) (fun _ _ => ⟨rfl, eJ207, (by decide : 14 + 0 ≤ _), (by decide : 30 + 0 ≤ _)⟩)
            dsimp only [Pt.U, Pt.locs, Pt.cells, Pt.slots] at X303 l303 y303 z303 st303 hQ303
            subst l303 y303 z303
            obtain ⟨rfl, Nq303, hE303⟩ := hQ303
            have N303 := Fr.app NJ207 Nq303
            refine Go.tr st303 ?_
            show Go p.tables e below Kx T303 (mkF m 256 #[.val (.int t1), .val (.int t2), .val (.int c1), .val (.int c2), .val (.long od), .second, .val (.int sel), .val (.int u2), .val (.int v2), .val (.int o1), .val (.int o2), .val (.int kd), .val (.ref x148), .val (.ref x149), .val .null, .val .null, .val (.ref b279), .val (.ref b283), .val (.int (-1 : Int32)), .val (.int (-1 : Int32)), .val (.int sm), .unset] [(.int (0 : Int32))])
            refine s_ifN (pc' := 259) X303.here hx (hb hby at_256) rfl ((if0 _ _).trans (teq (by decide)).2) ?_
            refine s_iconst (pc' := 260) (v := (1 : Int32)) X303.here hx (hb hby at_259) rfl rfl ?_
            refine s_goto (pc' := 264) X303.here hx (hb hby at_260) (by decide) (by decide) ?_
            obtain ⟨fs, hr, hrun, hended, hRW⟩ := X303.leaveW hS149 (by rw [hE303]; exact hk286) (v := (some (.int (1 : Int32)))) (fun h => by rw [Bd.returns] at h; cases h)
            have hCx := C286.trans (CHv.at X303 hZ149 hEL H286)
            refine Go.fin (retN X303 hx (t := .boolean) Bd.returns (by simp) (hb hby at_264) hr) (hF _ _ hrun hended ⟨_, _, rfl, ?_, ?_, hRW.1, hRW.2.1, hRW.2.2.1, hRW.2.2.2.mono (by decide) (by decide)⟩)
            · show QL Z t1 t2 c1 c2 od sel h0 n0 ((some (.int (1 : Int32))) : Option Value) T303.heap _
              rw [hE303]
              exact ⟨rfl, N303⟩
            · show CHr Z consts_1 s.vm s.heap T303.vm T303.heap
              rw [hE303, hh]; exact hCx
          · skip
            refine s_icmpY (pc' := 265) XJ207.here hx (hb hby at_247) (feq hc302).2 (by decide) (by decide) ?_
            refine s_iload (pc' := 267) XJ207.here hx (hb hby at_265) rfl rfl ?_
            refine s_iconst (pc' := 268) (v := (2 : Int32)) XJ207.here hx (hb hby at_267) rfl rfl ?_
            by_cases hc305 : kd = (2 : Int32)
            · skip
              refine s_icmpN (pc' := 271) XJ207.here hx (hb hby at_268) rfl (teq hc305).2 ?_
              refine s_aload (pc' := 273) XJ207.here hx (hb hby at_271) rfl rfl rfl ?_
              refine s_astore (pc' := 275) (Ls' := #[.val (.int t1), .val (.int t2), .val (.int c1), .val (.int c2), .val (.long od), .second, .val (.int sel), .val (.int u2), .val (.int v2), .val (.int o1), .val (.int o2), .val (.int kd), .val (.ref x148), .val (.ref x149), .val .null, .val .null, .val (.ref b279), .val (.ref b283), .val (.int (-1 : Int32)), .val (.int (-1 : Int32)), .val (.int sm), .val (.ref x149)]) XJ207.here hx (hb hby at_273) rfl rfl rfl ?_
              refine s_aload (pc' := 277) XJ207.here hx (hb hby at_275) rfl rfl rfl ?_
              refine s_aload (pc' := 279) XJ207.here hx (hb hby at_277) rfl rfl rfl ?_
              have f306 : Exa Z T286.heap x149 "java/lang/String" := ((((Sq149.2.1.ext E279).keep Kq281).ext E283).keep Kq286)
              have f308 : Exa Z T286.heap b279 "com/example/data_roles/dataroles/policy/Mask" := ((q1_281.ext E283).keep Kq286)
              obtain ⟨cq307, kq307, q307a, q307b, q307c⟩ := isOf hZ149 eJ207 f308
              obtain ⟨_, _, ⟨T307, L307, k307, n307⟩, -, X307, ⟨Lc307, hQ307, l307, y307, z307⟩, st307⟩ := XJ207.virtualBack hx (y := (⟨"com/example/data_roles/dataroles/policy/Mask", "equals", "(Ljava/lang/Object;)Z"⟩ : MethodName)) (z := (⟨"com/example/data_roles/dataroles/policy/Mask", "equals", "(Ljava/lang/Object;)Z"⟩ : MethodName)) hown149 (mvT hZ149 (hw _ (List.mem_of_getElem? (i := 48) rfl))) (mvT hZ149 (hw _ (List.mem_of_getElem? (i := 49) rfl))) (notFace_of_selects (args := #[]) (mvT hZ149 (hw _ (List.mem_of_getElem? (i := 51) rfl)))) (mvT hZ149 (hw _ (List.mem_of_getElem? (i := 51) rfl))) (mvT hZ149 (hw _ (List.mem_of_getElem? (i := 50) rfl))) (by decide) (backOf (W := 0) (rmQ1 l Z a0 hw [] b279 x149 T286.heap n0 O286 f306) hZ149 (hw _ (List.mem_of_getElem? (i := 52) rfl)) (hw _ (List.mem_of_getElem? (i := 34) rfl)) (by decide) (by decide)) q307a q307c (g := (mkF m 279 #[.val (.int t1), .val (.int t2), .val (.int c1), .val (.int c2), .val (.long od), .second, .val (.int sel), .val (.int u2), .val (.int v2), .val (.int o1), .val (.int o2), .val (.int kd), .val (.ref x148), .val (.ref x149), .val .null, .val .null, .val (.ref b279), .val (.ref b283), .val (.int (-1 : Int32)), .val (.int (-1 : Int32)), .val (.int sm), .val (.ref x149)] [(.ref x149), (.ref b279)])) rfl (by rw [hml]; rfl) (Steps.refl _) (argsL := [(.ref x149)]) (rest := []) (lenOf pd_3 rfl) rfl (by show 2 * 0 + _ ≤ _; exact Nat.le_of_eq rfl) (hb hby at_279) (fun _ _ => ⟨rfl, eJ207, (by decide : 14 + 0 ≤ _), (by decide : 30 + 0 ≤ _)⟩)
              dsimp only [Pt.U, Pt.locs, Pt.cells, Pt.slots] at X307 l307 y307 z307 st307 hQ307
              subst l307 y307 z307
              obtain ⟨rfl, Nq307, hE307⟩ := hQ307
              have N307 := Fr.app NJ207 Nq307
              refine Go.tr st307 ?_
              show Go p.tables e below Kx T307 (mkF m 282 #[.val (.int t1), .val (.int t2), .val (.int c1), .val (.int c2), .val (.long od), .second, .val (.int sel), .val (.int u2), .val (.int v2), .val (.int o1), .val (.int o2), .val (.int kd), .val (.ref x148), .val (.ref x149), .val .null, .val .null, .val (.ref b279), .val (.ref b283), .val (.int (-1 : Int32)), .val (.int (-1 : Int32)), .val (.int sm), .val (.ref x149)] [(.int (0 : Int32))])
              refine s_ifN (pc' := 285) X307.here hx (hb hby at_282) rfl ((if0 _ _).trans (teq (by decide)).2) ?_
              refine s_iconst (pc' := 286) (v := (1 : Int32)) X307.here hx (hb hby at_285) rfl rfl ?_
              refine s_goto (pc' := 290) X307.here hx (hb hby at_286) (by decide) (by decide) ?_
              obtain ⟨fs, hr, hrun, hended, hRW⟩ := X307.leaveW hS149 (by rw [hE307]; exact hk286) (v := (some (.int (1 : Int32)))) (fun h => by rw [Bd.returns] at h; cases h)
              have hCx := C286.trans (CHv.at X307 hZ149 hEL H286)
              refine Go.fin (retN X307 hx (t := .boolean) Bd.returns (by simp) (hb hby at_290) hr) (hF _ _ hrun hended ⟨_, _, rfl, ?_, ?_, hRW.1, hRW.2.1, hRW.2.2.1, hRW.2.2.2.mono (by decide) (by decide)⟩)
              · show QL Z t1 t2 c1 c2 od sel h0 n0 ((some (.int (1 : Int32))) : Option Value) T307.heap _
                rw [hE307]
                exact ⟨rfl, N307⟩
              · show CHr Z consts_1 s.vm s.heap T307.vm T307.heap
                rw [hE307, hh]; exact hCx
            · skip
              refine s_icmpY (pc' := 291) XJ207.here hx (hb hby at_268) (feq hc305).2 (by decide) (by decide) ?_
              refine s_aload (pc' := 293) XJ207.here hx (hb hby at_291) rfl rfl rfl ?_
              refine s_aload (pc' := 295) XJ207.here hx (hb hby at_293) rfl rfl rfl ?_
              have f309 : Str Z T286.heap T148.heap.size x148 (txt t1) := (((((Sq148.keep Kq149 all0).ext E279).keep Kq281 (allS (Nat.le_trans Kq149.1 (Nat.le_of_eq g279.symm)) all0)).ext E283).keep Kq286 (allS (Nat.le_trans (Nat.le_trans (Nat.le_trans Kq149.1 E279.1) Kq281.1) (Nat.le_of_eq g283.symm)) all0))
              have f310 : Exa Z T286.heap b279 "com/example/data_roles/dataroles/policy/Mask" := ((q1_281.ext E283).keep Kq286)
              have f311 : Fld Z T286.heap b279 "com/example/data_roles/dataroles/policy/Mask" "text" "Ljava/lang/String;" (.ref x148) := ((q2_281.ext E283).keep Kq286 (ninS (Nat.ne_of_lt (Nat.lt_of_lt_of_le (Nat.lt_of_lt_of_le A279.lt Kq281.1) (Nat.le_of_eq g283.symm))) nin0))
              have f312 : Fld Z T286.heap b279 "com/example/data_roles/dataroles/policy/Mask" "condition" "Ljava/lang/String;" .null := ((q3_281.ext E283).keep Kq286 (ninS (Nat.ne_of_lt (Nat.lt_of_lt_of_le (Nat.lt_of_lt_of_le A279.lt Kq281.1) (Nat.le_of_eq g283.symm))) nin0))
              have f313 : Fld Z T286.heap b279 "com/example/data_roles/dataroles/policy/Mask" "order" "I" (.int o1) := ((q4_281.ext E283).keep Kq286 (ninS (Nat.ne_of_lt (Nat.lt_of_lt_of_le (Nat.lt_of_lt_of_le A279.lt Kq281.1) (Nat.le_of_eq g283.symm))) nin0))
              obtain ⟨cq314, kq314, q314a, q314b, q314c⟩ := isOf hZ149 eJ207 f310
              obtain ⟨_, _, ⟨T314, L314, k314, n314⟩, -, X314, ⟨Lc314, hQ314, l314, y314, z314⟩, st314⟩ := XJ207.virtualBack hx (y := (⟨"com/example/data_roles/dataroles/policy/Mask", "equals", "(Ljava/lang/Object;)Z"⟩ : MethodName)) (z := (⟨"com/example/data_roles/dataroles/policy/Mask", "equals", "(Ljava/lang/Object;)Z"⟩ : MethodName)) hown149 (mvT hZ149 (hw _ (List.mem_of_getElem? (i := 48) rfl))) (mvT hZ149 (hw _ (List.mem_of_getElem? (i := 49) rfl))) (notFace_of_selects (args := #[]) (mvT hZ149 (hw _ (List.mem_of_getElem? (i := 51) rfl)))) (mvT hZ149 (hw _ (List.mem_of_getElem? (i := 51) rfl))) (mvT hZ149 (hw _ (List.mem_of_getElem? (i := 50) rfl))) (by decide) (backOf (W := 0) (rmQ200 l Z a0 hw [] b279 b279 x148 x148 _ _ (txt t1) (txt t1) o1 o1 T286.heap n0 O286 G1 S1 P1 f310 f311 f312 f313 f310 f311 f312 f313 f309 f309) hZ149 (hw _ (List.mem_of_getElem? (i := 52) rfl)) (hw _ (List.mem_of_getElem? (i := 34) rfl)) (by decide) (by decide)) q314a q314c (g := (mkF m 295 #[.val (.int t1), .val (.int t2), .val (.int c1), .val (.int c2), .val (.long od), .second, .val (.int sel), .val (.int u2), .val (.int v2), .val (.int o1), .val (.int o2), .val (.int kd), .val (.ref x148), .val (.ref x149), .val .null, .val .null, .val (.ref b279), .val (.ref b283), .val (.int (-1 : Int32)), .val (.int (-1 : Int32)), .val (.int sm), .unset] [(.ref b279), (.ref b279)])) rfl (by rw [hml]; rfl) (Steps.refl _) (argsL := [(.ref b279)]) (rest := []) (lenOf pd_3 rfl) rfl (by show 2 * 0 + _ ≤ _; exact Nat.le_of_eq rfl) (hb hby at_295) (fun _ _ => ⟨rfl, eJ207, (by decide : 14 + 0 ≤ _), (by decide : 30 + 0 ≤ _)⟩)
              dsimp only [Pt.U, Pt.locs, Pt.cells, Pt.slots] at X314 l314 y314 z314 st314 hQ314
              subst l314 y314 z314
              obtain ⟨⟨r314, rfl, hr314⟩, Nq314, hE314⟩ := hQ314
              have hr314 : r314 = 1 := by
                rcases hr314 with ⟨q, -⟩ | ⟨-, q⟩
                · exact q
                · exact absurd ⟨rfl, trivial, rfl⟩ q
              subst hr314
              have N314 := Fr.app NJ207 Nq314
              refine Go.tr st314 ?_
              show Go p.tables e below Kx T314 (mkF m 298 #[.val (.int t1), .val (.int t2), .val (.int c1), .val (.int c2), .val (.long od), .second, .val (.int sel), .val (.int u2), .val (.int v2), .val (.int o1), .val (.int o2), .val (.int kd), .val (.ref x148), .val (.ref x149), .val .null, .val .null, .val (.ref b279), .val (.ref b283), .val (.int (-1 : Int32)), .val (.int (-1 : Int32)), .val (.int sm), .unset] [(.int (1 : Int32))])
              obtain ⟨fs, hr, hrun, hended, hRW⟩ := X314.leaveW hS149 (by rw [hE314]; exact hk286) (v := (some (.int (1 : Int32)))) (fun h => by rw [Bd.returns] at h; cases h)
              have hCx := C286.trans (CHv.at X314 hZ149 hEL H286)
              refine Go.fin (retN X314 hx (t := .boolean) Bd.returns (by simp) (hb hby at_298) hr) (hF _ _ hrun hended ⟨_, _, rfl, ?_, ?_, hRW.1, hRW.2.1, hRW.2.2.1, hRW.2.2.2.mono (by decide) (by decide)⟩)
              · show QL Z t1 t2 c1 c2 od sel h0 n0 ((some (.int (1 : Int32))) : Option Value) T314.heap _
                rw [hE314]
                exact ⟨rfl, N314⟩
              · show CHr Z consts_1 s.vm s.heap T314.vm T314.heap
                rw [hE314, hh]; exact hCx
      by_cases hc315 : (keyf t1) = (keyf u2)
      · skip
        refine s_icmpN (pc' := 188) X292.here hx (hb hby at_185) rfl (teq hc315).2 ?_
        refine s_iload (pc' := 190) X292.here hx (hb hby at_188) rfl rfl ?_
        refine s_iload (pc' := 192) X292.here hx (hb hby at_190) rfl rfl ?_
        refine s_icmpN (pc' := 195) X292.here hx (hb hby at_192) rfl (teq (by decide)).2 ?_
        refine s_iload (pc' := 197) X292.here hx (hb hby at_195) rfl rfl ?_
        refine s_iload (pc' := 199) X292.here hx (hb hby at_197) rfl rfl ?_
        by_cases hc316 : o1 = o2
        · skip
          refine s_icmpN (pc' := 202) X292.here hx (hb hby at_199) rfl (teq hc316).2 ?_
          refine s_iconst (pc' := 203) (v := (1 : Int32)) X292.here hx (hb hby at_202) rfl rfl ?_
          refine s_goto (pc' := 207) X292.here hx (hb hby at_203) (by decide) (by decide) ?_
          exact J207 _ _ _ X292 N292 hE292 (Or.inl ⟨rfl, (key_iff t1 u2).mp hc315, trivial, hc316⟩)
        · skip
          refine s_icmpY (pc' := 206) X292.here hx (hb hby at_199) (feq hc316).2 (by decide) (by decide) ?_
          refine s_iconst (pc' := 207) (v := (0 : Int32)) X292.here hx (hb hby at_206) rfl rfl ?_
          exact J207 _ _ _ X292 N292 hE292 (Or.inr ⟨rfl, fun q => hc316 q.2.2⟩)
      · skip
        refine s_icmpY (pc' := 206) X292.here hx (hb hby at_185) (feq hc315).2 (by decide) (by decide) ?_
        refine s_iconst (pc' := 207) (v := (0 : Int32)) X292.here hx (hb hby at_206) rfl rfl ?_
        exact J207 _ _ _ X292 N292 hE292 (Or.inr ⟨rfl, fun q => hc315 ((key_iff t1 u2).mpr q.1)⟩)
set_option maxRecDepth 65536 in
set_option maxHeartbeats 40000000 in
theorem comes_1 {Post : Tables → Env → Array Value → State → Outcome → State → Prop} (hpost : ∀ tb e args s v u, (limb_1_1.after args s (.returned v) u = true ∧ limb_1_2.after args s (.returned v) u = true ∧ True) → ReturnedEndW s (.returned v) u (Jvm.fieldLocs frame_1_writes args s ++ Jvm.arrayLocs frame_1_arrays args s ++ Jvm.staticLocs frame_1_statics s) 40 1216 → Post tb e args s (.returned v) u) :
    ArmFor flags0 classFile x code maxLocals ret World_1 tables_1 room_1 Calls_1 rest_1 Pre_1 Post := by
  intro l hfl _ _ p e ha hc hk s m args below hf hA hF happ hP
  obtain ⟨hcalls, hrest, hpre⟩ := hP
  obtain ⟨-, -, -, hnamed, -, -, -, hat⟩ := (Spec.applies_iff hf).mp happ
  obtain ⟨hg, hn⟩ := and_e (Cond.before_iff.mp (show (Jvm.Cond.and given_1 narrow_1).before args s = true from hpre))
  obtain ⟨hcount, hgs⟩ := and_e hg
  obtain ⟨hi0, hgs'⟩ := and_e hgs
  obtain ⟨hi1, hgs''⟩ := and_e hgs'
  obtain ⟨hi2, hgs'''⟩ := and_e hgs''
  obtain ⟨hi3, hgs''''⟩ := and_e hgs'''
  obtain ⟨hi4, hgs'''''⟩ := and_e hgs''''
  have hi5 := hgs'''''
  obtain ⟨w0, w1, w2, w3, w4, w5, rfl⟩ : ∃ w0 w1 w2 w3 w4 w5 : Value, args = #[w0, w1, w2, w3, w4, w5] := by
    have hs : args.size = 6 := by simpa [Cond.value, given_1] using hcount
    obtain ⟨L⟩ := args
    match L, hs with
    | [w0, w1, w2, w3, w4, w5], _ => exact ⟨w0, w1, w2, w3, w4, w5, rfl⟩
  have hw := fun d (hd : d ∈ tables_1) => atoms_spec (ws := Jvm.Cond.code x code maxLocals ret :: tables_1) hat d (List.mem_cons_of_mem _ hd)
  have hfit : Fit s := fun {y c} hc i hi => by
    obtain ⟨ha, rfl⟩ := Array.getElem?_eq_some_iff.mp hc
    have q := List.all_eq_true.mp ((Array.all_eq_true_iff_forall_mem.mp hF) _ (Array.getElem_mem ha)) i (List.mem_range.mpr hi)
    simpa [Array.getElem?_eq_getElem hi] using q
  obtain ⟨hsets, hown0⟩ := atoms_of _ (rest_1_c_eq ▸ (show rest_1_c.before _ s = true from hrest))
  obtain ⟨i0, ei0⟩ := is_v hi0
  obtain rfl : w0 = (.int i0) := Option.some.inj ei0
  obtain ⟨i1, ei1⟩ := is_v hi1
  obtain rfl : w1 = (.int i1) := Option.some.inj ei1
  obtain ⟨i2, ei2⟩ := is_v hi2
  obtain rfl : w2 = (.int i2) := Option.some.inj ei2
  obtain ⟨i3, ei3⟩ := is_v hi3
  obtain rfl : w3 = (.int i3) := Option.some.inj ei3
  obtain ⟨i4, ei4⟩ := isL_v hi4
  obtain rfl : w4 = (.long i4) := Option.some.inj ei4
  obtain ⟨i5, ei5⟩ := is_v hi5
  obtain rfl : w5 = (.int i5) := Option.some.inj ei5
  obtain ⟨G1, eG1⟩ := is_v (Cond.before_iff.mp (hsets _ (List.mem_of_getElem? (i := 1) rfl)))
  have S1 : Sta s s.heap "java/lang/String" "COMPACT_STRINGS" "Z" (.int G1) := Sta.start eG1 (Or.inl (hsets _ (List.mem_of_getElem? (i := 0) rfl)))
  have P1 : ¬ (G1 = (0 : Int32)) := gotF (Cond.eq_ints eG1 (Term.int_eval (0))) (not_v (Cond.before_iff.mp (hsets _ (List.mem_of_getElem? (i := 2) rfl))))
  have wS : ∀ a ∈ Bundle.stringAtoms, a.before #[(.int i0), (.int i1), (.int i2), (.int i3), (.long i4), (.int i5)] s = true := fun d hd => hw d ((by decide +kernel : ∀ d ∈ Bundle.stringAtoms, d ∈ tables_1) d hd)
  have hEL : EW s #[(.int i0), (.int i1), (.int i2), (.int i3), (.long i4), (.int i5)] consts_1 := (EW.cons (hw _ (List.mem_of_getElem? (i := 21) rfl)) (by decide) EW.nil)
  have hCH : CHv s consts_1 s.vm s.heap := CHv.start hEL hcalls.1 (hsets _ (List.mem_of_getElem? (i := 2) rfl)) (wS _ (by simp [Bundle.stringAtoms])) (wS _ (by simp [Bundle.stringAtoms, Bundle.sN]))
  obtain ⟨n, o, h1, h2, h3, _, L, rfl, ⟨rfl, N⟩, hq⟩ := rmL l s _ hw tables_1 i0 i1 i2 i3 i4 i5 s.heap s.heap.size (Old.start s) hEL wS G1 S1 P1 p e ha hc hk s m _ below hf ((Spec.applies_iff_loose hf).mp happ).1 ⟨rfl, State.Warmed39.refl s, rfl, hCH⟩ trivial
  refine ⟨n, _, h1, h2, h3, hpost _ _ _ _ _ _ ⟨Cond.after_iff.mpr rfl, Cond.after_iff.mpr (eq_i res_at (Term.int_eval (1)) rfl), trivial⟩ ⟨hq.2.1, hq.2.2.1, hq.2.2.2.1, (hq.2.2.2.2.sift fun y hy => Or.inr (N y hy)).mono (by decide) (by decide)⟩⟩
theorem main_1_1 : Claimed_1_1 := comes_1 fun _ _ _ _ _ _ h hF => ⟨h.1, hF⟩
theorem main_1_2 : Claimed_1_2 := comes_1 fun _ _ _ _ _ _ h hF => ⟨h.2.1, hF⟩
end Jvm.Pilot.@@N@@
namespace Jvm.Pilot.@@N@@
open Jvm Jvm.ClassFile Sem Op Lib Jvm.Free Jvm.Stand Jvm.Pilot.@@N@@.Jvm.D
/-! MADE BY PROGRAM (witnessworld.py) out of the Statement's table words and the real class files: 21 classes; the members and pool entries that the words name. The judged class is class 1, her method 5. -/
namespace start1
open Jvm.ClassFile
def u (s : String) : CpInfo := .utf8 (stringToUtf16 s)
/-- a pool by its gaps: so many unusable entries, then the entry; so many at the end -/
def gap : Nat → List CpInfo → List CpInfo
  | 0, r => r
  | n + 1, r => .unusable :: gap n r
def poolList (es : List (Nat × CpInfo)) (last : Nat) : List CpInfo := es.foldr (fun e r => gap e.1 (e.2 :: r)) (gap last [])
def pool (es : List (Nat × CpInfo)) (last : Nat) : Array CpInfo := ⟨poolList es last⟩
def fileOf (pool : Array CpInfo) (this : Nat) (attrs : Array Attribute := #[]) (ms : Array MethodInfo := #[]) (fl : Nat := 33) (sup : Nat := 0) (ifs : Array Nat := #[]) (fds : Array FieldInfo := #[]) : ClassFile where
  minorVersion := 0
  majorVersion := 65
  constantPool := pool
  accessFlags := fl
  thisClass := this
  superClass := sup
  interfaces := ifs
  fields := fds
  methods := ms
  attributes := attrs
def plain (name : String) (sup : Option ClassId) : Class where
  name := name
  kind := .ordinary
  loader := none
  accessFlags := 33
  super := sup
  interfaces := #[]
  cf := none
  fields := #[]
  methods := #[]
  instanceTypes := #[]
  staticTypes := #[]
  resolved := #[]
  callSites := []
  init := .initialized
  statics := none
  mirror := none

def pool0 : Array CpInfo := pool [(5, u "<init>"), (0, u "()V"), (1, .class_ 10), (1, u "java/lang/Object"), (81, u "equals"), (0, u "(Ljava/lang/Object;)Z")] 30

def k0c0 : Code := { maxStack := 0, maxLocals := 1, code := object_method_1_code, exceptionTable := #[], attributes := #[] }
def k0m0 : Method := { name := "<init>", desc := "()V", sig := { parameters := [], returnType := none }, accessFlags := 1, code := some k0c0 }
def k0c1 : Code := { maxStack := 2, maxLocals := 2, code := ⟨#[0x2a, 0x2b, 0xa6, 0x00, 0x07, 0x04, 0xa7, 0x00, 0x04, 0x03, 0xac]⟩, exceptionTable := #[], attributes := #[] }
def k0m1 : Method := { name := "equals", desc := "(Ljava/lang/Object;)Z", sig := { parameters := [(.object "java/lang/Object")], returnType := some .boolean }, accessFlags := 1, code := some k0c1 }
/-- java/lang/Object -/
def k0 : Class := { plain "java/lang/Object" none with
  accessFlags := 33
  interfaces := #[]
  cf := some (fileOf pool0 8 #[] #[{ accessFlags := 1, nameIndex := 5, descriptorIndex := 6, attributes := #[] }, { accessFlags := 1, nameIndex := 92, descriptorIndex := 93, attributes := #[] }] 33 0 #[] #[])
  fields := #[]
  methods := #[k0m0, k0m1]
  instanceTypes := #[]
  staticTypes := #[]
  resolved := Array.replicate 124 none
  statics := none }

def pool1 : Array CpInfo := pool [(2, .class_ 4), (1, u "java/lang/Object"), (0, u "<init>"), (0, u "()V"), (0, .methodref 8 9), (0, .class_ 10), (0, .nameAndType 11 12), (0, u "com/example/data_roles/dataroles/policy/MaskEqualsPinLaw"), (0, u "lenOf"), (0, u "(I)I"), (0, .class_ 14), (0, u "java/lang/String"), (0, .methodref 13 16), (0, .nameAndType 5 17), (0, u "([C)V"), (0, .integer 65536), (0, .integer 131072), (0, .integer 65535), (0, .methodref 8 22), (0, .nameAndType 23 24), (0, u "mk"), (0, u "(I)Ljava/lang/String;"), (0, .methodref 8 26), (0, .nameAndType 27 28), (0, u "isNull"), (0, u "(I)Z"), (0, .class_ 30), (0, u "com/example/data_roles/dataroles/policy/Mask"), (0, .methodref 29 32), (0, .nameAndType 5 33), (0, u "(Ljava/lang/String;Ljava/lang/String;I)V"), (0, .methodref 8 35), (0, .nameAndType 36 12), (0, u "keyOf"), (0, .methodref 29 38), (0, .nameAndType 39 40), (0, u "equals"), (0, u "(Ljava/lang/Object;)Z"), (3, u "law"), (0, u "(IIIIJI)Z")] 2

def k1m0 : Method := { name := "<init>", desc := "()V", sig := { parameters := [], returnType := none }, accessFlags := 1, code := none }
def k1c1 : Code := { maxStack := 2, maxLocals := 2, code := method_2_code, exceptionTable := #[], attributes := #[] }
def k1m1 : Method := { name := "lenOf", desc := "(I)I", sig := { parameters := [.int], returnType := some .int }, accessFlags := 10, code := some k1c1 }
def k1c2 : Code := { maxStack := 6, maxLocals := 4, code := method_3_code, exceptionTable := #[], attributes := #[] }
def k1m2 : Method := { name := "mk", desc := "(I)Ljava/lang/String;", sig := { parameters := [.int], returnType := some (.object "java/lang/String") }, accessFlags := 10, code := some k1c2 }
def k1c3 : Code := { maxStack := 3, maxLocals := 2, code := method_4_code, exceptionTable := #[], attributes := #[] }
def k1m3 : Method := { name := "keyOf", desc := "(I)I", sig := { parameters := [.int], returnType := some .int }, accessFlags := 10, code := some k1c3 }
def k1c4 : Code := { maxStack := 2, maxLocals := 1, code := method_5_code, exceptionTable := #[], attributes := #[] }
def k1m4 : Method := { name := "isNull", desc := "(I)Z", sig := { parameters := [.int], returnType := some .boolean }, accessFlags := 10, code := some k1c4 }
def k1c5 : Code := { maxStack := 5, maxLocals := 22, code := code, exceptionTable := #[], attributes := #[] }
def k1m5 : Method := { name := "law", desc := "(IIIIJI)Z", sig := { parameters := [.int, .int, .int, .int, .long, .int], returnType := some .boolean }, accessFlags := 9, code := some k1c5 }
/-- com/example/data_roles/dataroles/policy/MaskEqualsPinLaw -/
def k1 : Class := { plain "com/example/data_roles/dataroles/policy/MaskEqualsPinLaw" (some 0) with
  accessFlags := 49
  interfaces := #[]
  cf := some (fileOf pool1 8 #[] #[{ accessFlags := 1, nameIndex := 5, descriptorIndex := 6, attributes := #[] }, { accessFlags := 10, nameIndex := 11, descriptorIndex := 12, attributes := #[] }, { accessFlags := 10, nameIndex := 23, descriptorIndex := 24, attributes := #[] }, { accessFlags := 10, nameIndex := 36, descriptorIndex := 12, attributes := #[] }, { accessFlags := 10, nameIndex := 27, descriptorIndex := 28, attributes := #[] }, { accessFlags := 9, nameIndex := 44, descriptorIndex := 45, attributes := #[] }] 49 2 #[] #[])
  fields := #[]
  methods := #[k1m0, k1m1, k1m2, k1m3, k1m4, k1m5]
  instanceTypes := #[]
  staticTypes := #[]
  resolved := Array.replicate 48 none
  statics := none }

def pool2 : Array CpInfo := pool [(1, .class_ 2), (0, u "java/io/Serializable"), (0, .class_ 4), (0, u "java/lang/Object")] 2

/-- java/io/Serializable -/
def k2 : Class := { plain "java/io/Serializable" (some 0) with
  accessFlags := 1537
  interfaces := #[]
  cf := some (fileOf pool2 1 #[] #[] 1537 3 #[] #[])
  fields := #[]
  methods := #[]
  instanceTypes := #[]
  staticTypes := #[]
  resolved := Array.replicate 7 none
  statics := none }

def pool3 : Array CpInfo := pool [(1, .class_ 2), (0, u "java/lang/Comparable"), (0, .class_ 4), (0, u "java/lang/Object")] 7

/-- java/lang/Comparable -/
def k3 : Class := { plain "java/lang/Comparable" (some 0) with
  accessFlags := 1537
  interfaces := #[]
  cf := some (fileOf pool3 1 #[] #[] 1537 3 #[] #[])
  fields := #[]
  methods := #[]
  instanceTypes := #[]
  staticTypes := #[]
  resolved := Array.replicate 12 none
  statics := none }

def pool4 : Array CpInfo := pool [(2, .class_ 4), (1, u "java/lang/CharSequence"), (42, .class_ 48), (0, u "java/lang/CharSequence$1CodePointIterator"), (10, .class_ 60), (0, u "java/lang/CharSequence$1CharIterator"), (5, .class_ 67), (0, u "java/lang/Object")] 63

/-- java/lang/CharSequence -/
def k4 : Class := { plain "java/lang/CharSequence" (some 0) with
  accessFlags := 1537
  interfaces := #[]
  cf := some (fileOf pool4 2 #[.nestMembers #[47, 59]] #[] 1537 66 #[] #[])
  fields := #[]
  methods := #[]
  instanceTypes := #[]
  staticTypes := #[]
  resolved := Array.replicate 131 none
  statics := none }

def pool5 : Array CpInfo := pool [(1, .class_ 2), (0, u "java/lang/constant/Constable"), (0, .class_ 4), (0, u "java/lang/Object")] 6

/-- java/lang/constant/Constable -/
def k5 : Class := { plain "java/lang/constant/Constable" (some 0) with
  accessFlags := 1537
  interfaces := #[]
  cf := some (fileOf pool5 1 #[] #[] 1537 3 #[] #[])
  fields := #[]
  methods := #[]
  instanceTypes := #[]
  staticTypes := #[]
  resolved := Array.replicate 11 none
  statics := none }

def pool6 : Array CpInfo := pool [(1, .class_ 2), (0, u "java/lang/constant/ConstantDesc"), (0, .class_ 4), (0, u "java/lang/Object")] 32

/-- java/lang/constant/ConstantDesc -/
def k6 : Class := { plain "java/lang/constant/ConstantDesc" (some 0) with
  accessFlags := 1537
  interfaces := #[]
  cf := some (fileOf pool6 1 #[] #[] 1537 3 #[] #[])
  fields := #[]
  methods := #[]
  instanceTypes := #[]
  staticTypes := #[]
  resolved := Array.replicate 37 none
  statics := none }

def pool7 : Array CpInfo := pool [(1, .methodref 2 3), (0, .class_ 4), (0, .nameAndType 5 6), (0, u "java/lang/Object"), (0, u "<init>"), (0, u "()V"), (0, .string 8), (0, u ""), (0, .fieldref 10 11), (0, .class_ 12), (0, .nameAndType 13 14), (0, u "java/lang/String"), (0, u "value"), (0, u "[B"), (0, .fieldref 10 16), (0, .nameAndType 17 18), (0, u "coder"), (0, u "B"), (2, u "hash"), (0, u "I"), (2, u "hashIsZero"), (0, u "Z"), (0, .methodref 10 28), (0, .nameAndType 5 29), (0, u "([CIILjava/lang/Void;)V"), (8, .fieldref 10 39), (0, .nameAndType 40 26), (0, u "COMPACT_STRINGS"), (1, .class_ 44), (1, u "java/lang/StringUTF16"), (0, u "compress"), (1, .methodref 42 48), (0, .nameAndType 49 50), (0, u "coderFromArrayLen"), (0, u "([BI)B"), (56, .class_ 109), (1, u "java/lang/StringLatin1"), (67, .methodref 42 178), (0, .nameAndType 45 179), (0, u "([CII)[B"), (361, .methodref 107 542), (0, .nameAndType 543 544), (0, u "equals"), (0, u "([B[B)Z"), (28, u "(Ljava/lang/Object;)Z"), (1, .class_ 576), (0, u "java/lang/CharSequence"), (22, u "CASE_INSENSITIVE_ORDER"), (0, u "Ljava/util/Comparator;"), (409, u "([C)V"), (90, u "serialPersistentFields"), (0, u "[Ljava/io/ObjectStreamField;"), (0, .class_ 1104), (0, u "java/lang/String$CaseInsensitiveComparator"), (1, .class_ 1107), (0, u "java/io/Serializable"), (0, .class_ 1109), (0, u "java/lang/Comparable"), (0, .class_ 1111), (0, u "java/lang/constant/Constable"), (0, .class_ 1113), (0, u "java/lang/constant/ConstantDesc"), (2, u "serialVersionUID"), (0, u "J"), (3, u "REPL"), (0, u "C"), (2, u "LATIN1"), (1, u "UTF16")] 323

def k7m0 : Method := { name := "<init>", desc := "()V", sig := { parameters := [], returnType := none }, accessFlags := 1, code := none }
def k7c1 : Code := { maxStack := 5, maxLocals := 2, code := jdk_42_method_3_code, exceptionTable := #[], attributes := #[] }
def k7m1 : Method := { name := "<init>", desc := "([C)V", sig := { parameters := [(.array .char)], returnType := none }, accessFlags := 1, code := some k7c1 }
def k7c2 : Code := { maxStack := 2, maxLocals := 3, code := jdk_42_method_66_code, exceptionTable := #[], attributes := #[] }
def k7m2 : Method := { name := "equals", desc := "(Ljava/lang/Object;)Z", sig := { parameters := [(.object "java/lang/Object")], returnType := some .boolean }, accessFlags := 1, code := some k7c2 }
def k7c3 : Code := { maxStack := 4, maxLocals := 6, code := jdk_42_method_149_code, exceptionTable := #[], attributes := #[] }
def k7m3 : Method := { name := "<init>", desc := "([CIILjava/lang/Void;)V", sig := { parameters := [(.array .char), .int, .int, (.object "java/lang/Void")], returnType := none }, accessFlags := 2, code := some k7c3 }
/-- java/lang/String -/
def k7 : Class := { plain "java/lang/String" (some 0) with
  accessFlags := 49
  interfaces := #[2, 3, 4, 5, 6]
  cf := some (fileOf pool7 10 #[.nestMembers #[1103]] #[{ accessFlags := 1, nameIndex := 5, descriptorIndex := 6, attributes := #[] }, { accessFlags := 1, nameIndex := 5, descriptorIndex := 1010, attributes := #[] }, { accessFlags := 1, nameIndex := 543, descriptorIndex := 573, attributes := #[] }, { accessFlags := 2, nameIndex := 5, descriptorIndex := 29, attributes := #[] }] 49 2 #[1106, 1108, 575, 1110, 1112] #[{ accessFlags := 18, nameIndex := 13, descriptorIndex := 14, attributes := #[] }, { accessFlags := 18, nameIndex := 17, descriptorIndex := 18, attributes := #[] }, { accessFlags := 2, nameIndex := 21, descriptorIndex := 22, attributes := #[] }, { accessFlags := 2, nameIndex := 25, descriptorIndex := 26, attributes := #[] }, { accessFlags := 26, nameIndex := 1116, descriptorIndex := 1117, attributes := #[] }, { accessFlags := 24, nameIndex := 40, descriptorIndex := 26, attributes := #[] }, { accessFlags := 26, nameIndex := 1101, descriptorIndex := 1102, attributes := #[] }, { accessFlags := 26, nameIndex := 1121, descriptorIndex := 1122, attributes := #[] }, { accessFlags := 25, nameIndex := 599, descriptorIndex := 600, attributes := #[] }, { accessFlags := 24, nameIndex := 1125, descriptorIndex := 18, attributes := #[] }, { accessFlags := 24, nameIndex := 1127, descriptorIndex := 18, attributes := #[] }])
  fields := #[{ name := "value", type := (.array .byte), accessFlags := 18, slot := 0, constantValue := 0 }, { name := "coder", type := .byte, accessFlags := 18, slot := 1, constantValue := 0 }, { name := "hash", type := .int, accessFlags := 2, slot := 2, constantValue := 0 }, { name := "hashIsZero", type := .boolean, accessFlags := 2, slot := 3, constantValue := 0 }, { name := "serialVersionUID", type := .long, accessFlags := 26, slot := 0, constantValue := 0 }, { name := "COMPACT_STRINGS", type := .boolean, accessFlags := 24, slot := 1, constantValue := 0 }, { name := "serialPersistentFields", type := (.array (.object "java/io/ObjectStreamField")), accessFlags := 26, slot := 2, constantValue := 0 }, { name := "REPL", type := .char, accessFlags := 26, slot := 3, constantValue := 0 }, { name := "CASE_INSENSITIVE_ORDER", type := (.object "java/util/Comparator"), accessFlags := 25, slot := 4, constantValue := 0 }, { name := "LATIN1", type := .byte, accessFlags := 24, slot := 5, constantValue := 0 }, { name := "UTF16", type := .byte, accessFlags := 24, slot := 6, constantValue := 0 }]
  methods := #[k7m0, k7m1, k7m2, k7m3]
  instanceTypes := #[(.array .byte), .byte, .int, .boolean]
  staticTypes := #[.long, .boolean, (.array (.object "java/io/ObjectStreamField")), .char, (.object "java/util/Comparator"), .byte, .byte]
  resolved := Array.replicate 1451 none
  statics := some 0 }

def pool8 : Array CpInfo := pool [(1, .methodref 2 3), (0, .class_ 4), (0, .nameAndType 5 6), (0, u "java/lang/Object"), (0, u "<init>"), (0, u "()V"), (0, .fieldref 8 9), (0, .class_ 10), (0, .nameAndType 11 12), (0, u "com/example/data_roles/dataroles/policy/Mask"), (0, u "text"), (0, u "Ljava/lang/String;"), (0, .fieldref 8 14), (0, .nameAndType 15 12), (0, u "condition"), (0, .fieldref 8 17), (0, .nameAndType 18 19), (0, u "order"), (0, u "I"), (6, .methodref 27 28), (0, .class_ 29), (0, .nameAndType 30 31), (0, u "java/lang/String"), (0, u "equals"), (0, u "(Ljava/lang/Object;)Z"), (0, .methodref 33 34), (0, .class_ 35), (0, .nameAndType 30 36), (0, u "java/util/Objects"), (0, u "(Ljava/lang/Object;Ljava/lang/Object;)Z"), (10, u "(Ljava/lang/String;Ljava/lang/String;I)V")] 11

def k8c0 : Code := { maxStack := 2, maxLocals := 4, code := prog_14_method_1_code, exceptionTable := #[], attributes := #[] }
def k8m0 : Method := { name := "<init>", desc := "(Ljava/lang/String;Ljava/lang/String;I)V", sig := { parameters := [(.object "java/lang/String"), (.object "java/lang/String"), .int], returnType := none }, accessFlags := 0, code := some k8c0 }
def k8c1 : Code := { maxStack := 2, maxLocals := 3, code := prog_14_method_5_code, exceptionTable := #[], attributes := #[] }
def k8m1 : Method := { name := "equals", desc := "(Ljava/lang/Object;)Z", sig := { parameters := [(.object "java/lang/Object")], returnType := some .boolean }, accessFlags := 1, code := some k8c1 }
/-- com/example/data_roles/dataroles/policy/Mask -/
def k8 : Class := { plain "com/example/data_roles/dataroles/policy/Mask" (some 0) with
  accessFlags := 49
  interfaces := #[]
  cf := some (fileOf pool8 8 #[] #[{ accessFlags := 0, nameIndex := 5, descriptorIndex := 47, attributes := #[] }, { accessFlags := 1, nameIndex := 30, descriptorIndex := 31, attributes := #[] }] 49 2 #[] #[{ accessFlags := 18, nameIndex := 11, descriptorIndex := 12, attributes := #[] }, { accessFlags := 18, nameIndex := 15, descriptorIndex := 12, attributes := #[] }, { accessFlags := 18, nameIndex := 18, descriptorIndex := 19, attributes := #[] }])
  fields := #[{ name := "text", type := (.object "java/lang/String"), accessFlags := 18, slot := 0, constantValue := 0 }, { name := "condition", type := (.object "java/lang/String"), accessFlags := 18, slot := 1, constantValue := 0 }, { name := "order", type := .int, accessFlags := 18, slot := 2, constantValue := 0 }]
  methods := #[k8m0, k8m1]
  instanceTypes := #[(.object "java/lang/String"), (.object "java/lang/String"), .int]
  staticTypes := #[]
  resolved := Array.replicate 59 none
  statics := none }

def pool9 : Array CpInfo := pool [(4, .class_ 6), (1, u "java/lang/Object"), (0, u "<init>"), (0, u "()V"), (5, .class_ 16), (1, u "java/lang/StringLatin1"), (104, u "$assertionsDisabled"), (0, u "Z"), (98, .class_ 223), (1, u "java/lang/StringLatin1$LinesSpliterator"), (57, u "equals"), (0, u "([B[B)Z"), (107, .class_ 391), (0, u "java/lang/StringLatin1$CharsSpliterator")] 3

def k9m0 : Method := { name := "<init>", desc := "()V", sig := { parameters := [], returnType := none }, accessFlags := 0, code := none }
def k9c1 : Code := { maxStack := 3, maxLocals := 3, code := jdk_43_method_13_code, exceptionTable := #[], attributes := #[] }
def k9m1 : Method := { name := "equals", desc := "([B[B)Z", sig := { parameters := [(.array .byte), (.array .byte)], returnType := some .boolean }, accessFlags := 9, code := some k9c1 }
/-- java/lang/StringLatin1 -/
def k9 : Class := { plain "java/lang/StringLatin1" (some 0) with
  accessFlags := 48
  interfaces := #[]
  cf := some (fileOf pool9 14 #[.nestMembers #[390, 221]] #[{ accessFlags := 0, nameIndex := 7, descriptorIndex := 8, attributes := #[] }, { accessFlags := 9, nameIndex := 281, descriptorIndex := 282, attributes := #[] }] 48 4 #[] #[{ accessFlags := 4120, nameIndex := 121, descriptorIndex := 122, attributes := #[] }])
  fields := #[{ name := "$assertionsDisabled", type := .boolean, accessFlags := 4120, slot := 0, constantValue := 0 }]
  methods := #[k9m0, k9m1]
  instanceTypes := #[]
  staticTypes := #[.boolean]
  resolved := Array.replicate 395 none
  statics := none }

def pool10 : Array CpInfo := pool [(2, .class_ 4), (1, u "java/lang/Object"), (0, u "<init>"), (0, u "()V"), (7, .methodref 2 15), (0, .nameAndType 16 17), (0, u "equals"), (0, u "(Ljava/lang/Object;)Z"), (5, u "(Ljava/lang/Object;Ljava/lang/Object;)Z"), (18, .class_ 44), (1, u "java/util/Objects")] 139

def k10m0 : Method := { name := "<init>", desc := "()V", sig := { parameters := [], returnType := none }, accessFlags := 2, code := none }
def k10c1 : Code := { maxStack := 2, maxLocals := 2, code := jdk_31_method_2_code, exceptionTable := #[], attributes := #[] }
def k10m1 : Method := { name := "equals", desc := "(Ljava/lang/Object;Ljava/lang/Object;)Z", sig := { parameters := [(.object "java/lang/Object"), (.object "java/lang/Object")], returnType := some .boolean }, accessFlags := 9, code := some k10c1 }
/-- java/util/Objects -/
def k10 : Class := { plain "java/util/Objects" (some 0) with
  accessFlags := 49
  interfaces := #[]
  cf := some (fileOf pool10 42 #[] #[{ accessFlags := 2, nameIndex := 5, descriptorIndex := 6, attributes := #[] }, { accessFlags := 9, nameIndex := 16, descriptorIndex := 23, attributes := #[] }] 49 2 #[] #[])
  fields := #[]
  methods := #[k10m0, k10m1]
  instanceTypes := #[]
  staticTypes := #[]
  resolved := Array.replicate 184 none
  statics := none }

def pool11 : Array CpInfo := pool [(6, .class_ 8), (1, u "java/lang/Object"), (0, u "<init>"), (0, u "()V"), (1, .class_ 14), (1, u "java/lang/StringUTF16"), (31, u "$assertionsDisabled"), (0, u "Z"), (13, u "HI_BYTE_SHIFT"), (0, u "I"), (2, u "LO_BYTE_SHIFT"), (49, .methodref 12 116), (0, .nameAndType 117 118), (0, u "compress"), (0, u "([CI[BII)I"), (3, u "([CII)[B"), (138, u "coderFromArrayLen"), (0, u "([BI)B"), (106, .class_ 371), (1, u "java/lang/StringUTF16$LinesSpliterator"), (58, u "MAX_LENGTH"), (196, .class_ 628), (0, u "java/lang/StringUTF16$CodePointsSpliterator"), (0, .class_ 630), (0, u "java/lang/StringUTF16$CharsSpliterator")] 4

def k11m0 : Method := { name := "<init>", desc := "()V", sig := { parameters := [], returnType := none }, accessFlags := 0, code := none }
def k11c1 : Code := { maxStack := 2, maxLocals := 2, code := jdk_52_method_15_code, exceptionTable := #[], attributes := #[] }
def k11m1 : Method := { name := "coderFromArrayLen", desc := "([BI)B", sig := { parameters := [(.array .byte), .int], returnType := some .byte }, accessFlags := 8, code := some k11c1 }
def k11c2 : Code := { maxStack := 5, maxLocals := 6, code := jdk_52_method_16_code, exceptionTable := #[], attributes := #[] }
def k11m2 : Method := { name := "compress", desc := "([CII)[B", sig := { parameters := [(.array .char), .int, .int], returnType := some (.array .byte) }, accessFlags := 9, code := some k11c2 }
def k11c3 : Code := { maxStack := 3, maxLocals := 7, code := jdk_52_method_21_code, exceptionTable := #[], attributes := #[] }
def k11m3 : Method := { name := "compress", desc := "([CI[BII)I", sig := { parameters := [(.array .char), .int, (.array .byte), .int, .int], returnType := some .int }, accessFlags := 9, code := some k11c3 }
/-- java/lang/StringUTF16 -/
def k11 : Class := { plain "java/lang/StringUTF16" (some 0) with
  accessFlags := 48
  interfaces := #[]
  cf := some (fileOf pool11 12 #[.nestMembers #[627, 629, 369]] #[{ accessFlags := 0, nameIndex := 9, descriptorIndex := 10, attributes := #[] }, { accessFlags := 8, nameIndex := 261, descriptorIndex := 262, attributes := #[] }, { accessFlags := 9, nameIndex := 117, descriptorIndex := 122, attributes := #[] }, { accessFlags := 9, nameIndex := 117, descriptorIndex := 118, attributes := #[] }] 48 6 #[] #[{ accessFlags := 26, nameIndex := 61, descriptorIndex := 62, attributes := #[] }, { accessFlags := 26, nameIndex := 65, descriptorIndex := 62, attributes := #[] }, { accessFlags := 24, nameIndex := 430, descriptorIndex := 62, attributes := #[] }, { accessFlags := 4120, nameIndex := 46, descriptorIndex := 47, attributes := #[] }])
  fields := #[{ name := "HI_BYTE_SHIFT", type := .int, accessFlags := 26, slot := 0, constantValue := 0 }, { name := "LO_BYTE_SHIFT", type := .int, accessFlags := 26, slot := 1, constantValue := 0 }, { name := "MAX_LENGTH", type := .int, accessFlags := 24, slot := 2, constantValue := 0 }, { name := "$assertionsDisabled", type := .boolean, accessFlags := 4120, slot := 3, constantValue := 0 }]
  methods := #[k11m0, k11m1, k11m2, k11m3]
  instanceTypes := #[]
  staticTypes := #[.int, .int, .int, .boolean]
  resolved := Array.replicate 635 none
  statics := none }

def pool12 : Array CpInfo := pool [(2, .class_ 4), (1, u "java/lang/Object"), (0, u "<init>"), (0, u "()V"), (17, .class_ 26), (1, u "jdk/internal/util/Preconditions"), (28, .class_ 56), (0, u "jdk/internal/util/Preconditions$4"), (57, .class_ 115), (0, u "jdk/internal/util/Preconditions$1"), (7, u "SIOOBE_FORMATTER"), (0, u "Ljava/util/function/BiFunction;"), (0, .class_ 126), (0, u "jdk/internal/util/Preconditions$2"), (3, u "AIOOBE_FORMATTER"), (0, .class_ 132), (0, u "jdk/internal/util/Preconditions$3"), (3, u "IOOBE_FORMATTER")] 57

def k12m0 : Method := { name := "<init>", desc := "()V", sig := { parameters := [], returnType := none }, accessFlags := 1, code := none }
/-- jdk/internal/util/Preconditions -/
def k12 : Class := { plain "jdk/internal/util/Preconditions" (some 0) with
  accessFlags := 33
  interfaces := #[]
  cf := some (fileOf pool12 24 #[.nestMembers #[55, 131, 125, 114]] #[{ accessFlags := 1, nameIndex := 5, descriptorIndex := 6, attributes := #[] }] 33 2 #[] #[{ accessFlags := 25, nameIndex := 123, descriptorIndex := 124, attributes := #[] }, { accessFlags := 25, nameIndex := 130, descriptorIndex := 124, attributes := #[] }, { accessFlags := 25, nameIndex := 136, descriptorIndex := 124, attributes := #[] }])
  fields := #[{ name := "SIOOBE_FORMATTER", type := (.object "java/util/function/BiFunction"), accessFlags := 25, slot := 0, constantValue := 0 }, { name := "AIOOBE_FORMATTER", type := (.object "java/util/function/BiFunction"), accessFlags := 25, slot := 1, constantValue := 0 }, { name := "IOOBE_FORMATTER", type := (.object "java/util/function/BiFunction"), accessFlags := 25, slot := 2, constantValue := 0 }]
  methods := #[k12m0]
  instanceTypes := #[]
  staticTypes := #[(.object "java/util/function/BiFunction"), (.object "java/util/function/BiFunction"), (.object "java/util/function/BiFunction")]
  resolved := Array.replicate 194 none
  statics := some 1 }

def pool13 : Array CpInfo := pool [(9, u "<init>"), (6, .class_ 18), (1, u "java/lang/Object"), (0, u "()V"), (1, .class_ 23), (1, u "jdk/internal/util/ArraysSupport"), (0, u "LOG2_ARRAY_LONG_INDEX_SCALE"), (0, u "I"), (2, u "U"), (0, u "Ljdk/internal/misc/Unsafe;"), (8, u "BIG_ENDIAN"), (0, u "Z"), (8, u "LOG2_BYTE_BIT_SIZE"), (4, u "LOG2_ARRAY_INT_INDEX_SCALE"), (54, u "JLA"), (0, u "Ljdk/internal/access/JavaLangAccess;"), (11, u "LOG2_ARRAY_BOOLEAN_INDEX_SCALE"), (9, u "LOG2_ARRAY_BYTE_INDEX_SCALE"), (5, u "LOG2_ARRAY_CHAR_INDEX_SCALE"), (5, u "LOG2_ARRAY_SHORT_INDEX_SCALE"), (18, u "LOG2_ARRAY_FLOAT_INDEX_SCALE"), (24, u "LOG2_ARRAY_DOUBLE_INDEX_SCALE"), (89, u "T_BOOLEAN"), (2, u "T_CHAR"), (1, u "T_FLOAT"), (1, u "T_DOUBLE"), (1, u "T_BYTE"), (1, u "T_SHORT"), (1, u "T_INT"), (1, u "T_LONG"), (1, u "SOFT_MAX_ARRAY_LENGTH")] 83

def k13m0 : Method := { name := "<init>", desc := "()V", sig := { parameters := [], returnType := none }, accessFlags := 2, code := none }
/-- jdk/internal/util/ArraysSupport -/
def k13 : Class := { plain "jdk/internal/util/ArraysSupport" (some 0) with
  accessFlags := 33
  interfaces := #[]
  cf := some (fileOf pool13 21 #[] #[{ accessFlags := 2, nameIndex := 9, descriptorIndex := 19, attributes := #[] }] 33 16 #[] #[{ accessFlags := 24, nameIndex := 28, descriptorIndex := 29, attributes := #[] }, { accessFlags := 26, nameIndex := 38, descriptorIndex := 39, attributes := #[] }, { accessFlags := 25, nameIndex := 121, descriptorIndex := 25, attributes := #[] }, { accessFlags := 25, nameIndex := 131, descriptorIndex := 25, attributes := #[] }, { accessFlags := 25, nameIndex := 137, descriptorIndex := 25, attributes := #[] }, { accessFlags := 25, nameIndex := 143, descriptorIndex := 25, attributes := #[] }, { accessFlags := 25, nameIndex := 53, descriptorIndex := 25, attributes := #[] }, { accessFlags := 25, nameIndex := 24, descriptorIndex := 25, attributes := #[] }, { accessFlags := 25, nameIndex := 162, descriptorIndex := 25, attributes := #[] }, { accessFlags := 25, nameIndex := 187, descriptorIndex := 25, attributes := #[] }, { accessFlags := 26, nameIndex := 48, descriptorIndex := 25, attributes := #[] }, { accessFlags := 25, nameIndex := 277, descriptorIndex := 25, attributes := #[] }, { accessFlags := 25, nameIndex := 280, descriptorIndex := 25, attributes := #[] }, { accessFlags := 25, nameIndex := 282, descriptorIndex := 25, attributes := #[] }, { accessFlags := 25, nameIndex := 284, descriptorIndex := 25, attributes := #[] }, { accessFlags := 25, nameIndex := 286, descriptorIndex := 25, attributes := #[] }, { accessFlags := 25, nameIndex := 288, descriptorIndex := 25, attributes := #[] }, { accessFlags := 25, nameIndex := 290, descriptorIndex := 25, attributes := #[] }, { accessFlags := 25, nameIndex := 292, descriptorIndex := 25, attributes := #[] }, { accessFlags := 26, nameIndex := 108, descriptorIndex := 109, attributes := #[] }, { accessFlags := 25, nameIndex := 294, descriptorIndex := 25, attributes := #[] }])
  fields := #[{ name := "U", type := (.object "jdk/internal/misc/Unsafe"), accessFlags := 24, slot := 0, constantValue := 0 }, { name := "BIG_ENDIAN", type := .boolean, accessFlags := 26, slot := 1, constantValue := 0 }, { name := "LOG2_ARRAY_BOOLEAN_INDEX_SCALE", type := .int, accessFlags := 25, slot := 2, constantValue := 0 }, { name := "LOG2_ARRAY_BYTE_INDEX_SCALE", type := .int, accessFlags := 25, slot := 3, constantValue := 0 }, { name := "LOG2_ARRAY_CHAR_INDEX_SCALE", type := .int, accessFlags := 25, slot := 4, constantValue := 0 }, { name := "LOG2_ARRAY_SHORT_INDEX_SCALE", type := .int, accessFlags := 25, slot := 5, constantValue := 0 }, { name := "LOG2_ARRAY_INT_INDEX_SCALE", type := .int, accessFlags := 25, slot := 6, constantValue := 0 }, { name := "LOG2_ARRAY_LONG_INDEX_SCALE", type := .int, accessFlags := 25, slot := 7, constantValue := 0 }, { name := "LOG2_ARRAY_FLOAT_INDEX_SCALE", type := .int, accessFlags := 25, slot := 8, constantValue := 0 }, { name := "LOG2_ARRAY_DOUBLE_INDEX_SCALE", type := .int, accessFlags := 25, slot := 9, constantValue := 0 }, { name := "LOG2_BYTE_BIT_SIZE", type := .int, accessFlags := 26, slot := 10, constantValue := 0 }, { name := "T_BOOLEAN", type := .int, accessFlags := 25, slot := 11, constantValue := 0 }, { name := "T_CHAR", type := .int, accessFlags := 25, slot := 12, constantValue := 0 }, { name := "T_FLOAT", type := .int, accessFlags := 25, slot := 13, constantValue := 0 }, { name := "T_DOUBLE", type := .int, accessFlags := 25, slot := 14, constantValue := 0 }, { name := "T_BYTE", type := .int, accessFlags := 25, slot := 15, constantValue := 0 }, { name := "T_SHORT", type := .int, accessFlags := 25, slot := 16, constantValue := 0 }, { name := "T_INT", type := .int, accessFlags := 25, slot := 17, constantValue := 0 }, { name := "T_LONG", type := .int, accessFlags := 25, slot := 18, constantValue := 0 }, { name := "JLA", type := (.object "jdk/internal/access/JavaLangAccess"), accessFlags := 26, slot := 19, constantValue := 0 }, { name := "SOFT_MAX_ARRAY_LENGTH", type := .int, accessFlags := 25, slot := 20, constantValue := 0 }]
  methods := #[k13m0]
  instanceTypes := #[]
  staticTypes := #[(.object "jdk/internal/misc/Unsafe"), .boolean, .int, .int, .int, .int, .int, .int, .int, .int, .int, .int, .int, .int, .int, .int, .int, .int, .int, (.object "jdk/internal/access/JavaLangAccess"), .int]
  resolved := Array.replicate 378 none
  statics := none }

def pool14 : Array CpInfo := pool [(1, u "java/lang/Cloneable"), (0, .class_ 1), (0, u "java/lang/Object"), (0, .class_ 3)] 3

/-- java/lang/Cloneable -/
def k14 : Class := { plain "java/lang/Cloneable" (some 0) with
  accessFlags := 1537
  interfaces := #[]
  cf := some (fileOf pool14 2 #[] #[] 1537 4 #[] #[])
  fields := #[]
  methods := #[]
  instanceTypes := #[]
  staticTypes := #[]
  resolved := Array.replicate 8 none
  statics := none }

/-- the primitive byte -/
def k15 : Class := { plain "byte" none with kind := .primitive 'B', accessFlags := 0x411 }
/-- [B -/
def k16 : Class := { plain "[B" (some 0) with kind := .array 15 .byte, interfaces := #[14, 2], accessFlags := 1041 }

/-- the primitive char -/
def k17 : Class := { plain "char" none with kind := .primitive 'C', accessFlags := 0x411 }
/-- [C -/
def k18 : Class := { plain "[C" (some 0) with kind := .array 17 .char, interfaces := #[14, 2], accessFlags := 1041 }

/-- the primitive int -/
def k19 : Class := { plain "int" none with kind := .primitive 'I', accessFlags := 0x411 }
/-- [I -/
def k20 : Class := { plain "[I" (some 0) with kind := .array 19 .int, interfaces := #[14, 2], accessFlags := 1041 }

def heap : Heap := #[{ cls := 7, slots := #[.long 0, .int 1, .null, .int 0, .null, .int 0, .int 0], vm := .statics 7 },
  { cls := 12, slots := #[.null, .null, .null], vm := .statics 12 }]
def classes : Array Class := #[k0, k1, k2, k3, k4, k5, k6, k7, k8, k9, k10, k11, k12, k13, k14, k15, k16, k17, k18, k19, k20]
def interned : List (Array UInt16 × Addr) := []
def slotsUsed : Nat := 10
def theMethod : MethodId := ⟨1, 5⟩
def args0 : Array Value := #[.int 5, .int 7, .int 9, .int 11, .long 13, .int 0]
def aboutOver (below : List Frame) : State where
  vm := { classes := classes, interned := interned.toArray }
  heap := heap
  slotsUsed := slotsUsed
  threads := #[{ frames := .invoking theMethod args0 :: below }]
def below0 : List Frame := [.native { method := ⟨0, 0⟩, args := #[] }]
def about1 : State := aboutOver below0
def p0 : Program := .bare "" "" ""
def e0 : Env := launch0.env 0 0 0
theorem w_frames : about1.frames = Frame.invoking theMethod args0 :: below0 := rfl
set_option maxRecDepth 65536 in
theorem w_args : argsFit about1.vm theMethod args0 = true := by decide +kernel
set_option maxRecDepth 65536 in
theorem w_heap : heapFits about1 = true := by decide +kernel
set_option maxRecDepth 65536 in
theorem w_runnable : about1.curStatus? = some .runnable := by decide +kernel
set_option maxRecDepth 65536 in
theorem w_alone : about1.alone = true := by decide +kernel
set_option maxRecDepth 65536 in
theorem w_named : about1.methodNamed? x = some theMethod := by decide +kernel
set_option maxRecDepth 65536 in
theorem w_hears : about1.hears theMethod below0 = true := by decide +kernel
set_option maxRecDepth 65536 in
theorem w_ripe : about1.ripe theMethod args0 below0 = true := by decide +kernel
theorem w_running : about1.status = .running := rfl
set_option maxRecDepth 65536 in
theorem w_room : about1.hasRoom e0.platform room_1 = true :=
  launch0.hasRoom_least _ room_1 (by decide +kernel) (by decide +kernel) (by decide +kernel) (by decide +kernel) (by decide +kernel) (by decide +kernel)
theorem allAtoms_all (ts : List Jvm.Cond) (a : Array Jvm.Value) (st : Jvm.State) : (allAtoms ts).before a st = ts.all (fun c => c.before a st) := by
  induction ts with
  | nil => rfl
  | cons c t ih =>
    show (Jvm.Cond.and c (allAtoms t)).before a st = _
    rw [Jvm.Cond.before_and, ih, List.all_cons]
def words1 : List Jvm.Cond := Jvm.Cond.code x code maxLocals ret :: tables_1
/-- a 'code' word, met by the world's own term for the bytes: nothing is compared byte by byte -/
theorem code_word {y : MethodName} {bytes : ByteArray} {mx : Nat} {rt : Option FieldType} {a : Array Value} {s : State} {m : MethodId} {meth : Method} {c : Code} (h1 : s.methodNamed? y = some m) (h2 : s.vm.method? m = some meth) (h3 : meth.code = some c) (h4 : c.code = bytes)
    (h5 : (c.maxLocals == mx && c.exceptionTable.isEmpty && decide (c.maxStack ≤ mostOperands) && decide (meth.sig.returnType = rt) && !meth.locks && decide (parseMethodDescriptor y.desc = some meth.sig)) = true) : (Jvm.Cond.code y bytes mx rt).before a s = true := by
  simp only [Bool.and_eq_true, beq_iff_eq, Bool.not_eq_true', decide_eq_true_eq] at h5
  obtain ⟨⟨⟨⟨⟨g1, g2⟩, g3⟩, g4⟩, g5⟩, g6⟩ := h5
  simp [Cond.before, Cond.holds, Cond.value, h1, h2, h3, h4, g1, g2, g3, g4, g5, g6]
def isCode : Jvm.Cond → Bool
  | .code _ _ _ _ => true
  | _ => false
theorem all_split {L : List Jvm.Cond} {P : Jvm.Cond → Bool} (h1 : L.all (fun c => isCode c || P c) = true) (h2 : ∀ c ∈ L.filter isCode, P c = true) : L.all P = true := by
  refine List.all_eq_true.mpr fun c hc => ?_
  have h := List.all_eq_true.mp h1 c hc
  rcases Bool.eq_false_or_eq_true (isCode c) with hi | hi
  · exact h2 c (List.mem_filter.mpr ⟨hc, hi⟩)
  · simpa [hi] using h
set_option maxRecDepth 65536 in
theorem w_c0 : (Jvm.Cond.code x code maxLocals ret).before args0 about1 = true := code_word (m := ⟨1, 5⟩) (meth := k1m5) (c := k1c5) (by decide +kernel) rfl rfl rfl (by decide +kernel)
set_option maxRecDepth 65536 in
theorem w_c1 : (Jvm.Cond.code ({ cls := "com/example/data_roles/dataroles/policy/MaskEqualsPinLaw", name := "mk", desc := "(I)Ljava/lang/String;" } : Jvm.MethodName) method_3_code (4 : Nat) (Option.some (Jvm.ClassFile.FieldType.object "java/lang/String"))).before args0 about1 = true := code_word (m := ⟨1, 2⟩) (meth := k1m2) (c := k1c2) (by decide +kernel) rfl rfl rfl (by decide +kernel)
set_option maxRecDepth 65536 in
theorem w_c2 : (Jvm.Cond.code ({ cls := "com/example/data_roles/dataroles/policy/MaskEqualsPinLaw", name := "lenOf", desc := "(I)I" } : Jvm.MethodName) method_2_code (2 : Nat) (Option.some Jvm.ClassFile.FieldType.int)).before args0 about1 = true := code_word (m := ⟨1, 1⟩) (meth := k1m1) (c := k1c1) (by decide +kernel) rfl rfl rfl (by decide +kernel)
set_option maxRecDepth 65536 in
theorem w_c3 : (Jvm.Cond.code ({ cls := "java/lang/String", name := "<init>", desc := "([C)V" } : Jvm.MethodName) jdk_42_method_3_code (2 : Nat) (Option.none : Option Jvm.ClassFile.FieldType)).before args0 about1 = true := code_word (m := ⟨7, 1⟩) (meth := k7m1) (c := k7c1) (by decide +kernel) rfl rfl rfl (by decide +kernel)
set_option maxRecDepth 65536 in
theorem w_c4 : (Jvm.Cond.code ({ cls := "java/lang/String", name := "<init>", desc := "([CIILjava/lang/Void;)V" } : Jvm.MethodName) jdk_42_method_149_code (6 : Nat) (Option.none : Option Jvm.ClassFile.FieldType)).before args0 about1 = true := code_word (m := ⟨7, 3⟩) (meth := k7m3) (c := k7c3) (by decide +kernel) rfl rfl rfl (by decide +kernel)
set_option maxRecDepth 65536 in
theorem w_c5 : (Jvm.Cond.code ({ cls := "java/lang/Object", name := "<init>", desc := "()V" } : Jvm.MethodName) object_method_1_code (1 : Nat) (Option.none : Option Jvm.ClassFile.FieldType)).before args0 about1 = true := code_word (m := ⟨0, 0⟩) (meth := k0m0) (c := k0c0) (by decide +kernel) rfl rfl rfl (by decide +kernel)
set_option maxRecDepth 65536 in
theorem w_c6 : (Jvm.Cond.code ({ cls := "com/example/data_roles/dataroles/policy/MaskEqualsPinLaw", name := "isNull", desc := "(I)Z" } : Jvm.MethodName) method_5_code (1 : Nat) (Option.some Jvm.ClassFile.FieldType.boolean)).before args0 about1 = true := code_word (m := ⟨1, 4⟩) (meth := k1m4) (c := k1c4) (by decide +kernel) rfl rfl rfl (by decide +kernel)
set_option maxRecDepth 65536 in
theorem w_c7 : (Jvm.Cond.code ({ cls := "com/example/data_roles/dataroles/policy/Mask", name := "<init>", desc := "(Ljava/lang/String;Ljava/lang/String;I)V" } : Jvm.MethodName) prog_14_method_1_code (4 : Nat) (Option.none : Option Jvm.ClassFile.FieldType)).before args0 about1 = true := code_word (m := ⟨8, 0⟩) (meth := k8m0) (c := k8c0) (by decide +kernel) rfl rfl rfl (by decide +kernel)
set_option maxRecDepth 65536 in
theorem w_c8 : (Jvm.Cond.code ({ cls := "com/example/data_roles/dataroles/policy/MaskEqualsPinLaw", name := "keyOf", desc := "(I)I" } : Jvm.MethodName) method_4_code (2 : Nat) (Option.some Jvm.ClassFile.FieldType.int)).before args0 about1 = true := code_word (m := ⟨1, 3⟩) (meth := k1m3) (c := k1c3) (by decide +kernel) rfl rfl rfl (by decide +kernel)
set_option maxRecDepth 65536 in
theorem w_c9 : (Jvm.Cond.code ({ cls := "com/example/data_roles/dataroles/policy/Mask", name := "equals", desc := "(Ljava/lang/Object;)Z" } : Jvm.MethodName) prog_14_method_5_code (3 : Nat) (Option.some Jvm.ClassFile.FieldType.boolean)).before args0 about1 = true := code_word (m := ⟨8, 1⟩) (meth := k8m1) (c := k8c1) (by decide +kernel) rfl rfl rfl (by decide +kernel)
set_option maxRecDepth 65536 in
theorem w_c10 : (Jvm.Cond.code ({ cls := "java/lang/String", name := "equals", desc := "(Ljava/lang/Object;)Z" } : Jvm.MethodName) jdk_42_method_66_code (3 : Nat) (Option.some Jvm.ClassFile.FieldType.boolean)).before args0 about1 = true := code_word (m := ⟨7, 2⟩) (meth := k7m2) (c := k7c2) (by decide +kernel) rfl rfl rfl (by decide +kernel)
set_option maxRecDepth 65536 in
theorem w_c11 : (Jvm.Cond.code ({ cls := "java/lang/StringLatin1", name := "equals", desc := "([B[B)Z" } : Jvm.MethodName) jdk_43_method_13_code (3 : Nat) (Option.some Jvm.ClassFile.FieldType.boolean)).before args0 about1 = true := code_word (m := ⟨9, 1⟩) (meth := k9m1) (c := k9c1) (by decide +kernel) rfl rfl rfl (by decide +kernel)
set_option maxRecDepth 65536 in
theorem w_c12 : (Jvm.Cond.code ({ cls := "java/util/Objects", name := "equals", desc := "(Ljava/lang/Object;Ljava/lang/Object;)Z" } : Jvm.MethodName) jdk_31_method_2_code (2 : Nat) (Option.some Jvm.ClassFile.FieldType.boolean)).before args0 about1 = true := code_word (m := ⟨10, 1⟩) (meth := k10m1) (c := k10c1) (by decide +kernel) rfl rfl rfl (by decide +kernel)
set_option maxRecDepth 65536 in
theorem w_c13 : (Jvm.Cond.code ({ cls := "java/lang/StringUTF16", name := "compress", desc := "([CII)[B" } : Jvm.MethodName) jdk_52_method_16_code (6 : Nat) (Option.some (Jvm.ClassFile.FieldType.array Jvm.ClassFile.FieldType.byte))).before args0 about1 = true := code_word (m := ⟨11, 2⟩) (meth := k11m2) (c := k11c2) (by decide +kernel) rfl rfl rfl (by decide +kernel)
set_option maxRecDepth 65536 in
theorem w_c14 : (Jvm.Cond.code ({ cls := "java/lang/StringUTF16", name := "compress", desc := "([CI[BII)I" } : Jvm.MethodName) jdk_52_method_21_code (7 : Nat) (Option.some Jvm.ClassFile.FieldType.int)).before args0 about1 = true := code_word (m := ⟨11, 3⟩) (meth := k11m3) (c := k11c3) (by decide +kernel) rfl rfl rfl (by decide +kernel)
set_option maxRecDepth 65536 in
theorem w_c15 : (Jvm.Cond.code ({ cls := "java/lang/StringUTF16", name := "coderFromArrayLen", desc := "([BI)B" } : Jvm.MethodName) jdk_52_method_15_code (2 : Nat) (Option.some Jvm.ClassFile.FieldType.byte)).before args0 about1 = true := code_word (m := ⟨11, 1⟩) (meth := k11m1) (c := k11c1) (by decide +kernel) rfl rfl rfl (by decide +kernel)
def codes1 : List Jvm.Cond := [Jvm.Cond.code x code maxLocals ret, Jvm.Cond.code ({ cls := "com/example/data_roles/dataroles/policy/MaskEqualsPinLaw", name := "mk", desc := "(I)Ljava/lang/String;" } : Jvm.MethodName) method_3_code (4 : Nat) (Option.some (Jvm.ClassFile.FieldType.object "java/lang/String")), Jvm.Cond.code ({ cls := "com/example/data_roles/dataroles/policy/MaskEqualsPinLaw", name := "lenOf", desc := "(I)I" } : Jvm.MethodName) method_2_code (2 : Nat) (Option.some Jvm.ClassFile.FieldType.int), Jvm.Cond.code ({ cls := "java/lang/String", name := "<init>", desc := "([C)V" } : Jvm.MethodName) jdk_42_method_3_code (2 : Nat) (Option.none : Option Jvm.ClassFile.FieldType), Jvm.Cond.code ({ cls := "java/lang/String", name := "<init>", desc := "([CIILjava/lang/Void;)V" } : Jvm.MethodName) jdk_42_method_149_code (6 : Nat) (Option.none : Option Jvm.ClassFile.FieldType), Jvm.Cond.code ({ cls := "java/lang/Object", name := "<init>", desc := "()V" } : Jvm.MethodName) object_method_1_code (1 : Nat) (Option.none : Option Jvm.ClassFile.FieldType), Jvm.Cond.code ({ cls := "com/example/data_roles/dataroles/policy/MaskEqualsPinLaw", name := "isNull", desc := "(I)Z" } : Jvm.MethodName) method_5_code (1 : Nat) (Option.some Jvm.ClassFile.FieldType.boolean), Jvm.Cond.code ({ cls := "com/example/data_roles/dataroles/policy/Mask", name := "<init>", desc := "(Ljava/lang/String;Ljava/lang/String;I)V" } : Jvm.MethodName) prog_14_method_1_code (4 : Nat) (Option.none : Option Jvm.ClassFile.FieldType), Jvm.Cond.code ({ cls := "com/example/data_roles/dataroles/policy/MaskEqualsPinLaw", name := "keyOf", desc := "(I)I" } : Jvm.MethodName) method_4_code (2 : Nat) (Option.some Jvm.ClassFile.FieldType.int), Jvm.Cond.code ({ cls := "com/example/data_roles/dataroles/policy/Mask", name := "equals", desc := "(Ljava/lang/Object;)Z" } : Jvm.MethodName) prog_14_method_5_code (3 : Nat) (Option.some Jvm.ClassFile.FieldType.boolean), Jvm.Cond.code ({ cls := "java/lang/String", name := "equals", desc := "(Ljava/lang/Object;)Z" } : Jvm.MethodName) jdk_42_method_66_code (3 : Nat) (Option.some Jvm.ClassFile.FieldType.boolean), Jvm.Cond.code ({ cls := "java/lang/StringLatin1", name := "equals", desc := "([B[B)Z" } : Jvm.MethodName) jdk_43_method_13_code (3 : Nat) (Option.some Jvm.ClassFile.FieldType.boolean), Jvm.Cond.code ({ cls := "java/util/Objects", name := "equals", desc := "(Ljava/lang/Object;Ljava/lang/Object;)Z" } : Jvm.MethodName) jdk_31_method_2_code (2 : Nat) (Option.some Jvm.ClassFile.FieldType.boolean), Jvm.Cond.code ({ cls := "java/lang/StringUTF16", name := "compress", desc := "([CII)[B" } : Jvm.MethodName) jdk_52_method_16_code (6 : Nat) (Option.some (Jvm.ClassFile.FieldType.array Jvm.ClassFile.FieldType.byte)), Jvm.Cond.code ({ cls := "java/lang/StringUTF16", name := "compress", desc := "([CI[BII)I" } : Jvm.MethodName) jdk_52_method_21_code (7 : Nat) (Option.some Jvm.ClassFile.FieldType.int), Jvm.Cond.code ({ cls := "java/lang/StringUTF16", name := "coderFromArrayLen", desc := "([BI)B" } : Jvm.MethodName) jdk_52_method_15_code (2 : Nat) (Option.some Jvm.ClassFile.FieldType.byte)]
set_option maxRecDepth 65536 in
theorem codes_eq : words1.filter isCode = codes1 := rfl
theorem w_codes : ∀ c ∈ words1.filter isCode, c.before args0 about1 = true := by
  rw [codes_eq]
  intro c hc
  simp only [codes1, List.mem_cons, List.not_mem_nil, or_false] at hc
  rcases hc with rfl | rfl | rfl | rfl | rfl | rfl | rfl | rfl | rfl | rfl | rfl | rfl | rfl | rfl | rfl | rfl
  · exact w_c0
  · exact w_c1
  · exact w_c2
  · exact w_c3
  · exact w_c4
  · exact w_c5
  · exact w_c6
  · exact w_c7
  · exact w_c8
  · exact w_c9
  · exact w_c10
  · exact w_c11
  · exact w_c12
  · exact w_c13
  · exact w_c14
  · exact w_c15
set_option maxRecDepth 65536 in
theorem w_t1 : (words1.take 24).all (fun c => isCode c || c.before args0 about1) = true := by decide +kernel
set_option maxRecDepth 65536 in
theorem w_t2 : ((words1.drop 24).take 24).all (fun c => isCode c || c.before args0 about1) = true := by decide +kernel
set_option maxRecDepth 65536 in
theorem w_t3 : (((words1.drop 24).drop 24).take 24).all (fun c => isCode c || c.before args0 about1) = true := by decide +kernel
set_option maxRecDepth 65536 in
theorem w_t4 : (((words1.drop 24).drop 24).drop 24).all (fun c => isCode c || c.before args0 about1) = true := by decide +kernel
theorem w_tables : (allAtoms (Jvm.Cond.code x code maxLocals ret :: tables_1)).before args0 about1 = true := by
  rw [allAtoms_all]
  show words1.all (fun c => c.before args0 about1) = true
  refine all_split ?_ w_codes
  rw [← List.take_append_drop 24 words1, List.all_append, w_t1, ← List.take_append_drop 24 (words1.drop 24), List.all_append, w_t2, ← List.take_append_drop 24 ((words1.drop 24).drop 24), List.all_append, w_t3, w_t4]
  rfl
set_option maxRecDepth 65536 in
theorem w_rest : rest_1_c.before args0 about1 = true := by decide +kernel
set_option maxRecDepth 65536 in
theorem w_case : (Jvm.Cond.and given_1 narrow_1).before args0 about1 = true := by decide +kernel
set_option maxRecDepth 65536 in
theorem w_consts : constsHeld consts_1 about1 := Jvm.Lit.constsHeldB_iff.mp (by decide +kernel)
theorem w_applies : (headSpec (Jvm.Cond.code x code maxLocals ret :: tables_1) room_1).applies x e0.platform about1 = true :=
  (Spec.applies_iff w_frames).mpr ⟨w_running, w_runnable, w_alone, w_named, w_hears, w_ripe, w_room, w_tables⟩
theorem atStart : AtStart classFile x code maxLocals ret World_1 tables_1 room_1 Calls_1 rest_1 Pre_1 launch0 p0 e0 about1 theMethod args0 below0 :=
  ⟨lists_1, trivial, launch0.admits_env _ _ _, launch0.least_env, fairChoices_fair.cas, fairChoices_fair.clock, w_frames, w_args, w_heap, w_applies, ⟨w_consts, trivial⟩, w_rest, w_case⟩
end start1
theorem witness_1 : WitnessClaimed_1 := ⟨start1.p0, start1.e0, start1.about1, start1.theMethod, start1.args0, start1.below0, start1.atStart⟩
end Jvm.Pilot.@@N@@

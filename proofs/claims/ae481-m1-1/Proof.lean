import JvmDerived
import JvmDerived.Pilot.@@N@@Statement
import JvmDerived.Pilot.@@N@@Code
set_option linter.unusedVariables false
set_option linter.unusedSimpArgs false
namespace Jvm.RoadKit
open Sem ClassFile Op Lib Jvm.Stand Jvm.Free Jvm.LawKit
section New
variable {p : Program} {l : Launch} {e : Env} {R : Room} {s : State} {m : MethodId} {args : Array Value} {below : List Frame} {meth : Method} {c : Code} {T : State} {locs : List Loc} {cells slots : Nat}
theorem retI (X : Stand p l e R s m args below meth c T locs cells slots) (hx : p.tables.exec = Jvm.exec) {pc : Nat} {Ls : Array Slot} {z : Int32} {rest : List Value} (hret : meth.sig.returnType = some .int) (hd : decode c.code pc = .ok (.ireturn, 1)) {fs : List Frame}
    (hl : ∀ (f : JFrame) (acts : List Action), f.method = m → f.locked = none → f.entered = [] → (doReturn e (T.setTop f) acts (some (.int z))).1 = T.setFrames fs) : Steps p.tables e below (T.setTop (mkF m pc Ls (.int z :: rest))) (T.setFrames fs) :=
  retOut X hx hret rfl (Or.inl ⟨rfl, Or.inl rfl, _, rfl⟩) hd hl
end New
end Jvm.RoadKit
namespace Jvm.Own
open Sem ClassFile Op Lib Jvm.Stand Jvm.Free Jvm.LawKit Jvm.RoadKit
/-- from here the run comes to a state that meets F -/
def Go (tb : Tables) (e : Env) (below : List Frame) (F : State → Prop) (T : State) (g : JFrame) : Prop := ∃ t, Steps tb e below (T.setTop g) t ∧ F t
section Steps0
variable {tb : Tables} {e : Env} {below : List Frame} {F : State → Prop} {T T' : State} {g g' : JFrame}
theorem Go.st (q : ∀ t, Steps tb e below (T'.setTop g') t → Steps tb e below (T.setTop g) t) (k : Go tb e below F T' g') : Go tb e below F T g := by
  obtain ⟨t, h1, h2⟩ := k
  exact ⟨t, q t h1, h2⟩
theorem Go.tr (q : Steps tb e below (T.setTop g) (T'.setTop g')) (k : Go tb e below F T' g') : Go tb e below F T g := by
  obtain ⟨t, h1, h2⟩ := k
  exact ⟨t, q.trans h1, h2⟩
end Steps0
section Steps
variable {tb : Tables} [Ours tb] {e : Env} {below : List Frame} {F : State → Prop} {T T' : State} {m : MethodId} {c : Code} {pc pc' : Nat} {Ls Ls' : Array Slot} {sk : List Value}
theorem s_iload (h : At T m c below) (hx : tb.exec = Jvm.exec) {k : Nat} {v : Int32} (hd : decode c.code pc = .ok (.iload k, 2)) (hp : pc + 2 = pc') (hl : Ls[k]? = some (.val (.int v)))  (q : Go tb e below F T (mkF m pc' Ls ((.int v) :: sk))) : Go tb e below F T (mkF m pc Ls (sk)) := by
  subst hp; exact Go.st (fun _ r => XS.iload (g := mkF m pc Ls (sk)) h hx rfl hd hl  r) q
theorem s_iloadN (h : At T m c below) (hx : tb.exec = Jvm.exec) {k : Fin 4} {v : Int32} (hd : decode c.code pc = .ok (.iload_n k, 1)) (hp : pc + 1 = pc') (hl : Ls[k.val]? = some (.val (.int v)))  (q : Go tb e below F T (mkF m pc' Ls ((.int v) :: sk))) : Go tb e below F T (mkF m pc Ls (sk)) := by
  subst hp; exact Go.st (fun _ r => XS.iloadN (g := mkF m pc Ls (sk)) h hx rfl hd hl  r) q
theorem s_istore (h : At T m c below) (hx : tb.exec = Jvm.exec) {k : Nat} {v : Int32} (hd : decode c.code pc = .ok (.istore k, 2)) (hp : pc + 2 = pc')  (hl : storeLocals Ls k (.int v) = some Ls') (q : Go tb e below F T (mkF m pc' Ls' (sk))) : Go tb e below F T (mkF m pc Ls ((.int v) :: sk)) := by
  subst hp; exact Go.st (fun _ r => XS.istore (g := mkF m pc Ls ((.int v) :: sk)) h hx rfl hd rfl  hl r) q
theorem s_istoreN (h : At T m c below) (hx : tb.exec = Jvm.exec) {k : Fin 4} {v : Int32} (hd : decode c.code pc = .ok (.istore_n k, 1)) (hp : pc + 1 = pc')  (hl : storeLocals Ls k.val (.int v) = some Ls') (q : Go tb e below F T (mkF m pc' Ls' (sk))) : Go tb e below F T (mkF m pc Ls ((.int v) :: sk)) := by
  subst hp; exact Go.st (fun _ r => XS.istoreN (g := mkF m pc Ls ((.int v) :: sk)) h hx rfl hd rfl  hl r) q
theorem s_lload (h : At T m c below) (hx : tb.exec = Jvm.exec) {k : Nat} {v : Int64} (hd : decode c.code pc = .ok (.lload k, 2)) (hp : pc + 2 = pc') (hl : Ls[k]? = some (.val (.long v)))  (q : Go tb e below F T (mkF m pc' Ls ((.long v) :: sk))) : Go tb e below F T (mkF m pc Ls (sk)) := by
  subst hp; exact Go.st (fun _ r => XS.lload (g := mkF m pc Ls (sk)) h hx rfl hd hl  r) q
theorem s_lloadN (h : At T m c below) (hx : tb.exec = Jvm.exec) {k : Fin 4} {v : Int64} (hd : decode c.code pc = .ok (.lload_n k, 1)) (hp : pc + 1 = pc') (hl : Ls[k.val]? = some (.val (.long v)))  (q : Go tb e below F T (mkF m pc' Ls ((.long v) :: sk))) : Go tb e below F T (mkF m pc Ls (sk)) := by
  subst hp; exact Go.st (fun _ r => XS.lloadN (g := mkF m pc Ls (sk)) h hx rfl hd hl  r) q
theorem s_lstore (h : At T m c below) (hx : tb.exec = Jvm.exec) {k : Nat} {v : Int64} (hd : decode c.code pc = .ok (.lstore k, 2)) (hp : pc + 2 = pc')  (hl : storeLocals Ls k (.long v) = some Ls') (q : Go tb e below F T (mkF m pc' Ls' (sk))) : Go tb e below F T (mkF m pc Ls ((.long v) :: sk)) := by
  subst hp; exact Go.st (fun _ r => XS.lstore (g := mkF m pc Ls ((.long v) :: sk)) h hx rfl hd rfl  hl r) q
theorem s_lstoreN (h : At T m c below) (hx : tb.exec = Jvm.exec) {k : Fin 4} {v : Int64} (hd : decode c.code pc = .ok (.lstore_n k, 1)) (hp : pc + 1 = pc')  (hl : storeLocals Ls k.val (.long v) = some Ls') (q : Go tb e below F T (mkF m pc' Ls' (sk))) : Go tb e below F T (mkF m pc Ls ((.long v) :: sk)) := by
  subst hp; exact Go.st (fun _ r => XS.lstoreN (g := mkF m pc Ls ((.long v) :: sk)) h hx rfl hd rfl  hl r) q
theorem s_dload (h : At T m c below) (hx : tb.exec = Jvm.exec) {k : Nat} {v : UInt64} (hd : decode c.code pc = .ok (.dload k, 2)) (hp : pc + 2 = pc') (hl : Ls[k]? = some (.val (.double v)))  (q : Go tb e below F T (mkF m pc' Ls ((.double v) :: sk))) : Go tb e below F T (mkF m pc Ls (sk)) := by
  subst hp; exact Go.st (fun _ r => XS.dload (g := mkF m pc Ls (sk)) h hx rfl hd hl  r) q
theorem s_dloadN (h : At T m c below) (hx : tb.exec = Jvm.exec) {k : Fin 4} {v : UInt64} (hd : decode c.code pc = .ok (.dload_n k, 1)) (hp : pc + 1 = pc') (hl : Ls[k.val]? = some (.val (.double v)))  (q : Go tb e below F T (mkF m pc' Ls ((.double v) :: sk))) : Go tb e below F T (mkF m pc Ls (sk)) := by
  subst hp; exact Go.st (fun _ r => XS.dloadN (g := mkF m pc Ls (sk)) h hx rfl hd hl  r) q
theorem s_dstore (h : At T m c below) (hx : tb.exec = Jvm.exec) {k : Nat} {v : UInt64} (hd : decode c.code pc = .ok (.dstore k, 2)) (hp : pc + 2 = pc')  (hl : storeLocals Ls k (.double v) = some Ls') (q : Go tb e below F T (mkF m pc' Ls' (sk))) : Go tb e below F T (mkF m pc Ls ((.double v) :: sk)) := by
  subst hp; exact Go.st (fun _ r => XS.dstore (g := mkF m pc Ls ((.double v) :: sk)) h hx rfl hd rfl  hl r) q
theorem s_dstoreN (h : At T m c below) (hx : tb.exec = Jvm.exec) {k : Fin 4} {v : UInt64} (hd : decode c.code pc = .ok (.dstore_n k, 1)) (hp : pc + 1 = pc')  (hl : storeLocals Ls k.val (.double v) = some Ls') (q : Go tb e below F T (mkF m pc' Ls' (sk))) : Go tb e below F T (mkF m pc Ls ((.double v) :: sk)) := by
  subst hp; exact Go.st (fun _ r => XS.dstoreN (g := mkF m pc Ls ((.double v) :: sk)) h hx rfl hd rfl  hl r) q
theorem s_aload (h : At T m c below) (hx : tb.exec = Jvm.exec) {k : Nat} {v : Value} (hd : decode c.code pc = .ok (.aload k, 2)) (hp : pc + 2 = pc') (hl : Ls[k]? = some (.val (v))) (hv : v.isRef = true) (q : Go tb e below F T (mkF m pc' Ls ((v) :: sk))) : Go tb e below F T (mkF m pc Ls (sk)) := by
  subst hp; exact Go.st (fun _ r => XS.aload (g := mkF m pc Ls (sk)) h hx rfl hd hl hv r) q
theorem s_aloadN (h : At T m c below) (hx : tb.exec = Jvm.exec) {k : Fin 4} {v : Value} (hd : decode c.code pc = .ok (.aload_n k, 1)) (hp : pc + 1 = pc') (hl : Ls[k.val]? = some (.val (v))) (hv : v.isRef = true) (q : Go tb e below F T (mkF m pc' Ls ((v) :: sk))) : Go tb e below F T (mkF m pc Ls (sk)) := by
  subst hp; exact Go.st (fun _ r => XS.aloadN (g := mkF m pc Ls (sk)) h hx rfl hd hl hv r) q
theorem s_astore (h : At T m c below) (hx : tb.exec = Jvm.exec) {k : Nat} {v : Value} (hd : decode c.code pc = .ok (.astore k, 2)) (hp : pc + 2 = pc') (hv : v.isRef = true) (hl : storeLocals Ls k (v) = some Ls') (q : Go tb e below F T (mkF m pc' Ls' (sk))) : Go tb e below F T (mkF m pc Ls ((v) :: sk)) := by
  subst hp; exact Go.st (fun _ r => XS.astore (g := mkF m pc Ls ((v) :: sk)) h hx rfl hd rfl hv hl r) q
theorem s_astoreN (h : At T m c below) (hx : tb.exec = Jvm.exec) {k : Fin 4} {v : Value} (hd : decode c.code pc = .ok (.astore_n k, 1)) (hp : pc + 1 = pc') (hv : v.isRef = true) (hl : storeLocals Ls k.val (v) = some Ls') (q : Go tb e below F T (mkF m pc' Ls' (sk))) : Go tb e below F T (mkF m pc Ls ((v) :: sk)) := by
  subst hp; exact Go.st (fun _ r => XS.astoreN (g := mkF m pc Ls ((v) :: sk)) h hx rfl hd rfl hv hl r) q
theorem s_iconst (h : At T m c below) (hx : tb.exec = Jvm.exec) {i : Int} {v : Int32} (hd : decode c.code pc = .ok (.iconst i, 1)) (hp : pc + 1 = pc') (hv : Int32.ofInt i = v) (q : Go tb e below F T (mkF m pc' Ls ((.int v) :: sk))) : Go tb e below F T (mkF m pc Ls sk) := by
  subst hp hv; exact Go.st (fun _ r => XS.iconst (g := mkF m pc Ls sk) h hx rfl hd r) q
theorem s_bipush (h : At T m c below) (hx : tb.exec = Jvm.exec) {i : Int} {v : Int32} (hd : decode c.code pc = .ok (.bipush i, 2)) (hp : pc + 2 = pc') (hv : (Int8.ofInt i).toInt32 = v) (q : Go tb e below F T (mkF m pc' Ls ((.int v) :: sk))) : Go tb e below F T (mkF m pc Ls sk) := by
  subst hp hv; exact Go.st (fun _ r => XS.bipush (g := mkF m pc Ls sk) h hx rfl hd r) q
theorem s_sipush (h : At T m c below) (hx : tb.exec = Jvm.exec) {i : Int} {v : Int32} (hd : decode c.code pc = .ok (.sipush i, 3)) (hp : pc + 3 = pc') (hv : (Int16.ofInt i).toInt32 = v) (q : Go tb e below F T (mkF m pc' Ls ((.int v) :: sk))) : Go tb e below F T (mkF m pc Ls sk) := by
  subst hp hv; exact Go.st (fun _ r => XS.sipush (g := mkF m pc Ls sk) h hx rfl hd r) q
theorem s_aconst_null (h : At T m c below) (hx : tb.exec = Jvm.exec) (hd : decode c.code pc = .ok (.aconst_null, 1)) (hp : pc + 1 = pc') (q : Go tb e below F T (mkF m pc' Ls (.null :: sk))) : Go tb e below F T (mkF m pc Ls sk) := by
  subst hp; exact Go.st (fun _ r => XS.aconstNull (g := mkF m pc Ls sk) h hx rfl hd r) q
theorem s_iadd (h : At T m c below) (hx : tb.exec = Jvm.exec) {x y z : Int32} (hd : decode c.code pc = .ok (.iadd, 1)) (hp : pc + 1 = pc') (hv : x + y = z) (q : Go tb e below F T (mkF m pc' Ls (.int z :: sk))) : Go tb e below F T (mkF m pc Ls (.int y :: .int x :: sk)) := by
  subst hp hv; exact Go.st (fun _ r => XS.iadd (g := mkF m pc Ls (.int y :: .int x :: sk)) h hx rfl hd rfl r) q
theorem s_isub (h : At T m c below) (hx : tb.exec = Jvm.exec) {x y z : Int32} (hd : decode c.code pc = .ok (.isub, 1)) (hp : pc + 1 = pc') (hv : x - y = z) (q : Go tb e below F T (mkF m pc' Ls (.int z :: sk))) : Go tb e below F T (mkF m pc Ls (.int y :: .int x :: sk)) := by
  subst hp hv; exact Go.st (fun _ r => XS.isub (g := mkF m pc Ls (.int y :: .int x :: sk)) h hx rfl hd rfl r) q
theorem s_imul (h : At T m c below) (hx : tb.exec = Jvm.exec) {x y z : Int32} (hd : decode c.code pc = .ok (.imul, 1)) (hp : pc + 1 = pc') (hv : x * y = z) (q : Go tb e below F T (mkF m pc' Ls (.int z :: sk))) : Go tb e below F T (mkF m pc Ls (.int y :: .int x :: sk)) := by
  subst hp hv; exact Go.st (fun _ r => XS.imul (g := mkF m pc Ls (.int y :: .int x :: sk)) h hx rfl hd rfl r) q
theorem s_iand (h : At T m c below) (hx : tb.exec = Jvm.exec) {x y z : Int32} (hd : decode c.code pc = .ok (.iand, 1)) (hp : pc + 1 = pc') (hv : x &&& y = z) (q : Go tb e below F T (mkF m pc' Ls (.int z :: sk))) : Go tb e below F T (mkF m pc Ls (.int y :: .int x :: sk)) := by
  subst hp hv; exact Go.st (fun _ r => XS.iand (g := mkF m pc Ls (.int y :: .int x :: sk)) h hx rfl hd rfl r) q
theorem s_ior (h : At T m c below) (hx : tb.exec = Jvm.exec) {x y z : Int32} (hd : decode c.code pc = .ok (.ior, 1)) (hp : pc + 1 = pc') (hv : x ||| y = z) (q : Go tb e below F T (mkF m pc' Ls (.int z :: sk))) : Go tb e below F T (mkF m pc Ls (.int y :: .int x :: sk)) := by
  subst hp hv; exact Go.st (fun _ r => XS.ior (g := mkF m pc Ls (.int y :: .int x :: sk)) h hx rfl hd rfl r) q
theorem s_ixor (h : At T m c below) (hx : tb.exec = Jvm.exec) {x y z : Int32} (hd : decode c.code pc = .ok (.ixor, 1)) (hp : pc + 1 = pc') (hv : x ^^^ y = z) (q : Go tb e below F T (mkF m pc' Ls (.int z :: sk))) : Go tb e below F T (mkF m pc Ls (.int y :: .int x :: sk)) := by
  subst hp hv; exact Go.st (fun _ r => XS.ixor (g := mkF m pc Ls (.int y :: .int x :: sk)) h hx rfl hd rfl r) q
theorem s_ishl (h : At T m c below) (hx : tb.exec = Jvm.exec) {x y z : Int32} (hd : decode c.code pc = .ok (.ishl, 1)) (hp : pc + 1 = pc') (hv : x <<< (y &&& 31) = z) (q : Go tb e below F T (mkF m pc' Ls (.int z :: sk))) : Go tb e below F T (mkF m pc Ls (.int y :: .int x :: sk)) := by
  subst hp hv; exact Go.st (fun _ r => XS.ishl (g := mkF m pc Ls (.int y :: .int x :: sk)) h hx rfl hd rfl r) q
theorem s_ishr (h : At T m c below) (hx : tb.exec = Jvm.exec) {x y z : Int32} (hd : decode c.code pc = .ok (.ishr, 1)) (hp : pc + 1 = pc') (hv : x >>> (y &&& 31) = z) (q : Go tb e below F T (mkF m pc' Ls (.int z :: sk))) : Go tb e below F T (mkF m pc Ls (.int y :: .int x :: sk)) := by
  subst hp hv; exact Go.st (fun _ r => XS.ishr (g := mkF m pc Ls (.int y :: .int x :: sk)) h hx rfl hd rfl r) q
theorem s_iushr (h : At T m c below) (hx : tb.exec = Jvm.exec) {x y z : Int32} (hd : decode c.code pc = .ok (.iushr, 1)) (hp : pc + 1 = pc') (hv : (x.toUInt32 >>> (y &&& 31).toUInt32).toInt32 = z) (q : Go tb e below F T (mkF m pc' Ls (.int z :: sk))) : Go tb e below F T (mkF m pc Ls (.int y :: .int x :: sk)) := by
  subst hp hv; exact Go.st (fun _ r => XS.iushr (g := mkF m pc Ls (.int y :: .int x :: sk)) h hx rfl hd rfl r) q
theorem s_ladd (h : At T m c below) (hx : tb.exec = Jvm.exec) {x y z : Int64} (hd : decode c.code pc = .ok (.ladd, 1)) (hp : pc + 1 = pc') (hv : x + y = z) (q : Go tb e below F T (mkF m pc' Ls (.long z :: sk))) : Go tb e below F T (mkF m pc Ls (.long y :: .long x :: sk)) := by
  subst hp hv; exact Go.st (fun _ r => XS.ladd (g := mkF m pc Ls (.long y :: .long x :: sk)) h hx rfl hd rfl r) q
theorem s_lsub (h : At T m c below) (hx : tb.exec = Jvm.exec) {x y z : Int64} (hd : decode c.code pc = .ok (.lsub, 1)) (hp : pc + 1 = pc') (hv : x - y = z) (q : Go tb e below F T (mkF m pc' Ls (.long z :: sk))) : Go tb e below F T (mkF m pc Ls (.long y :: .long x :: sk)) := by
  subst hp hv; exact Go.st (fun _ r => XS.lsub (g := mkF m pc Ls (.long y :: .long x :: sk)) h hx rfl hd rfl r) q
theorem s_lmul (h : At T m c below) (hx : tb.exec = Jvm.exec) {x y z : Int64} (hd : decode c.code pc = .ok (.lmul, 1)) (hp : pc + 1 = pc') (hv : x * y = z) (q : Go tb e below F T (mkF m pc' Ls (.long z :: sk))) : Go tb e below F T (mkF m pc Ls (.long y :: .long x :: sk)) := by
  subst hp hv; exact Go.st (fun _ r => XS.lmul (g := mkF m pc Ls (.long y :: .long x :: sk)) h hx rfl hd rfl r) q
theorem s_land (h : At T m c below) (hx : tb.exec = Jvm.exec) {x y z : Int64} (hd : decode c.code pc = .ok (.land, 1)) (hp : pc + 1 = pc') (hv : x &&& y = z) (q : Go tb e below F T (mkF m pc' Ls (.long z :: sk))) : Go tb e below F T (mkF m pc Ls (.long y :: .long x :: sk)) := by
  subst hp hv; exact Go.st (fun _ r => XS.land (g := mkF m pc Ls (.long y :: .long x :: sk)) h hx rfl hd rfl r) q
theorem s_lor (h : At T m c below) (hx : tb.exec = Jvm.exec) {x y z : Int64} (hd : decode c.code pc = .ok (.lor, 1)) (hp : pc + 1 = pc') (hv : x ||| y = z) (q : Go tb e below F T (mkF m pc' Ls (.long z :: sk))) : Go tb e below F T (mkF m pc Ls (.long y :: .long x :: sk)) := by
  subst hp hv; exact Go.st (fun _ r => XS.lor (g := mkF m pc Ls (.long y :: .long x :: sk)) h hx rfl hd rfl r) q
theorem s_lxor (h : At T m c below) (hx : tb.exec = Jvm.exec) {x y z : Int64} (hd : decode c.code pc = .ok (.lxor, 1)) (hp : pc + 1 = pc') (hv : x ^^^ y = z) (q : Go tb e below F T (mkF m pc' Ls (.long z :: sk))) : Go tb e below F T (mkF m pc Ls (.long y :: .long x :: sk)) := by
  subst hp hv; exact Go.st (fun _ r => XS.lxor (g := mkF m pc Ls (.long y :: .long x :: sk)) h hx rfl hd rfl r) q
theorem s_lshl (h : At T m c below) (hx : tb.exec = Jvm.exec) {x z : Int64} {y : Int32} (hd : decode c.code pc = .ok (.lshl, 1)) (hp : pc + 1 = pc') (hv : x <<< (y &&& 0x3f).toInt64 = z) (q : Go tb e below F T (mkF m pc' Ls (.long z :: sk))) : Go tb e below F T (mkF m pc Ls (.int y :: .long x :: sk)) := by
  subst hp hv; exact Go.st (fun _ r => XS.lshl (g := mkF m pc Ls (.int y :: .long x :: sk)) h hx rfl hd rfl r) q
theorem s_lshr (h : At T m c below) (hx : tb.exec = Jvm.exec) {x z : Int64} {y : Int32} (hd : decode c.code pc = .ok (.lshr, 1)) (hp : pc + 1 = pc') (hv : x >>> (y &&& 0x3f).toInt64 = z) (q : Go tb e below F T (mkF m pc' Ls (.long z :: sk))) : Go tb e below F T (mkF m pc Ls (.int y :: .long x :: sk)) := by
  subst hp hv; exact Go.st (fun _ r => XS.lshr (g := mkF m pc Ls (.int y :: .long x :: sk)) h hx rfl hd rfl r) q
theorem s_lushr (h : At T m c below) (hx : tb.exec = Jvm.exec) {x z : Int64} {y : Int32} (hd : decode c.code pc = .ok (.lushr, 1)) (hp : pc + 1 = pc') (hv : (x.toUInt64 >>> (y &&& 0x3f).toInt64.toUInt64).toInt64 = z) (q : Go tb e below F T (mkF m pc' Ls (.long z :: sk))) : Go tb e below F T (mkF m pc Ls (.int y :: .long x :: sk)) := by
  subst hp hv; exact Go.st (fun _ r => XS.lushr (g := mkF m pc Ls (.int y :: .long x :: sk)) h hx rfl hd rfl r) q
theorem s_ineg (h : At T m c below) (hx : tb.exec = Jvm.exec) {x : Int32} {z : Int32} (hd : decode c.code pc = .ok (.ineg, 1)) (hp : pc + 1 = pc') (hv : -x = z) (q : Go tb e below F T (mkF m pc' Ls (.int z :: sk))) : Go tb e below F T (mkF m pc Ls (.int x :: sk)) := by
  subst hp hv; exact Go.st (fun _ r => XS.ineg (g := mkF m pc Ls (.int x :: sk)) h hx rfl hd rfl r) q
theorem s_lneg (h : At T m c below) (hx : tb.exec = Jvm.exec) {x : Int64} {z : Int64} (hd : decode c.code pc = .ok (.lneg, 1)) (hp : pc + 1 = pc') (hv : -x = z) (q : Go tb e below F T (mkF m pc' Ls (.long z :: sk))) : Go tb e below F T (mkF m pc Ls (.long x :: sk)) := by
  subst hp hv; exact Go.st (fun _ r => XS.lneg (g := mkF m pc Ls (.long x :: sk)) h hx rfl hd rfl r) q
theorem s_i2l (h : At T m c below) (hx : tb.exec = Jvm.exec) {x : Int32} {z : Int64} (hd : decode c.code pc = .ok (.i2l, 1)) (hp : pc + 1 = pc') (hv : x.toInt64 = z) (q : Go tb e below F T (mkF m pc' Ls (.long z :: sk))) : Go tb e below F T (mkF m pc Ls (.int x :: sk)) := by
  subst hp hv; exact Go.st (fun _ r => XS.i2l (g := mkF m pc Ls (.int x :: sk)) h hx rfl hd rfl r) q
theorem s_l2i (h : At T m c below) (hx : tb.exec = Jvm.exec) {x : Int64} {z : Int32} (hd : decode c.code pc = .ok (.l2i, 1)) (hp : pc + 1 = pc') (hv : x.toInt32 = z) (q : Go tb e below F T (mkF m pc' Ls (.int z :: sk))) : Go tb e below F T (mkF m pc Ls (.long x :: sk)) := by
  subst hp hv; exact Go.st (fun _ r => XS.l2i (g := mkF m pc Ls (.long x :: sk)) h hx rfl hd rfl r) q
theorem s_i2b (h : At T m c below) (hx : tb.exec = Jvm.exec) {x : Int32} {z : Int32} (hd : decode c.code pc = .ok (.i2b, 1)) (hp : pc + 1 = pc') (hv : x.toInt8.toInt32 = z) (q : Go tb e below F T (mkF m pc' Ls (.int z :: sk))) : Go tb e below F T (mkF m pc Ls (.int x :: sk)) := by
  subst hp hv; exact Go.st (fun _ r => XS.i2b (g := mkF m pc Ls (.int x :: sk)) h hx rfl hd rfl r) q
theorem s_i2s (h : At T m c below) (hx : tb.exec = Jvm.exec) {x : Int32} {z : Int32} (hd : decode c.code pc = .ok (.i2s, 1)) (hp : pc + 1 = pc') (hv : x.toInt16.toInt32 = z) (q : Go tb e below F T (mkF m pc' Ls (.int z :: sk))) : Go tb e below F T (mkF m pc Ls (.int x :: sk)) := by
  subst hp hv; exact Go.st (fun _ r => XS.i2s (g := mkF m pc Ls (.int x :: sk)) h hx rfl hd rfl r) q
theorem s_i2c (h : At T m c below) (hx : tb.exec = Jvm.exec) {x : Int32} {z : Int32} (hd : decode c.code pc = .ok (.i2c, 1)) (hp : pc + 1 = pc') (hv : x.toUInt32.toUInt16.toUInt32.toInt32 = z) (q : Go tb e below F T (mkF m pc' Ls (.int z :: sk))) : Go tb e below F T (mkF m pc Ls (.int x :: sk)) := by
  subst hp hv; exact Go.st (fun _ r => XS.i2c (g := mkF m pc Ls (.int x :: sk)) h hx rfl hd rfl r) q
theorem s_lcmp (h : At T m c below) (hx : tb.exec = Jvm.exec) {x y : Int64} {z : Int32} (hd : decode c.code pc = .ok (.lcmp, 1)) (hp : pc + 1 = pc') (hv : lcmpW x y = z) (q : Go tb e below F T (mkF m pc' Ls (.int z :: sk))) : Go tb e below F T (mkF m pc Ls (.long y :: .long x :: sk)) := by
  subst hp hv; exact Go.st (fun _ r => XS.lcmp (g := mkF m pc Ls (.long y :: .long x :: sk)) h hx rfl hd rfl r) q
theorem s_idiv (h : At T m c below) (hx : tb.exec = Jvm.exec) {x y z : Int32} (hd : decode c.code pc = .ok (.idiv, 1)) (hp : pc + 1 = pc') (hy : ¬ y = 0) (hv : x / y = z) (q : Go tb e below F T (mkF m pc' Ls (.int z :: sk))) : Go tb e below F T (mkF m pc Ls (.int y :: .int x :: sk)) := by
  subst hp hv; exact Go.st (fun _ r => XS.idiv (g := mkF m pc Ls (.int y :: .int x :: sk)) h hx rfl hd rfl hy r) q
theorem s_irem (h : At T m c below) (hx : tb.exec = Jvm.exec) {x y z : Int32} (hd : decode c.code pc = .ok (.irem, 1)) (hp : pc + 1 = pc') (hy : ¬ y = 0) (hv : x % y = z) (q : Go tb e below F T (mkF m pc' Ls (.int z :: sk))) : Go tb e below F T (mkF m pc Ls (.int y :: .int x :: sk)) := by
  subst hp; rw [← irem_eq_mod x y] at hv; subst hv; exact Go.st (fun _ r => XS.irem (g := mkF m pc Ls (.int y :: .int x :: sk)) h hx rfl hd rfl hy r) q
theorem s_ldiv (h : At T m c below) (hx : tb.exec = Jvm.exec) {x y z : Int64} (hd : decode c.code pc = .ok (.ldiv, 1)) (hp : pc + 1 = pc') (hy : ¬ y = 0) (hv : x / y = z) (q : Go tb e below F T (mkF m pc' Ls (.long z :: sk))) : Go tb e below F T (mkF m pc Ls (.long y :: .long x :: sk)) := by
  subst hp hv; exact Go.st (fun _ r => XS.ldiv (g := mkF m pc Ls (.long y :: .long x :: sk)) h hx rfl hd rfl hy r) q
theorem s_lrem (h : At T m c below) (hx : tb.exec = Jvm.exec) {x y z : Int64} (hd : decode c.code pc = .ok (.lrem, 1)) (hp : pc + 1 = pc') (hy : ¬ y = 0) (hv : x % y = z) (q : Go tb e below F T (mkF m pc' Ls (.long z :: sk))) : Go tb e below F T (mkF m pc Ls (.long y :: .long x :: sk)) := by
  subst hp; rw [← lrem_mod x y] at hv; subst hv; exact Go.st (fun _ r => XS.lrem (g := mkF m pc Ls (.long y :: .long x :: sk)) h hx rfl hd rfl hy r) q
theorem s_dup (h : At T m c below) (hx : tb.exec = Jvm.exec) {v : Value} (hd : decode c.code pc = .ok (.dup, 1)) (hp : pc + 1 = pc') (hc : v.category = 1) (q : Go tb e below F T (mkF m pc' Ls (v :: v :: sk))) : Go tb e below F T (mkF m pc Ls (v :: sk)) := by
  subst hp; exact Go.st (fun _ r => XS.dup (g := mkF m pc Ls (v :: sk)) h hx rfl hd rfl hc r) q
theorem s_pop (h : At T m c below) (hx : tb.exec = Jvm.exec) {v : Value} (hd : decode c.code pc = .ok (.pop, 1)) (hp : pc + 1 = pc') (hc : v.category = 1) (q : Go tb e below F T (mkF m pc' Ls (sk))) : Go tb e below F T (mkF m pc Ls (v :: sk)) := by
  subst hp; exact Go.st (fun _ r => XS.pop (g := mkF m pc Ls (v :: sk)) h hx rfl hd rfl hc r) q
theorem s_dup_x1 (h : At T m c below) (hx : tb.exec = Jvm.exec) {v w : Value} (hd : decode c.code pc = .ok (.dup_x1, 1)) (hp : pc + 1 = pc') (hc : v.category = 1) (hc' : w.category = 1) (q : Go tb e below F T (mkF m pc' Ls (v :: w :: v :: sk))) : Go tb e below F T (mkF m pc Ls (v :: w :: sk)) := by
  subst hp; exact Go.st (fun _ r => XS.dupX1 (g := mkF m pc Ls (v :: w :: sk)) h hx rfl hd rfl hc hc' r) q
theorem s_iinc (h : At T m c below) (hx : tb.exec = Jvm.exec) {k : Nat} {i : Int} (hd : decode c.code pc = .ok (.iinc k i, 3)) (hp : pc + 3 = pc') {x z : Int32} (hl : Ls[k]? = some (.val (.int x))) (hv : x + Int32.ofInt i = z) (hs : storeLocals Ls k (.int z) = some Ls') (q : Go tb e below F T (mkF m pc' Ls' (sk))) : Go tb e below F T (mkF m pc Ls (sk)) := by
  subst hp hv; exact Go.st (fun _ r => XS.iinc (g := mkF m pc Ls (sk)) h hx rfl hd hl hs r) q
theorem s_lconst (h : At T m c below) (hx : tb.exec = Jvm.exec) {i : Fin 2} {v : Int64} (hd : decode c.code pc = .ok (.lconst i, 1)) (hp : pc + 1 = pc') (hv : Int64.ofNat i = v) (q : Go tb e below F T (mkF m pc' Ls (.long v :: sk))) : Go tb e below F T (mkF m pc Ls (sk)) := by
  subst hp hv; exact Go.st (fun _ r => XS.lconst (g := mkF m pc Ls (sk)) h hx rfl hd  r) q
theorem s_i2d (h : At T m c below) (hx : tb.exec = Jvm.exec) {x : Int32} {z : UInt64} (hd : decode c.code pc = .ok (.i2d, 1)) (hp : pc + 1 = pc') (hv : FP.i2d x = z) (q : Go tb e below F T (mkF m pc' Ls (.double z :: sk))) : Go tb e below F T (mkF m pc Ls (.int x :: sk)) := by
  subst hp; exact Go.st (fun _ r => XS.i2dS (g := mkF m pc Ls (.int x :: sk)) h hx rfl hd rfl hv r) q
theorem s_l2d (h : At T m c below) (hx : tb.exec = Jvm.exec) {x : Int64} {z : UInt64} (hd : decode c.code pc = .ok (.l2d, 1)) (hp : pc + 1 = pc') (hv : FP.l2d x = z) (q : Go tb e below F T (mkF m pc' Ls (.double z :: sk))) : Go tb e below F T (mkF m pc Ls (.long x :: sk)) := by
  subst hp; exact Go.st (fun _ r => XS.l2dS (g := mkF m pc Ls (.long x :: sk)) h hx rfl hd rfl hv r) q
theorem s_d2i (h : At T m c below) (hx : tb.exec = Jvm.exec) {x : UInt64} {z : Int32} (hd : decode c.code pc = .ok (.d2i, 1)) (hp : pc + 1 = pc') (hv : FP.d2i x = z) (q : Go tb e below F T (mkF m pc' Ls (.int z :: sk))) : Go tb e below F T (mkF m pc Ls (.double x :: sk)) := by
  subst hp; exact Go.st (fun _ r => XS.d2iS (g := mkF m pc Ls (.double x :: sk)) h hx rfl hd rfl hv r) q
theorem s_d2l (h : At T m c below) (hx : tb.exec = Jvm.exec) {x : UInt64} {z : Int64} (hd : decode c.code pc = .ok (.d2l, 1)) (hp : pc + 1 = pc') (hv : FP.d2l x = z) (q : Go tb e below F T (mkF m pc' Ls (.long z :: sk))) : Go tb e below F T (mkF m pc Ls (.double x :: sk)) := by
  subst hp; exact Go.st (fun _ r => XS.d2lS (g := mkF m pc Ls (.double x :: sk)) h hx rfl hd rfl hv r) q
theorem s_dneg (h : At T m c below) (hx : tb.exec = Jvm.exec) {x z : UInt64} (hd : decode c.code pc = .ok (.dneg, 1)) (hp : pc + 1 = pc') (hv : FP.dneg x = z) (q : Go tb e below F T (mkF m pc' Ls (.double z :: sk))) : Go tb e below F T (mkF m pc Ls (.double x :: sk)) := by
  subst hp; exact Go.st (fun _ r => XS.dnegS (g := mkF m pc Ls (.double x :: sk)) h hx rfl hd rfl hv r) q
theorem s_dcmpl (h : At T m c below) (hx : tb.exec = Jvm.exec) {x y : UInt64} {z : Int32} (hd : decode c.code pc = .ok (.dcmp .l, 1)) (hp : pc + 1 = pc') (hv : cmpValue (FP.dcmp x y) .l = z) (q : Go tb e below F T (mkF m pc' Ls (.int z :: sk))) : Go tb e below F T (mkF m pc Ls (.double y :: .double x :: sk)) := by
  subst hp; exact Go.st (fun _ r => XS.dcmpS (g := mkF m pc Ls (.double y :: .double x :: sk)) h hx rfl hd rfl hv r) q
theorem s_dcmpg (h : At T m c below) (hx : tb.exec = Jvm.exec) {x y : UInt64} {z : Int32} (hd : decode c.code pc = .ok (.dcmp .g, 1)) (hp : pc + 1 = pc') (hv : cmpValue (FP.dcmp x y) .g = z) (q : Go tb e below F T (mkF m pc' Ls (.int z :: sk))) : Go tb e below F T (mkF m pc Ls (.double y :: .double x :: sk)) := by
  subst hp; exact Go.st (fun _ r => XS.dcmpS (g := mkF m pc Ls (.double y :: .double x :: sk)) h hx rfl hd rfl hv r) q
theorem s_dadd (h : At T m c below) (hx : tb.exec = Jvm.exec) {x y z : UInt64} (hd : decode c.code pc = .ok (.dadd, 1)) (hp : pc + 1 = pc') (hn : Jvm.Free.Fl.NoNaN64 (FP.dadd x y)) (hv : FP.dadd x y = z) (q : Go tb e below F T (mkF m pc' Ls (.double z :: sk))) : Go tb e below F T (mkF m pc Ls (.double y :: .double x :: sk)) := by
  subst hp; exact Go.st (fun _ r => XS.daddS (g := mkF m pc Ls (.double y :: .double x :: sk)) h hx rfl hd rfl hn hv r) q
theorem s_dsub (h : At T m c below) (hx : tb.exec = Jvm.exec) {x y z : UInt64} (hd : decode c.code pc = .ok (.dsub, 1)) (hp : pc + 1 = pc') (hn : Jvm.Free.Fl.NoNaN64 (FP.dsub x y)) (hv : FP.dsub x y = z) (q : Go tb e below F T (mkF m pc' Ls (.double z :: sk))) : Go tb e below F T (mkF m pc Ls (.double y :: .double x :: sk)) := by
  subst hp; exact Go.st (fun _ r => XS.dsubS (g := mkF m pc Ls (.double y :: .double x :: sk)) h hx rfl hd rfl hn hv r) q
theorem s_dmul (h : At T m c below) (hx : tb.exec = Jvm.exec) {x y z : UInt64} (hd : decode c.code pc = .ok (.dmul, 1)) (hp : pc + 1 = pc') (hn : Jvm.Free.Fl.NoNaN64 (FP.dmul x y)) (hv : FP.dmul x y = z) (q : Go tb e below F T (mkF m pc' Ls (.double z :: sk))) : Go tb e below F T (mkF m pc Ls (.double y :: .double x :: sk)) := by
  subst hp; exact Go.st (fun _ r => XS.dmulS (g := mkF m pc Ls (.double y :: .double x :: sk)) h hx rfl hd rfl hn hv r) q
theorem s_ddiv (h : At T m c below) (hx : tb.exec = Jvm.exec) {x y z : UInt64} (hd : decode c.code pc = .ok (.ddiv, 1)) (hp : pc + 1 = pc') (hn : Jvm.Free.Fl.NoNaN64 (FP.ddiv x y)) (hv : FP.ddiv x y = z) (q : Go tb e below F T (mkF m pc' Ls (.double z :: sk))) : Go tb e below F T (mkF m pc Ls (.double y :: .double x :: sk)) := by
  subst hp; exact Go.st (fun _ r => XS.ddivS (g := mkF m pc Ls (.double y :: .double x :: sk)) h hx rfl hd rfl hn hv r) q
theorem s_dconst0 (h : At T m c below) (hx : tb.exec = Jvm.exec) {v : UInt64} (hd : decode c.code pc = .ok (.dconst 0, 1)) (hp : pc + 1 = pc') (hv : FP.dconst0 = v) (q : Go tb e below F T (mkF m pc' Ls (.double v :: sk))) : Go tb e below F T (mkF m pc Ls (sk)) := by
  subst hp; exact Go.st (fun _ r => XS.dconst0 (g := mkF m pc Ls (sk)) h hx rfl hd hv r) q
theorem s_dconst1 (h : At T m c below) (hx : tb.exec = Jvm.exec) {v : UInt64} (hd : decode c.code pc = .ok (.dconst 1, 1)) (hp : pc + 1 = pc') (hv : FP.dconst1 = v) (q : Go tb e below F T (mkF m pc' Ls (.double v :: sk))) : Go tb e below F T (mkF m pc Ls (sk)) := by
  subst hp; exact Go.st (fun _ r => XS.dconst1 (g := mkF m pc Ls (sk)) h hx rfl hd hv r) q
theorem s_goto (h : At T m c below) (hx : tb.exec = Jvm.exec) {o : Int} (hd : decode c.code pc = .ok (.goto o, 3)) (ho : 0 ≤ (pc : Int) + o) (hp : ((pc : Int) + o).toNat = pc') (q : Go tb e below F T (mkF m pc' Ls sk)) : Go tb e below F T (mkF m pc Ls sk) :=
  Go.st (fun _ r => XS.goto (g := mkF m pc Ls sk) h hx rfl (pc0 := pc) (pc' := pc') rfl hd ho hp r) q
theorem s_ifY (h : At T m c below) (hx : tb.exec = Jvm.exec) {cd : ClassFile.Cond} {o : Int} {x : Int32} (hd : decode c.code pc = .ok (.ifCond cd o, 3)) (hc : ifCond.holds cd x = true) (ho : 0 ≤ (pc : Int) + o) (hp : ((pc : Int) + o).toNat = pc') (q : Go tb e below F T (mkF m pc' Ls sk)) : Go tb e below F T (mkF m pc Ls (.int x :: sk)) :=
  Go.st (fun _ r => XS.ifYes (g := mkF m pc Ls (.int x :: sk)) h hx rfl (pc0 := pc) (pc' := pc') rfl hd rfl hc ho hp r) q
theorem s_ifN (h : At T m c below) (hx : tb.exec = Jvm.exec) {cd : ClassFile.Cond} {o : Int} {x : Int32} (hd : decode c.code pc = .ok (.ifCond cd o, 3)) (hp : pc + 3 = pc') (hc : ifCond.holds cd x = false) (q : Go tb e below F T (mkF m pc' Ls sk)) : Go tb e below F T (mkF m pc Ls (.int x :: sk)) := by
  subst hp; exact Go.st (fun _ r => XS.ifNo (g := mkF m pc Ls (.int x :: sk)) h hx rfl hd rfl hc r) q
theorem s_icmpY (h : At T m c below) (hx : tb.exec = Jvm.exec) {cd : ClassFile.Cond} {o : Int} {x y : Int32} (hd : decode c.code pc = .ok (.if_icmp cd o, 3)) (hc : if_icmp.holds cd x y = true) (ho : 0 ≤ (pc : Int) + o) (hp : ((pc : Int) + o).toNat = pc') (q : Go tb e below F T (mkF m pc' Ls sk)) : Go tb e below F T (mkF m pc Ls (.int y :: .int x :: sk)) :=
  Go.st (fun _ r => XS.icmpYes (g := mkF m pc Ls (.int y :: .int x :: sk)) h hx rfl (pc0 := pc) (pc' := pc') rfl hd rfl hc ho hp r) q
theorem s_icmpN (h : At T m c below) (hx : tb.exec = Jvm.exec) {cd : ClassFile.Cond} {o : Int} {x y : Int32} (hd : decode c.code pc = .ok (.if_icmp cd o, 3)) (hp : pc + 3 = pc') (hc : if_icmp.holds cd x y = false) (q : Go tb e below F T (mkF m pc' Ls sk)) : Go tb e below F T (mkF m pc Ls (.int y :: .int x :: sk)) := by
  subst hp; exact Go.st (fun _ r => XS.icmpNo (g := mkF m pc Ls (.int y :: .int x :: sk)) h hx rfl hd rfl hc r) q
theorem s_ifnullY (h : At T m c below) (hx : tb.exec = Jvm.exec) {o : Int} (hd : decode c.code pc = .ok (.ifnull o, 3)) (ho : 0 ≤ (pc : Int) + o) (hp : ((pc : Int) + o).toNat = pc') (q : Go tb e below F T (mkF m pc' Ls sk)) : Go tb e below F T (mkF m pc Ls (.null :: sk)) :=
  Go.st (fun _ r => XS.ifnullYes (g := mkF m pc Ls (.null :: sk)) h hx rfl (pc0 := pc) (pc' := pc') rfl hd rfl ho hp r) q
theorem s_ifnullN (h : At T m c below) (hx : tb.exec = Jvm.exec) {o : Int} {b : Addr} (hd : decode c.code pc = .ok (.ifnull o, 3)) (hp : pc + 3 = pc') (q : Go tb e below F T (mkF m pc' Ls sk)) : Go tb e below F T (mkF m pc Ls ((.ref b) :: sk)) := by
  subst hp; exact Go.st (fun _ r => XS.ifnullNo (g := mkF m pc Ls ((.ref b) :: sk)) h hx rfl hd rfl r) q
theorem s_ifnonnullY (h : At T m c below) (hx : tb.exec = Jvm.exec) {o : Int} {b : Addr} (hd : decode c.code pc = .ok (.ifnonnull o, 3)) (ho : 0 ≤ (pc : Int) + o) (hp : ((pc : Int) + o).toNat = pc') (q : Go tb e below F T (mkF m pc' Ls sk)) : Go tb e below F T (mkF m pc Ls ((.ref b) :: sk)) :=
  Go.st (fun _ r => XS.ifnonnullYes (g := mkF m pc Ls ((.ref b) :: sk)) h hx rfl (pc0 := pc) (pc' := pc') rfl hd rfl ho hp r) q
theorem s_ifnonnullN (h : At T m c below) (hx : tb.exec = Jvm.exec) {o : Int} (hd : decode c.code pc = .ok (.ifnonnull o, 3)) (hp : pc + 3 = pc') (q : Go tb e below F T (mkF m pc' Ls sk)) : Go tb e below F T (mkF m pc Ls (.null :: sk)) := by
  subst hp; exact Go.st (fun _ r => XS.ifnonnullNo (g := mkF m pc Ls (.null :: sk)) h hx rfl hd rfl r) q
end Steps
end Jvm.Own
namespace Jvm.Own
open Sem ClassFile Op Lib Bundle Jvm.Stand Jvm.Free Jvm.LawKit Jvm.RoadKit
section Ends
variable {tb : Tables} {e : Env} {below : List Frame} {F : State → Prop} {T t : State} {g : JFrame}
theorem Go.fin (h : Steps tb e below (T.setTop g) t) (k : F t) : Go tb e below F T g := ⟨t, h, k⟩
theorem fin_of {P : State → Outcome → Prop} (k : ∀ F : State → Prop, (∀ t o, t.status = .running → Ended t below o → P t o → F t) → Go tb e below F T g) : ∃ s₂ o, Steps tb e below (T.setTop g) s₂ ∧ s₂.status = .running ∧ Ended s₂ below o ∧ P s₂ o := by
  obtain ⟨t, h1, o, h2, h3, h4⟩ := k (fun t => ∃ o, t.status = .running ∧ Ended t below o ∧ P t o) fun t o h2 h3 h4 => ⟨o, h2, h3, h4⟩
  exact ⟨t, o, h1, h2, h3, h4⟩
end Ends
theorem cat_of_ref {v : Value} (h : v.isRef = true) : v.category = 1 := by rcases ref_cases h with rfl | ⟨a, rfl⟩ <;> rfl
theorem own_fits_ref {v : Value} {t : FieldType} (ht : t.isReference = true) (h : v.isRef = true) : fits t v = true := by rcases ref_cases h with rfl | ⟨a, rfl⟩ <;> cases t <;> first | rfl | (cases ht)
theorem own_narrow_ref {v : Value} {t : FieldType} (h : v.isRef = true) : narrow t v = v := by rcases ref_cases h with rfl | ⟨a, rfl⟩ <;> cases t <;> rfl
theorem wideOn {Z s : State} {vm0 vm1 : Vm} {n : Nat} {own : String} {k : ClassId} (hZ : Z.Warmed39 vm0) (hS : (s.setVm vm0).Since vm1 n) (hown : vm0.findClass own = some k) : Z.Warmed39 vm1 ∧ vm1.findClass own = some k :=
  ⟨State.Warmed39.trans (t := s.setVm vm0) hZ hS.1, by rw [hS.1.alike.findClass]; exact hown⟩
section BackX
variable {p : Program} {l : Launch} {e : Env} {R : Room} {s : State} {args : Array Value} {below : List Frame} {Z : State} {a0 : Array Value} {EL : List (String × Nat)} {h : Heap} {vm0 : Vm}
/-- what pays a call of a body that may load literals, whose objects xs are no literal's -/
theorem backX {y : MethodName} {bytes : ByteArray} {maxL : Nat} {ret : Option FieldType} {rm : Room} {len W : Nat} {as' : Array Value} {Q : Option Value → Heap → List Loc → Prop} {xs : List Addr}
    (hM : MetFree l y (head1 [Cond.code y bytes maxL ret] rm) (fun a U => a = as' ∧ Z.Warmed39 U.vm ∧ U.heap = h ∧ CHv Z EL U.vm h ∧ ∀ x ∈ xs, Safe Z EL U.vm h x) (fun _ _ _ _ _ => True) (fun _ U o U' => ∃ v L, o = .returned v ∧ Q v U'.heap L ∧ CHr Z EL U.vm U.heap U'.vm U'.heap ∧ ReturnedEndW U o U' L rm.cells rm.slots))
    (hZ : Z.Warmed39 vm0) (wc : (Cond.code y bytes maxL ret).before a0 Z = true) (wz : (Cond.initialized y.cls).before a0 Z = true) (hf : rm.frames + 1 ≤ R.frames) (hl : W + (maxL + 11) + rm.locals ≤ R.locals) (hEL : EW Z a0 EL) (H : CHv Z EL vm0 h) (hs : ∀ x ∈ xs, x < h.size ∧ Safe Z EL vm0 h x) :
    BackS l R p e below (s.setVm vm0) args y len W (fun A a => a = as' ∧ A.U.heap = h ∧ A.cells + rm.cells ≤ R.cells ∧ A.slots + rm.slots ≤ R.slots)
      (fun A _ v B => ∃ L, Q v B.U.heap L ∧ B.locs = A.locs ++ L ∧ B.cells = A.cells + rm.cells ∧ B.slots = A.slots + rm.slots ∧ CHr Z EL vm0 h B.U.vm B.U.heap) := by
  refine BackS.of_freeW (bytes := bytes) (maxL := maxL) (ret := ret) (E := fun _ first o t L k n => k = rm.cells ∧ n = rm.slots ∧ (∃ v, o = .returned v ∧ Q v t.heap L) ∧ CHr Z EL first.vm first.heap t.vm t.heap) hM hf hl ?_ ?_ (fun _ _ _ _ _ _ _ _ _ => trivial) ?_ ?_
  · intro m meth c A a Y hp
    have hU : Z.Warmed39 A.U.vm := wtrans (s := s.setVm vm0) hZ Y.warmed
    exact ⟨by show (Cond.and _ .tt).before a A.U = true; rw [Cond.before_and, mv hU wc]; rfl, mv hU wc, mv hU wz, hp.2.2.1, hp.2.2.2⟩
  · intro m meth c A a g mk Y hp
    have K := CHv.at Y hZ hEL H
    exact ⟨hp.1, wtrans (s := s.setVm vm0) hZ Y.warmed, hp.2.1, K.1, fun x hx => K.safe (hs x hx).1 (hs x hx).2⟩
  · intro _ _ _ _ ⟨v, L, h1, h2, h3, h4⟩
    exact ⟨L, _, _, h4, rfl, rfl, ⟨v, h1, h2⟩, h3⟩
  · intro m meth c A a g mk v t L k n Y hp _ _ ⟨e1, e2, ⟨v', e3, e4⟩, e5⟩
    cases e3; subst e1 e2
    refine ⟨L, e4, rfl, rfl, rfl, (CHv.at Y hZ hEL H).trans ?_⟩
    rw [← hp.2.1]; exact e5
end BackX
/-! small numbers -/
theorem eq32 {a b : Int32} (h : a.toInt = b.toInt) : a = b := Int32.toInt_inj.mp h
theorem chr_nar {c : Int32} (h : ¬ c < 0 ∧ ¬ (255 : Int32) < c) : nar .char c = c := by
  have q := c_i2c c
  have e1 : (255 : Int32).toInt = 255 := rfl
  have e0 : (0 : Int32).toInt = 0 := rfl
  have h1 := h.1; have h2 := h.2
  rw [Int32.lt_iff_toInt_lt] at h1 h2
  exact eq32 (by show c.toUInt32.toUInt16.toUInt32.toInt32.toInt = _; omega)
theorem chr_i2c {c : Int32} (h : ¬ c < 0 ∧ ¬ (255 : Int32) < c) : c.toUInt32.toUInt16.toUInt32.toInt32 = c := chr_nar h
theorem chr_mask (x : Int32) : ¬ (x &&& 255) < 0 ∧ ¬ (255 : Int32) < (x &&& 255) := by
  have q := c_mask x 255 8 (by decide) (by decide)
  have e1 : (255 : Int32).toInt = 255 := rfl
  have e0 : (0 : Int32).toInt = 0 := rfl
  rw [Int32.lt_iff_toInt_lt, Int32.lt_iff_toInt_lt]
  omega
theorem chr_lit {k : Nat} (h : k < 256) : ¬ (Int32.ofNat k) < 0 ∧ ¬ (255 : Int32) < (Int32.ofNat k) := by
  have q : (Int32.ofNat k).toInt = k := Int32.toInt_ofNat_small (by omega)
  have e1 : (255 : Int32).toInt = 255 := rfl
  have e0 : (0 : Int32).toInt = 0 := rfl
  rw [Int32.lt_iff_toInt_lt, Int32.lt_iff_toInt_lt]
  omega
theorem chr_up {cs : List Int32} (h : ∀ c ∈ cs, ¬ c < 0 ∧ ¬ (255 : Int32) < c) : ∀ c ∈ cs, ¬ c < 0 ∧ ¬ (65535 : Int32) < c := fun c hc => ⟨(h c hc).1, fun q => (h c hc).2 (by rw [Int32.lt_iff_toInt_lt] at q ⊢; have e1 : (65535 : Int32).toInt = 65535 := rfl; have e2 : (255 : Int32).toInt = 255 := rfl; omega)⟩
theorem bit01 (P : Prop) [Decidable P] : (if P then (0 : Int32) else 1) = 0 ∨ (if P then (0 : Int32) else 1) = 1 := by by_cases h : P <;> simp [h]
theorem nar_b {x : Int32} (h : x = 0 ∨ x = 1) : nar .boolean x = x := by rcases h with rfl | rfl <;> decide
theorem narZ {k : Int32} (h : k = 0 ∨ k = 1) : narrow .boolean (.int k) = .int k := by rcases h with rfl | rfl <;> decide
theorem fitZ {k : Int32} (h : k = 0 ∨ k = 1) : fits .boolean (.int k) = true := by rcases h with rfl | rfl <;> decide
end Jvm.Own
/- laws to paste: Road.backV, Road.eqW, Road.codOf (cut by pick.py; bodies as the Statement names them) -/
namespace Jvm.Pilot.@@N@@
namespace StrChars
open Jvm Sem ClassFile Op Lib Jvm.Stand Jvm.Free.XT Jvm.Free.ALB Jvm.Free.JM Jvm.Free
open Jvm.Lib.Cold (StaticIs)
/-- a char array whose places are chars -/
def Ch (a : Addr) (A : Cell) (U : State) : Prop := Arr .char a A U ∧ Typed .char A
theorem Ch.mv {a : Addr} {A : Cell} {U U' : State} (h : Ch a A U) (hal : U.vm.Alike U'.vm) (hh : U'.heap = U.heap) : Ch a A U' := ⟨h.1.mv hal hh, h.2⟩
theorem Ch.keep {a : Addr} {A : Cell} {U U' : State} (h : Ch a A U) (hal : U.vm.Alike U'.vm) (hk : U'.heap[a]? = some A) : Ch a A U' := ⟨h.1.keep hal hk, h.2⟩
/-- what place i of a char[]'s cell holds -/
def cv (A : Cell) (i : Nat) : Int32 := match A.slots[i]? with | some (.int x) => x | _ => 0
theorem Ch.get {a : Addr} {A : Cell} {U : State} (h : Ch a A U) {i : Nat} (hi : i < A.slots.size) : A.slots[i]? = some (.int (cv A i)) := by
  have e := Array.getElem?_eq_getElem hi
  have f := h.2 i _ e
  unfold cv; rw [e]
  generalize A.slots[i] = v at f
  cases v <;> simp [fits] at f ⊢
/-- the byte that i2b leaves of a char -/
def lo8 (x : Int32) : Int32 := x.toInt8.toInt32
theorem fits_lo8 (y : Int32) : fits .byte (.int (lo8 y)) = true := by
  have h1 := y.toInt8.le_toInt
  have h2 := y.toInt8.toInt_lt
  simp only [lo8, fits, Bool.and_eq_true, decide_eq_true_eq, Int32.le_iff_toInt_le, Int8.toInt_toInt32, show (-128 : Int32).toInt = -128 from by decide, show (127 : Int32).toInt = 127 from by decide]
  omega
/-- A' is A but that each place j of lo .. hi - 1 holds f j -/
def Laid (A A' : Cell) (lo hi : Nat) (f : Nat → Value) : Prop := A'.cls = A.cls ∧ A'.vm = A.vm ∧ A'.slots.size = A.slots.size ∧ ∀ i, A'.slots[i]? = if lo ≤ i ∧ i < hi then some (f i) else A.slots[i]?
theorem Laid.zero (A : Cell) (lo : Nat) (f : Nat → Value) : Laid A A lo (lo + 0) f := ⟨rfl, rfl, rfl, fun i => by rw [if_neg (by omega)]⟩
theorem Laid.step {A Ak : Cell} {lo k : Nat} {f : Nat → Value} {v : Value} (h : Laid A Ak lo k f) (hlo : lo ≤ k) (hk : k < Ak.slots.size) (hv : v = f k) : Laid A (Ak.setSlot k v) lo (k + 1) f := by
  refine ⟨h.1, h.2.1, by simpa [Cell.setSlot] using h.2.2.1, fun i => ?_⟩
  by_cases e : k = i
  · subst e; rw [Cell.slots_setSlot_self v hk, if_pos (by omega), hv]
  · rw [Cell.slots_setSlot_ne v e, h.2.2.2 i]
    by_cases q : lo ≤ i ∧ i < k
    · rw [if_pos q, if_pos (by omega)]
    · rw [if_neg q, if_neg (by omega)]
def U16 : String := "java/lang/StringUTF16"
namespace Cmp5
def yN : MethodName := ⟨"java/lang/StringUTF16", "compress", "([CI[BII)I"⟩
abbrev yB : ByteArray := jdk_52_method_21_code
theorem d0 : decode yB 0 = .ok (.iconst 0, 1) := by decide +kernel
theorem d1 : decode yB 1 = .ok (.istore 5, 2) := by decide +kernel
theorem d3 : decode yB 3 = .ok (.iload 5, 2) := by decide +kernel
theorem d5 : decode yB 5 = .ok (.iload 4, 2) := by decide +kernel
theorem d7 : decode yB 7 = .ok (.if_icmp (.ge) 37, 3) := by decide +kernel
theorem d10 : decode yB 10 = .ok (.aload_n 0, 1) := by decide +kernel
theorem d11 : decode yB 11 = .ok (.iload_n 1, 1) := by decide +kernel
theorem d12 : decode yB 12 = .ok (.caload, 1) := by decide +kernel
theorem d13 : decode yB 13 = .ok (.istore 6, 2) := by decide +kernel
theorem d15 : decode yB 15 = .ok (.iload 6, 2) := by decide +kernel
theorem d17 : decode yB 17 = .ok (.sipush 255, 3) := by decide +kernel
theorem d20 : decode yB 20 = .ok (.if_icmp (.le) 6, 3) := by decide +kernel
theorem d26 : decode yB 26 = .ok (.aload_n 2, 1) := by decide +kernel
theorem d27 : decode yB 27 = .ok (.iload_n 3, 1) := by decide +kernel
theorem d28 : decode yB 28 = .ok (.iload 6, 2) := by decide +kernel
theorem d30 : decode yB 30 = .ok (.i2b, 1) := by decide +kernel
theorem d31 : decode yB 31 = .ok (.bastore, 1) := by decide +kernel
theorem d32 : decode yB 32 = .ok (.iinc 1 1, 3) := by decide +kernel
theorem d35 : decode yB 35 = .ok (.iinc 3 1, 3) := by decide +kernel
theorem d38 : decode yB 38 = .ok (.iinc 5 1, 3) := by decide +kernel
theorem d41 : decode yB 41 = .ok (.goto (-38), 3) := by decide +kernel
theorem d44 : decode yB 44 = .ok (.iload 4, 2) := by decide +kernel
theorem d46 : decode yB 46 = .ok (.ireturn, 1) := by decide +kernel
def site : List Cond := []
def tab : Cond := tabOf yN yB 7 (some .int) site
def P (b : Addr) (A : Cell) (d : Addr) (B : Cell) (o q len : Nat) (args : Array Value) (s : State) : Prop := args = #[.ref b, .int (Int32.ofNat o), .ref d, .int (Int32.ofNat q), .int (Int32.ofNat len)] ∧ Ch b A s ∧ Arr .byte d B s ∧ b ≠ d ∧ o + len ≤ A.slots.size ∧ q + len ≤ B.slots.size ∧ ∀ i, i < len → ¬ 255 < cv A (o + i)
def E (b : Addr) (A : Cell) (d : Addr) (B : Cell) (o q len : Nat) (r : Option Value) (s u : State) : Prop := r = some (.int (Int32.ofNat len)) ∧ ∃ B', Put d B' s u ∧ Laid B B' q (q + len) (fun j => Value.int (lo8 (cv A (o + (j - q)))))
/-- no char of the range above 255: len; the places written hold each char's low byte -/
theorem law (l : Launch) (b : Addr) (A : Cell) (d : Addr) (B : Cell) (o q len : Nat) : Law l yN 5 5 0 0 yB 7 (some .int) site (P b A d B o q len) (E b A d B o q len) (copyLocs d q len) 0 0 := by
  refine Law.of_walk (plainFor_of_name (by decide +kernel)) (by decide +kernel) (by decide +kernel) (by decide) (fun _ _ h => by rw [h.1]; rfl) (fun _ U U' hal hh h => ⟨h.1, h.2.1.mv hal hh, h.2.2.1.mv hal hh, h.2.2.2⟩) (fun r U U' V V' h1 hal h2 h => ⟨h.1, h.2.elim fun B' q => ⟨B', q.1.mv h1 h2, q.2⟩⟩) ?_
  intro p e s m args below meth c s₁ X0 hexec hbytes hml hret hlk hnm hown hh0 W hP
  obtain ⟨rfl, hA, hB, hne, l1, l2, hp⟩ := hP
  have c1 : Steps p.tables e below (s₁.setTop (entryFrame m #[.ref b, .int (Int32.ofNat o), .ref d, .int (Int32.ofNat q), .int (Int32.ofNat len)] 7)) (s₁.setTop (mkF m 0 #[.val (.ref b), .val (.int (Int32.ofNat o)), .val (.ref d), .val (.int (Int32.ofNat q)), .val (.int (Int32.ofNat len)), .unset, .unset] [])) := entry rfl
  have hA0 := hA.1.mv X0.warmed.alike hh0
  have hB0 := hB.mv X0.warmed.alike hh0
  have a31 := hA.1.2.2.2
  have c2 : Steps p.tables e below (s₁.setTop (entryFrame m #[.ref b, .int (Int32.ofNat o), .ref d, .int (Int32.ofNat q), .int (Int32.ofNat len)] 7)) (s₁.setTop (mkF m 3 #[.val (.ref b), .val (.int (Int32.ofNat o)), .val (.ref d), .val (.int (Int32.ofNat q)), .val (.int (Int32.ofNat len)), .val (.int 0), .unset] [])) := c1.trans (by
    refine iconstV X0.here hexec rfl 0 (hb hbytes d0) (by decide) ?_
    refine XS.istore X0.here hexec rfl (hb hbytes d1) rfl rfl ?_
    exact Steps.refl _)
  have loop : ∀ (r i : Nat), i + r = len → ∀ (z : Slot), (z = .unset ∨ ∃ w, z = .val w ∧ w.category = 1) → ∀ (Tl : State) (Bk : Cell), Stand p l e { frames := 0, locals := 0, cells := 0, slots := 0 } s m #[.ref b, .int (Int32.ofNat o), .ref d, .int (Int32.ofNat q), .int (Int32.ofNat len)] below meth c Tl ([] ++ copyLocs d q i) 0 0 → Put d Bk s₁ Tl → Laid B Bk q (q + i) (fun j => Value.int (lo8 (cv A (o + (j - q))))) →
      Steps p.tables e below (s₁.setTop (entryFrame m #[.ref b, .int (Int32.ofNat o), .ref d, .int (Int32.ofNat q), .int (Int32.ofNat len)] 7)) (Tl.setTop (mkF m 3 #[.val (.ref b), .val (.int (Int32.ofNat (o + i))), .val (.ref d), .val (.int (Int32.ofNat (q + i))), .val (.int (Int32.ofNat len)), .val (.int (Int32.ofNat i)), z] [])) → ∃ (T' : State) (B' : Cell) (z' : Slot), Stand p l e { frames := 0, locals := 0, cells := 0, slots := 0 } s m #[.ref b, .int (Int32.ofNat o), .ref d, .int (Int32.ofNat q), .int (Int32.ofNat len)] below meth c T' ([] ++ copyLocs d q len) 0 0 ∧ Put d B' s₁ T' ∧ Laid B B' q (q + len) (fun j => Value.int (lo8 (cv A (o + (j - q))))) ∧
      Steps p.tables e below (s₁.setTop (entryFrame m #[.ref b, .int (Int32.ofNat o), .ref d, .int (Int32.ofNat q), .int (Int32.ofNat len)] 7)) (T'.setTop (mkF m 3 #[.val (.ref b), .val (.int (Int32.ofNat (o + len))), .val (.ref d), .val (.int (Int32.ofNat (q + len))), .val (.int (Int32.ofNat len)), .val (.int (Int32.ofNat len)), z'] [])) := by
    intro r
    induction r with
    | zero =>
      intro i hi z hz Tl Bk Xl pl fl cl
      have hil : i = len := by omega
      rw [hil] at Xl fl cl
      exact ⟨Tl, Bk, z, Xl, pl, fl, cl⟩
    | succ r ih =>
      intro i hi z hz Tl Bk Xl pl fl cl
      have all := X0.warmed.alike.symm.trans Xl.warmed.alike
      have hAl := hA0.keep all (pl.other hne hA0.1)
      have hBk := hB0.like all pl.1 fl.1 fl.2.1 fl.2.2.1
      have hlt : q + i < Bk.slots.size := by rw [fl.2.2.1]; omega
      have c3 : Steps p.tables e below (s₁.setTop (entryFrame m #[.ref b, .int (Int32.ofNat o), .ref d, .int (Int32.ofNat q), .int (Int32.ofNat len)] 7)) (Tl.setTop (mkF m 12 #[.val (.ref b), .val (.int (Int32.ofNat (o + i))), .val (.ref d), .val (.int (Int32.ofNat (q + i))), .val (.int (Int32.ofNat len)), .val (.int (Int32.ofNat i)), z] [.int (Int32.ofNat (o + i)), .ref b])) := cl.trans (by
        refine XS.iload Xl.here hexec rfl (hb hbytes d3) rfl ?_
        refine XS.iload Xl.here hexec rfl (hb hbytes d5) rfl ?_
        refine XS.icmpNo Xl.here hexec rfl (hb hbytes d7) rfl (ii_ge_f (lt32 (by omega) (by omega))) ?_
        refine XS.aloadN Xl.here hexec rfl (hb hbytes d10) rfl rfl ?_
        refine XS.iloadN Xl.here hexec rfl (hb hbytes d11) rfl ?_
        exact Steps.refl _)
      have c4 : Steps p.tables e below (s₁.setTop (entryFrame m #[.ref b, .int (Int32.ofNat o), .ref d, .int (Int32.ofNat q), .int (Int32.ofNat len)] 7)) (Tl.setTop (mkF m 13 #[.val (.ref b), .val (.int (Int32.ofNat (o + i))), .val (.ref d), .val (.int (Int32.ofNat (q + i))), .val (.int (Int32.ofNat len)), .val (.int (Int32.ofNat i)), z] [.int (cv A (o + i))])) := c3.trans (by
        refine Xl.aget hexec hAl rfl (hA.get (i := o + i) (by omega)) rfl rfl (hb hbytes d12) ?_
        exact Steps.refl _)
      have c5 : Steps p.tables e below (s₁.setTop (entryFrame m #[.ref b, .int (Int32.ofNat o), .ref d, .int (Int32.ofNat q), .int (Int32.ofNat len)] 7)) (Tl.setTop (mkF m 15 #[.val (.ref b), .val (.int (Int32.ofNat (o + i))), .val (.ref d), .val (.int (Int32.ofNat (q + i))), .val (.int (Int32.ofNat len)), .val (.int (Int32.ofNat i)), .val (.int (cv A (o + i)))] [])) := c4.trans (by
        refine XS.istoreS Xl.here hexec rfl (hb hbytes d13) rfl rfl hz ?_
        exact Steps.refl _)
      have c6 : Steps p.tables e below (s₁.setTop (entryFrame m #[.ref b, .int (Int32.ofNat o), .ref d, .int (Int32.ofNat q), .int (Int32.ofNat len)] 7)) (Tl.setTop (mkF m 31 #[.val (.ref b), .val (.int (Int32.ofNat (o + i))), .val (.ref d), .val (.int (Int32.ofNat (q + i))), .val (.int (Int32.ofNat len)), .val (.int (Int32.ofNat i)), .val (.int (cv A (o + i)))] [.int (lo8 (cv A (o + i))), .int (Int32.ofNat (q + i)), .ref d])) := c5.trans (by
        refine XS.iload Xl.here hexec rfl (hb hbytes d15) rfl ?_
        refine sipushV Xl.here hexec rfl 255 (hb hbytes d17) (by decide) ?_
        refine XS.icmpYes Xl.here hexec rfl (pc0 := 20) rfl (hb hbytes d20) rfl (ii_le_t (hp i (by omega))) (by decide) rfl ?_
        refine XS.aloadN Xl.here hexec rfl (hb hbytes d26) rfl rfl ?_
        refine XS.iloadN Xl.here hexec rfl (hb hbytes d27) rfl ?_
        refine XS.iload Xl.here hexec rfl (hb hbytes d28) rfl ?_
        refine i2b Xl.here hexec rfl (hb hbytes d30) rfl ?_
        exact Steps.refl _)
      obtain ⟨T7, X7, p7, st7⟩ := Xl.aput hexec hBk rfl hlt rfl (fits_lo8 (cv A (o + i))) (g := (mkF m 31 #[.val (.ref b), .val (.int (Int32.ofNat (o + i))), .val (.ref d), .val (.int (Int32.ofNat (q + i))), .val (.int (Int32.ofNat len)), .val (.int (Int32.ofNat i)), .val (.int (cv A (o + i)))] [.int (lo8 (cv A (o + i))), .int (Int32.ofNat (q + i)), .ref d])) rfl (rest := []) rfl (hb hbytes d31)
      have c8 : Steps p.tables e below (s₁.setTop (entryFrame m #[.ref b, .int (Int32.ofNat o), .ref d, .int (Int32.ofNat q), .int (Int32.ofNat len)] 7)) (T7.setTop (mkF m 32 #[.val (.ref b), .val (.int (Int32.ofNat (o + i))), .val (.ref d), .val (.int (Int32.ofNat (q + i))), .val (.int (Int32.ofNat len)), .val (.int (Int32.ofNat i)), .val (.int (cv A (o + i)))] [])) := c6.trans (st7 _ (Steps.refl _))
      have c9 : Steps p.tables e below (s₁.setTop (entryFrame m #[.ref b, .int (Int32.ofNat o), .ref d, .int (Int32.ofNat q), .int (Int32.ofNat len)] 7)) (T7.setTop (mkF m 3 #[.val (.ref b), .val (.int (Int32.ofNat (o + i) + 1)), .val (.ref d), .val (.int (Int32.ofNat (q + i) + 1)), .val (.int (Int32.ofNat len)), .val (.int (Int32.ofNat i + 1)), .val (.int (cv A (o + i)))] [])) := c8.trans (by
        refine iincV X7.here hexec rfl 1 (hb hbytes d32) (by decide) rfl rfl ?_
        refine iincV X7.here hexec rfl 1 (hb hbytes d35) (by decide) rfl rfl ?_
        refine iincV X7.here hexec rfl 1 (hb hbytes d38) (by decide) rfl rfl ?_
        refine XS.goto X7.here hexec rfl (pc0 := 41) rfl (hb hbytes d41) (by decide) rfl ?_
        exact Steps.refl _)
      have c10 : Steps p.tables e below (s₁.setTop (entryFrame m #[.ref b, .int (Int32.ofNat o), .ref d, .int (Int32.ofNat q), .int (Int32.ofNat len)] 7)) (T7.setTop (mkF m 3 #[.val (.ref b), .val (.int (Int32.ofNat (o + (i + 1)))), .val (.ref d), .val (.int (Int32.ofNat (q + (i + 1)))), .val (.int (Int32.ofNat len)), .val (.int (Int32.ofNat (i + 1))), .val (.int (cv A (o + i)))] [])) := by
        have := c9
        rw [succ32, succ32, succ32] at this
        exact this
      exact ih (i + 1) (by omega) _ (Or.inr ⟨_, rfl, rfl⟩) T7 _ (by rw [copyLocs_step, ← List.append_assoc]; exact X7) (pl.trans p7) (fl.step (by omega) hlt (by simp)) c10
  obtain ⟨T9, B9, z9, X9, p9, f9, g9⟩ := loop len 0 (by omega) .unset (Or.inl rfl) s₁ B (by simpa [copyLocs] using X0) ⟨hB0.1, fun _ _ => rfl, rfl⟩ (Laid.zero _ _ _) c2
  have c11 : Steps p.tables e below (s₁.setTop (entryFrame m #[.ref b, .int (Int32.ofNat o), .ref d, .int (Int32.ofNat q), .int (Int32.ofNat len)] 7)) (T9.setTop (mkF m 46 #[.val (.ref b), .val (.int (Int32.ofNat (o + len))), .val (.ref d), .val (.int (Int32.ofNat (q + len))), .val (.int (Int32.ofNat len)), .val (.int (Int32.ofNat len)), z9] [.int (Int32.ofNat len)])) := g9.trans (by
    refine XS.iload X9.here hexec rfl (hb hbytes d3) rfl ?_
    refine XS.iload X9.here hexec rfl (hb hbytes d5) rfl ?_
    refine XS.icmpYes X9.here hexec rfl (pc0 := 7) rfl (hb hbytes d7) rfl (ii_ge_t (nlt32 (by omega) (Nat.le_refl _))) (by decide) rfl ?_
    refine XS.iload X9.here hexec rfl (hb hbytes d44) rfl ?_
    exact Steps.refl _)
  exact ⟨T9, some (.int (Int32.ofNat len)), _, _, _, X9, by simp, rfl, rfl, (fun h => by cases h), ⟨rfl, B9, p9.from hh0, f9⟩, fun fs hl => c11.trans (X9.ireturnOut hexec hret rfl (Or.inl rfl) (hb hbytes d46) hl)⟩
end Cmp5
namespace Cmp3
def yN : MethodName := ⟨"java/lang/StringUTF16", "compress", "([CII)[B"⟩
abbrev yB : ByteArray := jdk_52_method_16_code
theorem d0 : decode yB 0 = .ok (.iload_n 2, 1) := by decide +kernel
theorem d1 : decode yB 1 = .ok (.newarray .byte, 2) := by decide +kernel
theorem d3 : decode yB 3 = .ok (.astore_n 3, 1) := by decide +kernel
theorem d4 : decode yB 4 = .ok (.aload_n 0, 1) := by decide +kernel
theorem d5 : decode yB 5 = .ok (.iload_n 1, 1) := by decide +kernel
theorem d6 : decode yB 6 = .ok (.aload_n 3, 1) := by decide +kernel
theorem d7 : decode yB 7 = .ok (.iconst 0, 1) := by decide +kernel
theorem d8 : decode yB 8 = .ok (.iload_n 2, 1) := by decide +kernel
theorem d9 : decode yB 9 = .ok (.invokestatic 115, 3) := by decide +kernel
theorem d12 : decode yB 12 = .ok (.istore 4, 2) := by decide +kernel
theorem d14 : decode yB 14 = .ok (.iload 4, 2) := by decide +kernel
theorem d16 : decode yB 16 = .ok (.iload_n 2, 1) := by decide +kernel
theorem d17 : decode yB 17 = .ok (.if_icmp (.eq) 40, 3) := by decide +kernel
theorem d57 : decode yB 57 = .ok (.aload_n 3, 1) := by decide +kernel
theorem d58 : decode yB 58 = .ok (.areturn, 1) := by decide +kernel
def site : List Cond := [.arrayClass .byte, Cmp5.tab] ++ staticW U16 115 Cmp5.yN
def tab : Cond := tabOf yN yB 6 (some (.array .byte)) site
def P (b : Addr) (A : Cell) (o len : Nat) (args : Array Value) (s : State) : Prop := args = #[.ref b, .int (Int32.ofNat o), .int (Int32.ofNat len)] ∧ Ch b A s ∧ o + len ≤ A.slots.size ∧ len ≤ 536870912 ∧ ∀ i, i < len → ¬ 255 < cv A (o + i)
def E (b : Addr) (A : Cell) (o len : Nat) (r : Option Value) (s u : State) : Prop := NewArr .byte "[B" len (fun j => .int (lo8 (cv A (o + j)))) r s u ∧ u.heap.size = s.heap.size + 1
/-- no char of the range above 255: a new byte[] of their low bytes -/
theorem law (l : Launch) (b : Addr) (A : Cell) (o len : Nat) : Law l yN 3 3 1 18 yB 6 (some (.array .byte)) site (P b A o len) (E b A o len) [] 1 len := by
  refine Law.of_walk (plainFor_of_name (by decide +kernel)) (by decide +kernel) (by decide +kernel) (by decide) (fun _ _ h => by rw [h.1]; rfl) (fun _ U U' hal hh h => ⟨h.1, h.2.1.mv hal hh, h.2.2⟩) (fun r U U' V V' h1 hal h2 h => ⟨NewArr.mv r U U' V V' h1 hal h2 h.1, by rw [h1, h2]; exact h.2⟩) ?_
  intro p e s m args below meth c s₁ X0 hexec hbytes hml hret hlk hnm hown hh0 W hP
  obtain ⟨rfl, hA, l1, l2, hp⟩ := hP
  have a31 := hA.1.2.2.2
  have c1 : Steps p.tables e below (s₁.setTop (entryFrame m #[.ref b, .int (Int32.ofNat o), .int (Int32.ofNat len)] 6)) (s₁.setTop (mkF m 0 #[.val (.ref b), .val (.int (Int32.ofNat o)), .val (.int (Int32.ofNat len)), .unset, .unset, .unset] [])) := entry rfl
  have c2 : Steps p.tables e below (s₁.setTop (entryFrame m #[.ref b, .int (Int32.ofNat o), .int (Int32.ofNat len)] 6)) (s₁.setTop (mkF m 1 #[.val (.ref b), .val (.int (Int32.ofNat o)), .val (.int (Int32.ofNat len)), .unset, .unset, .unset] [.int (Int32.ofNat len)])) := c1.trans (by
    refine XS.iloadN X0.here hexec rfl (hb hbytes d0) rfl ?_
    exact Steps.refl _)
  obtain ⟨T3, B3, X3, ba3, bs3, bv3, bh3, bf3, st3⟩ := X0.anew hexec (atype := .byte) (wk W (.arrayClass .byte)) rfl (by show len * 1 ≤ _; omega) (by omega) (g := (mkF m 1 #[.val (.ref b), .val (.int (Int32.ofNat o)), .val (.int (Int32.ofNat len)), .unset, .unset, .unset] [.int (Int32.ofNat len)])) rfl (hb hbytes d1) (rest := []) rfl (Nat.le_refl _) (by show 0 + len ≤ len; omega)
  rw [hh0] at ba3 st3
  have kp3 : XT.Kept s T3 := (XT.Kept.of_eq hh0).push bh3
  have hA3 := hA.keep X3.warmed.alike (kp3 _ _ hA.1.1)
  have hne : b ≠ s.heap.size := hA.1.ne
  have c4 : Steps p.tables e below (s₁.setTop (entryFrame m #[.ref b, .int (Int32.ofNat o), .int (Int32.ofNat len)] 6)) (T3.setTop (mkF m 3 #[.val (.ref b), .val (.int (Int32.ofNat o)), .val (.int (Int32.ofNat len)), .unset, .unset, .unset] [.ref s.heap.size])) := c2.trans (st3 _ (Steps.refl _))
  have c5 : Steps p.tables e below (s₁.setTop (entryFrame m #[.ref b, .int (Int32.ofNat o), .int (Int32.ofNat len)] 6)) (T3.setTop (mkF m 9 #[.val (.ref b), .val (.int (Int32.ofNat o)), .val (.int (Int32.ofNat len)), .val (.ref s.heap.size), .unset, .unset] [.int (Int32.ofNat len), .int 0, .ref s.heap.size, .int (Int32.ofNat o), .ref b])) := c4.trans (by
    refine XS.astoreN X3.here hexec rfl (hb hbytes d3) rfl rfl rfl ?_
    refine XS.aloadN X3.here hexec rfl (hb hbytes d4) rfl rfl ?_
    refine XS.iloadN X3.here hexec rfl (hb hbytes d5) rfl ?_
    refine XS.aloadN X3.here hexec rfl (hb hbytes d6) rfl rfl ?_
    refine iconstV X3.here hexec rfl 0 (hb hbytes d7) (by decide) ?_
    refine XS.iloadN X3.here hexec rfl (hb hbytes d8) rfl ?_
    exact Steps.refl _)
  obtain ⟨v6, T6, X6, E6, g6⟩ := X3.callS hexec (Cmp5.law l b A s.heap.size B3 o 0 len) hown (wks W (staticW U16 115 Cmp5.yN)) (wk W Cmp5.tab) (W := 0) (Nat.le_of_ble_eq_true rfl) (Nat.le_of_ble_eq_true rfl) (Nat.le_refl _) (by show 0 + len + 0 ≤ len; omega) (g := (mkF m 9 #[.val (.ref b), .val (.int (Int32.ofNat o)), .val (.int (Int32.ofNat len)), .val (.ref s.heap.size), .unset, .unset] [.int (Int32.ofNat len), .int (Int32.ofNat 0), .ref s.heap.size, .int (Int32.ofNat o), .ref b])) rfl (by rw [hml]; rfl) c5 (argsL := [.ref b, .int (Int32.ofNat o), .ref s.heap.size, .int (Int32.ofNat 0), .int (Int32.ofNat len)]) (rest := []) rfl rfl (by show 2 * 0 + 0 ≤ _; decide) (hb hbytes d9) (⟨rfl, hA3, ba3, hne, l1, by rw [bs3]; simp, hp⟩)
  obtain ⟨rfl, B6, p6, f6⟩ := E6
  have c7 : Steps p.tables e below (s₁.setTop (entryFrame m #[.ref b, .int (Int32.ofNat o), .int (Int32.ofNat len)] 6)) (T6.setTop (mkF m 12 #[.val (.ref b), .val (.int (Int32.ofNat o)), .val (.int (Int32.ofNat len)), .val (.ref s.heap.size), .unset, .unset] [.int (Int32.ofNat len)])) := g6
  have c8 : Steps p.tables e below (s₁.setTop (entryFrame m #[.ref b, .int (Int32.ofNat o), .int (Int32.ofNat len)] 6)) (T6.setTop (mkF m 58 #[.val (.ref b), .val (.int (Int32.ofNat o)), .val (.int (Int32.ofNat len)), .val (.ref s.heap.size), .val (.int (Int32.ofNat len)), .unset] [.ref s.heap.size])) := c7.trans (by
    refine XS.istore X6.here hexec rfl (hb hbytes d12) rfl rfl ?_
    refine XS.iload X6.here hexec rfl (hb hbytes d14) rfl ?_
    refine XS.iloadN X6.here hexec rfl (hb hbytes d16) rfl ?_
    refine XS.icmpYes X6.here hexec rfl (pc0 := 17) rfl (hb hbytes d17) rfl (ii_eq_t rfl) (by decide) rfl ?_
    refine XS.aloadN X6.here hexec rfl (hb hbytes d57) rfl rfl ?_
    exact Steps.refl _)
  have X8 := X6.wide (L' := []) (cells' := 1) (slots' := len) (fun x hx hlt => by
    simp only [List.nil_append, copyLocs, List.mem_map, List.mem_range] at hx
    obtain ⟨i, -, rfl⟩ := hx
    exact absurd hlt (Nat.lt_irrefl _)) (Nat.le_refl _) (by omega)
  exact ⟨T6, some (.ref s.heap.size), _, _, _, X8, rfl, rfl, rfl, (fun h => by cases h), ⟨⟨rfl, B6, ba3.like (X3.warmed.alike.symm.trans X6.warmed.alike) p6.1 f6.1 f6.2.1 f6.2.2.1, f6.2.1.trans bv3, by rw [X6.warmed.alike.findClass, f6.1]; exact bf3, by rw [f6.2.2.1, bs3]; simp, fun j hj => by rw [f6.2.2.2 j, if_pos (by omega)]; rfl, kp3.put p6 (Nat.le_refl _)⟩, by rw [p6.2.2, bh3, hh0]; simp⟩, fun fs hl => c8.trans (X8.areturnOut hexec rfl hret rfl (hb hbytes d58) hl)⟩
end Cmp3
namespace CodL
def yN : MethodName := ⟨"java/lang/StringUTF16", "coderFromArrayLen", "([BI)B"⟩
abbrev yB : ByteArray := jdk_52_method_15_code
theorem d0 : decode yB 0 = .ok (.iload_n 1, 1) := by decide +kernel
theorem d1 : decode yB 1 = .ok (.aload_n 0, 1) := by decide +kernel
theorem d2 : decode yB 2 = .ok (.arraylength, 1) := by decide +kernel
theorem d3 : decode yB 3 = .ok (.isub, 1) := by decide +kernel
theorem d4 : decode yB 4 = .ok (.bipush 31, 2) := by decide +kernel
theorem d6 : decode yB 6 = .ok (.iushr, 1) := by decide +kernel
theorem d7 : decode yB 7 = .ok (.i2b, 1) := by decide +kernel
theorem d8 : decode yB 8 = .ok (.ireturn, 1) := by decide +kernel
def site : List Cond := []
def tab : Cond := tabOf yN yB 2 (some .byte) site
def P (d : Addr) (B : Cell) (args : Array Value) (s : State) : Prop := args = #[.ref d, .int (Int32.ofNat B.slots.size)] ∧ Arr .byte d B s
def E (r : Option Value) (s u : State) : Prop := XT.PureE (some (.int 0)) r s u
/-- an array as long as the number of chars: LATIN1 -/
theorem law (l : Launch) (d : Addr) (B : Cell) : Law l yN 2 2 0 0 yB 2 (some .byte) site (P d B) E [] 0 0 := by
  refine Law.of_walk (plainFor_of_name (by decide +kernel)) (by decide +kernel) (by decide +kernel) (by decide) (fun _ _ h => by rw [h.1]; rfl) (fun _ U U' hal hh h => ⟨h.1, h.2.mv hal hh⟩) (fun r U U' V V' h1 hal h2 h => XT.PureE.mv r U U' V V' h1 hal h2 h) ?_
  intro p e s m args below meth c s₁ X0 hexec hbytes hml hret hlk hnm hown hh0 W hP
  obtain ⟨rfl, hB⟩ := hP
  have hB0 := hB.mv X0.warmed.alike hh0
  have c1 : Steps p.tables e below (s₁.setTop (entryFrame m #[.ref d, .int (Int32.ofNat B.slots.size)] 2)) (s₁.setTop (mkF m 0 #[.val (.ref d), .val (.int (Int32.ofNat B.slots.size))] [])) := entry rfl
  have c2 : Steps p.tables e below (s₁.setTop (entryFrame m #[.ref d, .int (Int32.ofNat B.slots.size)] 2)) (s₁.setTop (mkF m 2 #[.val (.ref d), .val (.int (Int32.ofNat B.slots.size))] [.ref d, .int (Int32.ofNat B.slots.size)])) := c1.trans (by
    refine XS.iloadN X0.here hexec rfl (hb hbytes d0) rfl ?_
    refine XS.aloadN X0.here hexec rfl (hb hbytes d1) rfl rfl ?_
    exact Steps.refl _)
  have c3 : Steps p.tables e below (s₁.setTop (entryFrame m #[.ref d, .int (Int32.ofNat B.slots.size)] 2)) (s₁.setTop (mkF m 8 #[.val (.ref d), .val (.int (Int32.ofNat B.slots.size))] [.int (lo8 (ushr (Int32.ofNat B.slots.size - Int32.ofNat B.slots.size) 31))])) := c2.trans (by
    refine X0.alen hexec hB0 rfl rfl (hb hbytes d2) ?_
    refine XS.isub X0.here hexec rfl (hb hbytes d3) rfl ?_
    refine bipushV X0.here hexec rfl 31 (hb hbytes d4) (by decide) ?_
    refine iushr X0.here hexec rfl (hb hbytes d6) rfl ?_
    refine i2b X0.here hexec rfl (hb hbytes d7) rfl ?_
    exact Steps.refl _)
  have e0 : lo8 (ushr (Int32.ofNat B.slots.size - Int32.ofNat B.slots.size) 31) = 0 := by rw [Int32.sub_self]; decide
  rw [e0] at c3
  exact ⟨s₁, some (.int 0), _, _, _, X0, rfl, rfl, rfl, (fun h => by cases h), ⟨rfl, hh0⟩, fun fs hl => c3.trans (X0.ireturnOut hexec hret rfl (Or.inr (Or.inr (Or.inl rfl))) (hb hbytes d8) hl)⟩
end CodL
/-- the String at a is Latin-1 over a new byte[] (the heap's one new cell): the low bytes of the len chars of A from o on; every cell but a is kept -/
def Got (a : Addr) (D : Cell) (fV fC : Field) (A : Cell) (o len : Nat) (r : Option Value) (s u : State) : Prop := r = none ∧ ∃ D' V : Cell, Blank "java/lang/String" a D' u ∧ Same D D' [fV.slot, fC.slot] ∧ D'.slots[fV.slot]? = some (.ref s.heap.size) ∧ D'.slots[fC.slot]? = some (.int 0) ∧ Arr .byte s.heap.size V u ∧ V.vm = .none ∧ u.vm.findClass "[B" = some V.cls ∧ V.slots.size = len ∧ (∀ j, j < len → V.slots[j]? = some (.int (lo8 (cv A (o + j))))) ∧ (∀ (y : Addr) (c : Cell), y ≠ a → s.heap[y]? = some c → u.heap[y]? = some c) ∧ u.heap.size = s.heap.size + 1
theorem Got.mv {a : Addr} {D A : Cell} {fV fC : Field} {o len : Nat} : ∀ r (U U' V V' : State), U'.heap = U.heap → V.vm.Alike V'.vm → V'.heap = V.heap → Got a D fV fC A o len r U V → Got a D fV fC A o len r U' V' :=
  fun r U U' V V' h1 hal h2 ⟨e0, D', X, a1, a2, a3, a4, a5, a6, a7, a8, a9, a10, a11⟩ => ⟨e0, D', X, a1.mv hal h2, a2, by rw [h1]; exact a3, a4, by rw [h1]; exact a5.mv hal h2, a6, by rw [hal.findClass]; exact a7, a8, a9, by rw [h1, h2]; exact a10, by rw [h1, h2]; exact a11⟩
namespace New4
def yN : MethodName := ⟨"java/lang/String", "<init>", "([CIILjava/lang/Void;)V"⟩
abbrev yB : ByteArray := jdk_42_method_149_code
theorem d0 : decode yB 0 = .ok (.aload_n 0, 1) := by decide +kernel
theorem d1 : decode yB 1 = .ok (.invokespecial 1, 3) := by decide +kernel
theorem d4 : decode yB 4 = .ok (.iload_n 3, 1) := by decide +kernel
theorem d5 : decode yB 5 = .ok (.ifCond (.ne) 22, 3) := by decide +kernel
theorem d27 : decode yB 27 = .ok (.getstatic 38, 3) := by decide +kernel
theorem d30 : decode yB 30 = .ok (.ifCond (.eq) 28, 3) := by decide +kernel
theorem d33 : decode yB 33 = .ok (.aload_n 1, 1) := by decide +kernel
theorem d34 : decode yB 34 = .ok (.iload_n 2, 1) := by decide +kernel
theorem d35 : decode yB 35 = .ok (.iload_n 3, 1) := by decide +kernel
theorem d36 : decode yB 36 = .ok (.invokestatic 177, 3) := by decide +kernel
theorem d39 : decode yB 39 = .ok (.astore 5, 2) := by decide +kernel
theorem d41 : decode yB 41 = .ok (.aload_n 0, 1) := by decide +kernel
theorem d42 : decode yB 42 = .ok (.aload 5, 2) := by decide +kernel
theorem d44 : decode yB 44 = .ok (.iload_n 3, 1) := by decide +kernel
theorem d45 : decode yB 45 = .ok (.invokestatic 47, 3) := by decide +kernel
theorem d48 : decode yB 48 = .ok (.putfield 15, 3) := by decide +kernel
theorem d51 : decode yB 51 = .ok (.aload_n 0, 1) := by decide +kernel
theorem d52 : decode yB 52 = .ok (.aload 5, 2) := by decide +kernel
theorem d54 : decode yB 54 = .ok (.putfield 9, 3) := by decide +kernel
theorem d57 : decode yB 57 = .ok (.return_, 1) := by decide +kernel
def site : List Cond := [.fieldLink "java/lang/String" 38 "java/lang/String" "COMPACT_STRINGS" "Z", Cmp3.tab, CodL.tab, .laysFinal "java/lang/String" "java/lang/String" "value" "[B", .fieldLink "java/lang/String" 9 "java/lang/String" "value" "[B", .laysFinal "java/lang/String" "java/lang/String" "coder" "B", .fieldLink "java/lang/String" 15 "java/lang/String" "coder" "B"] ++ objW "java/lang/String" 1 ++ staticW "java/lang/String" 177 Cmp3.yN ++ staticW "java/lang/String" 47 CodL.yN
def tab : Cond := tabOf yN yB 6 none site
def P (a : Addr) (D : Cell) (fV fC : Field) (b : Addr) (A : Cell) (z : Int32) (o len : Nat) (args : Array Value) (s : State) : Prop := args = #[.ref a, .ref b, .int (Int32.ofNat o), .int (Int32.ofNat len), .null] ∧ Blank "java/lang/String" a D s ∧ Found "java/lang/String" "value" "[B" fV s ∧ Found "java/lang/String" "coder" "B" fC s ∧ Ch b A s ∧ StaticIs s "java/lang/String" "COMPACT_STRINGS" "Z" (.int z) ∧ ¬ z = 0 ∧ 0 < len ∧ o + len ≤ A.slots.size ∧ len ≤ 536870912 ∧ ∀ i, i < len → ¬ 255 < cv A (o + i)
def E (a : Addr) (D : Cell) (fV fC : Field) (A : Cell) (o len : Nat) (r : Option Value) (s u : State) : Prop := Got a D fV fC A o len r s u
/-- len > 0, no char of the range above 255: a Latin-1 String of their low bytes -/
theorem law (l : Launch) (a : Addr) (D : Cell) (fV fC : Field) (b : Addr) (A : Cell) (z : Int32) (o len : Nat) : Law l yN 5 4 2 35 yB 6 none site (P a D fV fC b A z o len) (E a D fV fC A o len) [⟨a, fC.slot⟩, ⟨a, fV.slot⟩] 1 len := by
  refine Law.of_walk (plainFor_of_name (by decide +kernel)) (by decide +kernel) (by decide +kernel) (by decide) (fun _ _ h => by rw [h.1]; rfl) (fun _ U U' hal hh h => ⟨h.1, h.2.1.mv hal hh, h.2.2.1.al hal, h.2.2.2.1.al hal, h.2.2.2.2.1.mv hal hh, h.2.2.2.2.2.1.there hal hh, h.2.2.2.2.2.2⟩) (fun r U U' V V' h1 hal h2 h => Got.mv r U U' V V' h1 hal h2 h) ?_
  intro p e s m args below meth c s₁ X0 hexec hbytes hml hret hlk hnm hown hh0 W hP
  obtain ⟨rfl, hB, f1, f2, hA, s1, hz, l0, l1, l2, hp⟩ := hP
  have a31 := hA.1.2.2.2
  have c1 : Steps p.tables e below (s₁.setTop (entryFrame m #[.ref a, .ref b, .int (Int32.ofNat o), .int (Int32.ofNat len), .null] 6)) (s₁.setTop (mkF m 0 #[.val (.ref a), .val (.ref b), .val (.int (Int32.ofNat o)), .val (.int (Int32.ofNat len)), .val .null, .unset] [])) := entry rfl
  have c2 : Steps p.tables e below (s₁.setTop (entryFrame m #[.ref a, .ref b, .int (Int32.ofNat o), .int (Int32.ofNat len), .null] 6)) (s₁.setTop (mkF m 1 #[.val (.ref a), .val (.ref b), .val (.int (Int32.ofNat o)), .val (.int (Int32.ofNat len)), .val .null, .unset] [.ref a])) := c1.trans (by
    refine XS.aloadN X0.here hexec rfl (hb hbytes d0) rfl rfl ?_
    exact Steps.refl _)
  obtain ⟨T3, X3, q3, st3⟩ := X0.oinit hexec hown (wks W (objW "java/lang/String" 1)) (g := (mkF m 1 #[.val (.ref a), .val (.ref b), .val (.int (Int32.ofNat o)), .val (.int (Int32.ofNat len)), .val .null, .unset] [.ref a])) rfl (by rw [hml]; rfl) (rest := []) rfl (hb hbytes d1) (W := 0) (by show 2 * 0 + 0 ≤ _; decide) (Nat.le_of_ble_eq_true rfl) (Nat.le_of_ble_eq_true rfl)
  have hh3 := q3.trans hh0
  have c4 : Steps p.tables e below (s₁.setTop (entryFrame m #[.ref a, .ref b, .int (Int32.ofNat o), .int (Int32.ofNat len), .null] 6)) (T3.setTop (mkF m 27 #[.val (.ref a), .val (.ref b), .val (.int (Int32.ofNat o)), .val (.int (Int32.ofNat len)), .val .null, .unset] [])) := (c2.trans (st3 _ (Steps.refl _))).trans (by
    refine XS.iloadN X3.here hexec rfl (hb hbytes d4) rfl ?_
    refine XS.ifYes X3.here hexec rfl (pc0 := 5) rfl (hb hbytes d5) rfl (i0_ne_t (nz32 (by omega) l0)) (by decide) rfl ?_
    exact Steps.refl _)
  obtain ⟨T5, X5, q5, st5⟩ := X3.sget hexec hown (wk W (.fieldLink "java/lang/String" 38 "java/lang/String" "COMPACT_STRINGS" "Z")) s1 (fun _ _ h => by rw [hh3]; exact h) (g := (mkF m 27 #[.val (.ref a), .val (.ref b), .val (.int (Int32.ofNat o)), .val (.int (Int32.ofNat len)), .val .null, .unset] [])) rfl (hb hbytes d27)
  have hh5 := q5.trans hh3
  have c6 : Steps p.tables e below (s₁.setTop (entryFrame m #[.ref a, .ref b, .int (Int32.ofNat o), .int (Int32.ofNat len), .null] 6)) (T5.setTop (mkF m 30 #[.val (.ref a), .val (.ref b), .val (.int (Int32.ofNat o)), .val (.int (Int32.ofNat len)), .val .null, .unset] [.int z])) := c4.trans (st5 _ (Steps.refl _))
  have c7 : Steps p.tables e below (s₁.setTop (entryFrame m #[.ref a, .ref b, .int (Int32.ofNat o), .int (Int32.ofNat len), .null] 6)) (T5.setTop (mkF m 36 #[.val (.ref a), .val (.ref b), .val (.int (Int32.ofNat o)), .val (.int (Int32.ofNat len)), .val .null, .unset] [.int (Int32.ofNat len), .int (Int32.ofNat o), .ref b])) := c6.trans (by
    refine XS.ifNo X5.here hexec rfl (hb hbytes d30) rfl (i0_eq_f hz) ?_
    refine XS.aloadN X5.here hexec rfl (hb hbytes d33) rfl rfl ?_
    refine XS.iloadN X5.here hexec rfl (hb hbytes d34) rfl ?_
    refine XS.iloadN X5.here hexec rfl (hb hbytes d35) rfl ?_
    exact Steps.refl _)
  obtain ⟨v8, T8, X8, E8, g8⟩ := X5.callS hexec (Cmp3.law l b A o len) hown (wks W (staticW "java/lang/String" 177 Cmp3.yN)) (wk W Cmp3.tab) (W := 0) (Nat.le_of_ble_eq_true rfl) (Nat.le_of_ble_eq_true rfl) (Nat.le_refl _) (by show 0 + len ≤ len; omega) (g := (mkF m 36 #[.val (.ref a), .val (.ref b), .val (.int (Int32.ofNat o)), .val (.int (Int32.ofNat len)), .val .null, .unset] [.int (Int32.ofNat len), .int (Int32.ofNat o), .ref b])) rfl (by rw [hml]; rfl) c7 (argsL := [.ref b, .int (Int32.ofNat o), .int (Int32.ofNat len)]) (rest := []) rfl rfl (by show 2 * 0 + 0 ≤ _; decide) (hb hbytes d36) (⟨rfl, hA.mv X5.warmed.alike hh5, l1, l2, hp⟩)
  obtain ⟨e8, z8⟩ := E8
  obtain ⟨rfl, N, n1, n2, n3, n4, n5, n6⟩ := NewArr.mv _ T5 s _ _ hh5.symm (Vm.Alike.refl _) rfl e8
  rw [hh5] at z8
  have hB1 := hB.keep X8.warmed.alike (n6 _ _ hB.1)
  have hne : s.heap.size ≠ a := (Nat.ne_of_lt (Array.getElem?_eq_some_iff.mp hB.1).1).symm
  have c9 : Steps p.tables e below (s₁.setTop (entryFrame m #[.ref a, .ref b, .int (Int32.ofNat o), .int (Int32.ofNat len), .null] 6)) (T8.setTop (mkF m 39 #[.val (.ref a), .val (.ref b), .val (.int (Int32.ofNat o)), .val (.int (Int32.ofNat len)), .val .null, .unset] [.ref s.heap.size])) := g8
  have c10 : Steps p.tables e below (s₁.setTop (entryFrame m #[.ref a, .ref b, .int (Int32.ofNat o), .int (Int32.ofNat len), .null] 6)) (T8.setTop (mkF m 45 #[.val (.ref a), .val (.ref b), .val (.int (Int32.ofNat o)), .val (.int (Int32.ofNat len)), .val .null, .val (.ref s.heap.size)] [.int (Int32.ofNat N.slots.size), .ref s.heap.size, .ref a])) := by
    have hc : Steps p.tables e below (s₁.setTop (entryFrame m #[.ref a, .ref b, .int (Int32.ofNat o), .int (Int32.ofNat len), .null] 6)) (T8.setTop (mkF m 45 #[.val (.ref a), .val (.ref b), .val (.int (Int32.ofNat o)), .val (.int (Int32.ofNat len)), .val .null, .val (.ref s.heap.size)] [.int (Int32.ofNat len), .ref s.heap.size, .ref a])) := c9.trans (by
      refine XS.astore X8.here hexec rfl (hb hbytes d39) rfl rfl rfl ?_
      refine XS.aloadN X8.here hexec rfl (hb hbytes d41) rfl rfl ?_
      refine XS.aload X8.here hexec rfl (hb hbytes d42) rfl rfl ?_
      refine XS.iloadN X8.here hexec rfl (hb hbytes d44) rfl ?_
      exact Steps.refl _)
    rw [n4]; exact hc
  obtain ⟨v11, T11, X11, E11, g11⟩ := X8.callS hexec (CodL.law l s.heap.size N) hown (wks W (staticW "java/lang/String" 47 CodL.yN)) (wk W CodL.tab) (W := 1) (Nat.le_of_ble_eq_true rfl) (Nat.le_of_ble_eq_true rfl) (Nat.le_refl _) (by show 0 + len + 0 ≤ len; omega) (g := (mkF m 45 #[.val (.ref a), .val (.ref b), .val (.int (Int32.ofNat o)), .val (.int (Int32.ofNat len)), .val .null, .val (.ref s.heap.size)] [.int (Int32.ofNat N.slots.size), .ref s.heap.size, .ref a])) rfl (by rw [hml]; rfl) c10 (argsL := [.ref s.heap.size, .int (Int32.ofNat N.slots.size)]) (rest := [.ref a]) rfl rfl (by show 2 * 0 + (1 + 0) ≤ _; decide) (hb hbytes d45) (⟨rfl, n1⟩)
  obtain ⟨rfl, q11⟩ := E11
  have hB11 := hB1.mv (X8.warmed.alike.symm.trans X11.warmed.alike) q11
  have c12 : Steps p.tables e below (s₁.setTop (entryFrame m #[.ref a, .ref b, .int (Int32.ofNat o), .int (Int32.ofNat len), .null] 6)) (T11.setTop (mkF m 48 #[.val (.ref a), .val (.ref b), .val (.int (Int32.ofNat o)), .val (.int (Int32.ofNat len)), .val .null, .val (.ref s.heap.size)] [.int 0, .ref a])) := g11
  obtain ⟨T13, X13, p13, bl13, sl13, st13⟩ := X11.finit hexec hown (wk W (.fieldLink "java/lang/String" 15 "java/lang/String" "coder" "B")) (Or.inr ⟨_, (wk W (.laysFinal "java/lang/String" "java/lang/String" "coder" "B"))⟩) (Or.inl ⟨rfl, hnm⟩) f2 (Or.inl rfl) hB11 (t := .byte) (by decide +kernel) rfl (g := (mkF m 48 #[.val (.ref a), .val (.ref b), .val (.int (Int32.ofNat o)), .val (.int (Int32.ofNat len)), .val .null, .val (.ref s.heap.size)] [.int 0, .ref a])) rfl (rest := []) rfl (hb hbytes d48)
  have c14 : Steps p.tables e below (s₁.setTop (entryFrame m #[.ref a, .ref b, .int (Int32.ofNat o), .int (Int32.ofNat len), .null] 6)) (T13.setTop (mkF m 54 #[.val (.ref a), .val (.ref b), .val (.int (Int32.ofNat o)), .val (.int (Int32.ofNat len)), .val .null, .val (.ref s.heap.size)] [.ref s.heap.size, .ref a])) := (c12.trans (st13 _ (Steps.refl _))).trans (by
    refine XS.aloadN X13.here hexec rfl (hb hbytes d51) rfl rfl ?_
    refine XS.aload X13.here hexec rfl (hb hbytes d52) rfl rfl ?_
    exact Steps.refl _)
  obtain ⟨T15, X15, p15, bl15, sl15, st15⟩ := X13.finit hexec hown (wk W (.fieldLink "java/lang/String" 9 "java/lang/String" "value" "[B")) (Or.inr ⟨_, (wk W (.laysFinal "java/lang/String" "java/lang/String" "value" "[B"))⟩) (Or.inl ⟨rfl, hnm⟩) f1 (Or.inl rfl) bl13 (t := (.array .byte)) (by decide +kernel) rfl (g := (mkF m 54 #[.val (.ref a), .val (.ref b), .val (.int (Int32.ofNat o)), .val (.int (Int32.ofNat len)), .val .null, .val (.ref s.heap.size)] [.ref s.heap.size, .ref a])) rfl (rest := []) rfl (hb hbytes d54)
  have c16 : Steps p.tables e below (s₁.setTop (entryFrame m #[.ref a, .ref b, .int (Int32.ofNat o), .int (Int32.ofNat len), .null] 6)) (T15.setTop (mkF m 57 #[.val (.ref a), .val (.ref b), .val (.int (Int32.ofNat o)), .val (.int (Int32.ofNat len)), .val .null, .val (.ref s.heap.size)] [])) := c14.trans (st15 _ (Steps.refl _))
  have ap := apart (Or.inr ⟨_, (wk W (.laysFinal "java/lang/String" "java/lang/String" "value" "[B"))⟩) (Or.inr ⟨_, (wk W (.laysFinal "java/lang/String" "java/lang/String" "coder" "B"))⟩) f1 f2 (t₁ := .array .byte) (t₂ := .byte) (by decide +kernel) (by decide +kernel) (by decide)
  have al := X8.warmed.alike.symm.trans X15.warmed.alike
  have n7 : T11.heap[s.heap.size]? = some N := by rw [q11]; exact n1.1
  exact ⟨T15, none, _, _, _, X15, by simp, rfl, by omega, (fun _ => rfl), ⟨rfl, _, N, bl15, ((Same.refl D _).set _ (by simp)).set _ (by simp), sl15, (Cell.slots_setSlot_ne _ ap).trans sl13, n1.keep al (p15.other hne (p13.other hne n7)), n2, by rw [al.findClass]; exact n3, n4, n5, fun y c h1 h2 => p15.other h1 (p13.other h1 (by rw [q11]; exact n6 y c h2)), by rw [p15.2.2, p13.2.2, q11]; exact z8⟩, fun fs hl => c16.trans (X15.returnOut hexec hret (hb hbytes d57) hl)⟩
end New4
namespace New1
def yN : MethodName := ⟨"java/lang/String", "<init>", "([C)V"⟩
abbrev yB : ByteArray := jdk_42_method_3_code
theorem d0 : decode yB 0 = .ok (.aload_n 0, 1) := by decide +kernel
theorem d1 : decode yB 1 = .ok (.aload_n 1, 1) := by decide +kernel
theorem d2 : decode yB 2 = .ok (.iconst 0, 1) := by decide +kernel
theorem d3 : decode yB 3 = .ok (.aload_n 1, 1) := by decide +kernel
theorem d4 : decode yB 4 = .ok (.arraylength, 1) := by decide +kernel
theorem d5 : decode yB 5 = .ok (.aconst_null, 1) := by decide +kernel
theorem d6 : decode yB 6 = .ok (.invokespecial 27, 3) := by decide +kernel
theorem d9 : decode yB 9 = .ok (.return_, 1) := by decide +kernel
def site : List Cond := [New4.tab] ++ initW "java/lang/String" 27 New4.yN
def tab : Cond := tabOf yN yB 2 none site
def P (a : Addr) (D : Cell) (fV fC : Field) (b : Addr) (A : Cell) (z : Int32) (args : Array Value) (s : State) : Prop := args = #[.ref a, .ref b] ∧ Blank "java/lang/String" a D s ∧ Found "java/lang/String" "value" "[B" fV s ∧ Found "java/lang/String" "coder" "B" fC s ∧ Ch b A s ∧ StaticIs s "java/lang/String" "COMPACT_STRINGS" "Z" (.int z) ∧ ¬ z = 0 ∧ 0 < A.slots.size ∧ A.slots.size ≤ 536870912 ∧ ∀ i, i < A.slots.size → ¬ 255 < cv A i
def E (a : Addr) (D : Cell) (fV fC : Field) (A : Cell) (r : Option Value) (s u : State) : Prop := Got a D fV fC A 0 A.slots.size r s u
/-- new String(chars), not empty, no char above 255: a Latin-1 String of their low bytes -/
theorem law (l : Launch) (a : Addr) (D : Cell) (fV fC : Field) (b : Addr) (A : Cell) (z : Int32) : Law l yN 2 1 3 52 yB 2 none site (P a D fV fC b A z) (E a D fV fC A) [⟨a, fC.slot⟩, ⟨a, fV.slot⟩] 1 A.slots.size := by
  refine Law.of_walk (plainFor_of_name (by decide +kernel)) (by decide +kernel) (by decide +kernel) (by decide) (fun _ _ h => by rw [h.1]; rfl) (fun _ U U' hal hh h => ⟨h.1, h.2.1.mv hal hh, h.2.2.1.al hal, h.2.2.2.1.al hal, h.2.2.2.2.1.mv hal hh, h.2.2.2.2.2.1.there hal hh, h.2.2.2.2.2.2⟩) (fun r U U' V V' h1 hal h2 h => Got.mv r U U' V V' h1 hal h2 h) ?_
  intro p e s m args below meth c s₁ X0 hexec hbytes hml hret hlk hnm hown hh0 W hP
  obtain ⟨rfl, hB, f1, f2, hA, s1, hz, l0, l2, hp⟩ := hP
  have c1 : Steps p.tables e below (s₁.setTop (entryFrame m #[.ref a, .ref b] 2)) (s₁.setTop (mkF m 0 #[.val (.ref a), .val (.ref b)] [])) := entry rfl
  have c2 : Steps p.tables e below (s₁.setTop (entryFrame m #[.ref a, .ref b] 2)) (s₁.setTop (mkF m 6 #[.val (.ref a), .val (.ref b)] [.null, .int (Int32.ofNat A.slots.size), .int 0, .ref b, .ref a])) := c1.trans (by
    refine XS.aloadN X0.here hexec rfl (hb hbytes d0) rfl rfl ?_
    refine XS.aloadN X0.here hexec rfl (hb hbytes d1) rfl rfl ?_
    refine iconstV X0.here hexec rfl 0 (hb hbytes d2) (by decide) ?_
    refine XS.aloadN X0.here hexec rfl (hb hbytes d3) rfl rfl ?_
    refine X0.alen hexec (hA.1.mv X0.warmed.alike hh0) rfl rfl (hb hbytes d4) ?_
    refine XS.aconstNull X0.here hexec rfl (hb hbytes d5) ?_
    exact Steps.refl _)
  obtain ⟨v3, T3, X3, E3, g3⟩ := X0.callN hexec (New4.law l a D fV fC b A z 0 A.slots.size) rfl hown (wks W (initW "java/lang/String" 27 New4.yN)) (W New4.tab (by simp only [site, List.mem_cons, List.mem_append, true_or, or_true])) (W := 0) (Nat.le_of_ble_eq_true rfl) (Nat.le_of_ble_eq_true rfl) (Nat.le_refl _) (by show 0 + A.slots.size ≤ A.slots.size; omega) (g := (mkF m 6 #[.val (.ref a), .val (.ref b)] [.null, .int (Int32.ofNat A.slots.size), .int (Int32.ofNat 0), .ref b, .ref a])) rfl (by rw [hml]; rfl) c2 (argsL := [.ref b, .int (Int32.ofNat 0), .int (Int32.ofNat A.slots.size), .null]) (rest := []) rfl rfl (by show 2 * 0 + 0 ≤ _; decide) (hb hbytes d6) (⟨rfl, hB.mv X0.warmed.alike hh0, f1.al X0.warmed.alike, f2.al X0.warmed.alike, hA.mv X0.warmed.alike hh0, s1.there X0.warmed.alike hh0, hz, l0, by omega, l2, fun i hi => by rw [Nat.zero_add]; exact hp i hi⟩)
  have e0 := Got.mv _ s₁ s _ _ hh0.symm (Vm.Alike.refl _) rfl E3
  obtain rfl := e0.1
  have c4 : Steps p.tables e below (s₁.setTop (entryFrame m #[.ref a, .ref b] 2)) (T3.setTop (mkF m 9 #[.val (.ref a), .val (.ref b)] [])) := g3
  exact ⟨T3, none, _, _, _, X3, by simp, rfl, by omega, (fun _ => rfl), e0, fun fs hl => c4.trans (X3.returnOut hexec hret (hb hbytes d9) hl)⟩
theorem pays {l : Launch} {R : Room} {p : Program} {e : Env} {below : List Frame} {s : State} {sargs : Array Value} {len W : Nat} (a : Addr) (D : Cell) (fV fC : Field) (b : Addr) (A : Cell) (z : Int32) (htab : tab.before sargs s = true) (hfr : 4 ≤ R.frames) (hlo : W + 65 ≤ R.locals) :
    Back l R p e below s sargs yN len W (fun A₁ a₁ => A₁.cells + 1 ≤ R.cells ∧ A₁.slots + A.slots.size ≤ R.slots ∧ P a D fV fC b A z a₁ A₁.U) (fun A₁ _ v₁ B₁ => E a D fV fC A v₁ A₁.U B₁.U ∧ B₁.locs = A₁.locs ++ [⟨a, fC.slot⟩, ⟨a, fV.slot⟩] ∧ B₁.cells = A₁.cells + 1 ∧ B₁.slots = A₁.slots + A.slots.size) :=
  (law l a D fV fC b A z).pays htab hfr (by omega)
end New1
/-- the byte, read back as charAt reads it, is the char -/
theorem lo8_mask {x : Int32} (h0 : ¬ x < 0) (h1 : ¬ 255 < x) : lo8 x &&& 255 = x := by
  have t : ∀ k : Fin 256, lo8 (Int32.ofNat k.val) &&& 255 = Int32.ofNat k.val := by decide +kernel
  rw [Int32.lt_iff_toInt_lt] at h0 h1
  have e0 : (0 : Int32).toInt = 0 := rfl
  have e1 : (255 : Int32).toInt = 255 := rfl
  obtain ⟨k, hk⟩ : ∃ k : Nat, x.toInt = k := ⟨x.toInt.toNat, by omega⟩
  have hx : x = Int32.ofNat k := Int32.toInt_inj.mp (by rw [hk, Int32.toInt_ofNat_small (by omega)])
  rw [hx]
  exact t ⟨k, by omega⟩
end StrChars
namespace StrChars.Road
open Jvm Sem ClassFile Op Lib Jvm.Stand Jvm.Free Jvm.Free.XT
open Jvm.Lib.Cold (StaticIs)
abbrev ST : String := "java/lang/String"
/-- every table word that New1's law asks, flat -/
abbrev words : List Jvm.Cond := [.code New1.yN New1.yB 2 none, .initialized ST, .methodLink ST 27 New4.yN, .instanceMethod New4.yN,
  .code New4.yN New4.yB 6 none, .fieldLink ST 38 ST "COMPACT_STRINGS" "Z", .laysFinal ST ST "value" "[B", .fieldLink ST 9 ST "value" "[B", .laysFinal ST ST "coder" "B", .fieldLink ST 15 ST "coder" "B",
  .methodLink ST 1 Lib.objectInit, .instanceMethod Lib.objectInit, .code Lib.objectInit ⟨#[0xb1]⟩ 1 none, .methodLink ST 177 Cmp3.yN, .static Cmp3.yN, .methodLink ST 47 CodL.yN, .static CodL.yN,
  .code Cmp3.yN Cmp3.yB 6 (some (.array .byte)), .initialized U16, .arrayClass .byte, .methodLink U16 115 Cmp5.yN, .static Cmp5.yN, .code Cmp5.yN Cmp5.yB 7 (some .int), .code CodL.yN CodL.yB 2 (some .byte)]
theorem tab_of {a : Array Value} {s : State} (h : ∀ w ∈ words, w.before a s = true) : New1.tab.before a s = true := by
  have h5 : Cmp5.tab.before a s = true := unparts (wk h (.code Cmp5.yN Cmp5.yB 7 (some .int))) (wks h (.initialized Cmp5.yN.cls :: Cmp5.site))
  have hc : CodL.tab.before a s = true := unparts (wk h (.code CodL.yN CodL.yB 2 (some .byte))) (wks h (.initialized CodL.yN.cls :: CodL.site))
  have q5 : ∀ w ∈ Cmp5.tab :: words, w.before a s = true := fun w hw => (List.mem_cons.mp hw).elim (fun e => e ▸ h5) (h w)
  have h3 : Cmp3.tab.before a s = true := unparts (wk q5 (.code Cmp3.yN Cmp3.yB 6 (some (.array .byte)))) (wks q5 (.initialized Cmp3.yN.cls :: Cmp3.site))
  have q3 : ∀ w ∈ Cmp3.tab :: CodL.tab :: words, w.before a s = true := fun w hw => (List.mem_cons.mp hw).elim (fun e => e ▸ h3) fun hw => (List.mem_cons.mp hw).elim (fun e => e ▸ hc) (h w)
  have h4 : New4.tab.before a s = true := unparts (wk q3 (.code New4.yN New4.yB 6 none)) (wks q3 (.initialized New4.yN.cls :: New4.site))
  have q4 : ∀ w ∈ New4.tab :: words, w.before a s = true := fun w hw => (List.mem_cons.mp hw).elim (fun e => e ▸ h4) (h w)
  exact unparts (wk q4 (.code New1.yN New1.yB 2 none)) (wks q4 (.initialized New1.yN.cls :: New1.site))
/-- the words ride from the start Z to the walk's own state -/
theorem moved {Z s : State} {a0 args : Array Value} (hZ : Z.Warmed39 s.vm) (hw : ∀ d ∈ words, d.before a0 Z = true) : ∀ d ∈ words, d.before args s = true := fun d hd => by
  have q := hw d hd
  have t : ∀ d ∈ words, d = .arrayClass .byte ∨ (d.onTables && d.keepsFace) = true := by decide +kernel
  rcases t d hd with rfl | t
  · exact RoadKit.mvA hZ q
  · exact RoadKit.mv hZ q t
/-- WHAT COMES BACK, over the tables of the start Z: h the heap at the call, h' behind it -/
def Q (Z : State) (x : Addr) (A : Cell) (h : Heap) (v : Option Value) (h' : Heap) (L : List Loc) : Prop := v = none ∧ (∀ y ∈ L, y.base = x) ∧ RoadKit.Keep h h' [x] ∧ h'.size = h.size + 1 ∧ RoadKit.Exa Z h' x ST ∧ RoadKit.Fld Z h' x ST "value" "[B" (.ref h.size) ∧ RoadKit.Fld Z h' x ST "coder" "B" (.int 0) ∧
  (∃ V : Cell, RoadKit.Arr Z h' h.size V .byte ∧ V.vm = .none ∧ Z.vm.findClass "[B" = some V.cls ∧ V.slots.size = A.slots.size ∧ ∀ j, j < A.slots.size → V.slots[j]? = some (.int (lo8 (cv A j)))) ∧
  ∀ (O n d : String) (w : Value), RoadKit.Fld Z h x O n d w → RoadKit.slotOf Z O n d ≠ RoadKit.slotOf Z ST "value" "[B" → RoadKit.slotOf Z O n d ≠ RoadKit.slotOf Z ST "coder" "B" → RoadKit.Fld Z h' x O n d w
/-- **new String(chars) AT A CALL, IN THE ROAD'S FORM**: for specialBack behind newO: x the fresh String, b the char[] with the cell A -/
theorem back {p : Program} {l : Launch} {e : Env} {R : Room} {s : State} {args : Array Value} {below : List Frame} {len W : Nat} {Z : State} {a0 : Array Value} {h : Heap} (hZ : Z.Warmed39 s.vm) (hw : ∀ d ∈ words, d.before a0 Z = true) {kI : Nat} (wi : (Jvm.Cond.instantiable ST kI).before a0 Z = true)
    {x b : Addr} {A : Cell} {z : Int32} {v0 c0 : Value} (E : RoadKit.Exa Z h x ST) (V : RoadKit.Fld Z h x ST "value" "[B" v0) (C : RoadKit.Fld Z h x ST "coder" "B" c0) (K : RoadKit.Arr Z h b A .char) (hty : Typed .char A) (S : RoadKit.Sta Z h ST "COMPACT_STRINGS" "Z" (.int z)) (hz : ¬ z = 0)
    (l0 : 0 < A.slots.size) (l2 : A.slots.size ≤ 536870912) (hp : ∀ i, i < A.slots.size → ¬ 255 < cv A i) (hfr : 4 ≤ R.frames) (hlo : W + 65 ≤ R.locals) :
    Back l R p e below s args New1.yN len W (fun P a => a = #[.ref x, .ref b] ∧ P.U.heap = h ∧ P.cells + 1 ≤ R.cells ∧ P.slots + A.slots.size ≤ R.slots)
      (fun P _ v B => ∃ L, Q Z x A h v B.U.heap L ∧ B.locs = P.locs ++ L ∧ B.cells = P.cells + 1 ∧ B.slots = P.slots + A.slots.size) := by
  intro m meth c P g ig mk a X hg hsize hdg hW hn hp'
  obtain ⟨rfl, rfl, r1, r2⟩ := hp'
  have al : Z.vm.Alike P.U.vm := hZ.alike.trans X.warmed.alike
  obtain ⟨D, cfV, kV, iV, fV, hD, gV, stV, knV, obV, asV, slV⟩ := id V
  obtain ⟨D', cfC, kC, iC, fC, hD', gC, stC, -, -, asC, slC⟩ := id C
  cases hD.symm.trans hD'
  obtain ⟨D2, kD, e1, e2, e3, e4, e5⟩ := id E
  cases hD.symm.trans e1
  obtain ⟨c2, k2, i1, i2, i3, -⟩ := Cond.instantiable_spec wi
  cases e2.symm.trans i1
  cases e3.symm.trans i2
  obtain ⟨kU, u1, u2⟩ := al.2.2 _ _ e3
  have hB : Blank ST x D P.U := ⟨hD, ⟨knV, fun q hq => by rw [hq] at obV; cases obV⟩, by rw [al.findClass]; exact e2, kU, u1, by rw [u2]; exact i3, by rw [u2]; exact e5 i3⟩
  have F1 : Found ST "value" "[B" fV P.U := ⟨SBG.found_only al ⟨cfV, kV, iV, gV⟩, stV⟩
  have F2 : Found ST "coder" "B" fC P.U := ⟨SBG.found_only al ⟨cfC, kC, iC, gC⟩, stC⟩
  have hA : Ch b A P.U := ⟨⟨K.1, State.isArrayOf_alike al K.2.1, K.2.2, by omega⟩, hty⟩
  have hS : StaticIs P.U ST "COMPACT_STRINGS" "Z" (.int z) := by
    obtain ⟨cfS, iS, kS, fS, st, cS, t1, t2, t3, t4, t5, t6, t7⟩ := S
    exact StaticIs.there (s := { Z with heap := P.U.heap }) ⟨cfS, iS, kS, fS, st, cS, t1, t2, t3, t4, t5, (fun q => by rw [q] at t6; cases t6), t7⟩ al rfl
  obtain ⟨v, B, X', ⟨⟨hv, E', V', q1, q2, q3, q4, q5, q6, q7, q8, q9, q10, q11⟩, hl, hc, hs⟩, st⟩ := New1.pays x D fV fC b A z (tab_of (moved hZ hw)) hfr hlo m meth c P g ig mk _ X hg hsize hdg hW hn ⟨r1, r2, rfl, hB, F1, F2, hA, hS, hz, l0, l2, hp⟩
  have al' : Z.vm.Alike B.U.vm := hZ.alike.trans X'.warmed.alike
  have hsz : E'.slots.size = D.slots.size := by
    obtain ⟨-, -, -, kB, w1, w2, w3⟩ := q1
    obtain ⟨kB', y1, y2⟩ := al'.2.2 _ _ e3
    rw [q2.2.1] at w1
    cases w1.symm.trans y1
    rw [w3, e5 i3, y2]
  refine ⟨v, B, X', ⟨_, ⟨hv, ?_, ⟨by omega, fun y cy hy hn' => q10 y cy (by simpa using hn') hy, fun y cy hy => ?_⟩, q11, ⟨E', _, q1.1, by rw [q2.2.1]; exact e2, by rw [q2.2.1]; exact e3, by rw [q2.1]; exact obV, fun _ => by rw [hsz]; exact e5 i3⟩,
    ⟨E', cfV, kV, iV, fV, q1.1, gV, stV, by rw [q2.1]; exact knV, by rw [q2.1]; exact obV, by rw [q2.2.1]; exact asV, q3⟩, ⟨E', cfC, kC, iC, fC, q1.1, gC, stC, by rw [q2.1]; exact knV, by rw [q2.1]; exact obV, by rw [q2.2.1]; exact asC, q4⟩,
    ⟨V', ⟨q5.1, State.isArrayOf_alike al'.symm q5.2.1, q5.2.2.1⟩, q6, by rw [← al'.findClass]; exact q7, q8, fun j hj => by have := q9 j hj; rwa [Nat.zero_add] at this⟩, fun O n d w F n1 n2 => ?_⟩, hl, hc, hs⟩, st⟩
  · intro y hy
    simp only [List.mem_cons, List.not_mem_nil, or_false] at hy
    rcases hy with rfl | rfl <;> rfl
  · by_cases q : y = x
    · subst q
      cases hD.symm.trans hy
      exact ⟨E', q1.1, q2.2.1, q2.1, hsz⟩
    · exact ⟨cy, q10 y cy q hy, rfl, rfl, rfl⟩
  · obtain ⟨D3, cf, k, i, f, g1, g2, g3, g4, g5, g6, g7⟩ := F
    cases hD.symm.trans g1
    simp only [RoadKit.slotOf, g2, gV, gC, Option.map_some, Option.getD_some] at n1 n2
    exact ⟨E', cf, k, i, f, q1.1, g2, g3, by rw [q2.1]; exact g4, by rw [q2.1]; exact g5, by rw [q2.2.1]; exact g6, by rw [q2.2.2 f.slot (by simp [n1, n2])]; exact g7⟩
end StrChars.Road
namespace StrChars.Road
open Jvm Sem ClassFile Op Lib Jvm.Stand Jvm.Free Jvm.Free.XT
/-- WHAT COMES BACK, the byte[] as a list of values -/
def QA (Z : State) (x : Addr) (zn : Int32) (cs : List Int32) (h : Heap) (v : Option Value) (h' : Heap) (L : List Loc) : Prop := v = none ∧ (∀ y ∈ L, y.base = x) ∧ RoadKit.Keep h h' [x] ∧ h'.size = h.size + 1 ∧ RoadKit.Exa Z h' x ST ∧ RoadKit.Fld Z h' x ST "value" "[B" (.ref h.size) ∧ RoadKit.Fld Z h' x ST "coder" "B" (.int 0) ∧
  (∃ kb, Z.vm.findClass "[B" = some kb ∧ RoadKit.Arv Z h' h.size kb .byte zn (cs.map fun c => .int (lo8 c)) (.int 0)) ∧
  ∀ (O n d : String) (w : Value), RoadKit.Fld Z h x O n d w → RoadKit.slotOf Z O n d ≠ RoadKit.slotOf Z ST "value" "[B" → RoadKit.slotOf Z O n d ≠ RoadKit.slotOf Z ST "coder" "B" → RoadKit.Fld Z h' x O n d w
/-- **new String(chars) AT A CALL, THE ARRAYS AS LISTS**: the char[] at b holds cs, not empty, no char above 255 -/
theorem backArv {p : Program} {l : Launch} {e : Env} {R : Room} {s : State} {args : Array Value} {below : List Frame} {len W : Nat} {Z : State} {a0 : Array Value} {h : Heap} (hZ : Z.Warmed39 s.vm) (hw : ∀ d ∈ words, d.before a0 Z = true) {kI : Nat} (wi : (Jvm.Cond.instantiable ST kI).before a0 Z = true)
    {x b : Addr} {k : ClassId} {zn z : Int32} {cs : List Int32} {dv v0 c0 : Value} (E : RoadKit.Exa Z h x ST) (V : RoadKit.Fld Z h x ST "value" "[B" v0) (C : RoadKit.Fld Z h x ST "coder" "B" c0) (K : RoadKit.Arv Z h b k .char zn (cs.map Value.int) dv) (S : RoadKit.Sta Z h ST "COMPACT_STRINGS" "Z" (.int z)) (hz : ¬ z = 0)
    (hlen : zn.toNatClampNeg = cs.length) (h0 : 0 < cs.length) (hbig : cs.length ≤ 536870912) (hall : ∀ c ∈ cs, ¬ 255 < c) (hfr : 4 ≤ R.frames) (hlo : W + 65 ≤ R.locals) :
    Back l R p e below s args New1.yN len W (fun P a => a = #[.ref x, .ref b] ∧ P.U.heap = h ∧ P.cells + 1 ≤ R.cells ∧ P.slots + cs.length ≤ R.slots)
      (fun P _ v B => ∃ L, QA Z x zn cs h v B.U.heap L ∧ B.locs = P.locs ++ L ∧ B.cells = P.cells + 1 ∧ B.slots = P.slots + cs.length) := by
  obtain ⟨A, K1, K2, K3, K4, K5, K6⟩ := K
  have e : A.slots.size = cs.length := K3.trans hlen
  have hat : ∀ (i : Nat) (hi : i < cs.length), A.slots[i]? = some (.int cs[i]) := fun i hi => by rw [K5 i (by omega)]; simp [List.getD_eq_getElem?_getD, hi]
  have hcv : ∀ (i : Nat) (hi : i < cs.length), cv A i = cs[i] := fun i hi => by unfold cv; rw [hat i hi]
  have hty : Typed .char A := fun i v hv => by
    have hi : i < A.slots.size := (Array.getElem?_eq_some_iff.mp hv).1
    have q := K5 i hi
    rw [hv] at q
    rw [Option.some.inj q]
    exact K6 i hi
  refine Back.mono (back hZ hw wi E V C K1 hty S hz (by omega) (by omega) (fun i hi => by rw [hcv i (by omega)]; exact hall _ (List.getElem_mem _)) hfr hlo) (fun P a hp => ⟨hp.1, hp.2.1, hp.2.2.1, by rw [e]; exact hp.2.2.2⟩) (fun P a v B hp hq => ?_)
  obtain ⟨L, ⟨q1, q2, q3, q4, q5, q6, q7, ⟨V', v1, v2, v3, v4, v5⟩, q9⟩, hl, hc, hs⟩ := hq
  refine ⟨L, ⟨q1, q2, q3, q4, q5, q6, q7, ⟨V'.cls, v3, V', v1, rfl, by rw [v4, e, hlen], K4, fun i hi => ?_, fun i hi => ?_⟩, q9⟩, hl, hc, by rw [hs, e]⟩
  · have hi' : i < cs.length := by omega
    rw [v5 i (by omega), hcv i hi']; simp [List.getD_eq_getElem?_getD, hi']
  · have hi' : i < cs.length := by omega
    simp only [List.getD_eq_getElem?_getD, List.getElem?_map, List.getElem?_eq_getElem hi', Option.map_some, Option.getD_some]
    exact fits_lo8 _
end StrChars.Road
namespace StrChars.Road
open Jvm Sem ClassFile Op Lib Jvm.Stand Jvm.Free Jvm.Free.XT
/-- WHAT COMES BACK, in the writer's own shape -/
def QV (Z : State) (x : Addr) (N : Int32) (bs : List Int32) (h : Heap) (n0 : Nat) (v : Option Value) (h' : Heap) (L : List Loc) : Prop := v = none ∧ RoadKit.Fr n0 L ∧ RoadKit.Keep h h' [x] ∧ RoadKit.Exa Z h' x ST ∧ RoadKit.Fld Z h' x ST "coder" "B" (.int 0) ∧
  ∃ (t : Addr) (kb : ClassId), n0 ≤ t ∧ h.size ≤ t ∧ ¬ t = x ∧ RoadKit.Fld Z h' x ST "value" "[B" (.ref t) ∧ RoadKit.Arv Z h' t kb .byte N (bs.map Value.int) (.int 0)
/-- **new String(chars) AT A CALL, FOR THE WRITER**: a char[] of n known ints, each 0 to 255 -/
theorem backV {p : Program} {l : Launch} {e : Env} {R : Room} {s : State} {args : Array Value} {below : List Frame} {len W : Nat} {Z : State} {a0 : Array Value} {h : Heap} (hZ : Z.Warmed39 s.vm) (hw : ∀ d ∈ words, d.before a0 Z = true) {kI : Nat} (wi : (Jvm.Cond.instantiable ST kI).before a0 Z = true)
    {x b : Addr} {kC : ClassId} {cs bs : List Int32} {d v0 c0 : Value} {z N : Int32} {n n0 : Nat} (hx0 : n0 ≤ x) (hh0 : n0 ≤ h.size) (E : RoadKit.Exa Z h x ST) (V : RoadKit.Fld Z h x ST "value" "[B" v0) (C : RoadKit.Fld Z h x ST "coder" "B" c0) (K : RoadKit.Arv Z h b kC .char N (cs.map Value.int) d) (S : RoadKit.Sta Z h ST "COMPACT_STRINGS" "Z" (.int z)) (hz : ¬ z = 0)
    (hn : cs.length = n) (hN : N = Int32.ofNat n) (l0 : 0 < n) (l2 : n ≤ 4000) (hp : ∀ c ∈ cs, ¬ c < 0 ∧ ¬ (255 : Int32) < c) (hb : bs = cs.map (fun c => c.toInt8.toInt32)) (hfr : 4 ≤ R.frames) (hlo : W + 65 ≤ R.locals) :
    Back l R p e below s args (⟨"java/lang/String", "<init>", "([C)V"⟩ : MethodName) len W (fun P a => a = #[.ref x, .ref b] ∧ P.U.heap = h ∧ P.cells + 1 ≤ R.cells ∧ P.slots + n ≤ R.slots)
      (fun P _ v B => ∃ L, QV Z x N bs h n0 v B.U.heap L ∧ B.locs = P.locs ++ L ∧ B.cells = P.cells + 1 ∧ B.slots = P.slots + n) := by
  subst hn hN hb
  refine Back.mono (backArv hZ hw wi E V C K S hz (n32 (by omega)) l0 (by omega) (fun c hc => (hp c hc).2) hfr hlo) (fun P a hp => hp) (fun P a v B hp hq => ?_)
  obtain ⟨L, ⟨q1, q2, q3, q4, q5, q6, q7, ⟨kb, v1, v2⟩, q9⟩, hl, hc, hs⟩ := hq
  exact ⟨L, ⟨q1, fun y hy => by rw [q2 y hy]; exact hx0, q3, q5, q7, h.size, kb, hh0, Nat.le_refl _, Nat.ne_of_gt E.lt, q6, by rw [List.map_map]; exact v2⟩, hl, hc, hs⟩
end StrChars.Road
namespace StrChars
open Jvm Sem ClassFile Op Lib Jvm.Stand Jvm.Free.XT Jvm.Free.ALB Jvm.Free.JM Jvm.Free
open Jvm.Lib.Cold (StaticIs)
def hi8 (x : Int32) : Int32 := lo8 (x >>> ((8 : Int32) &&& 31))
/-- what StringUTF16.getChar makes of two bytes -/
def pairCh (u v : Int32) : Int32 := (((u &&& 255) <<< ((0 : Int32) &&& 31)) ||| ((v &&& 255) <<< ((8 : Int32) &&& 31))).toUInt32.toUInt16.toUInt32.toInt32
theorem lo8_and (x : Int32) : (lo8 x &&& 255).toBitVec.toNat = x.toBitVec.toNat % 256 := by
  have h : (lo8 x).toBitVec = (x.toBitVec.signExtend 8).signExtend 32 := by rw [lo8, Int8.toBitVec_toInt32, Int32.toBitVec_toInt8]
  rw [Int32.toBitVec_and, BitVec.toNat_and, h]
  have e : ((x.toBitVec.signExtend 8).signExtend 32).toNat % 256 = x.toBitVec.toNat % 256 := by
    rw [BitVec.toNat_signExtend]
    have hlt := x.toBitVec.isLt
    simp only [BitVec.toNat_setWidth, BitVec.toNat_signExtend]
    split <;> split <;> omega
  rw [← e]
  exact Nat.and_two_pow_sub_one_eq_mod _ 8
theorem pair_says {c : Int32} (h0 : ¬ c < 0) (h1 : ¬ 65535 < c) : pairCh (lo8 c) (hi8 c) = c := by
  rw [Int32.lt_iff_toInt_lt] at h0 h1
  have e0 : (0 : Int32).toInt = 0 := rfl
  have e1 : (65535 : Int32).toInt = 65535 := rfl
  have hc : c.toInt = c.toBitVec.toNat := by
    have := c.toBitVec.isLt
    have e : c.toInt = c.toBitVec.toInt := rfl
    rw [e] at h0 h1
    rw [e]
    rw [BitVec.toInt_eq_toNat_cond] at h0 h1 ⊢
    split at h0 <;> split <;> omega
  have hn : c.toBitVec.toNat < 65536 := by omega
  have a1 := lo8_and c
  have a2 : (hi8 c &&& 255).toBitVec.toNat = c.toBitVec.toNat / 256 := by
    rw [hi8, lo8_and]
    have e : ((8 : Int32) &&& 31) = 8 := by decide
    rw [e, Int32.toBitVec_shiftRight]
    have e2 : ((8 : Int32).toBitVec.smod 32) = 8#32 := by decide
    rw [e2, BitVec.sshiftRight_eq', BitVec.toNat_sshiftRight_of_msb_false (by rw [BitVec.msb_eq_false_iff_two_mul_lt]; omega)]
    show c.toBitVec.toNat >>> 8 % 256 = _
    rw [Nat.shiftRight_eq_div_pow]
    omega
  unfold pairCh
  apply Int32.toBitVec_inj.mp
  apply BitVec.eq_of_toNat_eq
  have f0 : ((0 : Int32) &&& 31) = 0 := by decide
  have f8 : ((8 : Int32) &&& 31) = 8 := by decide
  rw [f0, f8]
  have g : (((lo8 c &&& 255) <<< (0 : Int32)) ||| ((hi8 c &&& 255) <<< (8 : Int32))).toBitVec.toNat = c.toBitVec.toNat := by
    rw [Int32.toBitVec_or, Int32.toBitVec_shiftLeft, Int32.toBitVec_shiftLeft]
    have s0 : ((0 : Int32).toBitVec.smod 32) = 0#32 := by decide
    have s8 : ((8 : Int32).toBitVec.smod 32) = 8#32 := by decide
    rw [s0, s8, BitVec.toNat_or]
    simp only [BitVec.shiftLeft_eq', BitVec.toNat_shiftLeft, a1, a2]
    show (c.toBitVec.toNat % 256) <<< 0 % 2 ^ 32 ||| (c.toBitVec.toNat / 256) <<< 8 % 2 ^ 32 = _
    rw [Nat.shiftLeft_zero, Nat.mod_eq_of_lt (show c.toBitVec.toNat % 256 < 2 ^ 32 by omega), Nat.mod_eq_of_lt (show (c.toBitVec.toNat / 256) <<< 8 < 2 ^ 32 by rw [Nat.shiftLeft_eq]; omega), Nat.or_comm, ← Nat.shiftLeft_add_eq_or_of_lt (by omega), Nat.shiftLeft_eq]
    omega
  show BitVec.toNat (((((lo8 c &&& 255) <<< (0 : Int32)) ||| ((hi8 c &&& 255) <<< (8 : Int32))).toBitVec.setWidth 16).setWidth 32) = _
  rw [BitVec.toNat_setWidth, BitVec.toNat_setWidth, g]
  omega
end StrChars
namespace StrChars
open Jvm Sem ClassFile Op Lib Jvm.Stand Jvm.Free.XT Jvm.Free.ALB Jvm.Free.JM Jvm.Free
open Jvm.Lib.Cold (StaticIs)
/-- the array's cell V codes the n chars f 0 .. f (n - 1) by the coder cd, as the JDK does: coder 1 just where some char is above 255 -/
def Cod (cd : Int32) (n : Nat) (f : Nat → Int32) (V : Cell) : Prop := (cd = 0 ∧ V.slots.size = n ∧ ∀ j, j < n → V.slots[j]? = some (.int (lo8 (f j))) ∧ ¬ 255 < f j) ∨ (cd = 1 ∧ V.slots.size = 2 * n ∧ (∀ j, j < n → V.slots[2 * j]? = some (.int (lo8 (f j))) ∧ V.slots[2 * j + 1]? = some (.int (hi8 (f j)))) ∧ ∃ j, j < n ∧ 255 < f j)
/-- **x is a String of the n chars f 0 .. f (n - 1)**, Latin-1 or UTF-16; its array at t has the cell V -/
def Txt (x t : Addr) (V : Cell) (cd : Int32) (n : Nat) (f : Nat → Int32) (U : State) : Prop := Exact "java/lang/String" x U ∧ Has x "java/lang/String" "value" "[B" (.ref t) U ∧ Has x "java/lang/String" "coder" "B" (.int cd) U ∧ XT.Arr .byte t V U ∧ Cod cd n f V ∧ ∀ j, j < n → ¬ f j < 0 ∧ ¬ 65535 < f j
theorem Txt.mv {x t : Addr} {V : Cell} {cd : Int32} {n : Nat} {f : Nat → Int32} {U U' : State} (h : Txt x t V cd n f U) (hal : U.vm.Alike U'.vm) (hh : U'.heap = U.heap) : Txt x t V cd n f U' := ⟨h.1.mv hal hh, h.2.1.mv hal hh, h.2.2.1.mv hal hh, h.2.2.2.1.mv hal hh, h.2.2.2.2⟩
end StrChars
namespace StrChars.Road
open Jvm Sem ClassFile Op Lib Jvm.Stand Jvm.Free Jvm.Free.XT
open Jvm.Lib.Cold (StaticIs)
theorem consq {a : Array Value} {s : State} {c : Jvm.Cond} {L : List Jvm.Cond} (h0 : c.before a s = true) (h : ∀ w ∈ L, w.before a s = true) : ∀ w ∈ c :: L, w.before a s = true := fun w hw => (List.mem_cons.mp hw).elim (fun e => e ▸ h0) (h w)
/-- the bytes of the chars cs, low before high -/
def wideBytes : List Int32 → List Value
  | [] => []
  | c :: cs => .int (lo8 c) :: .int (hi8 c) :: wideBytes cs
theorem wide_lo (d : Value) : ∀ (cs : List Int32) (j : Nat), j < cs.length → (wideBytes cs).getD (2 * j) d = .int (lo8 (cs.getD j 0))
  | [], j, h => absurd h (Nat.not_lt_zero j)
  | c :: cs, 0, _ => rfl
  | c :: cs, j + 1, h => by
    have q := wide_lo d cs j (by simpa using h)
    rw [show 2 * (j + 1) = 2 * j + 1 + 1 from by omega]
    simpa [wideBytes] using q
theorem wide_hi (d : Value) : ∀ (cs : List Int32) (j : Nat), j < cs.length → (wideBytes cs).getD (2 * j + 1) d = .int (hi8 (cs.getD j 0))
  | [], j, h => absurd h (Nat.not_lt_zero j)
  | c :: cs, 0, _ => rfl
  | c :: cs, j + 1, h => by
    have q := wide_hi d cs j (by simpa using h)
    rw [show 2 * (j + 1) + 1 = 2 * j + 1 + 1 + 1 from by omega]
    simpa [wideBytes] using q
theorem low_at (d : Value) (cs : List Int32) (j : Nat) (h : j < cs.length) : (cs.map fun c => Value.int (lo8 c)).getD j d = .int (lo8 (cs.getD j 0)) := by
  simp [List.getD_eq_getElem?_getD, h]
/-- an array of N2 bytes vs codes the chars cs by the coder cd -/
def CodA (cs : List Int32) (cd N2 : Int32) (vs : List Value) : Prop := (cd = 0 ∧ N2 = Int32.ofNat cs.length ∧ vs = (cs.map fun c => Value.int (lo8 c)) ∧ ∀ c ∈ cs, ¬ 255 < c) ∨ (cd = 1 ∧ N2 = Int32.ofNat (2 * cs.length) ∧ vs = wideBytes cs ∧ ∃ c ∈ cs, 255 < c)
theorem CodA.cod {cs : List Int32} {cd N2 : Int32} {vs : List Value} {V : Cell} (h : CodA cs cd N2 vs) (hn : 2 * cs.length < 2 ^ 31) (hs : V.slots.size = N2.toNatClampNeg) (hv : RoadKit.Has V vs (.int 0)) : Cod cd cs.length (fun j => cs.getD j 0) V := by
  rcases h with ⟨rfl, rfl, rfl, h⟩ | ⟨rfl, rfl, rfl, c, hc, hw⟩
  · rw [n32 (by omega)] at hs
    exact Or.inl ⟨rfl, hs, fun j hj => ⟨by rw [hv j (by omega), low_at _ _ _ hj], by
      have e : cs.getD j 0 = cs[j] := by simp [List.getD_eq_getElem?_getD, hj]
      show ¬ 255 < cs.getD j 0
      rw [e]; exact h _ (List.getElem_mem _)⟩⟩
  · rw [n32 (by omega)] at hs
    obtain ⟨j, hj, rfl⟩ := List.getElem_of_mem hc
    exact Or.inr ⟨rfl, hs, fun j hj => ⟨by rw [hv _ (by omega), wide_lo _ _ _ hj], by rw [hv _ (by omega), wide_hi _ _ _ hj]⟩, j, hj, by
      have e : cs.getD j 0 = cs[j] := by simp [List.getD_eq_getElem?_getD, hj]
      show 255 < cs.getD j 0
      rw [e]; exact hw⟩
/-- an object of exactly java/lang/String, its two fields found: as the laws ask it -/
theorem strObj {Z U : State} {a0 : Array Value} {kI : Nat} (wi : (Jvm.Cond.instantiable ST kI).before a0 Z = true) (al : Z.vm.Alike U.vm) {x : Addr} {v0 c0 : Value} (E : RoadKit.Exa Z U.heap x ST) (V : RoadKit.Fld Z U.heap x ST "value" "[B" v0) (C : RoadKit.Fld Z U.heap x ST "coder" "B" c0) :
    ∃ (D : Cell) (fV fC : Field), Blank ST x D U ∧ Found ST "value" "[B" fV U ∧ Found ST "coder" "B" fC U ∧ D.slots[fV.slot]? = some v0 ∧ D.slots[fC.slot]? = some c0 ∧ RoadKit.slotOf Z ST "value" "[B" = fV.slot ∧ RoadKit.slotOf Z ST "coder" "B" = fC.slot := by
  obtain ⟨D, cfV, kV, iV, fV, hD, gV, stV, knV, obV, asV, slV⟩ := V
  obtain ⟨D', cfC, kC, iC, fC, hD', gC, stC, -, -, asC, slC⟩ := C
  cases hD.symm.trans hD'
  obtain ⟨D2, kD, e1, e2, e3, e4, e5⟩ := E
  cases hD.symm.trans e1
  obtain ⟨c2, k2, i1, i2, i3, -⟩ := Cond.instantiable_spec wi
  cases e2.symm.trans i1
  cases e3.symm.trans i2
  obtain ⟨kU, u1, u2⟩ := al.2.2 _ _ e3
  exact ⟨D, fV, fC, ⟨hD, ⟨knV, fun q hq => by rw [hq] at obV; cases obV⟩, by rw [al.findClass]; exact e2, kU, u1, by rw [u2]; exact i3, by rw [u2]; exact e5 i3⟩, ⟨SBG.found_only al ⟨cfV, kV, iV, gV⟩, stV⟩, ⟨SBG.found_only al ⟨cfC, kC, iC, gC⟩, stC⟩, slV, slC, by simp [RoadKit.slotOf, gV], by simp [RoadKit.slotOf, gC]⟩
theorem sta_is {Z U : State} (al : Z.vm.Alike U.vm) {C n d : String} {v : Value} (S : RoadKit.Sta Z U.heap C n d v) : StaticIs U C n d v := by
  obtain ⟨cfS, iS, kS, fS, st, cS, t1, t2, t3, t4, t5, t6, t7⟩ := S
  exact StaticIs.there (s := { Z with heap := U.heap }) ⟨cfS, iS, kS, fS, st, cS, t1, t2, t3, t4, t5, (fun q => by rw [q] at t6; cases t6), t7⟩ al rfl
end StrChars.Road
namespace StrChars
open Jvm Sem ClassFile Op Lib Jvm.Stand Jvm.Free.XT Jvm.Free.ALB Jvm.Free.JM Jvm.Free
open Jvm.Lib.Cold (StaticIs)
/-- what place i of a byte[]'s cell holds -/
def yv (A : Cell) (i : Nat) : Int32 := match A.slots[i]? with | some (.int x) => x | _ => 0
theorem yv_get {a : Addr} {A : Cell} {U : State} (h : XT.Arr .byte a A U) (ht : Typed .byte A) {i : Nat} (hi : i < A.slots.size) : A.slots[i]? = some (.int (yv A i)) := by
  have e := Array.getElem?_eq_getElem hi
  have f := ht i _ e
  unfold yv; rw [e]
  generalize A.slots[i] = v at f
  cases v <;> simp [fits] at f ⊢
/-- the two arrays are equal, place for place -/
def EqC (A B : Cell) : Prop := A.slots.size = B.slots.size ∧ ∀ i, i < A.slots.size → yv A i = yv B i
/-- a boolean that says whether p -/
def Says01 (q : Prop) (r : Option Value) (s u : State) : Prop := ∃ v : Int32, r = some (.int v) ∧ u.heap = s.heap ∧ ((v = 1 ∧ q) ∨ (v = 0 ∧ ¬ q))
theorem Says01.mv {q : Prop} : ∀ r (U U' V V' : State), U'.heap = U.heap → V.vm.Alike V'.vm → V'.heap = V.heap → Says01 q r U V → Says01 q r U' V' :=
  fun r U U' V V' h1 _ h2 ⟨v, a, b, c⟩ => ⟨v, a, by rw [h1, h2]; exact b, c⟩
namespace LEq
def yN : MethodName := ⟨"java/lang/StringLatin1", "equals", "([B[B)Z"⟩
abbrev yB : ByteArray := jdk_43_method_13_code
theorem d0 : decode yB 0 = .ok (.aload_n 0, 1) := by decide +kernel
theorem d1 : decode yB 1 = .ok (.arraylength, 1) := by decide +kernel
theorem d2 : decode yB 2 = .ok (.aload_n 1, 1) := by decide +kernel
theorem d3 : decode yB 3 = .ok (.arraylength, 1) := by decide +kernel
theorem d4 : decode yB 4 = .ok (.if_icmp (.ne) 30, 3) := by decide +kernel
theorem d7 : decode yB 7 = .ok (.iconst 0, 1) := by decide +kernel
theorem d8 : decode yB 8 = .ok (.istore_n 2, 1) := by decide +kernel
theorem d9 : decode yB 9 = .ok (.iload_n 2, 1) := by decide +kernel
theorem d10 : decode yB 10 = .ok (.aload_n 0, 1) := by decide +kernel
theorem d11 : decode yB 11 = .ok (.arraylength, 1) := by decide +kernel
theorem d12 : decode yB 12 = .ok (.if_icmp (.ge) 20, 3) := by decide +kernel
theorem d15 : decode yB 15 = .ok (.aload_n 0, 1) := by decide +kernel
theorem d16 : decode yB 16 = .ok (.iload_n 2, 1) := by decide +kernel
theorem d17 : decode yB 17 = .ok (.baload, 1) := by decide +kernel
theorem d18 : decode yB 18 = .ok (.aload_n 1, 1) := by decide +kernel
theorem d19 : decode yB 19 = .ok (.iload_n 2, 1) := by decide +kernel
theorem d20 : decode yB 20 = .ok (.baload, 1) := by decide +kernel
theorem d21 : decode yB 21 = .ok (.if_icmp (.eq) 5, 3) := by decide +kernel
theorem d24 : decode yB 24 = .ok (.iconst 0, 1) := by decide +kernel
theorem d25 : decode yB 25 = .ok (.ireturn, 1) := by decide +kernel
theorem d26 : decode yB 26 = .ok (.iinc 2 1, 3) := by decide +kernel
theorem d29 : decode yB 29 = .ok (.goto (-20), 3) := by decide +kernel
theorem d32 : decode yB 32 = .ok (.iconst 1, 1) := by decide +kernel
theorem d33 : decode yB 33 = .ok (.ireturn, 1) := by decide +kernel
theorem d34 : decode yB 34 = .ok (.iconst 0, 1) := by decide +kernel
theorem d35 : decode yB 35 = .ok (.ireturn, 1) := by decide +kernel
def site : List Cond := []
def tab : Cond := tabOf yN yB 3 (some .boolean) site
def P (a : Addr) (A : Cell) (b : Addr) (B : Cell) (args : Array Value) (s : State) : Prop := args = #[.ref a, .ref b] ∧ XT.Arr .byte a A s ∧ Typed .byte A ∧ XT.Arr .byte b B s ∧ Typed .byte B
/-- whether two byte[] are equal, place for place -/
theorem law (l : Launch) (a : Addr) (A : Cell) (b : Addr) (B : Cell) : Law l yN 2 2 0 0 yB 3 (some .boolean) site (P a A b B) (Says01 (EqC A B)) [] 0 0 := by
  refine Law.of_walk (plainFor_of_name (by decide +kernel)) (by decide +kernel) (by decide +kernel) (by decide) (fun _ _ h => by rw [h.1]; rfl) (fun _ U U' hal hh h => ⟨h.1, h.2.1.mv hal hh, h.2.2.1, h.2.2.2.1.mv hal hh, h.2.2.2.2⟩) (fun r U U' V V' h1 hal h2 h => Says01.mv r U U' V V' h1 hal h2 h) ?_
  intro p e s m args below meth c s₁ X0 hexec hbytes hml hret hlk hnm hown hh0 W hP
  obtain ⟨rfl, hA, tA, hB, tB⟩ := hP
  have a31 := hA.2.2.2
  have b31 := hB.2.2.2
  have hA0 := hA.mv X0.warmed.alike hh0
  have hB0 := hB.mv X0.warmed.alike hh0
  have c1 : Steps p.tables e below (s₁.setTop (entryFrame m #[.ref a, .ref b] 3)) (s₁.setTop (mkF m 0 #[.val (.ref a), .val (.ref b), .unset] [])) := entry rfl
  have c2 : Steps p.tables e below (s₁.setTop (entryFrame m #[.ref a, .ref b] 3)) (s₁.setTop (mkF m 4 #[.val (.ref a), .val (.ref b), .unset] [.int (Int32.ofNat B.slots.size), .int (Int32.ofNat A.slots.size)])) := c1.trans (by
    refine XS.aloadN X0.here hexec rfl (hb hbytes d0) rfl rfl ?_
    refine X0.alen hexec hA0 rfl rfl (hb hbytes d1) ?_
    refine XS.aloadN X0.here hexec rfl (hb hbytes d2) rfl rfl ?_
    refine X0.alen hexec hB0 rfl rfl (hb hbytes d3) ?_
    exact Steps.refl _)
  by_cases hs : A.slots.size = B.slots.size
  · have c3 : Steps p.tables e below (s₁.setTop (entryFrame m #[.ref a, .ref b] 3)) (s₁.setTop (mkF m 9 #[.val (.ref a), .val (.ref b), .val (.int 0)] [])) := c2.trans (by
      refine XS.icmpNo X0.here hexec rfl (hb hbytes d4) rfl (ii_ne_f (by rw [hs])) ?_
      refine iconstV X0.here hexec rfl 0 (hb hbytes d7) (by decide) ?_
      refine XS.istoreN X0.here hexec rfl (hb hbytes d8) rfl rfl ?_
      exact Steps.refl _)
    have loop : ∀ (r i : Nat), i + r = A.slots.size → (∀ j, j < i → yv A j = yv B j) → Steps p.tables e below (s₁.setTop (entryFrame m #[.ref a, .ref b] 3)) (s₁.setTop (mkF m 9 #[.val (.ref a), .val (.ref b), .val (.int (Int32.ofNat i))] [])) → ∃ (pc : Nat) (Ls : Array Slot) (v : Int32), (pc = 25 ∨ pc = 33) ∧ ((v = 1 ∧ EqC A B) ∨ (v = 0 ∧ ¬ EqC A B)) ∧ Steps p.tables e below (s₁.setTop (entryFrame m #[.ref a, .ref b] 3)) (s₁.setTop (mkF m pc Ls [.int v])) := by
      intro r
      induction r with
      | zero =>
        intro i hi he cl
        exact ⟨33, _, 1, Or.inr rfl, Or.inl ⟨rfl, hs, fun j hj => he j (by omega)⟩, cl.trans (by
          refine XS.iloadN X0.here hexec rfl (hb hbytes d9) rfl ?_
          refine XS.aloadN X0.here hexec rfl (hb hbytes d10) rfl rfl ?_
          refine X0.alen hexec hA0 rfl rfl (hb hbytes d11) ?_
          refine XS.icmpYes X0.here hexec rfl (pc0 := 12) rfl (hb hbytes d12) rfl (ii_ge_t (nlt32 (by omega) (by omega))) (by decide) rfl ?_
          refine iconstV X0.here hexec rfl 1 (hb hbytes d32) (by decide) ?_
          exact Steps.refl _)⟩
      | succ r ih =>
        intro i hi he cl
        have c4 : Steps p.tables e below (s₁.setTop (entryFrame m #[.ref a, .ref b] 3)) (s₁.setTop (mkF m 21 #[.val (.ref a), .val (.ref b), .val (.int (Int32.ofNat i))] [.int (yv B i), .int (yv A i)])) := cl.trans (by
          refine XS.iloadN X0.here hexec rfl (hb hbytes d9) rfl ?_
          refine XS.aloadN X0.here hexec rfl (hb hbytes d10) rfl rfl ?_
          refine X0.alen hexec hA0 rfl rfl (hb hbytes d11) ?_
          refine XS.icmpNo X0.here hexec rfl (hb hbytes d12) rfl (ii_ge_f (lt32 (by omega) (by omega))) ?_
          refine XS.aloadN X0.here hexec rfl (hb hbytes d15) rfl rfl ?_
          refine XS.iloadN X0.here hexec rfl (hb hbytes d16) rfl ?_
          refine X0.aget hexec hA0 rfl (yv_get hA tA (i := i) (by omega)) rfl rfl (hb hbytes d17) ?_
          refine XS.aloadN X0.here hexec rfl (hb hbytes d18) rfl rfl ?_
          refine XS.iloadN X0.here hexec rfl (hb hbytes d19) rfl ?_
          refine X0.aget hexec hB0 rfl (yv_get hB tB (i := i) (by omega)) rfl rfl (hb hbytes d20) ?_
          exact Steps.refl _)
        by_cases hv : yv A i = yv B i
        · have c5 : Steps p.tables e below (s₁.setTop (entryFrame m #[.ref a, .ref b] 3)) (s₁.setTop (mkF m 9 #[.val (.ref a), .val (.ref b), .val (.int (Int32.ofNat i + 1))] [])) := c4.trans (by
            refine XS.icmpYes X0.here hexec rfl (pc0 := 21) rfl (hb hbytes d21) rfl (ii_eq_t hv) (by decide) rfl ?_
            refine iincV X0.here hexec rfl 1 (hb hbytes d26) (by decide) rfl rfl ?_
            refine XS.goto X0.here hexec rfl (pc0 := 29) rfl (hb hbytes d29) (by decide) rfl ?_
            exact Steps.refl _)
          rw [succ32] at c5
          exact ih (i + 1) (by omega) (fun j hj => by
            by_cases e : j = i
            · rw [e]; exact hv
            · exact he j (by omega)) c5
        · exact ⟨25, _, 0, Or.inl rfl, Or.inr ⟨rfl, fun q => hv (q.2 i (by omega))⟩, c4.trans (by
            refine XS.icmpNo X0.here hexec rfl (hb hbytes d21) rfl (ii_eq_f hv) ?_
            refine iconstV X0.here hexec rfl 0 (hb hbytes d24) (by decide) ?_
            exact Steps.refl _)⟩
    obtain ⟨pc, Ls, v, hpc, hv, cz⟩ := loop A.slots.size 0 (by omega) (fun j hj => absurd hj (Nat.not_lt_zero j)) c3
    have nv : narrow .boolean (.int v) = .int v := by rcases hv with ⟨rfl, -⟩ | ⟨rfl, -⟩ <;> rfl
    rcases hpc with rfl | rfl
    · exact ⟨s₁, some (.int v), _, _, _, X0, rfl, rfl, rfl, (fun h => by cases h), ⟨v, rfl, hh0, hv⟩, fun fs hl => cz.trans (X0.ireturnOut hexec hret nv (Or.inr (Or.inl rfl)) (hb hbytes d25) hl)⟩
    · exact ⟨s₁, some (.int v), _, _, _, X0, rfl, rfl, rfl, (fun h => by cases h), ⟨v, rfl, hh0, hv⟩, fun fs hl => cz.trans (X0.ireturnOut hexec hret nv (Or.inr (Or.inl rfl)) (hb hbytes d33) hl)⟩
  · have c3 : Steps p.tables e below (s₁.setTop (entryFrame m #[.ref a, .ref b] 3)) (s₁.setTop (mkF m 35 #[.val (.ref a), .val (.ref b), .unset] [.int 0])) := c2.trans (by
      refine XS.icmpYes X0.here hexec rfl (pc0 := 4) rfl (hb hbytes d4) rfl (ii_ne_t (ne32 a31 b31 hs)) (by decide) rfl ?_
      refine iconstV X0.here hexec rfl 0 (hb hbytes d34) (by decide) ?_
      exact Steps.refl _)
    exact ⟨s₁, some (.int 0), _, _, _, X0, rfl, rfl, rfl, (fun h => by cases h), ⟨0, rfl, hh0, Or.inr ⟨rfl, fun q => hs q.1⟩⟩, fun fs hl => c3.trans (X0.ireturnOut hexec hret rfl (Or.inr (Or.inl rfl)) (hb hbytes d35) hl)⟩
end LEq
theorem Cod.ty {cd : Int32} {n : Nat} {f : Nat → Int32} {V : Cell} (h : Cod cd n f V) : Typed .byte V := fun i v hv => by
  have hi : i < V.slots.size := (Array.getElem?_eq_some_iff.mp hv).1
  rcases h with ⟨-, k1, k2⟩ | ⟨-, k1, k2, -⟩
  · rw [(k2 i (by omega)).1] at hv; cases hv; exact fits_lo8 _
  · rcases Nat.mod_two_eq_zero_or_one i with e | e
    · obtain ⟨j, rfl⟩ : ∃ j, i = 2 * j := ⟨i / 2, by omega⟩
      rw [(k2 j (by omega)).1] at hv; cases hv; exact fits_lo8 _
    · obtain ⟨j, rfl⟩ : ∃ j, i = 2 * j + 1 := ⟨i / 2, by omega⟩
      rw [(k2 j (by omega)).2] at hv; cases hv; exact fits_lo8 _
/-- the same text -/
def SameT (n : Nat) (f : Nat → Int32) (k : Nat) (g : Nat → Int32) : Prop := n = k ∧ ∀ j, j < n → f j = g j
theorem lo8_inj {x y : Int32} (h0 : ¬ x < 0) (h1 : ¬ 255 < x) (k0 : ¬ y < 0) (k1 : ¬ 255 < y) (h : lo8 x = lo8 y) : x = y := by
  rw [← lo8_mask h0 h1, ← lo8_mask k0 k1, h]
/-- arrays coded by one coder are equal just where the texts are -/
theorem Cod.eqv {cd : Int32} {n k : Nat} {f g : Nat → Int32} {V V' : Cell} (h : Cod cd n f V) (h' : Cod cd k g V') (hf : ∀ j, j < n → ¬ f j < 0 ∧ ¬ 65535 < f j) (hg : ∀ j, j < k → ¬ g j < 0 ∧ ¬ 65535 < g j) : EqC V V' ↔ SameT n f k g := by
  have yvv : ∀ {W : Cell} {i : Nat} {x : Int32}, W.slots[i]? = some (.int x) → yv W i = x := fun q => by unfold yv; rw [q]
  rcases h with ⟨rfl, k1, k2⟩ | ⟨rfl, k1, k2, -⟩
  · rcases h' with ⟨-, m1, m2⟩ | ⟨e, -⟩
    · constructor
      · rintro ⟨e1, e2⟩
        refine ⟨by omega, fun j hj => ?_⟩
        have q := e2 j (by omega)
        rw [yvv (k2 j hj).1, yvv (m2 j (by omega)).1] at q
        exact lo8_inj (hf j hj).1 (k2 j hj).2 (hg j (by omega)).1 (m2 j (by omega)).2 q
      · rintro ⟨rfl, e2⟩
        refine ⟨by omega, fun j hj => ?_⟩
        rw [yvv (k2 j (by omega)).1, yvv (m2 j (by omega)).1, e2 j (by omega)]
    · exact absurd e (by decide)
  · rcases h' with ⟨e, -⟩ | ⟨-, m1, m2, -⟩
    · exact absurd e (by decide)
    · constructor
      · rintro ⟨e1, e2⟩
        refine ⟨by omega, fun j hj => ?_⟩
        have q1 := e2 (2 * j) (by omega)
        have q2 := e2 (2 * j + 1) (by omega)
        rw [yvv (k2 j hj).1, yvv (m2 j (by omega)).1] at q1
        rw [yvv (k2 j hj).2, yvv (m2 j (by omega)).2] at q2
        rw [← pair_says (hf j hj).1 (hf j hj).2, ← pair_says (hg j (by omega)).1 (hg j (by omega)).2, q1, q2]
      · rintro ⟨rfl, e2⟩
        refine ⟨by omega, fun i hi => ?_⟩
        rcases Nat.mod_two_eq_zero_or_one i with e | e
        · obtain ⟨j, rfl⟩ : ∃ j, i = 2 * j := ⟨i / 2, by omega⟩
          rw [yvv (k2 j (by omega)).1, yvv (m2 j (by omega)).1, e2 j (by omega)]
        · obtain ⟨j, rfl⟩ : ∃ j, i = 2 * j + 1 := ⟨i / 2, by omega⟩
          rw [yvv (k2 j (by omega)).2, yvv (m2 j (by omega)).2, e2 j (by omega)]
/-- two codings differ: so do the texts -/
theorem Cod.dif {cd cd' : Int32} {n k : Nat} {f g : Nat → Int32} {V V' : Cell} (h : Cod cd n f V) (h' : Cod cd' k g V') (hne : ¬ cd = cd') : ¬ SameT n f k g := by
  rintro ⟨rfl, e⟩
  rcases h with ⟨rfl, -, k2⟩ | ⟨rfl, -, -, j, hj, hw⟩
  · rcases h' with ⟨rfl, -⟩ | ⟨-, -, -, j, hj, hw⟩
    · exact hne rfl
    · exact (k2 j hj).2 (by rw [e j hj]; exact hw)
  · rcases h' with ⟨-, -, m2⟩ | ⟨rfl, -⟩
    · exact (m2 j hj).2 (by rw [← e j hj]; exact hw)
    · exact hne rfl
/-- an object of exactly C is an instance of C -/
theorem cinst {p : Program} {l : Launch} {e : Env} {R : Room} {s : State} {m : MethodId} {args : Array Value} {below : List Frame} {meth : Method} {c : Code} {T : State} {locs : List Loc} {cells slots : Nat} (X : Stand p l e R s m args below meth c T locs cells slots) (hexec : p.tables.exec = Jvm.exec) {own C : String} {index : Nat} (hown : s.vm.findClass own = some m.cls) (hlink : (Cond.classLink own index C).before args s = true) {a : Addr} (hE : Exact C a T)
    {g : JFrame} (hg : g.method = m) {rest : List Value} (hstack : g.stack = .ref a :: rest) (hdg : decode c.code g.pc = .ok (.instanceof index, 3)) :
    ∃ T', Stand p l e R s m args below meth c T' locs cells slots ∧ T'.heap = T.heap ∧ ∀ target, Steps p.tables e below (T'.setTop { g with pc := g.pc + 3, stack := .int 1 :: rest }) target → Steps p.tables e below (T.setTop g) target := by
  obtain ⟨cB, h1, D, h2, h3, h4⟩ := hE
  have h1' : s.vm.findClass C = some cB := by rw [← X.warmed.alike.findClass]; exact h1
  obtain ⟨vm', X', st⟩ := X.instanceofYes hexec hown hlink h2 h4 h1' (by rw [h3]; exact Jvm.Free.SB.assignable_self _ _) hg hstack hdg
  exact ⟨_, X', rfl, st⟩
theorem cself {p : Program} {l : Launch} {e : Env} {R : Room} {s : State} {m : MethodId} {args : Array Value} {below : List Frame} {meth : Method} {c : Code} {T : State} {locs : List Loc} {cells slots : Nat} (X : Stand p l e R s m args below meth c T locs cells slots) (hexec : p.tables.exec = Jvm.exec) {own C : String} {index : Nat} (hown : s.vm.findClass own = some m.cls) (hlink : (Cond.classLink own index C).before args s = true) {a : Addr} (hE : Exact C a T)
    {g : JFrame} (hg : g.method = m) {rest : List Value} (hstack : g.stack = .ref a :: rest) (hdg : decode c.code g.pc = .ok (.checkcast index, 3)) :
    ∃ T', Stand p l e R s m args below meth c T' locs cells slots ∧ T'.heap = T.heap ∧ ∀ target, Steps p.tables e below (T'.setTop { g with pc := g.pc + 3, stack := .ref a :: rest }) target → Steps p.tables e below (T.setTop g) target := by
  obtain ⟨cB, h1, D, h2, h3, h4⟩ := hE
  have h1' : s.vm.findClass C = some cB := by rw [← X.warmed.alike.findClass]; exact h1
  obtain ⟨vm', X', st⟩ := X.checkcastYes hexec hown hlink h2 h4 h1' (by rw [h3]; exact Jvm.Free.SB.assignable_self _ _) hg hstack hdg
  exact ⟨_, X', rfl, fun t h => st t (by rw [← hstack] at h; exact h)⟩
namespace SEq
def yN : MethodName := ⟨"java/lang/String", "equals", "(Ljava/lang/Object;)Z"⟩
abbrev yB : ByteArray := jdk_42_method_66_code
theorem d0 : decode yB 0 = .ok (.aload_n 0, 1) := by decide +kernel
theorem d1 : decode yB 1 = .ok (.aload_n 1, 1) := by decide +kernel
theorem d2 : decode yB 2 = .ok (.if_acmp (.ne) 5, 3) := by decide +kernel
theorem d5 : decode yB 5 = .ok (.iconst 1, 1) := by decide +kernel
theorem d6 : decode yB 6 = .ok (.ireturn, 1) := by decide +kernel
theorem d7 : decode yB 7 = .ok (.aload_n 1, 1) := by decide +kernel
theorem d8 : decode yB 8 = .ok (.instanceof 10, 3) := by decide +kernel
theorem d11 : decode yB 11 = .ok (.ifCond (.eq) 43, 3) := by decide +kernel
theorem d14 : decode yB 14 = .ok (.aload_n 1, 1) := by decide +kernel
theorem d15 : decode yB 15 = .ok (.checkcast 10, 3) := by decide +kernel
theorem d18 : decode yB 18 = .ok (.astore_n 2, 1) := by decide +kernel
theorem d19 : decode yB 19 = .ok (.getstatic 38, 3) := by decide +kernel
theorem d22 : decode yB 22 = .ok (.ifCond (.eq) 14, 3) := by decide +kernel
theorem d25 : decode yB 25 = .ok (.aload_n 0, 1) := by decide +kernel
theorem d26 : decode yB 26 = .ok (.getfield 15, 3) := by decide +kernel
theorem d29 : decode yB 29 = .ok (.aload_n 2, 1) := by decide +kernel
theorem d30 : decode yB 30 = .ok (.getfield 15, 3) := by decide +kernel
theorem d33 : decode yB 33 = .ok (.if_icmp (.ne) 21, 3) := by decide +kernel
theorem d36 : decode yB 36 = .ok (.aload_n 0, 1) := by decide +kernel
theorem d37 : decode yB 37 = .ok (.getfield 9, 3) := by decide +kernel
theorem d40 : decode yB 40 = .ok (.aload_n 2, 1) := by decide +kernel
theorem d41 : decode yB 41 = .ok (.getfield 9, 3) := by decide +kernel
theorem d44 : decode yB 44 = .ok (.invokestatic 541, 3) := by decide +kernel
theorem d47 : decode yB 47 = .ok (.ifCond (.eq) 7, 3) := by decide +kernel
theorem d50 : decode yB 50 = .ok (.iconst 1, 1) := by decide +kernel
theorem d51 : decode yB 51 = .ok (.goto 4, 3) := by decide +kernel
theorem d54 : decode yB 54 = .ok (.iconst 0, 1) := by decide +kernel
theorem d55 : decode yB 55 = .ok (.ireturn, 1) := by decide +kernel
def site : List Cond := [.classLink "java/lang/String" 10 "java/lang/String", .fieldLink "java/lang/String" 38 "java/lang/String" "COMPACT_STRINGS" "Z", .fieldLink "java/lang/String" 15 "java/lang/String" "coder" "B", .fieldLink "java/lang/String" 9 "java/lang/String" "value" "[B", LEq.tab] ++ staticW "java/lang/String" 541 LEq.yN
def tab : Cond := tabOf yN yB 3 (some .boolean) site
def P (x t : Addr) (V : Cell) (cd : Int32) (n : Nat) (f : Nat → Int32) (y t' : Addr) (V' : Cell) (cd' : Int32) (k : Nat) (g : Nat → Int32) (z : Int32) (args : Array Value) (s : State) : Prop := args = #[.ref x, .ref y] ∧ Txt x t V cd n f s ∧ Txt y t' V' cd' k g s ∧ StaticIs s "java/lang/String" "COMPACT_STRINGS" "Z" (.int z) ∧ ¬ z = 0
/-- equals(Object) of two Strings: whether the texts are the same -/
theorem law (l : Launch) (x t : Addr) (V : Cell) (cd : Int32) (n : Nat) (f : Nat → Int32) (y t' : Addr) (V' : Cell) (cd' : Int32) (k : Nat) (g : Nat → Int32) (z : Int32) : Law l yN 2 1 1 14 yB 3 (some .boolean) site (P x t V cd n f y t' V' cd' k g z) (Says01 (SameT n f k g)) [] 0 0 := by
  refine Law.of_walk (plainFor_of_name (by decide +kernel)) (by decide +kernel) (by decide +kernel) (by decide) (fun _ _ h => by rw [h.1]; rfl) (fun _ U U' hal hh h => ⟨h.1, h.2.1.mv hal hh, h.2.2.1.mv hal hh, h.2.2.2.1.there hal hh, h.2.2.2.2⟩) (fun r U U' V V' h1 hal h2 h => Says01.mv r U U' V V' h1 hal h2 h) ?_
  intro p e s m args below meth c s₁ X0 hexec hbytes hml hret hlk hnm hown hh0 W hP
  obtain ⟨rfl, hx, hy, s1, hz⟩ := hP
  have c1 : Steps p.tables e below (s₁.setTop (entryFrame m #[.ref x, .ref y] 3)) (s₁.setTop (mkF m 2 #[.val (.ref x), .val (.ref y), .unset] [.ref y, .ref x])) := Steps.trans (entry rfl) (by
    show Steps p.tables e below (s₁.setTop (mkF m 0 #[.val (.ref x), .val (.ref y), .unset] [])) _
    refine XS.aloadN X0.here hexec rfl (hb hbytes d0) rfl rfl ?_
    refine XS.aloadN X0.here hexec rfl (hb hbytes d1) rfl rfl ?_
    exact Steps.refl _)
  by_cases hxy : x = y
  · have c2 : Steps p.tables e below (s₁.setTop (entryFrame m #[.ref x, .ref y] 3)) (s₁.setTop (mkF m 6 #[.val (.ref x), .val (.ref y), .unset] [.int 1])) := c1.trans (by
      refine acmpNo X0.here hexec rfl (hb hbytes d2) rfl rfl rfl (by simp [acmp, hxy]) ?_
      refine iconstV X0.here hexec rfl 1 (hb hbytes d5) (by decide) ?_
      exact Steps.refl _)
    subst hxy
    have ec : cd = cd' := by
      obtain ⟨D, fd, a1, a2, a3⟩ := hx.2.2.1
      obtain ⟨D', fd', b1, b2, b3⟩ := hy.2.2.1
      cases a1.symm.trans b1
      obtain ⟨q1, q2, q3, q4⟩ := a2.1
      obtain ⟨r1, r2, r3, r4⟩ := b2.1
      cases q4.symm.trans r4
      cases a3.symm.trans b3; rfl
    have et : t = t' := by
      obtain ⟨D, fd, a1, a2, a3⟩ := hx.2.1
      obtain ⟨D', fd', b1, b2, b3⟩ := hy.2.1
      cases a1.symm.trans b1
      obtain ⟨q1, q2, q3, q4⟩ := a2.1
      obtain ⟨r1, r2, r3, r4⟩ := b2.1
      cases q4.symm.trans r4
      cases a3.symm.trans b3; rfl
    subst ec et
    have ev : V = V' := by cases hx.2.2.2.1.1.symm.trans hy.2.2.2.1.1; rfl
    subst ev
    have hs : SameT n f k g := (Cod.eqv hx.2.2.2.2.1 hy.2.2.2.2.1 hx.2.2.2.2.2 hy.2.2.2.2.2).mp ⟨rfl, fun _ _ => rfl⟩
    exact ⟨s₁, some (.int 1), _, _, _, X0, rfl, rfl, rfl, (fun h => by cases h), ⟨1, rfl, hh0, Or.inl ⟨rfl, hs⟩⟩, fun fs hl => c2.trans (X0.ireturnOut hexec hret rfl (Or.inr (Or.inl rfl)) (hb hbytes d6) hl)⟩
  · have c2 : Steps p.tables e below (s₁.setTop (entryFrame m #[.ref x, .ref y] 3)) (s₁.setTop (mkF m 8 #[.val (.ref x), .val (.ref y), .unset] [.ref y])) := c1.trans (by
      refine acmpYes X0.here hexec rfl (pc0 := 2) rfl (hb hbytes d2) rfl rfl rfl (by simp [acmp, hxy]) (by decide) rfl ?_
      refine XS.aloadN X0.here hexec rfl (hb hbytes d7) rfl rfl ?_
      exact Steps.refl _)
    obtain ⟨T3, X3, q3, st3⟩ := cinst X0 hexec hown (wk W (.classLink "java/lang/String" 10 "java/lang/String")) (hy.mv X0.warmed.alike hh0).1 (g := (mkF m 8 #[.val (.ref x), .val (.ref y), .unset] [.ref y])) rfl (rest := []) rfl (hb hbytes d8)
    have hh3 := q3.trans hh0
    have c4 : Steps p.tables e below (s₁.setTop (entryFrame m #[.ref x, .ref y] 3)) (T3.setTop (mkF m 15 #[.val (.ref x), .val (.ref y), .unset] [.ref y])) := (c2.trans (st3 _ (Steps.refl _))).trans (by
      refine XS.ifNo X3.here hexec rfl (hb hbytes d11) rfl (i0_eq_f (by decide)) ?_
      refine XS.aloadN X3.here hexec rfl (hb hbytes d14) rfl rfl ?_
      exact Steps.refl _)
    obtain ⟨T5, X5, q5, st5⟩ := cself X3 hexec hown (wk W (.classLink "java/lang/String" 10 "java/lang/String")) (hy.mv X3.warmed.alike hh3).1 (g := (mkF m 15 #[.val (.ref x), .val (.ref y), .unset] [.ref y])) rfl (rest := []) rfl (hb hbytes d15)
    have hh5 := q5.trans hh3
    have c6 : Steps p.tables e below (s₁.setTop (entryFrame m #[.ref x, .ref y] 3)) (T5.setTop (mkF m 19 #[.val (.ref x), .val (.ref y), .val (.ref y)] [])) := (c4.trans (st5 _ (Steps.refl _))).trans (by
      refine XS.astoreN X5.here hexec rfl (hb hbytes d18) rfl rfl rfl ?_
      exact Steps.refl _)
    obtain ⟨T7, X7, q7, st7⟩ := X5.sget hexec hown (wk W (.fieldLink "java/lang/String" 38 "java/lang/String" "COMPACT_STRINGS" "Z")) s1 (fun _ _ h => by rw [hh5]; exact h) (g := (mkF m 19 #[.val (.ref x), .val (.ref y), .val (.ref y)] [])) rfl (hb hbytes d19)
    have hh7 := q7.trans hh5
    have c8 : Steps p.tables e below (s₁.setTop (entryFrame m #[.ref x, .ref y] 3)) (T7.setTop (mkF m 26 #[.val (.ref x), .val (.ref y), .val (.ref y)] [.ref x])) := (c6.trans (st7 _ (Steps.refl _))).trans (by
      refine XS.ifNo X7.here hexec rfl (hb hbytes d22) rfl (i0_eq_f hz) ?_
      refine XS.aloadN X7.here hexec rfl (hb hbytes d25) rfl rfl ?_
      exact Steps.refl _)
    obtain ⟨T9, X9, q9, st9⟩ := X7.hget hexec hown (wk W (.fieldLink "java/lang/String" 15 "java/lang/String" "coder" "B")) (hx.mv X7.warmed.alike hh7).2.2.1 (g := (mkF m 26 #[.val (.ref x), .val (.ref y), .val (.ref y)] [.ref x])) rfl (rest := []) rfl (hb hbytes d26)
    have hh9 := q9.trans hh7
    have c10 : Steps p.tables e below (s₁.setTop (entryFrame m #[.ref x, .ref y] 3)) (T9.setTop (mkF m 30 #[.val (.ref x), .val (.ref y), .val (.ref y)] [.ref y, .int cd])) := (c8.trans (st9 _ (Steps.refl _))).trans (by
      refine XS.aloadN X9.here hexec rfl (hb hbytes d29) rfl rfl ?_
      exact Steps.refl _)
    obtain ⟨T11, X11, q11, st11⟩ := X9.hget hexec hown (wk W (.fieldLink "java/lang/String" 15 "java/lang/String" "coder" "B")) (hy.mv X9.warmed.alike hh9).2.2.1 (g := (mkF m 30 #[.val (.ref x), .val (.ref y), .val (.ref y)] [.ref y, .int cd])) rfl (rest := [.int cd]) rfl (hb hbytes d30)
    have hh11 := q11.trans hh9
    have c12 : Steps p.tables e below (s₁.setTop (entryFrame m #[.ref x, .ref y] 3)) (T11.setTop (mkF m 33 #[.val (.ref x), .val (.ref y), .val (.ref y)] [.int cd', .int cd])) := c10.trans (st11 _ (Steps.refl _))
    by_cases hcd : cd = cd'
    · subst hcd
      have c13 : Steps p.tables e below (s₁.setTop (entryFrame m #[.ref x, .ref y] 3)) (T11.setTop (mkF m 37 #[.val (.ref x), .val (.ref y), .val (.ref y)] [.ref x])) := c12.trans (by
        refine XS.icmpNo X11.here hexec rfl (hb hbytes d33) rfl (ii_ne_f rfl) ?_
        refine XS.aloadN X11.here hexec rfl (hb hbytes d36) rfl rfl ?_
        exact Steps.refl _)
      obtain ⟨T14, X14, q14, st14⟩ := X11.hget hexec hown (wk W (.fieldLink "java/lang/String" 9 "java/lang/String" "value" "[B")) (hx.mv X11.warmed.alike hh11).2.1 (g := (mkF m 37 #[.val (.ref x), .val (.ref y), .val (.ref y)] [.ref x])) rfl (rest := []) rfl (hb hbytes d37)
      have hh14 := q14.trans hh11
      have c15 : Steps p.tables e below (s₁.setTop (entryFrame m #[.ref x, .ref y] 3)) (T14.setTop (mkF m 41 #[.val (.ref x), .val (.ref y), .val (.ref y)] [.ref y, .ref t])) := (c13.trans (st14 _ (Steps.refl _))).trans (by
        refine XS.aloadN X14.here hexec rfl (hb hbytes d40) rfl rfl ?_
        exact Steps.refl _)
      obtain ⟨T16, X16, q16, st16⟩ := X14.hget hexec hown (wk W (.fieldLink "java/lang/String" 9 "java/lang/String" "value" "[B")) (hy.mv X14.warmed.alike hh14).2.1 (g := (mkF m 41 #[.val (.ref x), .val (.ref y), .val (.ref y)] [.ref y, .ref t])) rfl (rest := [.ref t]) rfl (hb hbytes d41)
      have hh16 := q16.trans hh14
      have c17 : Steps p.tables e below (s₁.setTop (entryFrame m #[.ref x, .ref y] 3)) (T16.setTop (mkF m 44 #[.val (.ref x), .val (.ref y), .val (.ref y)] [.ref t', .ref t])) := c15.trans (st16 _ (Steps.refl _))
      obtain ⟨v18, T18, X18, E18, g18⟩ := X16.callS hexec (LEq.law l t V t' V') hown (wks W (staticW "java/lang/String" 541 LEq.yN)) (wk W LEq.tab) (W := 0) (Nat.le_of_ble_eq_true rfl) (Nat.le_of_ble_eq_true rfl) (Nat.le_refl _) (Nat.le_refl _) (g := (mkF m 44 #[.val (.ref x), .val (.ref y), .val (.ref y)] [.ref t', .ref t])) rfl (by rw [hml]; rfl) c17 (argsL := [.ref t, .ref t']) (rest := []) rfl rfl (by show 2 * 0 + 0 ≤ _; decide) (hb hbytes d44) (⟨rfl, hx.2.2.2.1.mv X16.warmed.alike hh16, hx.2.2.2.2.1.ty, hy.2.2.2.1.mv X16.warmed.alike hh16, hy.2.2.2.2.1.ty⟩)
      obtain ⟨v, rfl, q18, hv⟩ := E18
      have iff := Cod.eqv hx.2.2.2.2.1 hy.2.2.2.2.1 hx.2.2.2.2.2 hy.2.2.2.2.2
      rcases hv with ⟨rfl, he⟩ | ⟨rfl, he⟩
      · have c19 : Steps p.tables e below (s₁.setTop (entryFrame m #[.ref x, .ref y] 3)) (T18.setTop (mkF m 55 #[.val (.ref x), .val (.ref y), .val (.ref y)] [.int 1])) := Steps.trans g18 (by
          refine XS.ifNo X18.here hexec rfl (hb hbytes d47) rfl (i0_eq_f (by decide)) ?_
          refine iconstV X18.here hexec rfl 1 (hb hbytes d50) (by decide) ?_
          refine XS.goto X18.here hexec rfl (pc0 := 51) rfl (hb hbytes d51) (by decide) rfl ?_
          exact Steps.refl _)
        exact ⟨T18, some (.int 1), _, _, _, X18, rfl, rfl, rfl, (fun h => by cases h), ⟨1, rfl, q18.trans hh16, Or.inl ⟨rfl, iff.mp he⟩⟩, fun fs hl => c19.trans (X18.ireturnOut hexec hret rfl (Or.inr (Or.inl rfl)) (hb hbytes d55) hl)⟩
      · have c19 : Steps p.tables e below (s₁.setTop (entryFrame m #[.ref x, .ref y] 3)) (T18.setTop (mkF m 55 #[.val (.ref x), .val (.ref y), .val (.ref y)] [.int 0])) := Steps.trans g18 (by
          refine XS.ifYes X18.here hexec rfl (pc0 := 47) rfl (hb hbytes d47) rfl (i0_eq_t rfl) (by decide) rfl ?_
          refine iconstV X18.here hexec rfl 0 (hb hbytes d54) (by decide) ?_
          exact Steps.refl _)
        exact ⟨T18, some (.int 0), _, _, _, X18, rfl, rfl, rfl, (fun h => by cases h), ⟨0, rfl, q18.trans hh16, Or.inr ⟨rfl, fun q => he (iff.mpr q)⟩⟩, fun fs hl => c19.trans (X18.ireturnOut hexec hret rfl (Or.inr (Or.inl rfl)) (hb hbytes d55) hl)⟩
    · have c13 : Steps p.tables e below (s₁.setTop (entryFrame m #[.ref x, .ref y] 3)) (T11.setTop (mkF m 55 #[.val (.ref x), .val (.ref y), .val (.ref y)] [.int 0])) := c12.trans (by
        refine XS.icmpYes X11.here hexec rfl (pc0 := 33) rfl (hb hbytes d33) rfl (ii_ne_t hcd) (by decide) rfl ?_
        refine iconstV X11.here hexec rfl 0 (hb hbytes d54) (by decide) ?_
        exact Steps.refl _)
      exact ⟨T11, some (.int 0), _, _, _, X11, rfl, rfl, rfl, (fun h => by cases h), ⟨0, rfl, hh11, Or.inr ⟨rfl, Cod.dif hx.2.2.2.2.1 hy.2.2.2.2.1 hcd⟩⟩, fun fs hl => c13.trans (X11.ireturnOut hexec hret rfl (Or.inr (Or.inl rfl)) (hb hbytes d55) hl)⟩
theorem pays {l : Launch} {R : Room} {p : Program} {e : Env} {below : List Frame} {s : State} {sargs : Array Value} {len W : Nat} (x t : Addr) (V : Cell) (cd : Int32) (n : Nat) (f : Nat → Int32) (y t' : Addr) (V' : Cell) (cd' : Int32) (k : Nat) (g : Nat → Int32) (z : Int32) (htab : tab.before sargs s = true) (hfr : 2 ≤ R.frames) (hlo : W + 28 ≤ R.locals) :
    Back l R p e below s sargs yN len W (fun A₁ a₁ => A₁.cells + 0 ≤ R.cells ∧ A₁.slots + 0 ≤ R.slots ∧ P x t V cd n f y t' V' cd' k g z a₁ A₁.U) (fun A₁ _ v₁ B₁ => Says01 (SameT n f k g) v₁ A₁.U B₁.U ∧ B₁.locs = A₁.locs ++ [] ∧ B₁.cells = A₁.cells + 0 ∧ B₁.slots = A₁.slots + 0) :=
  (law l x t V cd n f y t' V' cd' k g z).pays htab hfr (by omega)
end SEq
end StrChars
namespace StrChars.Road
open Jvm Sem ClassFile Op Lib Jvm.Stand Jvm.Free Jvm.Free.XT
open Jvm.Lib.Cold (StaticIs)
/-- the words of String.equals(Object) -/
abbrev wordsEq : List Jvm.Cond := [.code SEq.yN SEq.yB 3 (some .boolean), .initialized ST, .classLink ST 10 ST, .fieldLink ST 38 ST "COMPACT_STRINGS" "Z", .fieldLink ST 15 ST "coder" "B", .fieldLink ST 9 ST "value" "[B", .methodLink ST 541 LEq.yN, .static LEq.yN, .code LEq.yN LEq.yB 3 (some .boolean), .initialized "java/lang/StringLatin1"]
theorem tabEq_of {a : Array Value} {s : State} (h : ∀ w ∈ wordsEq, w.before a s = true) : SEq.tab.before a s = true := by
  have hl : LEq.tab.before a s = true := unparts (wk h (.code LEq.yN LEq.yB 3 (some .boolean))) (wks h (.initialized LEq.yN.cls :: LEq.site))
  have q := consq hl h
  exact unparts (wk q (.code SEq.yN SEq.yB 3 (some .boolean))) (wks q (.initialized SEq.yN.cls :: SEq.site))
theorem movedEq {Z s : State} {a0 args : Array Value} (hZ : Z.Warmed39 s.vm) (hw : ∀ d ∈ wordsEq, d.before a0 Z = true) : ∀ d ∈ wordsEq, d.before args s = true := fun d hd => by
  have t : ∀ d ∈ wordsEq, (d.onTables && d.keepsFace) = true := by decide +kernel
  exact RoadKit.mv hZ (hw d hd) (t d hd)
/-- the road's facts of a String, as the laws ask it -/
theorem txt_of {Z U : State} {a0 : Array Value} {kI : Nat} (wi : (Jvm.Cond.instantiable ST kI).before a0 Z = true) (al : Z.vm.Alike U.vm) {x t : Addr} {kb : ClassId} {cs : List Int32} {cd N2 : Int32} {vs : List Value} (E : RoadKit.Exa Z U.heap x ST) (V : RoadKit.Fld Z U.heap x ST "value" "[B" (.ref t)) (C : RoadKit.Fld Z U.heap x ST "coder" "B" (.int cd)) (K : RoadKit.Arv Z U.heap t kb .byte N2 vs (.int 0)) (hc : CodA cs cd N2 vs) (hb : ∀ c ∈ cs, ¬ c < 0 ∧ ¬ (65535 : Int32) < c) (l2 : cs.length ≤ 4000) :
    ∃ A, Txt x t A cd cs.length (fun j => cs.getD j 0) U := by
  obtain ⟨A, K1, K2, K3, K4, K5, K6⟩ := K
  have hcod := hc.cod (by omega) K3 K5
  obtain ⟨D, fV, fC, hB, F1, F2, g1, g2, -, -⟩ := strObj wi al E V C
  exact ⟨A, ⟨_, hB.2.2.1, D, hB.1, rfl, by cases q : D.vm <;> first | rfl | exact absurd q (hB.2.1.2 _)⟩, Has.of hB F1 g1, Has.of hB F2 g2, ⟨K1.1, State.isArrayOf_alike al K1.2.1, K1.2.2, by rcases hcod with ⟨-, q, -⟩ | ⟨-, q, -⟩ <;> omega⟩, hcod, fun j hj => by
    have e : cs.getD j 0 = cs[j] := by simp [List.getD_eq_getElem?_getD, hj]
    show ¬ cs.getD j 0 < 0 ∧ ¬ 65535 < cs.getD j 0
    rw [e]; exact hb _ (List.getElem_mem _)⟩
theorem same_list (cs ds : List Int32) : SameT cs.length (fun j => cs.getD j 0) ds.length (fun j => ds.getD j 0) ↔ cs = ds := by
  constructor
  · rintro ⟨e, q⟩
    refine List.ext_getElem e fun j h1 h2 => ?_
    have := q j h1
    simpa [List.getD_eq_getElem?_getD, h1, h2] using this
  · rintro rfl
    exact ⟨rfl, fun _ _ => rfl⟩
/-- **equals(Object) OF TWO SUCH STRINGS**: 1 just where the chars are the same -/
theorem eqW {p : Program} {l : Launch} {e : Env} {R : Room} {s : State} {args : Array Value} {below : List Frame} {len W : Nat} {Z : State} {a0 : Array Value} {h : Heap} (hZ : Z.Warmed39 s.vm) (hw : ∀ d ∈ wordsEq, d.before a0 Z = true) {kI : Nat} (wi : (Jvm.Cond.instantiable ST kI).before a0 Z = true)
    {x t : Addr} {kb : ClassId} {cs : List Int32} {cd N2 : Int32} {vs : List Value} (E : RoadKit.Exa Z h x ST) (V : RoadKit.Fld Z h x ST "value" "[B" (.ref t)) (C : RoadKit.Fld Z h x ST "coder" "B" (.int cd)) (K : RoadKit.Arv Z h t kb .byte N2 vs (.int 0)) (hc : CodA cs cd N2 vs) (hb : ∀ c ∈ cs, ¬ c < 0 ∧ ¬ (65535 : Int32) < c) (l2 : cs.length ≤ 4000)
    {y t' : Addr} {kb' : ClassId} {ds : List Int32} {cd' N2' : Int32} {vs' : List Value} (E' : RoadKit.Exa Z h y ST) (V' : RoadKit.Fld Z h y ST "value" "[B" (.ref t')) (C' : RoadKit.Fld Z h y ST "coder" "B" (.int cd')) (K' : RoadKit.Arv Z h t' kb' .byte N2' vs' (.int 0)) (hc' : CodA ds cd' N2' vs') (hb' : ∀ c ∈ ds, ¬ c < 0 ∧ ¬ (65535 : Int32) < c) (l2' : ds.length ≤ 4000)
    {z : Int32} (S : RoadKit.Sta Z h ST "COMPACT_STRINGS" "Z" (.int z)) (hz : ¬ z = 0) (hfr : 2 ≤ R.frames) (hlo : W + 28 ≤ R.locals) :
    Back l R p e below s args (⟨"java/lang/String", "equals", "(Ljava/lang/Object;)Z"⟩ : MethodName) len W (fun P a => a = #[.ref x, .ref y] ∧ P.U.heap = h ∧ P.cells + 0 ≤ R.cells ∧ P.slots + 0 ≤ R.slots)
      (fun P _ v B => ∃ L, (((v = some (.int 1) ∧ cs = ds) ∨ (v = some (.int 0) ∧ ¬ cs = ds)) ∧ L = [] ∧ B.U.heap = h) ∧ B.locs = P.locs ++ L ∧ B.cells = P.cells + 0 ∧ B.slots = P.slots + 0) := by
  intro m meth c P g ig mk a X hg hsize hdg hW hn hp'
  obtain ⟨rfl, rfl, r1, r2⟩ := hp'
  have al : Z.vm.Alike P.U.vm := hZ.alike.trans X.warmed.alike
  obtain ⟨A, hx⟩ := txt_of wi al E V C K hc hb l2
  obtain ⟨A', hy⟩ := txt_of wi al E' V' C' K' hc' hb' l2'
  obtain ⟨v, B, X', ⟨⟨w, hv, hh, hq⟩, hl, hk, hs⟩, st⟩ := SEq.pays x t A cd cs.length (fun j => cs.getD j 0) y t' A' cd' ds.length (fun j => ds.getD j 0) z (tabEq_of (movedEq hZ hw)) hfr hlo m meth c P g ig mk _ X hg hsize hdg hW hn ⟨r1, r2, rfl, hx, hy, sta_is al S, hz⟩
  refine ⟨v, B, X', ⟨[], ⟨?_, rfl, hh⟩, hl, hk, hs⟩, st⟩
  rcases hq with ⟨rfl, q⟩ | ⟨rfl, q⟩
  · exact Or.inl ⟨hv, (same_list cs ds).mp q⟩
  · exact Or.inr ⟨hv, fun e => q ((same_list cs ds).mpr e)⟩
end StrChars.Road
namespace StrChars.Road
open Jvm Sem ClassFile Op Lib Jvm.Stand Jvm.Free Jvm.Free.XT
open Jvm.Lib.Cold (StaticIs)
/-- what backV says of its String, as the contracts of this text ask it: cs's low bytes, coder 0 -/
theorem codOf {cs : List Int32} {n : Nat} (hn : cs.length = n) (hb : ∀ c ∈ cs, ¬ 255 < c) : CodA cs 0 (Int32.ofNat n) ((cs.map lo8).map Value.int) := Or.inl ⟨rfl, by rw [hn], by simp [List.map_map, Function.comp_def], hb⟩
end StrChars.Road
end Jvm.Pilot.@@N@@
namespace Jvm.Pilot.@@N@@
open Jvm Jvm.ClassFile Sem Op Lib Jvm.Free Jvm.Stand Jvm.LawKit Jvm.RoadKit Jvm.Own Bundle Jvm.Pilot.@@N@@.Jvm.D
theorem hwsV (Z : State) (a0 : Array Value) (hw : ∀ d ∈ tables_1, d.before a0 Z = true) : ∀ d ∈ StrChars.Road.words, d.before a0 Z = true := fun d hd => hw d ((by decide +kernel : ∀ d ∈ StrChars.Road.words, d ∈ tables_1) d hd)
theorem hwsE (Z : State) (a0 : Array Value) (hw : ∀ d ∈ tables_1, d.before a0 Z = true) : ∀ d ∈ StrChars.Road.wordsEq, d.before a0 Z = true := fun d hd => hw d ((by decide +kernel : ∀ d ∈ StrChars.Road.wordsEq, d ∈ tables_1) d hd)
/-- x is a String of the chars cs (each 0 to 255), its cells below b -/
def Str (Z : State) (h : Heap) (b : Nat) (x : Addr) (cs : List Int32) : Prop :=
  x < b ∧ Exa Z h x "java/lang/String" ∧ Fld Z h x "java/lang/String" "coder" "B" (.int 0) ∧
    (∃ (t : Addr) (k : ClassId), t < b ∧ Fld Z h x "java/lang/String" "value" "[B" (.ref t) ∧ Arv Z h t k .byte (Int32.ofNat cs.length) ((cs.map fun c => c.toInt8.toInt32).map Value.int) (.int 0)) ∧
    (∀ c ∈ cs, ¬ c < 0 ∧ ¬ (255 : Int32) < c) ∧ cs.length ≤ 4000
section StrFacts
variable {Z : State} {h h' : Heap} {b : Nat} {x a : Addr} {cs : List Int32} {ws : List Addr} {sl : Nat} {v : Value}
theorem Str.of {t : Addr} {k : ClassId} {N : Int32} {bs : List Int32} (E : Exa Z h x "java/lang/String") (C : Fld Z h x "java/lang/String" "coder" "B" (.int 0)) (F : Fld Z h x "java/lang/String" "value" "[B" (.ref t)) (A : Arv Z h t k .byte N (bs.map Value.int) (.int 0)) (hN : N = Int32.ofNat cs.length) (hb : bs = cs.map fun c => c.toInt8.toInt32)
    (hp : ∀ c ∈ cs, ¬ c < 0 ∧ ¬ (255 : Int32) < c) (hl : cs.length ≤ 4000) : Str Z h h.size x cs := by subst hN hb; exact ⟨E.lt, E, C, ⟨t, k, A.lt, F, A⟩, hp, hl⟩
theorem Str.keep (S : Str Z h b x cs) (K : Keep h h' ws) (q : ∀ w ∈ ws, b ≤ w) : Str Z h' b x cs := by
  obtain ⟨l1, E, C, ⟨t, k, l2, F, A⟩, r⟩ := S
  have n1 : x ∉ ws := fun m => absurd (q _ m) (Nat.not_le_of_lt l1)
  have n2 : t ∉ ws := fun m => absurd (q _ m) (Nat.not_le_of_lt l2)
  exact ⟨l1, E.keep K, C.keep K n1, ⟨t, k, l2, F.keep K n1, A.keep K n2⟩, r⟩
theorem Str.wr (S : Str Z h b x cs) (W : Wr h h' a sl v) (q : b ≤ a) : Str Z h' b x cs := S.keep (Keep.of_wr W) (allS q all0)
theorem Str.ext (S : Str Z h b x cs) (E : Ext h h') : Str Z h' b x cs := by
  obtain ⟨l1, E1, C, ⟨t, k, l2, F, A⟩, r⟩ := S
  exact ⟨l1, E1.ext E, C.ext E, ⟨t, k, l2, F.ext E, A.ext E⟩, r⟩
end StrFacts
theorem pn_0 : plainName "java/lang/String" = true := by first | (simp [plainName, overriddenIn]; done) | decide +kernel
theorem d_jdk_42_m149_0 : decode jdk_42_method_149_code 0 = .ok (.aload_n 0, 1) := by decide +kernel
theorem d_jdk_42_m149_1 : decode jdk_42_method_149_code 1 = .ok (.invokespecial 1, 3) := by decide +kernel
theorem d_jdk_42_m149_4 : decode jdk_42_method_149_code 4 = .ok (.iload_n 3, 1) := by decide +kernel
theorem d_jdk_42_m149_5 : decode jdk_42_method_149_code 5 = .ok (.ifCond .ne 22, 3) := by decide +kernel
theorem d_jdk_42_m149_8 : decode jdk_42_method_149_code 8 = .ok (.aload_n 0, 1) := by decide +kernel
theorem d_jdk_42_m149_9 : decode jdk_42_method_149_code 9 = .ok (.ldc 7, 2) := by decide +kernel
theorem d_jdk_42_m149_11 : decode jdk_42_method_149_code 11 = .ok (.getfield 9, 3) := by decide +kernel
theorem d_jdk_42_m149_14 : decode jdk_42_method_149_code 14 = .ok (.putfield 9, 3) := by decide +kernel
theorem d_jdk_42_m149_17 : decode jdk_42_method_149_code 17 = .ok (.aload_n 0, 1) := by decide +kernel
theorem d_jdk_42_m149_18 : decode jdk_42_method_149_code 18 = .ok (.ldc 7, 2) := by decide +kernel
theorem d_jdk_42_m149_20 : decode jdk_42_method_149_code 20 = .ok (.getfield 15, 3) := by decide +kernel
theorem d_jdk_42_m149_23 : decode jdk_42_method_149_code 23 = .ok (.putfield 15, 3) := by decide +kernel
theorem d_jdk_42_m149_26 : decode jdk_42_method_149_code 26 = .ok (.return_, 1) := by decide +kernel
def QE1 (Z : State) (x b : Addr) (h0 : Heap) (n0 : Nat) (v : Option Value) (h : Heap) (L : List Loc) : Prop := v = none ∧ Fr n0 L ∧ Keep h0 h [x] ∧ Exa Z h x "java/lang/String" ∧ Fld Z h x "java/lang/String" "coder" "B" (.int 0) ∧ ∃ (t : Addr) (k : ClassId), Fld Z h x "java/lang/String" "value" "[B" (.ref t) ∧ Arv Z h t k .byte (0 : Int32) [] (.int (0 : Int32))
set_option maxRecDepth 65536 in
set_option maxHeartbeats 40000000 in
theorem rmE1 (l : Launch) (Z : State) (a0 : Array Value) (hw : ∀ d ∈ tables_1, d.before a0 Z = true) (ws : List Jvm.Cond) (x b : Addr) (h0 : Heap) (n0 : Nat) (X00 : Old Z n0 h0) (hEL : EW Z a0 consts_1) (wS : ∀ a ∈ Bundle.stringAtoms, a.before a0 Z = true) (ge_x : n0 ≤ x) (E : Exa Z h0 x "java/lang/String") (FV : Fld Z h0 x "java/lang/String" "value" "[B" .null) (FC : Fld Z h0 x "java/lang/String" "coder" "B" (.int (0 : Int32))) :
    MetFree l (⟨"java/lang/String", "<init>", "([CIILjava/lang/Void;)V"⟩ : MethodName) (head1 (Jvm.Cond.code (⟨"java/lang/String", "<init>", "([CIILjava/lang/Void;)V"⟩ : MethodName) jdk_42_method_149_code 6 none :: ws) ({ frames := 1, cells := 4, slots := 8, locals := 16 } : Room)) (fun aa U => aa = #[(.ref x), (.ref b), (.int (0 : Int32)), (.int (0 : Int32)), .null] ∧ Z.Warmed39 U.vm ∧ U.heap = h0 ∧ CHv Z consts_1 U.vm h0 ∧ ∀ zz ∈ ([x] : List Addr), Safe Z consts_1 U.vm h0 zz) (fun _ _ _ _ _ => True) (fun _ U o U' => ∃ v L, o = .returned v ∧ QE1 Z x b h0 n0 v U'.heap L ∧ CHr Z consts_1 U.vm U.heap U'.vm U'.heap ∧ ReturnedEndW U o U' L ({ frames := 1, cells := 4, slots := 8, locals := 16 } : Room).cells ({ frames := 1, cells := 4, slots := 8, locals := 16 } : Room).slots) := by
  refine MetFree.of_bodySF (plainFor_of_name pn_0) hisR ?_
  intro p e s m args below meth c s₁ Bd hml0 hP hK
  obtain ⟨rfl, hZ, hh, H0, hsf⟩ := hP
  have hx := Bd.exec
  have hby := Bd.bytes
  have hml : c.maxLocals = 6 := hml0
  have hown : s.vm.findClass "java/lang/String" = some m.cls := findClass_of_methodNamed Bd.named
  have hnm := (name_of_methodNamed Bd.named Bd.method).1
  have X0 : Stand p l e ({ frames := 1, cells := 4, slots := 8, locals := 16 } : Room) (s.setVm s.vm) m #[(.ref x), (.ref b), (.int (0 : Int32)), (.int (0 : Int32)), .null] below meth c s₁ [] 0 0 := Stand.of_body Bd
  have e0 : s₁.heap = h0 := by rw [← hh, Bd.state]; rfl
  have N0 := Fr.nil n0
  have K0 := Keep.refl h0 [x]
  have hS0 : s.Since s.vm h0.size := (State.WarmedH.refl s).since _
  have hk0 := Nat.le_refl h0.size
  have C0 : CHr Z consts_1 s.vm h0 s.vm h0 := CHr.refl H0
  have sx0 : Safe Z consts_1 s.vm h0 x := hsf _ (List.mem_of_getElem? (i := 0) rfl)
  have ef : entryFrame m #[(.ref x), (.ref b), (.int (0 : Int32)), (.int (0 : Int32)), .null] 6 = mkF m 0 #[.val (.ref x), .val (.ref b), .val (.int (0 : Int32)), .val (.int (0 : Int32)), .val .null, .unset] [] := (by first | (simp [entryFrame, mkF, argsToLocals, Value.category]; done) | rfl : entryFrame m #[(.ref x), (.ref b), (.int (0 : Int32)), (.int (0 : Int32)), .null] 6 = mkF m 0 #[.val (.ref x), .val (.ref b), .val (.int (0 : Int32)), .val (.int (0 : Int32)), .val .null, .unset] [])
  rw [ef]
  refine fin_of fun Kx hF => ?_
  show Go p.tables e below Kx s₁ (mkF m 0 #[.val (.ref x), .val (.ref b), .val (.int (0 : Int32)), .val (.int (0 : Int32)), .val .null, .unset] [])
  refine s_aloadN (pc' := 1) X0.here hx (hb hby d_jdk_42_m149_0) rfl rfl rfl ?_
  obtain ⟨T1, X1, e1, st1⟩ := initO X0 hx hZ hown (hw _ (List.mem_of_getElem? (i := 15) rfl)) (hw _ (List.mem_of_getElem? (i := 16) rfl)) (hw _ (List.mem_of_getElem? (i := 17) rfl)) e0 (g := (mkF m 1 #[.val (.ref x), .val (.ref b), .val (.int (0 : Int32)), .val (.int (0 : Int32)), .val .null, .unset] [(.ref x)])) rfl (by rw [hml]; rfl) rfl (hb hby d_jdk_42_m149_1) (by decide) (W := 0) (by show 2 * 0 + _ ≤ _; exact Nat.le_of_eq rfl) (by decide)
  refine Go.st st1 ?_
  show Go p.tables e below Kx T1 (mkF m 4 #[.val (.ref x), .val (.ref b), .val (.int (0 : Int32)), .val (.int (0 : Int32)), .val .null, .unset] [])
  refine s_iloadN (pc' := 5) X1.here hx (hb hby d_jdk_42_m149_4) rfl rfl ?_
  refine s_ifN (pc' := 8) X1.here hx (hb hby d_jdk_42_m149_5) rfl ((if0 _ _).trans (teq (by decide)).2) ?_
  refine s_aloadN (pc' := 9) X1.here hx (hb hby d_jdk_42_m149_8) rfl rfl rfl ?_
  obtain ⟨a2, T2, h2, k12, b2, k2, X2, e2, E2, hS2, hk2, hZ2, hown2, A2, FC2, FV2, V2, la2, lb2, Cr2, Lt2, sx2, st2⟩ := ldcCH X1 hx hZ hown (hw _ (List.mem_of_getElem? (i := 102) rfl)) wS e1 hS0 hk0 hEL (List.mem_of_getElem? (i := 0) rfl) H0 (vs := []) (z := (0 : Int32)) (by decide) (by decide) (by decide) (g := (mkF m 9 #[.val (.ref x), .val (.ref b), .val (.int (0 : Int32)), .val (.int (0 : Int32)), .val .null, .unset] [(.ref x)])) rfl (hb hby d_jdk_42_m149_9) (n := 0) (by decide) (by decide) (by decide) (by decide)
  have sf3 : Safe Z consts_1 T2.vm h2 x := Cr2.safe E.lt sx0
  have C2 := C0.trans Cr2
  have K2 : Keep h0 h2 [x] := K0.ext E2
  have O2 : Old Z n0 h2 := X00.ext E2
  refine Go.st st2 ?_
  show Go p.tables e below Kx T2 (mkF m 11 #[.val (.ref x), .val (.ref b), .val (.int (0 : Int32)), .val (.int (0 : Int32)), .val .null, .unset] [(.ref a2), (.ref x)])
  obtain ⟨T4, X4, e4, st4⟩ := getF X2 hx hZ2 hown2 (host := "") (Or.inl (hw _ (List.mem_of_getElem? (i := 32) rfl))) Via.refl e2 FV2 (g := (mkF m 11 #[.val (.ref x), .val (.ref b), .val (.int (0 : Int32)), .val (.int (0 : Int32)), .val .null, .unset] [(.ref a2), (.ref x)])) rfl rfl (hb hby d_jdk_42_m149_11)
  refine Go.st st4 ?_
  show Go p.tables e below Kx T4 (mkF m 14 #[.val (.ref x), .val (.ref b), .val (.int (0 : Int32)), .val (.int (0 : Int32)), .val .null, .unset] [(.ref b2), (.ref x)])
  have f5 : Fld Z h2 x "java/lang/String" "value" "[B" .null := (FV.ext E2)
  have f6 : Exa Z h2 x "java/lang/String" := (E.ext E2)
  obtain ⟨T7, h7, X7, e7, W7, st7⟩ := putF X4 hx hZ2 hown2 (host := "") (Or.inl (hw _ (List.mem_of_getElem? (i := 32) rfl))) Via.refl e4 f5 f6 (Or.inr ⟨(hw _ (List.mem_of_getElem? (i := 33) rfl)), rfl, hnm⟩) (hw _ (List.mem_of_getElem? (i := 6) rfl)) (ty := (.array .byte)) (by decide) rfl rfl (g := (mkF m 14 #[.val (.ref x), .val (.ref b), .val (.int (0 : Int32)), .val (.int (0 : Int32)), .val .null, .unset] [(.ref b2), (.ref x)])) rfl rfl (hb hby d_jdk_42_m149_14)
  have Fw7 : Fld Z h7 x "java/lang/String" "value" "[B" (.ref b2) := f5.same W7
  have K7 : Keep h0 h7 [x] := K2.wr W7 (Or.inl (List.mem_of_getElem? (i := 0) rfl))
  have O7 : Old Z n0 h7 := O2.wr W7 ge_x
  have sf8 : Safe Z consts_1 T2.vm h7 x := (Safe.wr W7 sf3 Cr2.1 sf3)
  have H7 : CHv Z consts_1 T2.vm h7 := Cr2.1.wr W7 sf3
  have C7 : CHr Z consts_1 s.vm h0 T2.vm h7 := C2.trans (CHr.wr W7 sf3 Cr2.1)
  have hk7 := Nat.le_trans hk2 (Nat.le_of_eq W7.size.symm)
  have N7 := Fr.snoc X7 N0 ge_x
  refine Go.st st7 ?_
  show Go p.tables e below Kx T7 (mkF m 17 #[.val (.ref x), .val (.ref b), .val (.int (0 : Int32)), .val (.int (0 : Int32)), .val .null, .unset] [])
  refine s_aloadN (pc' := 18) X7.here hx (hb hby d_jdk_42_m149_17) rfl rfl rfl ?_
  obtain ⟨a9, T9, h9, k19, b9, k9, X9, e9, E9, hS9, hk9, hZ9, hown9, A9, FC9, FV9, V9, la9, lb9, Cr9, Lt9, sx9, st9⟩ := ldcCH X7 hx hZ2 hown2 (hw _ (List.mem_of_getElem? (i := 102) rfl)) wS e7 hS2 hk7 hEL (List.mem_of_getElem? (i := 0) rfl) H7 (vs := []) (z := (0 : Int32)) (by decide) (by decide) (by decide) (g := (mkF m 18 #[.val (.ref x), .val (.ref b), .val (.int (0 : Int32)), .val (.int (0 : Int32)), .val .null, .unset] [(.ref x)])) rfl (hb hby d_jdk_42_m149_18) (n := 0) (by decide) (by decide) (by decide) (by decide)
  have sf10 : Safe Z consts_1 T9.vm h9 x := Cr9.safe (Nat.lt_of_lt_of_le E.lt (Nat.le_trans E2.1 (Nat.le_of_eq W7.size.symm))) sf8
  have C9 := C7.trans Cr9
  have K9 : Keep h0 h9 [x] := K7.ext E9
  have O9 : Old Z n0 h9 := O7.ext E9
  refine Go.st st9 ?_
  show Go p.tables e below Kx T9 (mkF m 20 #[.val (.ref x), .val (.ref b), .val (.int (0 : Int32)), .val (.int (0 : Int32)), .val .null, .unset] [(.ref a9), (.ref x)])
  obtain ⟨T11, X11, e11, st11⟩ := getF X9 hx hZ9 hown9 (host := "") (Or.inl (hw _ (List.mem_of_getElem? (i := 30) rfl))) Via.refl e9 FC9 (g := (mkF m 20 #[.val (.ref x), .val (.ref b), .val (.int (0 : Int32)), .val (.int (0 : Int32)), .val .null, .unset] [(.ref a9), (.ref x)])) rfl rfl (hb hby d_jdk_42_m149_20)
  refine Go.st st11 ?_
  show Go p.tables e below Kx T11 (mkF m 23 #[.val (.ref x), .val (.ref b), .val (.int (0 : Int32)), .val (.int (0 : Int32)), .val .null, .unset] [(.int (0 : Int32)), (.ref x)])
  have f12 : Fld Z h9 x "java/lang/String" "coder" "B" (.int (0 : Int32)) := (((FC.ext E2).other W7 (Or.inr (slot_ne (Or.inr (hw _ (List.mem_of_getElem? (i := 31) rfl))) (Or.inr (hw _ (List.mem_of_getElem? (i := 33) rfl))) (by decide) (t := .byte) (t' := (.array .byte)) (by decide) (by decide)))).ext E9)
  have f13 : Exa Z h9 x "java/lang/String" := ((f6.wr W7).ext E9)
  obtain ⟨T14, h14, X14, e14, W14, st14⟩ := putFN X11 hx hZ9 hown9 (hw _ (List.mem_of_getElem? (i := 30) rfl)) Via.refl e11 f12 f13 (Or.inr ⟨(hw _ (List.mem_of_getElem? (i := 31) rfl)), rfl, hnm⟩) (hw _ (List.mem_of_getElem? (i := 6) rfl)) (ty := .byte) (v' := (.int (0 : Int32))) (by decide) (by decide) (by decide) (g := (mkF m 23 #[.val (.ref x), .val (.ref b), .val (.int (0 : Int32)), .val (.int (0 : Int32)), .val .null, .unset] [(.int (0 : Int32)), (.ref x)])) rfl rfl (hb hby d_jdk_42_m149_23)
  have Fw14 : Fld Z h14 x "java/lang/String" "coder" "B" (.int (0 : Int32)) := f12.same W14
  have K14 : Keep h0 h14 [x] := K9.wr W14 (Or.inl (List.mem_of_getElem? (i := 0) rfl))
  have O14 : Old Z n0 h14 := O9.wr W14 ge_x
  have sf15 : Safe Z consts_1 T9.vm h14 x := (Safe.wr W14 sf10 Cr9.1 sf10)
  have H14 : CHv Z consts_1 T9.vm h14 := Cr9.1.wr W14 sf10
  have C14 : CHr Z consts_1 s.vm h0 T9.vm h14 := C9.trans (CHr.wr W14 sf10 Cr9.1)
  have hk14 := Nat.le_trans hk9 (Nat.le_of_eq W14.size.symm)
  have N14 := Fr.snoc X14 N7 ge_x
  refine Go.st st14 ?_
  show Go p.tables e below Kx T14 (mkF m 26 #[.val (.ref x), .val (.ref b), .val (.int (0 : Int32)), .val (.int (0 : Int32)), .val .null, .unset] [])
  have f16 : Exa Z h14 x "java/lang/String" := (f13.wr W14)
  have f17 : Fld Z h14 x "java/lang/String" "value" "[B" (.ref b2) := ((Fw7.ext E9).other W14 (Or.inr (slot_ne (Or.inr (hw _ (List.mem_of_getElem? (i := 33) rfl))) (Or.inr (hw _ (List.mem_of_getElem? (i := 31) rfl))) (by decide) (t := (.array .byte)) (t' := .byte) (by decide) (by decide))))
  have f18 : Arv Z h14 b2 k2 .byte (0 : Int32) [] (.int 0) := (((V2.other W7 (Ne.symm (sx2 _ sf3).2)).ext E9).other W14 (Ne.symm (sx2 _ sf3).2))
  obtain ⟨fs, hr, hrun, hended, hRW⟩ := X14.leaveW hS9 (by rw [e14]; exact hk14) (v := none) (fun _ => rfl)
  have hCx := C14.trans (CHv.at X14 hZ9 hEL H14)
  refine Go.fin (X14.returnOut hx Bd.returns (hb hby d_jdk_42_m149_26) hr) (hF _ _ hrun hended ⟨_, _, rfl, ?_, ?_, hRW.1, hRW.2.1, hRW.2.2.1, hRW.2.2.2.mono (by decide) (by decide)⟩)
  · show QE1 Z x b h0 n0 (none : Option Value) T14.heap _
    rw [e14]
    exact ⟨rfl, N14, K14, f16, Fw14, b2, _, f17, f18⟩
  · show CHr Z consts_1 s.vm s.heap T14.vm T14.heap
    rw [e14, hh]; exact hCx
theorem d_jdk_42_m3_0 : decode jdk_42_method_3_code 0 = .ok (.aload_n 0, 1) := by decide +kernel
theorem d_jdk_42_m3_1 : decode jdk_42_method_3_code 1 = .ok (.aload_n 1, 1) := by decide +kernel
theorem d_jdk_42_m3_2 : decode jdk_42_method_3_code 2 = .ok (.iconst 0, 1) := by decide +kernel
theorem d_jdk_42_m3_3 : decode jdk_42_method_3_code 3 = .ok (.aload_n 1, 1) := by decide +kernel
theorem d_jdk_42_m3_4 : decode jdk_42_method_3_code 4 = .ok (.arraylength, 1) := by decide +kernel
theorem d_jdk_42_m3_5 : decode jdk_42_method_3_code 5 = .ok (.aconst_null, 1) := by decide +kernel
theorem pd_0 : parseMethodDescriptor "([CIILjava/lang/Void;)V" = some ⟨[(.array .char), .int, .int, (.object "java/lang/Void")], none⟩ := by decide +kernel
theorem d_jdk_42_m3_6 : decode jdk_42_method_3_code 6 = .ok (.invokespecial 27, 3) := by decide +kernel
theorem d_jdk_42_m3_9 : decode jdk_42_method_3_code 9 = .ok (.return_, 1) := by decide +kernel
def QE2 (Z : State) (x b : Addr) (kc : ClassId) (h0 : Heap) (n0 : Nat) (v : Option Value) (h : Heap) (L : List Loc) : Prop := v = none ∧ Fr n0 L ∧ Keep h0 h [x] ∧ Exa Z h x "java/lang/String" ∧ Fld Z h x "java/lang/String" "coder" "B" (.int 0) ∧ ∃ (t : Addr) (k : ClassId), Fld Z h x "java/lang/String" "value" "[B" (.ref t) ∧ Arv Z h t k .byte (0 : Int32) [] (.int (0 : Int32))
set_option maxRecDepth 65536 in
set_option maxHeartbeats 40000000 in
theorem rmE2 (l : Launch) (Z : State) (a0 : Array Value) (hw : ∀ d ∈ tables_1, d.before a0 Z = true) (ws : List Jvm.Cond) (x b : Addr) (kc : ClassId) (h0 : Heap) (n0 : Nat) (X00 : Old Z n0 h0) (hEL : EW Z a0 consts_1) (wS : ∀ a ∈ Bundle.stringAtoms, a.before a0 Z = true) (ge_x : n0 ≤ x) (E : Exa Z h0 x "java/lang/String") (FV : Fld Z h0 x "java/lang/String" "value" "[B" .null) (FC : Fld Z h0 x "java/lang/String" "coder" "B" (.int (0 : Int32))) (VB : Arv Z h0 b kc .char (0 : Int32) [] (.int (0 : Int32))) :
    MetFree l (⟨"java/lang/String", "<init>", "([C)V"⟩ : MethodName) (head1 (Jvm.Cond.code (⟨"java/lang/String", "<init>", "([C)V"⟩ : MethodName) jdk_42_method_3_code 2 none :: ws) ({ frames := 2, cells := 4, slots := 8, locals := 40 } : Room)) (fun aa U => aa = #[(.ref x), (.ref b)] ∧ Z.Warmed39 U.vm ∧ U.heap = h0 ∧ CHv Z consts_1 U.vm h0 ∧ ∀ zz ∈ ([x] : List Addr), Safe Z consts_1 U.vm h0 zz) (fun _ _ _ _ _ => True) (fun _ U o U' => ∃ v L, o = .returned v ∧ QE2 Z x b kc h0 n0 v U'.heap L ∧ CHr Z consts_1 U.vm U.heap U'.vm U'.heap ∧ ReturnedEndW U o U' L ({ frames := 2, cells := 4, slots := 8, locals := 40 } : Room).cells ({ frames := 2, cells := 4, slots := 8, locals := 40 } : Room).slots) := by
  refine MetFree.of_bodySF (plainFor_of_name pn_0) hisR ?_
  intro p e s m args below meth c s₁ Bd hml0 hP hK
  obtain ⟨rfl, hZ, hh, H0, hsf⟩ := hP
  have hx := Bd.exec
  have hby := Bd.bytes
  have hml : c.maxLocals = 2 := hml0
  have hown : s.vm.findClass "java/lang/String" = some m.cls := findClass_of_methodNamed Bd.named
  have hnm := (name_of_methodNamed Bd.named Bd.method).1
  have X0 : Stand p l e ({ frames := 2, cells := 4, slots := 8, locals := 40 } : Room) (s.setVm s.vm) m #[(.ref x), (.ref b)] below meth c s₁ [] 0 0 := Stand.of_body Bd
  have e0 : s₁.heap = h0 := by rw [← hh, Bd.state]; rfl
  have N0 := Fr.nil n0
  have K0 := Keep.refl h0 [x]
  have hS0 : s.Since s.vm h0.size := (State.WarmedH.refl s).since _
  have hk0 := Nat.le_refl h0.size
  have C0 : CHr Z consts_1 s.vm h0 s.vm h0 := CHr.refl H0
  have sx0 : Safe Z consts_1 s.vm h0 x := hsf _ (List.mem_of_getElem? (i := 0) rfl)
  have ef : entryFrame m #[(.ref x), (.ref b)] 2 = mkF m 0 #[.val (.ref x), .val (.ref b)] [] := (by first | (simp [entryFrame, mkF, argsToLocals, Value.category]; done) | rfl : entryFrame m #[(.ref x), (.ref b)] 2 = mkF m 0 #[.val (.ref x), .val (.ref b)] [])
  rw [ef]
  refine fin_of fun Kx hF => ?_
  show Go p.tables e below Kx s₁ (mkF m 0 #[.val (.ref x), .val (.ref b)] [])
  refine s_aloadN (pc' := 1) X0.here hx (hb hby d_jdk_42_m3_0) rfl rfl rfl ?_
  refine s_aloadN (pc' := 2) X0.here hx (hb hby d_jdk_42_m3_1) rfl rfl rfl ?_
  refine s_iconst (pc' := 3) (v := (0 : Int32)) X0.here hx (hb hby d_jdk_42_m3_2) rfl rfl ?_
  refine s_aloadN (pc' := 4) X0.here hx (hb hby d_jdk_42_m3_3) rfl rfl rfl ?_
  obtain ⟨cl19, Ar19, Aq19, As19, An19, Ah19, Ag19⟩ := id VB
  refine Go.st (X0.arraylength hx (by rw [e0]; exact Ar19.1) (State.isArrayOf_alike hZ.alike Ar19.2.1) (g := (mkF m 4 #[.val (.ref x), .val (.ref b)] [(.ref b), (.int (0 : Int32)), (.ref b), (.ref x)])) rfl rfl (hb hby d_jdk_42_m3_4)) ?_
  rw [len_of As19 An19]
  show Go p.tables e below Kx s₁ (mkF m 5 #[.val (.ref x), .val (.ref b)] [(.int (0 : Int32)), (.int (0 : Int32)), (.ref b), (.ref x)])
  refine s_aconst_null (pc' := 6) X0.here hx (hb hby d_jdk_42_m3_5) rfl ?_
  obtain ⟨_, _, ⟨T20, L20, k20, n20⟩, -, X20, hS'20, hg'20, ⟨Lc20, hQ20, l20, y20, z20, Cr20⟩, st20⟩ := X0.specialBackS hx (y := (⟨"java/lang/String", "<init>", "([CIILjava/lang/Void;)V"⟩ : MethodName)) rfl hown (mvT hZ (hw _ (List.mem_of_getElem? (i := 11) rfl))) (mvT hZ (hw _ (List.mem_of_getElem? (i := 12) rfl))) (mvT hZ (hw _ (List.mem_of_getElem? (i := 14) rfl))) (by decide) (backX (W := 0) (rmE1 l Z a0 hw [] x b h0 n0 X00 hEL wS ge_x E FV FC) hZ (hw _ (List.mem_of_getElem? (i := 14) rfl)) (hw _ (List.mem_of_getElem? (i := 7) rfl)) (by decide) (by decide) hEL H0 (allS (P := fun zz => zz < h0.size ∧ Safe Z consts_1 s.vm h0 zz) ⟨E.lt, sx0⟩ all0)) (g := (mkF m 6 #[.val (.ref x), .val (.ref b)] [.null, (.int (0 : Int32)), (.int (0 : Int32)), (.ref b), (.ref x)])) rfl (by rw [hml]; rfl) (Steps.refl _) (a := x) (argsL := [(.ref b), (.int (0 : Int32)), (.int (0 : Int32)), .null]) (rest := []) (lenOf pd_0 rfl) rfl (by show 2 * 0 + _ ≤ _; exact Nat.le_of_eq rfl) (hb hby d_jdk_42_m3_6) (fun _ _ => ⟨rfl, e0, (by decide : 0 + 4 ≤ _), (by decide : 0 + 8 ≤ _)⟩)
  dsimp only [Pt.U, Pt.locs, Pt.cells, Pt.slots] at X20 l20 y20 z20 st20 hQ20 hS'20 hg'20 Cr20
  rw [l20, y20, z20] at X20
  obtain ⟨rfl, Nq20, Kq20, q1_20, q2_20, t20, kt20, q3_20, q4_20⟩ := hQ20
  have N20 := Fr.app N0 Nq20
  have X20 : Stand p l e _ (s.setVm T20.vm) m _ below meth c T20 _ _ _ := X20
  obtain ⟨hZ20, hown20⟩ := wideOn hZ hS'20 hown
  have hS20 : s.Since T20.vm T20.heap.size := hS0.trans hS'20 (Nat.le_trans hk0 (by rw [e0] at hg'20; exact hg'20))
  have hk20 := Nat.le_refl T20.heap.size
  have sf21 : Safe Z consts_1 T20.vm T20.heap x := Cr20.safe E.lt sx0
  have C20 := C0.trans Cr20
  have K20 : Keep h0 T20.heap [x] := K0.trans Kq20 (allS (P := fun zz => zz ∈ [x] ∨ h0.size ≤ zz) (Or.inl (List.mem_of_getElem? (i := 0) rfl)) all0)
  have O20 : Old Z n0 T20.heap := X00.keep Kq20 (allS ge_x all0)
  refine Go.tr st20 ?_
  show Go p.tables e below Kx T20 (mkF m 9 #[.val (.ref x), .val (.ref b)] [])
  obtain ⟨fs, hr, hrun, hended, hRW⟩ := X20.leaveW hS20 hk20 (v := none) (fun _ => rfl)
  have hCx := C20.trans (CHv.at X20 hZ20 hEL Cr20.1)
  refine Go.fin (X20.returnOut hx Bd.returns (hb hby d_jdk_42_m3_9) hr) (hF _ _ hrun hended ⟨_, _, rfl, ?_, ?_, hRW.1, hRW.2.1, hRW.2.2.1, hRW.2.2.2.mono (by decide) (by decide)⟩)
  · show QE2 Z x b kc h0 n0 (none : Option Value) T20.heap _
    skip
    exact ⟨rfl, N20, K20, q1_20, q2_20, t20, kt20, q3_20, q4_20⟩
  · show CHr Z consts_1 s.vm s.heap T20.vm T20.heap
    rw [hh]; exact hCx
def En (Z : State) (va dA dB dC tA tB tC eo : Addr) (kv : ClassId) : Prop := Sta Z Z.heap "com/example/syndica/syndica/InterestBasis" "$VALUES" "[Lcom/example/syndica/syndica/InterestBasis;" (.ref va) ∧ Arv Z Z.heap va kv (.object "com/example/syndica/syndica/InterestBasis") (3 : Int32) [(.ref dA), (.ref dB), (.ref dC)] .null ∧ Exa Z Z.heap va "[Lcom/example/syndica/syndica/InterestBasis;" ∧ Sta Z Z.heap "com/example/syndica/syndica/InterestBasis" "DAYS_360" "Lcom/example/syndica/syndica/InterestBasis;" (.ref dA) ∧ Exa Z Z.heap dA "com/example/syndica/syndica/InterestBasis" ∧ Fld Z Z.heap dA "com/example/syndica/syndica/InterestBasis" "value" "Ljava/lang/String;" (.ref tA) ∧ Str Z Z.heap Z.heap.size tA [(51 : Int32), (54 : Int32), (48 : Int32)] ∧ Sta Z Z.heap "com/example/syndica/syndica/InterestBasis" "DAYS_365" "Lcom/example/syndica/syndica/InterestBasis;" (.ref dB) ∧ Exa Z Z.heap dB "com/example/syndica/syndica/InterestBasis" ∧ Fld Z Z.heap dB "com/example/syndica/syndica/InterestBasis" "value" "Ljava/lang/String;" (.ref tB) ∧ Str Z Z.heap Z.heap.size tB [(51 : Int32), (54 : Int32), (53 : Int32)] ∧ Sta Z Z.heap "com/example/syndica/syndica/InterestBasis" "ACTUAL" "Lcom/example/syndica/syndica/InterestBasis;" (.ref dC) ∧ Exa Z Z.heap dC "com/example/syndica/syndica/InterestBasis" ∧ Fld Z Z.heap dC "com/example/syndica/syndica/InterestBasis" "value" "Ljava/lang/String;" (.ref tC) ∧ Str Z Z.heap Z.heap.size tC [(51 : Int32), (54 : Int32), (53 : Int32), (47 : Int32), (51 : Int32), (54 : Int32), (54 : Int32)] ∧ Sta Z Z.heap "java/util/Optional" "EMPTY" "Ljava/util/Optional;" (.ref eo) ∧ Exa Z Z.heap eo "java/util/Optional" ∧ Fld Z Z.heap eo "java/util/Optional" "value" "Ljava/lang/Object;" .null
theorem chr_long (x : Int64) : ¬ ((x &&& (255 : Int64)).toInt32) < 0 ∧ ¬ (255 : Int32) < ((x &&& (255 : Int64)).toInt32) := by
  rw [Int64.toInt32_and]; exact chr_mask _
theorem chr_ite {P : Prop} [Decidable P] : ¬ (if P then (48 : Int32) else (53 : Int32)) < 0 ∧ ¬ (255 : Int32) < (if P then (48 : Int32) else (53 : Int32)) := by
  by_cases h : P
  · rw [if_pos h]; decide
  · rw [if_neg h]; decide
theorem pn_1 : plainName "com/example/syndica/syndica/InterestBasisOfPinLaw" = true := by first | (simp [plainName, overriddenIn]; done) | decide +kernel
theorem d_m2_0 : decode method_2_code 0 = .ok (.iload_n 1, 1) := by decide +kernel
theorem d_m2_1 : decode method_2_code 1 = .ok (.iload_n 0, 1) := by decide +kernel
theorem d_m2_2 : decode method_2_code 2 = .ok (.iushr, 1) := by decide +kernel
theorem d_m2_3 : decode method_2_code 3 = .ok (.iconst 1, 1) := by decide +kernel
theorem d_m2_4 : decode method_2_code 4 = .ok (.iand, 1) := by decide +kernel
theorem d_m2_5 : decode method_2_code 5 = .ok (.ifCond .eq 18, 3) := by decide +kernel
theorem d_m2_23 : decode method_2_code 23 = .ok (.iload 4, 2) := by decide +kernel
theorem d_m2_25 : decode method_2_code 25 = .ok (.ireturn, 1) := by decide +kernel
theorem d_m2_8 : decode method_2_code 8 = .ok (.lload_n 2, 1) := by decide +kernel
theorem d_m2_9 : decode method_2_code 9 = .ok (.bipush 8, 2) := by decide +kernel
theorem d_m2_11 : decode method_2_code 11 = .ok (.iload_n 0, 1) := by decide +kernel
theorem d_m2_12 : decode method_2_code 12 = .ok (.imul, 1) := by decide +kernel
theorem d_m2_13 : decode method_2_code 13 = .ok (.lushr, 1) := by decide +kernel
theorem d_m2_14 : decode method_2_code 14 = .ok (.ldc2_w 7, 3) := by decide +kernel
theorem d_m2_17 : decode method_2_code 17 = .ok (.land, 1) := by decide +kernel
theorem d_m2_18 : decode method_2_code 18 = .ok (.l2i, 1) := by decide +kernel
theorem d_m2_19 : decode method_2_code 19 = .ok (.i2c, 1) := by decide +kernel
theorem d_m2_20 : decode method_2_code 20 = .ok (.goto 5, 3) := by decide +kernel
def QC (Z : State) (ci cm : Int32) (cd : Int64) (ct : Int32) (h0 : Heap) (n0 : Nat) (v : Option Value) (h : Heap) (L : List Loc) : Prop := (∃ r : Int32, v = some (.int r) ∧ ¬ r < 0 ∧ ¬ (255 : Int32) < r) ∧ Fr n0 L ∧ h = h0
set_option maxRecDepth 65536 in
set_option maxHeartbeats 40000000 in
theorem rmC (l : Launch) (Z : State) (a0 : Array Value) (hw : ∀ d ∈ tables_1, d.before a0 Z = true) (ws : List Jvm.Cond) (ci cm : Int32) (cd : Int64) (ct : Int32) (h0 : Heap) (n0 : Nat) (X00 : Old Z n0 h0) (hct : ¬ ct < 0 ∧ ¬ (255 : Int32) < ct) :
    MetFree l (⟨"com/example/syndica/syndica/InterestBasisOfPinLaw", "ch", "(IIJC)C"⟩ : MethodName) (head1 (Jvm.Cond.code (⟨"com/example/syndica/syndica/InterestBasisOfPinLaw", "ch", "(IIJC)C"⟩ : MethodName) method_2_code 5 (some .char) :: ws) ({ frames := 0, cells := 0, slots := 0, locals := 0 } : Room)) (fun aa U => aa = #[(.int ci), (.int cm), (.long cd), (.int ct)] ∧ Z.Warmed39 U.vm ∧ U.heap = h0) (fun _ _ _ _ _ => True) (fun _ U o U' => ∃ v L, o = .returned v ∧ QC Z ci cm cd ct h0 n0 v U'.heap L ∧ FrameEnd U o U' L ({ frames := 0, cells := 0, slots := 0, locals := 0 } : Room).cells ({ frames := 0, cells := 0, slots := 0, locals := 0 } : Room).slots) := by
  refine MetFree.of_bodySF (plainFor_of_name pn_1) hisR ?_
  intro p e s m args below meth c s₁ Bd hml0 hP hK
  obtain ⟨rfl, hZ, hh⟩ := hP
  have hx := Bd.exec
  have hby := Bd.bytes
  have hml : c.maxLocals = 5 := hml0
  have hown : s.vm.findClass "com/example/syndica/syndica/InterestBasisOfPinLaw" = some m.cls := findClass_of_methodNamed Bd.named
  have hnm := (name_of_methodNamed Bd.named Bd.method).1
  have X0 : Stand p l e ({ frames := 0, cells := 0, slots := 0, locals := 0 } : Room) s m #[(.int ci), (.int cm), (.long cd), (.int ct)] below meth c s₁ [] 0 0 := Stand.of_body Bd
  have e0 : s₁.heap = h0 := by rw [← hh, Bd.state]; rfl
  have N0 := Fr.nil n0
  have K0 := Keep.refl h0 []
  have ef : entryFrame m #[(.int ci), (.int cm), (.long cd), (.int ct)] 5 = mkF m 0 #[.val (.int ci), .val (.int cm), .val (.long cd), .second, .val (.int ct)] [] := (by first | (simp [entryFrame, mkF, argsToLocals, Value.category]; done) | rfl : entryFrame m #[(.int ci), (.int cm), (.long cd), (.int ct)] 5 = mkF m 0 #[.val (.int ci), .val (.int cm), .val (.long cd), .second, .val (.int ct)] [])
  rw [ef]
  refine fin_of fun Kx hF => ?_
  show Go p.tables e below Kx s₁ (mkF m 0 #[.val (.int ci), .val (.int cm), .val (.long cd), .second, .val (.int ct)] [])
  refine s_iloadN (pc' := 1) X0.here hx (hb hby d_m2_0) rfl rfl ?_
  refine s_iloadN (pc' := 2) X0.here hx (hb hby d_m2_1) rfl rfl ?_
  refine s_iushr (pc' := 3) X0.here hx (hb hby d_m2_2) rfl rfl ?_
  refine s_iconst (pc' := 4) (v := (1 : Int32)) X0.here hx (hb hby d_m2_3) rfl rfl ?_
  refine s_iand (pc' := 5) X0.here hx (hb hby d_m2_4) rfl rfl ?_
  by_cases hc22 : (((cm.toUInt32 >>> (ci &&& 31).toUInt32).toInt32) &&& (1 : Int32)) = (0 : Int32)
  · skip
    refine s_ifY (pc' := 23) X0.here hx (hb hby d_m2_5) ((if0 _ _).trans (teq hc22).1) (by decide) (by decide) ?_
    refine s_iload (pc' := 25) X0.here hx (hb hby d_m2_23) rfl rfl ?_
    obtain ⟨fs, hr, hrun, hended, hW, hsame⟩ := X0.leave (v := (some (.int (nar .char ct)))) (fun h => by rw [Bd.returns] at h; cases h)
    refine Go.fin (retN X0 hx (t := .char) Bd.returns (by simp) (hb hby d_m2_25) hr) (hF _ _ hrun hended ⟨_, _, rfl, ?_, ⟨_, rfl⟩, hW, hsame.mono (by decide) (by decide)⟩)
    · show QC Z ci cm cd ct h0 n0 ((some (.int (nar .char ct))) : Option Value) s₁.heap _
      rw [e0]
      exact ⟨⟨_, rfl, by rw [chr_nar hct]; exact hct⟩, N0, rfl⟩
  · skip
    refine s_ifN (pc' := 8) X0.here hx (hb hby d_m2_5) rfl ((if0 _ _).trans (feq hc22).1) ?_
    refine s_lloadN (pc' := 9) X0.here hx (hb hby d_m2_8) rfl rfl ?_
    refine s_bipush (pc' := 11) (v := (8 : Int32)) X0.here hx (hb hby d_m2_9) rfl rfl ?_
    refine s_iloadN (pc' := 12) X0.here hx (hb hby d_m2_11) rfl rfl ?_
    refine s_imul (pc' := 13) X0.here hx (hb hby d_m2_12) rfl rfl ?_
    refine s_lushr (pc' := 14) X0.here hx (hb hby d_m2_13) rfl rfl ?_
    refine Go.st (X0.ldc2Long hx hown (mvT hZ (hw _ (List.mem_of_getElem? (i := 105) rfl))) (g := (mkF m 14 #[.val (.int ci), .val (.int cm), .val (.long cd), .second, .val (.int ct)] [(.long ((cd.toUInt64 >>> (((8 : Int32) * ci) &&& 0x3f).toInt64.toUInt64).toInt64))])) rfl (hb hby d_m2_14)) ?_
    show Go p.tables e below Kx s₁ (mkF m 17 #[.val (.int ci), .val (.int cm), .val (.long cd), .second, .val (.int ct)] [(.long (255 : Int64)), (.long ((cd.toUInt64 >>> (((8 : Int32) * ci) &&& 0x3f).toInt64.toUInt64).toInt64))])
    refine s_land (pc' := 18) X0.here hx (hb hby d_m2_17) rfl rfl ?_
    refine s_l2i (pc' := 19) X0.here hx (hb hby d_m2_18) rfl rfl ?_
    refine s_i2c (pc' := 20) (z := ((((cd.toUInt64 >>> (((8 : Int32) * ci) &&& 0x3f).toInt64.toUInt64).toInt64) &&& (255 : Int64)).toInt32)) X0.here hx (hb hby d_m2_19) rfl (chr_i2c (chr_long ((cd.toUInt64 >>> (((8 : Int32) * ci) &&& 0x3f).toInt64.toUInt64).toInt64))) ?_
    refine s_goto (pc' := 25) X0.here hx (hb hby d_m2_20) (by decide) (by decide) ?_
    obtain ⟨fs, hr, hrun, hended, hW, hsame⟩ := X0.leave (v := (some (.int (nar .char ((((cd.toUInt64 >>> (((8 : Int32) * ci) &&& 0x3f).toInt64.toUInt64).toInt64) &&& (255 : Int64)).toInt32))))) (fun h => by rw [Bd.returns] at h; cases h)
    refine Go.fin (retN X0 hx (t := .char) Bd.returns (by simp) (hb hby d_m2_25) hr) (hF _ _ hrun hended ⟨_, _, rfl, ?_, ⟨_, rfl⟩, hW, hsame.mono (by decide) (by decide)⟩)
    · show QC Z ci cm cd ct h0 n0 ((some (.int (nar .char ((((cd.toUInt64 >>> (((8 : Int32) * ci) &&& 0x3f).toInt64.toUInt64).toInt64) &&& (255 : Int64)).toInt32)))) : Option Value) s₁.heap _
      rw [e0]
      exact ⟨⟨_, rfl, by rw [chr_nar (chr_long ((cd.toUInt64 >>> (((8 : Int32) * ci) &&& 0x3f).toInt64.toUInt64).toInt64))]; exact (chr_long ((cd.toUInt64 >>> (((8 : Int32) * ci) &&& 0x3f).toInt64.toUInt64).toInt64))⟩, N0, rfl⟩
theorem d_jdk_42_m66_0 : decode jdk_42_method_66_code 0 = .ok (.aload_n 0, 1) := by decide +kernel
theorem d_jdk_42_m66_1 : decode jdk_42_method_66_code 1 = .ok (.aload_n 1, 1) := by decide +kernel
theorem d_jdk_42_m66_2 : decode jdk_42_method_66_code 2 = .ok (.if_acmp .ne 5, 3) := by decide +kernel
theorem d_jdk_42_m66_7 : decode jdk_42_method_66_code 7 = .ok (.aload_n 1, 1) := by decide +kernel
theorem d_jdk_42_m66_8 : decode jdk_42_method_66_code 8 = .ok (.instanceof 10, 3) := by decide +kernel
theorem d_jdk_42_m66_11 : decode jdk_42_method_66_code 11 = .ok (.ifCond .eq 43, 3) := by decide +kernel
theorem d_jdk_42_m66_54 : decode jdk_42_method_66_code 54 = .ok (.iconst 0, 1) := by decide +kernel
theorem d_jdk_42_m66_55 : decode jdk_42_method_66_code 55 = .ok (.ireturn, 1) := by decide +kernel
def QS (Z : State) (x : Addr) (h0 : Heap) (n0 : Nat) (v : Option Value) (h : Heap) (L : List Loc) : Prop := v = some (.int 0) ∧ Fr n0 L ∧ h = h0
set_option maxRecDepth 65536 in
set_option maxHeartbeats 40000000 in
theorem rmS (l : Launch) (Z : State) (a0 : Array Value) (hw : ∀ d ∈ tables_1, d.before a0 Z = true) (ws : List Jvm.Cond) (x : Addr) (h0 : Heap) (n0 : Nat) (X00 : Old Z n0 h0)  :
    MetFree l (⟨"java/lang/String", "equals", "(Ljava/lang/Object;)Z"⟩ : MethodName) (head1 (Jvm.Cond.code (⟨"java/lang/String", "equals", "(Ljava/lang/Object;)Z"⟩ : MethodName) jdk_42_method_66_code 3 (some .boolean) :: ws) ({ frames := 0, cells := 0, slots := 0, locals := 0 } : Room)) (fun aa U => aa = #[(.ref x), .null] ∧ Z.Warmed39 U.vm ∧ U.heap = h0) (fun _ _ _ _ _ => True) (fun _ U o U' => ∃ v L, o = .returned v ∧ QS Z x h0 n0 v U'.heap L ∧ FrameEnd U o U' L ({ frames := 0, cells := 0, slots := 0, locals := 0 } : Room).cells ({ frames := 0, cells := 0, slots := 0, locals := 0 } : Room).slots) := by
  refine MetFree.of_bodySF (plainFor_of_name pn_0) hisR ?_
  intro p e s m args below meth c s₁ Bd hml0 hP hK
  obtain ⟨rfl, hZ, hh⟩ := hP
  have hx := Bd.exec
  have hby := Bd.bytes
  have hml : c.maxLocals = 3 := hml0
  have hown : s.vm.findClass "java/lang/String" = some m.cls := findClass_of_methodNamed Bd.named
  have hnm := (name_of_methodNamed Bd.named Bd.method).1
  have X0 : Stand p l e ({ frames := 0, cells := 0, slots := 0, locals := 0 } : Room) s m #[(.ref x), .null] below meth c s₁ [] 0 0 := Stand.of_body Bd
  have e0 : s₁.heap = h0 := by rw [← hh, Bd.state]; rfl
  have N0 := Fr.nil n0
  have K0 := Keep.refl h0 []
  have ef : entryFrame m #[(.ref x), .null] 3 = mkF m 0 #[.val (.ref x), .val .null, .unset] [] := (by first | (simp [entryFrame, mkF, argsToLocals, Value.category]; done) | rfl : entryFrame m #[(.ref x), .null] 3 = mkF m 0 #[.val (.ref x), .val .null, .unset] [])
  rw [ef]
  refine fin_of fun Kx hF => ?_
  show Go p.tables e below Kx s₁ (mkF m 0 #[.val (.ref x), .val .null, .unset] [])
  refine s_aloadN (pc' := 1) X0.here hx (hb hby d_jdk_42_m66_0) rfl rfl rfl ?_
  refine s_aloadN (pc' := 2) X0.here hx (hb hby d_jdk_42_m66_1) rfl rfl rfl ?_
  refine Go.st (fun _ r => Jvm.RoadKit.acmp (g := (mkF m 2 #[.val (.ref x), .val .null, .unset] [.null, (.ref x)])) X0 hx rfl rfl rfl (pc0 := 2) (pc' := 7) (same := false) rfl (hb hby d_jdk_42_m66_2) rfl (decide_eq_false nofun) (by decide) (by decide) r) ?_
  show Go p.tables e below Kx s₁ (mkF m 7 #[.val (.ref x), .val .null, .unset] [])
  refine s_aloadN (pc' := 8) X0.here hx (hb hby d_jdk_42_m66_7) rfl rfl rfl ?_
  refine Go.st (X0.instanceofNull hx (g := (mkF m 8 #[.val (.ref x), .val .null, .unset] [.null])) rfl rfl (hb hby d_jdk_42_m66_8)) ?_
  show Go p.tables e below Kx s₁ (mkF m 11 #[.val (.ref x), .val .null, .unset] [(.int (0 : Int32))])
  refine s_ifY (pc' := 54) X0.here hx (hb hby d_jdk_42_m66_11) ((if0 _ _).trans (teq (by decide)).1) (by decide) (by decide) ?_
  refine s_iconst (pc' := 55) (v := (0 : Int32)) X0.here hx (hb hby d_jdk_42_m66_54) rfl rfl ?_
  obtain ⟨fs, hr, hrun, hended, hW, hsame⟩ := X0.leave (v := (some (.int (0 : Int32)))) (fun h => by rw [Bd.returns] at h; cases h)
  refine Go.fin (retN X0 hx (t := .boolean) Bd.returns (by simp) (hb hby d_jdk_42_m66_55) hr) (hF _ _ hrun hended ⟨_, _, rfl, ?_, ⟨_, rfl⟩, hW, hsame.mono (by decide) (by decide)⟩)
  · show QS Z x h0 n0 ((some (.int (0 : Int32))) : Option Value) s₁.heap _
    rw [e0]
    exact ⟨rfl, N0, rfl⟩
theorem pn_2 : plainName "java/util/Objects" = true := by first | (simp [plainName, overriddenIn]; done) | decide +kernel
theorem d_jdk_31_m10_0 : decode jdk_31_method_10_code 0 = .ok (.aload_n 0, 1) := by decide +kernel
theorem d_jdk_31_m10_1 : decode jdk_31_method_10_code 1 = .ok (.ifnonnull 11, 3) := by decide +kernel
theorem d_jdk_31_m10_12 : decode jdk_31_method_10_code 12 = .ok (.aload_n 0, 1) := by decide +kernel
theorem d_jdk_31_m10_13 : decode jdk_31_method_10_code 13 = .ok (.areturn, 1) := by decide +kernel
def QR (Z : State) (xx : Addr) (h0 : Heap) (n0 : Nat) (v : Option Value) (h : Heap) (L : List Loc) : Prop := v = some (.ref xx) ∧ Fr n0 L ∧ h = h0
set_option maxRecDepth 65536 in
set_option maxHeartbeats 40000000 in
theorem rmR (l : Launch) (Z : State) (a0 : Array Value) (hw : ∀ d ∈ tables_1, d.before a0 Z = true) (ws : List Jvm.Cond) (xx : Addr) (h0 : Heap) (n0 : Nat) (X00 : Old Z n0 h0)  :
    MetFree l (⟨"java/util/Objects", "requireNonNull", "(Ljava/lang/Object;)Ljava/lang/Object;"⟩ : MethodName) (head1 (Jvm.Cond.code (⟨"java/util/Objects", "requireNonNull", "(Ljava/lang/Object;)Ljava/lang/Object;"⟩ : MethodName) jdk_31_method_10_code 1 (some (.object "java/lang/Object")) :: ws) ({ frames := 0, cells := 0, slots := 0, locals := 0 } : Room)) (fun aa U => aa = #[(.ref xx)] ∧ Z.Warmed39 U.vm ∧ U.heap = h0) (fun _ _ _ _ _ => True) (fun _ U o U' => ∃ v L, o = .returned v ∧ QR Z xx h0 n0 v U'.heap L ∧ FrameEnd U o U' L ({ frames := 0, cells := 0, slots := 0, locals := 0 } : Room).cells ({ frames := 0, cells := 0, slots := 0, locals := 0 } : Room).slots) := by
  refine MetFree.of_bodySF (plainFor_of_name pn_2) hisR ?_
  intro p e s m args below meth c s₁ Bd hml0 hP hK
  obtain ⟨rfl, hZ, hh⟩ := hP
  have hx := Bd.exec
  have hby := Bd.bytes
  have hml : c.maxLocals = 1 := hml0
  have hown : s.vm.findClass "java/util/Objects" = some m.cls := findClass_of_methodNamed Bd.named
  have hnm := (name_of_methodNamed Bd.named Bd.method).1
  have X0 : Stand p l e ({ frames := 0, cells := 0, slots := 0, locals := 0 } : Room) s m #[(.ref xx)] below meth c s₁ [] 0 0 := Stand.of_body Bd
  have e0 : s₁.heap = h0 := by rw [← hh, Bd.state]; rfl
  have N0 := Fr.nil n0
  have K0 := Keep.refl h0 []
  have ef : entryFrame m #[(.ref xx)] 1 = mkF m 0 #[.val (.ref xx)] [] := (by first | (simp [entryFrame, mkF, argsToLocals, Value.category]; done) | rfl : entryFrame m #[(.ref xx)] 1 = mkF m 0 #[.val (.ref xx)] [])
  rw [ef]
  refine fin_of fun Kx hF => ?_
  show Go p.tables e below Kx s₁ (mkF m 0 #[.val (.ref xx)] [])
  refine s_aloadN (pc' := 1) X0.here hx (hb hby d_jdk_31_m10_0) rfl rfl rfl ?_
  refine s_ifnonnullY (pc' := 12) X0.here hx (hb hby d_jdk_31_m10_1) (by decide) (by decide) ?_
  refine s_aloadN (pc' := 13) X0.here hx (hb hby d_jdk_31_m10_12) rfl rfl rfl ?_
  obtain ⟨fs, hr, hrun, hended, hW, hsame⟩ := X0.leave (v := (some (.ref xx))) (fun h => by rw [Bd.returns] at h; cases h)
  refine Go.fin (retOut X0 hx Bd.returns rfl (Or.inr (Or.inr (Or.inr (Or.inr ⟨rfl, rfl, rfl⟩)))) (hb hby d_jdk_31_m10_13) hr) (hF _ _ hrun hended ⟨_, _, rfl, ?_, ⟨_, rfl⟩, hW, hsame.mono (by decide) (by decide)⟩)
  · show QR Z xx h0 n0 ((some (.ref xx)) : Option Value) s₁.heap _
    rw [e0]
    exact ⟨rfl, N0, rfl⟩
theorem pn_3 : plainName "java/util/Optional" = true := by first | (simp [plainName, overriddenIn]; done) | decide +kernel
theorem d_jdk_32_m2_0 : decode jdk_32_method_2_code 0 = .ok (.aload_n 0, 1) := by decide +kernel
theorem d_jdk_32_m2_1 : decode jdk_32_method_2_code 1 = .ok (.invokespecial 7, 3) := by decide +kernel
theorem d_jdk_32_m2_4 : decode jdk_32_method_2_code 4 = .ok (.aload_n 0, 1) := by decide +kernel
theorem d_jdk_32_m2_5 : decode jdk_32_method_2_code 5 = .ok (.aload_n 1, 1) := by decide +kernel
theorem d_jdk_32_m2_6 : decode jdk_32_method_2_code 6 = .ok (.putfield 13, 3) := by decide +kernel
theorem d_jdk_32_m2_9 : decode jdk_32_method_2_code 9 = .ok (.return_, 1) := by decide +kernel
def QI (Z : State) (a xx : Addr) (h0 : Heap) (n0 : Nat) (v : Option Value) (h : Heap) (L : List Loc) : Prop := v = none ∧ Fr n0 L ∧ Keep h0 h [a] ∧ Exa Z h a "java/util/Optional" ∧ Fld Z h a "java/util/Optional" "value" "Ljava/lang/Object;" (.ref xx)
set_option maxRecDepth 65536 in
set_option maxHeartbeats 40000000 in
theorem rmI (l : Launch) (Z : State) (a0 : Array Value) (hw : ∀ d ∈ tables_1, d.before a0 Z = true) (ws : List Jvm.Cond) (a xx : Addr) (h0 : Heap) (n0 : Nat) (X00 : Old Z n0 h0) (ge_a : n0 ≤ a) (E : Exa Z h0 a "java/util/Optional") (F1 : Fld Z h0 a "java/util/Optional" "value" "Ljava/lang/Object;" .null) :
    MetFree l (⟨"java/util/Optional", "<init>", "(Ljava/lang/Object;)V"⟩ : MethodName) (head1 (Jvm.Cond.code (⟨"java/util/Optional", "<init>", "(Ljava/lang/Object;)V"⟩ : MethodName) jdk_32_method_2_code 2 none :: ws) ({ frames := 1, cells := 0, slots := 0, locals := 20 } : Room)) (fun aa U => aa = #[(.ref a), (.ref xx)] ∧ Z.Warmed39 U.vm ∧ U.heap = h0) (fun _ _ _ _ _ => True) (fun _ U o U' => ∃ v L, o = .returned v ∧ QI Z a xx h0 n0 v U'.heap L ∧ FrameEnd U o U' L ({ frames := 1, cells := 0, slots := 0, locals := 20 } : Room).cells ({ frames := 1, cells := 0, slots := 0, locals := 20 } : Room).slots) := by
  refine MetFree.of_bodySF (plainFor_of_name pn_3) hisR ?_
  intro p e s m args below meth c s₁ Bd hml0 hP hK
  obtain ⟨rfl, hZ, hh⟩ := hP
  have hx := Bd.exec
  have hby := Bd.bytes
  have hml : c.maxLocals = 2 := hml0
  have hown : s.vm.findClass "java/util/Optional" = some m.cls := findClass_of_methodNamed Bd.named
  have hnm := (name_of_methodNamed Bd.named Bd.method).1
  have X0 : Stand p l e ({ frames := 1, cells := 0, slots := 0, locals := 20 } : Room) s m #[(.ref a), (.ref xx)] below meth c s₁ [] 0 0 := Stand.of_body Bd
  have e0 : s₁.heap = h0 := by rw [← hh, Bd.state]; rfl
  have N0 := Fr.nil n0
  have K0 := Keep.refl h0 [a]
  have ef : entryFrame m #[(.ref a), (.ref xx)] 2 = mkF m 0 #[.val (.ref a), .val (.ref xx)] [] := (by first | (simp [entryFrame, mkF, argsToLocals, Value.category]; done) | rfl : entryFrame m #[(.ref a), (.ref xx)] 2 = mkF m 0 #[.val (.ref a), .val (.ref xx)] [])
  rw [ef]
  refine fin_of fun Kx hF => ?_
  show Go p.tables e below Kx s₁ (mkF m 0 #[.val (.ref a), .val (.ref xx)] [])
  refine s_aloadN (pc' := 1) X0.here hx (hb hby d_jdk_32_m2_0) rfl rfl rfl ?_
  obtain ⟨T23, X23, e23, st23⟩ := initO X0 hx hZ hown (hw _ (List.mem_of_getElem? (i := 86) rfl)) (hw _ (List.mem_of_getElem? (i := 16) rfl)) (hw _ (List.mem_of_getElem? (i := 17) rfl)) e0 (g := (mkF m 1 #[.val (.ref a), .val (.ref xx)] [(.ref a)])) rfl (by rw [hml]; rfl) rfl (hb hby d_jdk_32_m2_1) (by decide) (W := 0) (by show 2 * 0 + _ ≤ _; exact Nat.le_of_eq rfl) (by decide)
  refine Go.st st23 ?_
  show Go p.tables e below Kx T23 (mkF m 4 #[.val (.ref a), .val (.ref xx)] [])
  refine s_aloadN (pc' := 5) X23.here hx (hb hby d_jdk_32_m2_4) rfl rfl rfl ?_
  refine s_aloadN (pc' := 6) X23.here hx (hb hby d_jdk_32_m2_5) rfl rfl rfl ?_
  obtain ⟨T24, h24, X24, e24, W24, st24⟩ := putF X23 hx hZ hown (host := "") (Or.inl (hw _ (List.mem_of_getElem? (i := 87) rfl))) Via.refl e23 F1 E (Or.inr ⟨(hw _ (List.mem_of_getElem? (i := 88) rfl)), rfl, hnm⟩) (hw _ (List.mem_of_getElem? (i := 77) rfl)) (ty := (.object "java/lang/Object")) (by decide) rfl rfl (g := (mkF m 6 #[.val (.ref a), .val (.ref xx)] [(.ref xx), (.ref a)])) rfl rfl (hb hby d_jdk_32_m2_6)
  have Fw24 : Fld Z h24 a "java/util/Optional" "value" "Ljava/lang/Object;" (.ref xx) := F1.same W24
  have K24 : Keep h0 h24 [a] := K0.wr W24 (Or.inl (List.mem_of_getElem? (i := 0) rfl))
  have O24 : Old Z n0 h24 := X00.wr W24 ge_a
  have N24 := Fr.snoc X24 N0 ge_a
  refine Go.st st24 ?_
  show Go p.tables e below Kx T24 (mkF m 9 #[.val (.ref a), .val (.ref xx)] [])
  have f25 : Exa Z h24 a "java/util/Optional" := (E.wr W24)
  obtain ⟨fs, hr, hrun, hended, hW, hsame⟩ := X24.leave (v := none) (fun _ => rfl)
  refine Go.fin (X24.returnOut hx Bd.returns (hb hby d_jdk_32_m2_9) hr) (hF _ _ hrun hended ⟨_, _, rfl, ?_, ⟨_, rfl⟩, hW, hsame.mono (by decide) (by decide)⟩)
  · show QI Z a xx h0 n0 (none : Option Value) T24.heap _
    rw [e24]
    exact ⟨rfl, N24, K24, f25, Fw24⟩
theorem d_jdk_32_m3_0 : decode jdk_32_method_3_code 0 = .ok (.new 2, 3) := by decide +kernel
theorem d_jdk_32_m3_3 : decode jdk_32_method_3_code 3 = .ok (.dup, 1) := by decide +kernel
theorem d_jdk_32_m3_4 : decode jdk_32_method_3_code 4 = .ok (.aload_n 0, 1) := by decide +kernel
theorem pd_1 : parseMethodDescriptor "(Ljava/lang/Object;)Ljava/lang/Object;" = some ⟨[(.object "java/lang/Object")], some (.object "java/lang/Object")⟩ := by decide +kernel
theorem d_jdk_32_m3_5 : decode jdk_32_method_3_code 5 = .ok (.invokestatic 17, 3) := by decide +kernel
theorem pd_2 : parseMethodDescriptor "(Ljava/lang/Object;)V" = some ⟨[(.object "java/lang/Object")], none⟩ := by decide +kernel
theorem d_jdk_32_m3_8 : decode jdk_32_method_3_code 8 = .ok (.invokespecial 23, 3) := by decide +kernel
theorem d_jdk_32_m3_11 : decode jdk_32_method_3_code 11 = .ok (.areturn, 1) := by decide +kernel
def QO (Z : State) (xx : Addr) (h0 : Heap) (n0 : Nat) (v : Option Value) (h : Heap) (L : List Loc) : Prop := ∃ y : Addr, v = some (.ref y) ∧ Fr n0 L ∧ Keep h0 h [] ∧ Exa Z h y "java/util/Optional" ∧ Fld Z h y "java/util/Optional" "value" "Ljava/lang/Object;" (.ref xx)
set_option maxRecDepth 65536 in
set_option maxHeartbeats 40000000 in
theorem rmO (l : Launch) (Z : State) (a0 : Array Value) (hw : ∀ d ∈ tables_1, d.before a0 Z = true) (ws : List Jvm.Cond) (xx : Addr) (h0 : Heap) (n0 : Nat) (X00 : Old Z n0 h0)  :
    MetFree l (⟨"java/util/Optional", "of", "(Ljava/lang/Object;)Ljava/util/Optional;"⟩ : MethodName) (head1 (Jvm.Cond.code (⟨"java/util/Optional", "of", "(Ljava/lang/Object;)Ljava/util/Optional;"⟩ : MethodName) jdk_32_method_3_code 1 (some (.object "java/util/Optional")) :: ws) ({ frames := 2, cells := 1, slots := 1, locals := 46 } : Room)) (fun aa U => aa = #[(.ref xx)] ∧ Z.Warmed39 U.vm ∧ U.heap = h0) (fun _ _ _ _ _ => True) (fun _ U o U' => ∃ v L, o = .returned v ∧ QO Z xx h0 n0 v U'.heap L ∧ FrameEnd U o U' L ({ frames := 2, cells := 1, slots := 1, locals := 46 } : Room).cells ({ frames := 2, cells := 1, slots := 1, locals := 46 } : Room).slots) := by
  refine MetFree.of_bodySF (plainFor_of_name pn_3) hisR ?_
  intro p e s m args below meth c s₁ Bd hml0 hP hK
  obtain ⟨rfl, hZ, hh⟩ := hP
  have hx := Bd.exec
  have hby := Bd.bytes
  have hml : c.maxLocals = 1 := hml0
  have hown : s.vm.findClass "java/util/Optional" = some m.cls := findClass_of_methodNamed Bd.named
  have hnm := (name_of_methodNamed Bd.named Bd.method).1
  have X0 : Stand p l e ({ frames := 2, cells := 1, slots := 1, locals := 46 } : Room) s m #[(.ref xx)] below meth c s₁ [] 0 0 := Stand.of_body Bd
  have e0 : s₁.heap = h0 := by rw [← hh, Bd.state]; rfl
  have N0 := Fr.nil n0
  have K0 := Keep.refl h0 []
  have ef : entryFrame m #[(.ref xx)] 1 = mkF m 0 #[.val (.ref xx)] [] := (by first | (simp [entryFrame, mkF, argsToLocals, Value.category]; done) | rfl : entryFrame m #[(.ref xx)] 1 = mkF m 0 #[.val (.ref xx)] [])
  rw [ef]
  refine fin_of fun Kx hF => ?_
  show Go p.tables e below Kx s₁ (mkF m 0 #[.val (.ref xx)] [])
  obtain ⟨T26, h26, X26, e26, E26, A26, D26, -, st26⟩ := newO X0 hx hZ hown (hw _ (List.mem_of_getElem? (i := 76) rfl)) (hw _ (List.mem_of_getElem? (i := 77) rfl)) (hw _ (List.mem_of_getElem? (i := 40) rfl)) e0 (g := (mkF m 0 #[.val (.ref xx)] [])) rfl (hb hby d_jdk_32_m3_0) (by decide) (by decide)
  obtain ⟨b26, g26⟩ : ∃ z, z = h0.size := ⟨_, rfl⟩
  rw [← g26] at A26 D26 st26
  have sz26 : h0.size ≤ b26 := Nat.le_trans K0.1 (Nat.le_of_eq g26.symm)
  have ge26 : n0 ≤ b26 := Nat.le_trans (X00.1 ▸ X00.2.1) (Nat.le_of_eq g26.symm)
  have K26 : Keep h0 h26 [] := K0.ext E26
  have O26 : Old Z n0 h26 := X00.ext E26
  have F26_value : Fld Z h26 b26 "java/util/Optional" "value" "Ljava/lang/Object;" .null := D26 (Or.inr (hw _ (List.mem_of_getElem? (i := 88) rfl))) (ty := (.object "java/lang/Object")) (by decide)
  refine Go.st st26 ?_
  show Go p.tables e below Kx T26 (mkF m 3 #[.val (.ref xx)] [(.ref b26)])
  refine s_dup (pc' := 4) X26.here hx (hb hby d_jdk_32_m3_3) rfl rfl ?_
  refine s_aloadN (pc' := 5) X26.here hx (hb hby d_jdk_32_m3_4) rfl rfl rfl ?_
  obtain ⟨_, _, ⟨T27, L27, k27, n27⟩, -, X27, ⟨Lc27, hQ27, l27, y27, z27⟩, st27⟩ := Jvm.LawKit.callS X26 hx (y := (⟨"java/util/Objects", "requireNonNull", "(Ljava/lang/Object;)Ljava/lang/Object;"⟩ : MethodName)) hown (mvT hZ (hw _ (List.mem_of_getElem? (i := 78) rfl))) (mvT hZ (hw _ (List.mem_of_getElem? (i := 79) rfl))) (mvT hZ (hw _ (List.mem_of_getElem? (i := 80) rfl))) (mvT hZ (hw _ (List.mem_of_getElem? (i := 81) rfl))) (by decide) (backOf (W := 2) (rmR l Z a0 hw [] xx h26 n0 O26 ) hZ (hw _ (List.mem_of_getElem? (i := 81) rfl)) (hw _ (List.mem_of_getElem? (i := 80) rfl)) (by decide) (by decide)) (g := (mkF m 5 #[.val (.ref xx)] [(.ref xx), (.ref b26), (.ref b26)])) rfl (by rw [hml]; rfl) (argsL := [(.ref xx)]) (rest := [(.ref b26), (.ref b26)]) (lenOf pd_1 rfl) rfl (by show 2 * 0 + _ ≤ _; exact Nat.le_of_eq rfl) (hb hby d_jdk_32_m3_5) (fun _ _ => ⟨rfl, e26, (by decide : 1 + 0 ≤ _), (by decide : 1 + 0 ≤ _)⟩)
  dsimp only [Pt.U, Pt.locs, Pt.cells, Pt.slots] at X27 l27 y27 z27 st27 hQ27
  rw [l27, y27, z27] at X27
  obtain ⟨rfl, Nq27, hE27⟩ := hQ27
  have N27 := Fr.app N0 Nq27
  refine Go.st st27 ?_
  show Go p.tables e below Kx T27 (mkF m 8 #[.val (.ref xx)] [(.ref xx), (.ref b26), (.ref b26)])
  obtain ⟨_, _, ⟨T28, L28, k28, n28⟩, -, X28, ⟨Lc28, hQ28, l28, y28, z28⟩, st28⟩ := X27.specialBack hx (y := (⟨"java/util/Optional", "<init>", "(Ljava/lang/Object;)V"⟩ : MethodName)) rfl hown (mvT hZ (hw _ (List.mem_of_getElem? (i := 82) rfl))) (mvT hZ (hw _ (List.mem_of_getElem? (i := 83) rfl))) (mvT hZ (hw _ (List.mem_of_getElem? (i := 85) rfl))) (by decide) (backOf (W := 1) (rmI l Z a0 hw [] b26 xx h26 n0 O26 ge26 A26 F26_value) hZ (hw _ (List.mem_of_getElem? (i := 85) rfl)) (hw _ (List.mem_of_getElem? (i := 40) rfl)) (by decide) (by decide)) (g := (mkF m 8 #[.val (.ref xx)] [(.ref xx), (.ref b26), (.ref b26)])) rfl (by rw [hml]; rfl) (Steps.refl _) (a := b26) (argsL := [(.ref xx)]) (rest := [(.ref b26)]) (lenOf pd_2 rfl) rfl (by show 2 * 0 + _ ≤ _; exact Nat.le_of_eq rfl) (hb hby d_jdk_32_m3_8) (fun _ _ => ⟨rfl, hE27, (by decide : 1 + 0 ≤ _), (by decide : 1 + 0 ≤ _)⟩)
  dsimp only [Pt.U, Pt.locs, Pt.cells, Pt.slots] at X28 l28 y28 z28 st28 hQ28
  rw [l28, y28, z28] at X28
  obtain ⟨rfl, Nq28, Kq28, q1_28, q2_28⟩ := hQ28
  have N28 := Fr.app N27 Nq28
  have K28 : Keep h0 T28.heap [] := K26.trans Kq28 (allS (P := fun zz => zz ∈ [] ∨ h0.size ≤ zz) (Or.inr sz26) all0)
  have O28 : Old Z n0 T28.heap := O26.keep Kq28 (allS ge26 all0)
  refine Go.tr st28 ?_
  show Go p.tables e below Kx T28 (mkF m 11 #[.val (.ref xx)] [(.ref b26)])
  obtain ⟨fs, hr, hrun, hended, hW, hsame⟩ := X28.leave (v := (some (.ref b26))) (fun h => by rw [Bd.returns] at h; cases h)
  refine Go.fin (retOut X28 hx Bd.returns rfl (Or.inr (Or.inr (Or.inr (Or.inr ⟨rfl, rfl, rfl⟩)))) (hb hby d_jdk_32_m3_11) hr) (hF _ _ hrun hended ⟨_, _, rfl, ?_, ⟨_, rfl⟩, hW, hsame.mono (by decide) (by decide)⟩)
  · show QO Z xx h0 n0 ((some (.ref b26)) : Option Value) T28.heap _
    skip
    exact ⟨_, rfl, N28, K28, q1_28, q2_28⟩
theorem d_jdk_32_m1_0 : decode jdk_32_method_1_code 0 = .ok (.getstatic 1, 3) := by decide +kernel
theorem d_jdk_32_m1_3 : decode jdk_32_method_1_code 3 = .ok (.astore_n 0, 1) := by decide +kernel
theorem d_jdk_32_m1_4 : decode jdk_32_method_1_code 4 = .ok (.aload_n 0, 1) := by decide +kernel
theorem d_jdk_32_m1_5 : decode jdk_32_method_1_code 5 = .ok (.areturn, 1) := by decide +kernel
def QM (Z : State) (va dA dB dC tA tB tC eo : Addr) (kv : ClassId) (h0 : Heap) (n0 : Nat) (v : Option Value) (h : Heap) (L : List Loc) : Prop := v = some (.ref eo) ∧ Fr n0 L ∧ h = h0
set_option maxRecDepth 65536 in
set_option maxHeartbeats 40000000 in
theorem rmM (l : Launch) (Z : State) (a0 : Array Value) (hw : ∀ d ∈ tables_1, d.before a0 Z = true) (ws : List Jvm.Cond) (va dA dB dC tA tB tC eo : Addr) (kv : ClassId) (h0 : Heap) (n0 : Nat) (X00 : Old Z n0 h0) (EN : En Z va dA dB dC tA tB tC eo kv) :
    MetFree l (⟨"java/util/Optional", "empty", "()Ljava/util/Optional;"⟩ : MethodName) (head1 (Jvm.Cond.code (⟨"java/util/Optional", "empty", "()Ljava/util/Optional;"⟩ : MethodName) jdk_32_method_1_code 1 (some (.object "java/util/Optional")) :: ws) ({ frames := 0, cells := 0, slots := 0, locals := 0 } : Room)) (fun aa U => aa = #[] ∧ Z.Warmed39 U.vm ∧ U.heap = h0) (fun _ _ _ _ _ => True) (fun _ U o U' => ∃ v L, o = .returned v ∧ QM Z va dA dB dC tA tB tC eo kv h0 n0 v U'.heap L ∧ FrameEnd U o U' L ({ frames := 0, cells := 0, slots := 0, locals := 0 } : Room).cells ({ frames := 0, cells := 0, slots := 0, locals := 0 } : Room).slots) := by
  refine MetFree.of_bodySF (plainFor_of_name pn_3) hisR ?_
  intro p e s m args below meth c s₁ Bd hml0 hP hK
  obtain ⟨rfl, hZ, hh⟩ := hP
  have hx := Bd.exec
  have hby := Bd.bytes
  have hml : c.maxLocals = 1 := hml0
  have hown : s.vm.findClass "java/util/Optional" = some m.cls := findClass_of_methodNamed Bd.named
  have hnm := (name_of_methodNamed Bd.named Bd.method).1
  have X0 : Stand p l e ({ frames := 0, cells := 0, slots := 0, locals := 0 } : Room) s m #[] below meth c s₁ [] 0 0 := Stand.of_body Bd
  have e0 : s₁.heap = h0 := by rw [← hh, Bd.state]; rfl
  have N0 := Fr.nil n0
  have K0 := Keep.refl h0 []
  have ef : entryFrame m #[] 1 = mkF m 0 #[.unset] [] := (by first | (simp [entryFrame, mkF, argsToLocals, Value.category]; done) | rfl : entryFrame m #[] 1 = mkF m 0 #[.unset] [])
  rw [ef]
  refine fin_of fun Kx hF => ?_
  show Go p.tables e below Kx s₁ (mkF m 0 #[.unset] [])
  obtain ⟨SV, AV, EV, SdA, EdA, FdA, TdA, SdB, EdB, FdB, TdB, SdC, EdC, FdC, TdC, SO, EO, FO⟩ := id EN
  obtain ⟨T29, X29, e29, st29⟩ := getS2 X0 hx hZ hown (host := "") (Or.inl (hw _ (List.mem_of_getElem? (i := 42) rfl))) Via.refl e0 (SO.ext X00.2) (g := (mkF m 0 #[.unset] [])) rfl (hb hby d_jdk_32_m1_0)
  refine Go.st st29 ?_
  show Go p.tables e below Kx T29 (mkF m 3 #[.unset] [(.ref eo)])
  refine s_astoreN (pc' := 4) (Ls' := #[.val (.ref eo)]) X29.here hx (hb hby d_jdk_32_m1_3) rfl rfl rfl ?_
  refine s_aloadN (pc' := 5) X29.here hx (hb hby d_jdk_32_m1_4) rfl rfl rfl ?_
  obtain ⟨fs, hr, hrun, hended, hW, hsame⟩ := X29.leave (v := (some (.ref eo))) (fun h => by rw [Bd.returns] at h; cases h)
  refine Go.fin (retOut X29 hx Bd.returns rfl (Or.inr (Or.inr (Or.inr (Or.inr ⟨rfl, rfl, rfl⟩)))) (hb hby d_jdk_32_m1_5) hr) (hF _ _ hrun hended ⟨_, _, rfl, ?_, ⟨_, rfl⟩, hW, hsame.mono (by decide) (by decide)⟩)
  · show QM Z va dA dB dC tA tB tC eo kv h0 n0 ((some (.ref eo)) : Option Value) T29.heap _
    rw [e29]
    exact ⟨rfl, N0, rfl⟩
theorem d_jdk_32_m6_0 : decode jdk_32_method_6_code 0 = .ok (.aload_n 0, 1) := by decide +kernel
theorem d_jdk_32_m6_1 : decode jdk_32_method_6_code 1 = .ok (.getfield 13, 3) := by decide +kernel
theorem d_jdk_32_m6_4 : decode jdk_32_method_6_code 4 = .ok (.ifnull 7, 3) := by decide +kernel
theorem d_jdk_32_m6_11 : decode jdk_32_method_6_code 11 = .ok (.iconst 0, 1) := by decide +kernel
theorem d_jdk_32_m6_12 : decode jdk_32_method_6_code 12 = .ok (.ireturn, 1) := by decide +kernel
def QP0 (Z : State) (a xx : Addr) (h0 : Heap) (n0 : Nat) (v : Option Value) (h : Heap) (L : List Loc) : Prop := v = some (.int 0) ∧ Fr n0 L ∧ h = h0
set_option maxRecDepth 65536 in
set_option maxHeartbeats 40000000 in
theorem rmP0 (l : Launch) (Z : State) (a0 : Array Value) (hw : ∀ d ∈ tables_1, d.before a0 Z = true) (ws : List Jvm.Cond) (a xx : Addr) (h0 : Heap) (n0 : Nat) (X00 : Old Z n0 h0) (F1 : Fld Z h0 a "java/util/Optional" "value" "Ljava/lang/Object;" .null) :
    MetFree l (⟨"java/util/Optional", "isPresent", "()Z"⟩ : MethodName) (head1 (Jvm.Cond.code (⟨"java/util/Optional", "isPresent", "()Z"⟩ : MethodName) jdk_32_method_6_code 1 (some .boolean) :: ws) ({ frames := 0, cells := 0, slots := 0, locals := 0 } : Room)) (fun aa U => aa = #[(.ref a)] ∧ Z.Warmed39 U.vm ∧ U.heap = h0) (fun _ _ _ _ _ => True) (fun _ U o U' => ∃ v L, o = .returned v ∧ QP0 Z a xx h0 n0 v U'.heap L ∧ FrameEnd U o U' L ({ frames := 0, cells := 0, slots := 0, locals := 0 } : Room).cells ({ frames := 0, cells := 0, slots := 0, locals := 0 } : Room).slots) := by
  refine MetFree.of_bodySF (plainFor_of_name pn_3) hisR ?_
  intro p e s m args below meth c s₁ Bd hml0 hP hK
  obtain ⟨rfl, hZ, hh⟩ := hP
  have hx := Bd.exec
  have hby := Bd.bytes
  have hml : c.maxLocals = 1 := hml0
  have hown : s.vm.findClass "java/util/Optional" = some m.cls := findClass_of_methodNamed Bd.named
  have hnm := (name_of_methodNamed Bd.named Bd.method).1
  have X0 : Stand p l e ({ frames := 0, cells := 0, slots := 0, locals := 0 } : Room) s m #[(.ref a)] below meth c s₁ [] 0 0 := Stand.of_body Bd
  have e0 : s₁.heap = h0 := by rw [← hh, Bd.state]; rfl
  have N0 := Fr.nil n0
  have K0 := Keep.refl h0 []
  have ef : entryFrame m #[(.ref a)] 1 = mkF m 0 #[.val (.ref a)] [] := (by first | (simp [entryFrame, mkF, argsToLocals, Value.category]; done) | rfl : entryFrame m #[(.ref a)] 1 = mkF m 0 #[.val (.ref a)] [])
  rw [ef]
  refine fin_of fun Kx hF => ?_
  show Go p.tables e below Kx s₁ (mkF m 0 #[.val (.ref a)] [])
  refine s_aloadN (pc' := 1) X0.here hx (hb hby d_jdk_32_m6_0) rfl rfl rfl ?_
  obtain ⟨T30, X30, e30, st30⟩ := getF X0 hx hZ hown (host := "") (Or.inl (hw _ (List.mem_of_getElem? (i := 87) rfl))) Via.refl e0 F1 (g := (mkF m 1 #[.val (.ref a)] [(.ref a)])) rfl rfl (hb hby d_jdk_32_m6_1)
  refine Go.st st30 ?_
  show Go p.tables e below Kx T30 (mkF m 4 #[.val (.ref a)] [.null])
  refine s_ifnullY (pc' := 11) X30.here hx (hb hby d_jdk_32_m6_4) (by decide) (by decide) ?_
  refine s_iconst (pc' := 12) (v := (0 : Int32)) X30.here hx (hb hby d_jdk_32_m6_11) rfl rfl ?_
  obtain ⟨fs, hr, hrun, hended, hW, hsame⟩ := X30.leave (v := (some (.int (0 : Int32)))) (fun h => by rw [Bd.returns] at h; cases h)
  refine Go.fin (retN X30 hx (t := .boolean) Bd.returns (by simp) (hb hby d_jdk_32_m6_12) hr) (hF _ _ hrun hended ⟨_, _, rfl, ?_, ⟨_, rfl⟩, hW, hsame.mono (by decide) (by decide)⟩)
  · show QP0 Z a xx h0 n0 ((some (.int (0 : Int32))) : Option Value) T30.heap _
    rw [e30]
    exact ⟨rfl, N0, rfl⟩
theorem d_jdk_32_m6_7 : decode jdk_32_method_6_code 7 = .ok (.iconst 1, 1) := by decide +kernel
theorem d_jdk_32_m6_8 : decode jdk_32_method_6_code 8 = .ok (.goto 4, 3) := by decide +kernel
def QP1 (Z : State) (a xx : Addr) (h0 : Heap) (n0 : Nat) (v : Option Value) (h : Heap) (L : List Loc) : Prop := v = some (.int 1) ∧ Fr n0 L ∧ h = h0
set_option maxRecDepth 65536 in
set_option maxHeartbeats 40000000 in
theorem rmP1 (l : Launch) (Z : State) (a0 : Array Value) (hw : ∀ d ∈ tables_1, d.before a0 Z = true) (ws : List Jvm.Cond) (a xx : Addr) (h0 : Heap) (n0 : Nat) (X00 : Old Z n0 h0) (F1 : Fld Z h0 a "java/util/Optional" "value" "Ljava/lang/Object;" (.ref xx)) :
    MetFree l (⟨"java/util/Optional", "isPresent", "()Z"⟩ : MethodName) (head1 (Jvm.Cond.code (⟨"java/util/Optional", "isPresent", "()Z"⟩ : MethodName) jdk_32_method_6_code 1 (some .boolean) :: ws) ({ frames := 0, cells := 0, slots := 0, locals := 0 } : Room)) (fun aa U => aa = #[(.ref a)] ∧ Z.Warmed39 U.vm ∧ U.heap = h0) (fun _ _ _ _ _ => True) (fun _ U o U' => ∃ v L, o = .returned v ∧ QP1 Z a xx h0 n0 v U'.heap L ∧ FrameEnd U o U' L ({ frames := 0, cells := 0, slots := 0, locals := 0 } : Room).cells ({ frames := 0, cells := 0, slots := 0, locals := 0 } : Room).slots) := by
  refine MetFree.of_bodySF (plainFor_of_name pn_3) hisR ?_
  intro p e s m args below meth c s₁ Bd hml0 hP hK
  obtain ⟨rfl, hZ, hh⟩ := hP
  have hx := Bd.exec
  have hby := Bd.bytes
  have hml : c.maxLocals = 1 := hml0
  have hown : s.vm.findClass "java/util/Optional" = some m.cls := findClass_of_methodNamed Bd.named
  have hnm := (name_of_methodNamed Bd.named Bd.method).1
  have X0 : Stand p l e ({ frames := 0, cells := 0, slots := 0, locals := 0 } : Room) s m #[(.ref a)] below meth c s₁ [] 0 0 := Stand.of_body Bd
  have e0 : s₁.heap = h0 := by rw [← hh, Bd.state]; rfl
  have N0 := Fr.nil n0
  have K0 := Keep.refl h0 []
  have ef : entryFrame m #[(.ref a)] 1 = mkF m 0 #[.val (.ref a)] [] := (by first | (simp [entryFrame, mkF, argsToLocals, Value.category]; done) | rfl : entryFrame m #[(.ref a)] 1 = mkF m 0 #[.val (.ref a)] [])
  rw [ef]
  refine fin_of fun Kx hF => ?_
  show Go p.tables e below Kx s₁ (mkF m 0 #[.val (.ref a)] [])
  refine s_aloadN (pc' := 1) X0.here hx (hb hby d_jdk_32_m6_0) rfl rfl rfl ?_
  obtain ⟨T31, X31, e31, st31⟩ := getF X0 hx hZ hown (host := "") (Or.inl (hw _ (List.mem_of_getElem? (i := 87) rfl))) Via.refl e0 F1 (g := (mkF m 1 #[.val (.ref a)] [(.ref a)])) rfl rfl (hb hby d_jdk_32_m6_1)
  refine Go.st st31 ?_
  show Go p.tables e below Kx T31 (mkF m 4 #[.val (.ref a)] [(.ref xx)])
  refine s_ifnullN (pc' := 7) X31.here hx (hb hby d_jdk_32_m6_4) rfl ?_
  refine s_iconst (pc' := 8) (v := (1 : Int32)) X31.here hx (hb hby d_jdk_32_m6_7) rfl rfl ?_
  refine s_goto (pc' := 12) X31.here hx (hb hby d_jdk_32_m6_8) (by decide) (by decide) ?_
  obtain ⟨fs, hr, hrun, hended, hW, hsame⟩ := X31.leave (v := (some (.int (1 : Int32)))) (fun h => by rw [Bd.returns] at h; cases h)
  refine Go.fin (retN X31 hx (t := .boolean) Bd.returns (by simp) (hb hby d_jdk_32_m6_12) hr) (hF _ _ hrun hended ⟨_, _, rfl, ?_, ⟨_, rfl⟩, hW, hsame.mono (by decide) (by decide)⟩)
  · show QP1 Z a xx h0 n0 ((some (.int (1 : Int32))) : Option Value) T31.heap _
    rw [e31]
    exact ⟨rfl, N0, rfl⟩
theorem d_jdk_32_m5_0 : decode jdk_32_method_5_code 0 = .ok (.aload_n 0, 1) := by decide +kernel
theorem d_jdk_32_m5_1 : decode jdk_32_method_5_code 1 = .ok (.getfield 13, 3) := by decide +kernel
theorem d_jdk_32_m5_4 : decode jdk_32_method_5_code 4 = .ok (.ifnonnull 13, 3) := by decide +kernel
theorem d_jdk_32_m5_17 : decode jdk_32_method_5_code 17 = .ok (.aload_n 0, 1) := by decide +kernel
theorem d_jdk_32_m5_18 : decode jdk_32_method_5_code 18 = .ok (.getfield 13, 3) := by decide +kernel
theorem d_jdk_32_m5_21 : decode jdk_32_method_5_code 21 = .ok (.areturn, 1) := by decide +kernel
def QG (Z : State) (a xx : Addr) (h0 : Heap) (n0 : Nat) (v : Option Value) (h : Heap) (L : List Loc) : Prop := v = some (.ref xx) ∧ Fr n0 L ∧ h = h0
set_option maxRecDepth 65536 in
set_option maxHeartbeats 40000000 in
theorem rmG (l : Launch) (Z : State) (a0 : Array Value) (hw : ∀ d ∈ tables_1, d.before a0 Z = true) (ws : List Jvm.Cond) (a xx : Addr) (h0 : Heap) (n0 : Nat) (X00 : Old Z n0 h0) (F1 : Fld Z h0 a "java/util/Optional" "value" "Ljava/lang/Object;" (.ref xx)) :
    MetFree l (⟨"java/util/Optional", "get", "()Ljava/lang/Object;"⟩ : MethodName) (head1 (Jvm.Cond.code (⟨"java/util/Optional", "get", "()Ljava/lang/Object;"⟩ : MethodName) jdk_32_method_5_code 1 (some (.object "java/lang/Object")) :: ws) ({ frames := 0, cells := 0, slots := 0, locals := 0 } : Room)) (fun aa U => aa = #[(.ref a)] ∧ Z.Warmed39 U.vm ∧ U.heap = h0) (fun _ _ _ _ _ => True) (fun _ U o U' => ∃ v L, o = .returned v ∧ QG Z a xx h0 n0 v U'.heap L ∧ FrameEnd U o U' L ({ frames := 0, cells := 0, slots := 0, locals := 0 } : Room).cells ({ frames := 0, cells := 0, slots := 0, locals := 0 } : Room).slots) := by
  refine MetFree.of_bodySF (plainFor_of_name pn_3) hisR ?_
  intro p e s m args below meth c s₁ Bd hml0 hP hK
  obtain ⟨rfl, hZ, hh⟩ := hP
  have hx := Bd.exec
  have hby := Bd.bytes
  have hml : c.maxLocals = 1 := hml0
  have hown : s.vm.findClass "java/util/Optional" = some m.cls := findClass_of_methodNamed Bd.named
  have hnm := (name_of_methodNamed Bd.named Bd.method).1
  have X0 : Stand p l e ({ frames := 0, cells := 0, slots := 0, locals := 0 } : Room) s m #[(.ref a)] below meth c s₁ [] 0 0 := Stand.of_body Bd
  have e0 : s₁.heap = h0 := by rw [← hh, Bd.state]; rfl
  have N0 := Fr.nil n0
  have K0 := Keep.refl h0 []
  have ef : entryFrame m #[(.ref a)] 1 = mkF m 0 #[.val (.ref a)] [] := (by first | (simp [entryFrame, mkF, argsToLocals, Value.category]; done) | rfl : entryFrame m #[(.ref a)] 1 = mkF m 0 #[.val (.ref a)] [])
  rw [ef]
  refine fin_of fun Kx hF => ?_
  show Go p.tables e below Kx s₁ (mkF m 0 #[.val (.ref a)] [])
  refine s_aloadN (pc' := 1) X0.here hx (hb hby d_jdk_32_m5_0) rfl rfl rfl ?_
  obtain ⟨T32, X32, e32, st32⟩ := getF X0 hx hZ hown (host := "") (Or.inl (hw _ (List.mem_of_getElem? (i := 87) rfl))) Via.refl e0 F1 (g := (mkF m 1 #[.val (.ref a)] [(.ref a)])) rfl rfl (hb hby d_jdk_32_m5_1)
  refine Go.st st32 ?_
  show Go p.tables e below Kx T32 (mkF m 4 #[.val (.ref a)] [(.ref xx)])
  refine s_ifnonnullY (pc' := 17) X32.here hx (hb hby d_jdk_32_m5_4) (by decide) (by decide) ?_
  refine s_aloadN (pc' := 18) X32.here hx (hb hby d_jdk_32_m5_17) rfl rfl rfl ?_
  obtain ⟨T33, X33, e33, st33⟩ := getF X32 hx hZ hown (host := "") (Or.inl (hw _ (List.mem_of_getElem? (i := 87) rfl))) Via.refl e32 F1 (g := (mkF m 18 #[.val (.ref a)] [(.ref a)])) rfl rfl (hb hby d_jdk_32_m5_18)
  refine Go.st st33 ?_
  show Go p.tables e below Kx T33 (mkF m 21 #[.val (.ref a)] [(.ref xx)])
  obtain ⟨fs, hr, hrun, hended, hW, hsame⟩ := X33.leave (v := (some (.ref xx))) (fun h => by rw [Bd.returns] at h; cases h)
  refine Go.fin (retOut X33 hx Bd.returns rfl (Or.inr (Or.inr (Or.inr (Or.inr ⟨rfl, rfl, rfl⟩)))) (hb hby d_jdk_32_m5_21) hr) (hF _ _ hrun hended ⟨_, _, rfl, ?_, ⟨_, rfl⟩, hW, hsame.mono (by decide) (by decide)⟩)
  · show QG Z a xx h0 n0 ((some (.ref xx)) : Option Value) T33.heap _
    rw [e33]
    exact ⟨rfl, N0, rfl⟩
theorem pn_4 : plainName "com/example/syndica/syndica/InterestBasis" = true := by first | (simp [plainName, overriddenIn]; done) | decide +kernel
theorem d_prog_38_m1_0 : decode prog_38_method_1_code 0 = .ok (.getstatic 13, 3) := by decide +kernel
theorem d_prog_38_m1_3 : decode prog_38_method_1_code 3 = .ok (.invokevirtual 17, 3) := by decide +kernel
theorem d_prog_38_m1_6 : decode prog_38_method_1_code 6 = .ok (.checkcast 18, 3) := by decide +kernel
theorem d_prog_38_m1_9 : decode prog_38_method_1_code 9 = .ok (.areturn, 1) := by decide +kernel
def QV (Z : State) (va dA dB dC tA tB tC eo : Addr) (kv : ClassId) (h0 : Heap) (n0 : Nat) (v : Option Value) (h : Heap) (L : List Loc) : Prop := ∃ (y : Addr) (ky : ClassId), v = some (.ref y) ∧ Fr n0 L ∧ Keep h0 h [] ∧ Arv Z h y ky (.object "com/example/syndica/syndica/InterestBasis") (3 : Int32) [(.ref dA), (.ref dB), (.ref dC)] .null
set_option maxRecDepth 65536 in
set_option maxHeartbeats 40000000 in
theorem rmV (l : Launch) (Z : State) (a0 : Array Value) (hw : ∀ d ∈ tables_1, d.before a0 Z = true) (ws : List Jvm.Cond) (va dA dB dC tA tB tC eo : Addr) (kv : ClassId) (h0 : Heap) (n0 : Nat) (X00 : Old Z n0 h0) (EN : En Z va dA dB dC tA tB tC eo kv) :
    MetFree l (⟨"com/example/syndica/syndica/InterestBasis", "values", "()[Lcom/example/syndica/syndica/InterestBasis;"⟩ : MethodName) (head1 (Jvm.Cond.code (⟨"com/example/syndica/syndica/InterestBasis", "values", "()[Lcom/example/syndica/syndica/InterestBasis;"⟩ : MethodName) prog_38_method_1_code 0 (some (.array (.object "com/example/syndica/syndica/InterestBasis"))) :: ws) ({ frames := 1, cells := 1, slots := 3, locals := 14 } : Room)) (fun aa U => aa = #[] ∧ Z.Warmed39 U.vm ∧ U.heap = h0) (fun _ _ _ _ _ => True) (fun _ U o U' => ∃ v L, o = .returned v ∧ QV Z va dA dB dC tA tB tC eo kv h0 n0 v U'.heap L ∧ FrameEnd U o U' L ({ frames := 1, cells := 1, slots := 3, locals := 14 } : Room).cells ({ frames := 1, cells := 1, slots := 3, locals := 14 } : Room).slots) := by
  refine MetFree.of_bodySF (plainFor_of_name pn_4) hisR ?_
  intro p e s m args below meth c s₁ Bd hml0 hP hK
  obtain ⟨rfl, hZ, hh⟩ := hP
  have hx := Bd.exec
  have hby := Bd.bytes
  have hml : c.maxLocals = 0 := hml0
  have hown : s.vm.findClass "com/example/syndica/syndica/InterestBasis" = some m.cls := findClass_of_methodNamed Bd.named
  have hnm := (name_of_methodNamed Bd.named Bd.method).1
  have X0 : Stand p l e ({ frames := 1, cells := 1, slots := 3, locals := 14 } : Room) s m #[] below meth c s₁ [] 0 0 := Stand.of_body Bd
  have e0 : s₁.heap = h0 := by rw [← hh, Bd.state]; rfl
  have N0 := Fr.nil n0
  have K0 := Keep.refl h0 []
  have ef : entryFrame m #[] 0 = mkF m 0 #[] [] := (by first | (simp [entryFrame, mkF, argsToLocals, Value.category]; done) | rfl : entryFrame m #[] 0 = mkF m 0 #[] [])
  rw [ef]
  refine fin_of fun Kx hF => ?_
  show Go p.tables e below Kx s₁ (mkF m 0 #[] [])
  obtain ⟨SV, AV, EV, SdA, EdA, FdA, TdA, SdB, EdB, FdB, TdB, SdC, EdC, FdC, TdC, SO, EO, FO⟩ := id EN
  obtain ⟨T34, X34, e34, st34⟩ := getS2 X0 hx hZ hown (host := "") (Or.inl (hw _ (List.mem_of_getElem? (i := 46) rfl))) Via.refl e0 (SV.ext X00.2) (g := (mkF m 0 #[] [])) rfl (hb hby d_prog_38_m1_0)
  refine Go.st st34 ?_
  show Go p.tables e below Kx T34 (mkF m 3 #[] [(.ref va)])
  obtain ⟨T35, h35, X35, e35, E35, C35, A35, st35⟩ := cloneH X34 hx hZ hown (hw _ (List.mem_of_getElem? (i := 48) rfl)) (hw _ (List.mem_of_getElem? (i := 49) rfl)) (hw _ (List.mem_of_getElem? (i := 53) rfl)) (hw _ (List.mem_of_getElem? (i := 51) rfl)) (hw _ (List.mem_of_getElem? (i := 52) rfl)) (hw _ (List.mem_of_getElem? (i := 54) rfl)) e34 (AV.ext X00.2).arh (EV.ext X00.2) (g := (mkF m 3 #[] [(.ref va)])) rfl (by rw [hml]; rfl) rfl (hb hby d_prog_38_m1_3) (by decide) (W := 0) (by show 2 * 0 + _ ≤ _; exact Nat.le_of_eq rfl) (by decide) (cap := 3) (by decide) (by decide) (by decide)
  obtain ⟨b35, g35⟩ : ∃ z, z = h0.size := ⟨_, rfl⟩
  rw [← g35] at C35 A35 st35
  have sz35 : h0.size ≤ b35 := Nat.le_trans K0.1 (Nat.le_of_eq g35.symm)
  have ge35 : n0 ≤ b35 := Nat.le_trans (X00.1 ▸ X00.2.1) (Nat.le_of_eq g35.symm)
  have K35 : Keep h0 h35 [] := K0.ext E35
  have O35 : Old Z n0 h35 := X00.ext E35
  have V35 : Arv Z h35 b35 kv (.object "com/example/syndica/syndica/InterestBasis") (3 : Int32) [(.ref dA), (.ref dB), (.ref dC)] .null := C35
  refine Go.st st35 ?_
  show Go p.tables e below Kx T35 (mkF m 6 #[] [(.ref b35)])
  obtain ⟨T36, X36, e36, st36⟩ := castY X35 hx hZ hown (hw _ (List.mem_of_getElem? (i := 59) rfl)) e35 (Ins.self A35) (g := (mkF m 6 #[] [(.ref b35)])) rfl rfl (hb hby d_prog_38_m1_6)
  refine Go.st st36 ?_
  show Go p.tables e below Kx T36 (mkF m 9 #[] [(.ref b35)])
  obtain ⟨fs, hr, hrun, hended, hW, hsame⟩ := X36.leave (v := (some (.ref b35))) (fun h => by rw [Bd.returns] at h; cases h)
  refine Go.fin (retOut X36 hx Bd.returns rfl (Or.inr (Or.inr (Or.inr (Or.inr ⟨rfl, rfl, rfl⟩)))) (hb hby d_prog_38_m1_9) hr) (hF _ _ hrun hended ⟨_, _, rfl, ?_, ⟨_, rfl⟩, hW, hsame.mono (by decide) (by decide)⟩)
  · show QV Z va dA dB dC tA tB tC eo kv h0 n0 ((some (.ref b35)) : Option Value) T36.heap _
    rw [e36]
    exact ⟨_, _, rfl, N0, K35, V35⟩
theorem pd_3 : parseMethodDescriptor "()Ljava/util/Optional;" = some ⟨[], some (.object "java/util/Optional")⟩ := by decide +kernel
theorem d_prog_38_m4_0 : decode prog_38_method_4_code 0 = .ok (.invokestatic 40, 3) := by decide +kernel
theorem d_prog_38_m4_3 : decode prog_38_method_4_code 3 = .ok (.astore_n 1, 1) := by decide +kernel
theorem pd_4 : parseMethodDescriptor "()[Lcom/example/syndica/syndica/InterestBasis;" = some ⟨[], some (.array (.object "com/example/syndica/syndica/InterestBasis"))⟩ := by decide +kernel
theorem d_prog_38_m4_4 : decode prog_38_method_4_code 4 = .ok (.invokestatic 46, 3) := by decide +kernel
theorem d_prog_38_m4_7 : decode prog_38_method_4_code 7 = .ok (.astore_n 2, 1) := by decide +kernel
theorem d_prog_38_m4_8 : decode prog_38_method_4_code 8 = .ok (.aload_n 2, 1) := by decide +kernel
theorem d_prog_38_m4_9 : decode prog_38_method_4_code 9 = .ok (.arraylength, 1) := by decide +kernel
theorem d_prog_38_m4_10 : decode prog_38_method_4_code 10 = .ok (.istore_n 3, 1) := by decide +kernel
theorem d_prog_38_m4_11 : decode prog_38_method_4_code 11 = .ok (.iconst 0, 1) := by decide +kernel
theorem d_prog_38_m4_12 : decode prog_38_method_4_code 12 = .ok (.istore 4, 2) := by decide +kernel
theorem d_prog_38_m4_14 : decode prog_38_method_4_code 14 = .ok (.iload 4, 2) := by decide +kernel
theorem d_prog_38_m4_16 : decode prog_38_method_4_code 16 = .ok (.iload_n 3, 1) := by decide +kernel
theorem d_prog_38_m4_17 : decode prog_38_method_4_code 17 = .ok (.if_icmp .ge 37, 3) := by decide +kernel
theorem d_prog_38_m4_20 : decode prog_38_method_4_code 20 = .ok (.aload_n 2, 1) := by decide +kernel
theorem d_prog_38_m4_21 : decode prog_38_method_4_code 21 = .ok (.iload 4, 2) := by decide +kernel
theorem d_prog_38_m4_23 : decode prog_38_method_4_code 23 = .ok (.aaload, 1) := by decide +kernel
theorem d_prog_38_m4_24 : decode prog_38_method_4_code 24 = .ok (.astore 5, 2) := by decide +kernel
theorem d_prog_38_m4_26 : decode prog_38_method_4_code 26 = .ok (.aload 5, 2) := by decide +kernel
theorem d_prog_38_m4_28 : decode prog_38_method_4_code 28 = .ok (.getfield 32, 3) := by decide +kernel
theorem d_prog_38_m4_31 : decode prog_38_method_4_code 31 = .ok (.aload_n 0, 1) := by decide +kernel
theorem pd_5 : parseMethodDescriptor "(Ljava/lang/Object;)Z" = some ⟨[(.object "java/lang/Object")], some .boolean⟩ := by decide +kernel
theorem d_prog_38_m4_32 : decode prog_38_method_4_code 32 = .ok (.invokevirtual 50, 3) := by decide +kernel
theorem d_prog_38_m4_35 : decode prog_38_method_4_code 35 = .ok (.ifCond .eq 11, 3) := by decide +kernel
theorem d_prog_38_m4_38 : decode prog_38_method_4_code 38 = .ok (.aload 5, 2) := by decide +kernel
theorem pd_6 : parseMethodDescriptor "(Ljava/lang/Object;)Ljava/util/Optional;" = some ⟨[(.object "java/lang/Object")], some (.object "java/util/Optional")⟩ := by decide +kernel
theorem d_prog_38_m4_40 : decode prog_38_method_4_code 40 = .ok (.invokestatic 56, 3) := by decide +kernel
theorem d_prog_38_m4_43 : decode prog_38_method_4_code 43 = .ok (.goto 4, 3) := by decide +kernel
theorem d_prog_38_m4_47 : decode prog_38_method_4_code 47 = .ok (.astore_n 1, 1) := by decide +kernel
theorem d_prog_38_m4_48 : decode prog_38_method_4_code 48 = .ok (.iinc 4 1, 3) := by decide +kernel
theorem d_prog_38_m4_51 : decode prog_38_method_4_code 51 = .ok (.goto (-37), 3) := by decide +kernel
theorem d_prog_38_m4_46 : decode prog_38_method_4_code 46 = .ok (.aload_n 1, 1) := by decide +kernel
theorem d_prog_38_m4_54 : decode prog_38_method_4_code 54 = .ok (.aload_n 1, 1) := by decide +kernel
theorem d_prog_38_m4_55 : decode prog_38_method_4_code 55 = .ok (.areturn, 1) := by decide +kernel
def QF (Z : State) (va dA dB dC tA tB tC eo : Addr) (kv : ClassId) (sx : Addr) (bz : Nat) (cs : List Int32) (h0 : Heap) (n0 : Nat) (v : Option Value) (h : Heap) (L : List Loc) : Prop := ∃ (y : Addr) (wv : Value), v = some (.ref y) ∧ Fr n0 L ∧ Keep h0 h [] ∧ Exa Z h y "java/util/Optional" ∧ Fld Z h y "java/util/Optional" "value" "Ljava/lang/Object;" wv ∧ ((wv = .ref dA ∧ [(51 : Int32), (54 : Int32), (48 : Int32)] = cs) ∨ (wv = .ref dB ∧ [(51 : Int32), (54 : Int32), (53 : Int32)] = cs) ∨ (wv = .ref dC ∧ [(51 : Int32), (54 : Int32), (53 : Int32), (47 : Int32), (51 : Int32), (54 : Int32), (54 : Int32)] = cs) ∨ (wv = .null ∧ ¬ [(51 : Int32), (54 : Int32), (48 : Int32)] = cs ∧ ¬ [(51 : Int32), (54 : Int32), (53 : Int32)] = cs ∧ ¬ [(51 : Int32), (54 : Int32), (53 : Int32), (47 : Int32), (51 : Int32), (54 : Int32), (54 : Int32)] = cs))
set_option maxRecDepth 65536 in
set_option maxHeartbeats 40000000 in
theorem rmF (l : Launch) (Z : State) (a0 : Array Value) (hw : ∀ d ∈ tables_1, d.before a0 Z = true) (ws : List Jvm.Cond) (va dA dB dC tA tB tC eo : Addr) (kv : ClassId) (sx : Addr) (bz : Nat) (cs : List Int32) (h0 : Heap) (n0 : Nat) (X00 : Old Z n0 h0) (EN : En Z va dA dB dC tA tB tC eo kv) (G1 : Int32) (S1 : Sta Z Z.heap "java/lang/String" "COMPACT_STRINGS" "Z" (.int G1)) (P1 : ¬ G1 = 0) (TS : Str Z h0 bz sx cs) :
    MetFree l (⟨"com/example/syndica/syndica/InterestBasis", "of", "(Ljava/lang/String;)Ljava/util/Optional;"⟩ : MethodName) (head1 (Jvm.Cond.code (⟨"com/example/syndica/syndica/InterestBasis", "of", "(Ljava/lang/String;)Ljava/util/Optional;"⟩ : MethodName) prog_38_method_4_code 6 (some (.object "java/util/Optional")) :: ws) ({ frames := 4, cells := 2, slots := 4, locals := 80 } : Room)) (fun aa U => aa = #[(.ref sx)] ∧ Z.Warmed39 U.vm ∧ U.heap = h0) (fun _ _ _ _ _ => True) (fun _ U o U' => ∃ v L, o = .returned v ∧ QF Z va dA dB dC tA tB tC eo kv sx bz cs h0 n0 v U'.heap L ∧ FrameEnd U o U' L ({ frames := 4, cells := 2, slots := 4, locals := 80 } : Room).cells ({ frames := 4, cells := 2, slots := 4, locals := 80 } : Room).slots) := by
  refine MetFree.of_bodySF (plainFor_of_name pn_4) hisR ?_
  intro p e s m args below meth c s₁ Bd hml0 hP hK
  obtain ⟨rfl, hZ, hh⟩ := hP
  have hx := Bd.exec
  have hby := Bd.bytes
  have hml : c.maxLocals = 6 := hml0
  have hown : s.vm.findClass "com/example/syndica/syndica/InterestBasis" = some m.cls := findClass_of_methodNamed Bd.named
  have hnm := (name_of_methodNamed Bd.named Bd.method).1
  have X0 : Stand p l e ({ frames := 4, cells := 2, slots := 4, locals := 80 } : Room) s m #[(.ref sx)] below meth c s₁ [] 0 0 := Stand.of_body Bd
  have e0 : s₁.heap = h0 := by rw [← hh, Bd.state]; rfl
  have N0 := Fr.nil n0
  have K0 := Keep.refl h0 []
  have ef : entryFrame m #[(.ref sx)] 6 = mkF m 0 #[.val (.ref sx), .unset, .unset, .unset, .unset, .unset] [] := (by first | (simp [entryFrame, mkF, argsToLocals, Value.category]; done) | rfl : entryFrame m #[(.ref sx)] 6 = mkF m 0 #[.val (.ref sx), .unset, .unset, .unset, .unset, .unset] [])
  rw [ef]
  refine fin_of fun Kx hF => ?_
  show Go p.tables e below Kx s₁ (mkF m 0 #[.val (.ref sx), .unset, .unset, .unset, .unset, .unset] [])
  obtain ⟨SV, AV, EV, SdA, EdA, FdA, TdA, SdB, EdB, FdB, TdB, SdC, EdC, FdC, TdC, SO, EO, FO⟩ := id EN
  obtain ⟨_, _, ⟨T37, L37, k37, n37⟩, -, X37, ⟨Lc37, hQ37, l37, y37, z37⟩, st37⟩ := Jvm.LawKit.callS X0 hx (y := (⟨"java/util/Optional", "empty", "()Ljava/util/Optional;"⟩ : MethodName)) hown (mvT hZ (hw _ (List.mem_of_getElem? (i := 38) rfl))) (mvT hZ (hw _ (List.mem_of_getElem? (i := 39) rfl))) (mvT hZ (hw _ (List.mem_of_getElem? (i := 40) rfl))) (mvT hZ (hw _ (List.mem_of_getElem? (i := 41) rfl))) (by decide) (backOf (W := 0) (rmM l Z a0 hw [] va dA dB dC tA tB tC eo kv h0 n0 X00 EN) hZ (hw _ (List.mem_of_getElem? (i := 41) rfl)) (hw _ (List.mem_of_getElem? (i := 40) rfl)) (by decide) (by decide)) (g := (mkF m 0 #[.val (.ref sx), .unset, .unset, .unset, .unset, .unset] [])) rfl (by rw [hml]; rfl) (argsL := []) (rest := []) (lenOf pd_3 rfl) rfl (by show 2 * 0 + _ ≤ _; exact Nat.le_of_eq rfl) (hb hby d_prog_38_m4_0) (fun _ _ => ⟨rfl, e0, (by decide : 0 + 0 ≤ _), (by decide : 0 + 0 ≤ _)⟩)
  dsimp only [Pt.U, Pt.locs, Pt.cells, Pt.slots] at X37 l37 y37 z37 st37 hQ37
  rw [l37, y37, z37] at X37
  obtain ⟨rfl, Nq37, hE37⟩ := hQ37
  have N37 := Fr.app N0 Nq37
  refine Go.st st37 ?_
  show Go p.tables e below Kx T37 (mkF m 3 #[.val (.ref sx), .unset, .unset, .unset, .unset, .unset] [(.ref eo)])
  refine s_astoreN (pc' := 4) (Ls' := #[.val (.ref sx), .val (.ref eo), .unset, .unset, .unset, .unset]) X37.here hx (hb hby d_prog_38_m4_3) rfl rfl rfl ?_
  obtain ⟨_, _, ⟨T38, L38, k38, n38⟩, -, X38, ⟨Lc38, hQ38, l38, y38, z38⟩, st38⟩ := Jvm.LawKit.callS X37 hx (y := (⟨"com/example/syndica/syndica/InterestBasis", "values", "()[Lcom/example/syndica/syndica/InterestBasis;"⟩ : MethodName)) hown (mvT hZ (hw _ (List.mem_of_getElem? (i := 43) rfl))) (mvT hZ (hw _ (List.mem_of_getElem? (i := 44) rfl))) (mvT hZ (hw _ (List.mem_of_getElem? (i := 36) rfl))) (mvT hZ (hw _ (List.mem_of_getElem? (i := 45) rfl))) (by decide) (backOf (W := 0) (rmV l Z a0 hw [] va dA dB dC tA tB tC eo kv h0 n0 X00 EN) hZ (hw _ (List.mem_of_getElem? (i := 45) rfl)) (hw _ (List.mem_of_getElem? (i := 36) rfl)) (by decide) (by decide)) (g := (mkF m 4 #[.val (.ref sx), .val (.ref eo), .unset, .unset, .unset, .unset] [])) rfl (by rw [hml]; rfl) (argsL := []) (rest := []) (lenOf pd_4 rfl) rfl (by show 2 * 0 + _ ≤ _; exact Nat.le_of_eq rfl) (hb hby d_prog_38_m4_4) (fun _ _ => ⟨rfl, hE37, (by decide : 0 + 1 ≤ _), (by decide : 0 + 3 ≤ _)⟩)
  dsimp only [Pt.U, Pt.locs, Pt.cells, Pt.slots] at X38 l38 y38 z38 st38 hQ38
  rw [l38, y38, z38] at X38
  obtain ⟨v38, kv38, rfl, Nq38, Kq38, q1_38⟩ := hQ38
  have N38 := Fr.app N37 Nq38
  have K38 : Keep h0 T38.heap [] := K0.trans Kq38 all0
  have O38 : Old Z n0 T38.heap := X00.keep Kq38 all0
  refine Go.st st38 ?_
  show Go p.tables e below Kx T38 (mkF m 7 #[.val (.ref sx), .val (.ref eo), .unset, .unset, .unset, .unset] [(.ref v38)])
  refine s_astoreN (pc' := 8) (Ls' := #[.val (.ref sx), .val (.ref eo), .val (.ref v38), .unset, .unset, .unset]) X38.here hx (hb hby d_prog_38_m4_7) rfl rfl rfl ?_
  refine s_aloadN (pc' := 9) X38.here hx (hb hby d_prog_38_m4_8) rfl rfl rfl ?_
  obtain ⟨cl39, Ar39, Aq39, As39, An39, Ah39, Ag39⟩ := id q1_38
  refine Go.st (X38.arraylength hx (by  exact Ar39.1) (State.isArrayOf_alike hZ.alike Ar39.2.1) (g := (mkF m 9 #[.val (.ref sx), .val (.ref eo), .val (.ref v38), .unset, .unset, .unset] [(.ref v38)])) rfl rfl (hb hby d_prog_38_m4_9)) ?_
  rw [len_of As39 An39]
  show Go p.tables e below Kx T38 (mkF m 10 #[.val (.ref sx), .val (.ref eo), .val (.ref v38), .unset, .unset, .unset] [(.int (3 : Int32))])
  refine s_istoreN (pc' := 11) (Ls' := #[.val (.ref sx), .val (.ref eo), .val (.ref v38), .val (.int (3 : Int32)), .unset, .unset]) X38.here hx (hb hby d_prog_38_m4_10) rfl  rfl ?_
  refine s_iconst (pc' := 12) (v := (0 : Int32)) X38.here hx (hb hby d_prog_38_m4_11) rfl rfl ?_
  refine s_istore (pc' := 14) (Ls' := #[.val (.ref sx), .val (.ref eo), .val (.ref v38), .val (.int (3 : Int32)), .val (.int (0 : Int32)), .unset]) X38.here hx (hb hby d_prog_38_m4_12) rfl  rfl ?_
  refine s_iload (pc' := 16) X38.here hx (hb hby d_prog_38_m4_14) rfl rfl ?_
  refine s_iloadN (pc' := 17) X38.here hx (hb hby d_prog_38_m4_16) rfl rfl ?_
  refine s_icmpN (pc' := 20) X38.here hx (hb hby d_prog_38_m4_17) rfl (tlt (by decide)).2.1 ?_
  refine s_aloadN (pc' := 21) X38.here hx (hb hby d_prog_38_m4_20) rfl rfl rfl ?_
  refine s_iload (pc' := 23) X38.here hx (hb hby d_prog_38_m4_21) rfl rfl ?_
  obtain ⟨cl40, Ar40, Aq40, As40, An40, Ah40, Ag40⟩ := id q1_38
  have in41 := inb_of (j := (0 : Int32)) As40 (by decide)
  have at41 : cl40.slots[((0 : Int32)).toNatClampNeg]? = some (.ref dA) := Ah40.at in41 rfl
  refine Go.st (X38.aaload hx (j := (0 : Int32)) (v := (.ref dA)) (by  exact Ar40.1) (State.isArrayOf_alike hZ.alike Ar40.2.1) rfl Ar40.2.2 in41 at41 (g := (mkF m 23 #[.val (.ref sx), .val (.ref eo), .val (.ref v38), .val (.int (3 : Int32)), .val (.int (0 : Int32)), .unset] [(.int (0 : Int32)), (.ref v38)])) rfl rfl (hb hby d_prog_38_m4_23)) ?_
  show Go p.tables e below Kx T38 (mkF m 24 #[.val (.ref sx), .val (.ref eo), .val (.ref v38), .val (.int (3 : Int32)), .val (.int (0 : Int32)), .unset] [(.ref dA)])
  refine s_astore (pc' := 26) (Ls' := #[.val (.ref sx), .val (.ref eo), .val (.ref v38), .val (.int (3 : Int32)), .val (.int (0 : Int32)), .val (.ref dA)]) X38.here hx (hb hby d_prog_38_m4_24) rfl rfl rfl ?_
  refine s_aload (pc' := 28) X38.here hx (hb hby d_prog_38_m4_26) rfl rfl rfl ?_
  have f42 : Fld Z T38.heap dA "com/example/syndica/syndica/InterestBasis" "value" "Ljava/lang/String;" (.ref tA) := ((FdA.ext X00.2).keep Kq38 nin0)
  obtain ⟨T43, X43, e43, st43⟩ := getF X38 hx hZ hown (host := "") (Or.inl (hw _ (List.mem_of_getElem? (i := 61) rfl))) Via.refl rfl f42 (g := (mkF m 28 #[.val (.ref sx), .val (.ref eo), .val (.ref v38), .val (.int (3 : Int32)), .val (.int (0 : Int32)), .val (.ref dA)] [(.ref dA)])) rfl rfl (hb hby d_prog_38_m4_28)
  refine Go.st st43 ?_
  show Go p.tables e below Kx T43 (mkF m 31 #[.val (.ref sx), .val (.ref eo), .val (.ref v38), .val (.int (3 : Int32)), .val (.int (0 : Int32)), .val (.ref dA)] [(.ref tA)])
  refine s_aloadN (pc' := 32) X43.here hx (hb hby d_prog_38_m4_31) rfl rfl rfl ?_
  have f44 : Str Z T38.heap Z.heap.size tA [(51 : Int32), (54 : Int32), (48 : Int32)] := ((TdA.ext X00.2).keep Kq38 all0)
  have f45 : Str Z T38.heap bz sx cs := (TS.keep Kq38 all0)
  obtain ⟨-, sE46, sC46, ⟨st46, sk46, -, sF46, sA46⟩, sp46, sl46⟩ := id f44
  obtain ⟨-, sE47, sC47, ⟨st47, sk47, -, sF47, sA47⟩, sp47, sl47⟩ := id f45
  obtain ⟨cq48, kq48, q48a, q48b, q48c⟩ := isOf hZ e43 sE46
  obtain ⟨_, _, ⟨T48, L48, k48, n48⟩, -, X48, ⟨Lc48, hQ48, l48, y48, z48⟩, st48⟩ := X43.virtualBack hx (y := (⟨"java/lang/String", "equals", "(Ljava/lang/Object;)Z"⟩ : MethodName)) (z := (⟨"java/lang/String", "equals", "(Ljava/lang/Object;)Z"⟩ : MethodName)) hown (mvT hZ (hw _ (List.mem_of_getElem? (i := 63) rfl))) (mvT hZ (hw _ (List.mem_of_getElem? (i := 64) rfl))) (notFace_of_selects (args := #[]) (mvT hZ (hw _ (List.mem_of_getElem? (i := 66) rfl)))) (mvT hZ (hw _ (List.mem_of_getElem? (i := 66) rfl))) (mvT hZ (hw _ (List.mem_of_getElem? (i := 65) rfl))) (by decide) (StrChars.Road.eqW (W := 0) hZ (hwsE Z a0 hw) (kI := 4) (hw _ (List.mem_of_getElem? (i := 6) rfl)) sE46 sF46 sC46 sA46 (StrChars.Road.codOf rfl (fun c hc => (sp46 c hc).2)) (chr_up sp46) sl46 sE47 sF47 sC47 sA47 (StrChars.Road.codOf rfl (fun c hc => (sp47 c hc).2)) (chr_up sp47) sl47 (S1.ext O38.2) P1 (by decide) (by decide)) q48a q48c (g := (mkF m 32 #[.val (.ref sx), .val (.ref eo), .val (.ref v38), .val (.int (3 : Int32)), .val (.int (0 : Int32)), .val (.ref dA)] [(.ref sx), (.ref tA)])) rfl (by rw [hml]; rfl) (Steps.refl _) (argsL := [(.ref sx)]) (rest := []) (lenOf pd_5 rfl) rfl (by show 2 * 0 + _ ≤ _; exact Nat.le_of_eq rfl) (hb hby d_prog_38_m4_32) (fun _ _ => ⟨rfl, e43, (by decide : 1 + 0 ≤ _), (by decide : 3 + 0 ≤ _)⟩)
  dsimp only [Pt.U, Pt.locs, Pt.cells, Pt.slots] at X48 l48 y48 z48 st48 hQ48
  rw [l48, y48, z48] at X48
  obtain ⟨hv48, rfl, hE48⟩ := hQ48
  rcases hv48 with ⟨rfl, hs48⟩ | ⟨rfl, hs48⟩
  · skip
    have N48 := Fr.app N38 (Fr.nil n0)
    refine Go.tr st48 ?_
    show Go p.tables e below Kx T48 (mkF m 35 #[.val (.ref sx), .val (.ref eo), .val (.ref v38), .val (.int (3 : Int32)), .val (.int (0 : Int32)), .val (.ref dA)] [(.int (1 : Int32))])
    refine s_ifN (pc' := 38) X48.here hx (hb hby d_prog_38_m4_35) rfl ((if0 _ _).trans (feq (by decide)).1) ?_
    refine s_aload (pc' := 40) X48.here hx (hb hby d_prog_38_m4_38) rfl rfl rfl ?_
    obtain ⟨_, _, ⟨T49, L49, k49, n49⟩, -, X49, ⟨Lc49, hQ49, l49, y49, z49⟩, st49⟩ := Jvm.LawKit.callS X48 hx (y := (⟨"java/util/Optional", "of", "(Ljava/lang/Object;)Ljava/util/Optional;"⟩ : MethodName)) hown (mvT hZ (hw _ (List.mem_of_getElem? (i := 73) rfl))) (mvT hZ (hw _ (List.mem_of_getElem? (i := 74) rfl))) (mvT hZ (hw _ (List.mem_of_getElem? (i := 40) rfl))) (mvT hZ (hw _ (List.mem_of_getElem? (i := 75) rfl))) (by decide) (backOf (W := 0) (rmO l Z a0 hw [] dA T38.heap n0 O38 ) hZ (hw _ (List.mem_of_getElem? (i := 75) rfl)) (hw _ (List.mem_of_getElem? (i := 40) rfl)) (by decide) (by decide)) (g := (mkF m 40 #[.val (.ref sx), .val (.ref eo), .val (.ref v38), .val (.int (3 : Int32)), .val (.int (0 : Int32)), .val (.ref dA)] [(.ref dA)])) rfl (by rw [hml]; rfl) (argsL := [(.ref dA)]) (rest := []) (lenOf pd_6 rfl) rfl (by show 2 * 0 + _ ≤ _; exact Nat.le_of_eq rfl) (hb hby d_prog_38_m4_40) (fun _ _ => ⟨rfl, hE48, (by decide : 1 + 1 ≤ _), (by decide : 3 + 1 ≤ _)⟩)
    dsimp only [Pt.U, Pt.locs, Pt.cells, Pt.slots] at X49 l49 y49 z49 st49 hQ49
    rw [l49, y49, z49] at X49
    obtain ⟨o49, rfl, Nq49, Kq49, q1_49, q2_49⟩ := hQ49
    have N49 := Fr.app N48 Nq49
    have K49 : Keep h0 T49.heap [] := K38.trans Kq49 all0
    have O49 : Old Z n0 T49.heap := O38.keep Kq49 all0
    refine Go.st st49 ?_
    show Go p.tables e below Kx T49 (mkF m 43 #[.val (.ref sx), .val (.ref eo), .val (.ref v38), .val (.int (3 : Int32)), .val (.int (0 : Int32)), .val (.ref dA)] [(.ref o49)])
    refine s_goto (pc' := 47) X49.here hx (hb hby d_prog_38_m4_43) (by decide) (by decide) ?_
    refine s_astoreN (pc' := 48) (Ls' := #[.val (.ref sx), .val (.ref o49), .val (.ref v38), .val (.int (3 : Int32)), .val (.int (0 : Int32)), .val (.ref dA)]) X49.here hx (hb hby d_prog_38_m4_47) rfl rfl rfl ?_
    refine s_iinc (pc' := 51) (Ls' := #[.val (.ref sx), .val (.ref o49), .val (.ref v38), .val (.int (3 : Int32)), .val (.int (1 : Int32)), .val (.ref dA)]) (z := (1 : Int32)) X49.here hx (hb hby d_prog_38_m4_48) rfl rfl (by decide) rfl ?_
    refine s_goto (pc' := 14) X49.here hx (hb hby d_prog_38_m4_51) (by decide) (by decide) ?_
    refine s_iload (pc' := 16) X49.here hx (hb hby d_prog_38_m4_14) rfl rfl ?_
    refine s_iloadN (pc' := 17) X49.here hx (hb hby d_prog_38_m4_16) rfl rfl ?_
    refine s_icmpN (pc' := 20) X49.here hx (hb hby d_prog_38_m4_17) rfl (tlt (by decide)).2.1 ?_
    refine s_aloadN (pc' := 21) X49.here hx (hb hby d_prog_38_m4_20) rfl rfl rfl ?_
    refine s_iload (pc' := 23) X49.here hx (hb hby d_prog_38_m4_21) rfl rfl ?_
    have f50 : Arv Z T49.heap v38 kv38 (.object "com/example/syndica/syndica/InterestBasis") (3 : Int32) [(.ref dA), (.ref dB), (.ref dC)] .null := (q1_38.keep Kq49 nin0)
    obtain ⟨cl51, Ar51, Aq51, As51, An51, Ah51, Ag51⟩ := id f50
    have in52 := inb_of (j := (1 : Int32)) As51 (by decide)
    have at52 : cl51.slots[((1 : Int32)).toNatClampNeg]? = some (.ref dB) := Ah51.at in52 rfl
    refine Go.st (X49.aaload hx (j := (1 : Int32)) (v := (.ref dB)) (by  exact Ar51.1) (State.isArrayOf_alike hZ.alike Ar51.2.1) rfl Ar51.2.2 in52 at52 (g := (mkF m 23 #[.val (.ref sx), .val (.ref o49), .val (.ref v38), .val (.int (3 : Int32)), .val (.int (1 : Int32)), .val (.ref dA)] [(.int (1 : Int32)), (.ref v38)])) rfl rfl (hb hby d_prog_38_m4_23)) ?_
    show Go p.tables e below Kx T49 (mkF m 24 #[.val (.ref sx), .val (.ref o49), .val (.ref v38), .val (.int (3 : Int32)), .val (.int (1 : Int32)), .val (.ref dA)] [(.ref dB)])
    refine s_astore (pc' := 26) (Ls' := #[.val (.ref sx), .val (.ref o49), .val (.ref v38), .val (.int (3 : Int32)), .val (.int (1 : Int32)), .val (.ref dB)]) X49.here hx (hb hby d_prog_38_m4_24) rfl rfl rfl ?_
    refine s_aload (pc' := 28) X49.here hx (hb hby d_prog_38_m4_26) rfl rfl rfl ?_
    have f53 : Fld Z T49.heap dB "com/example/syndica/syndica/InterestBasis" "value" "Ljava/lang/String;" (.ref tB) := (((FdB.ext X00.2).keep Kq38 nin0).keep Kq49 nin0)
    obtain ⟨T54, X54, e54, st54⟩ := getF X49 hx hZ hown (host := "") (Or.inl (hw _ (List.mem_of_getElem? (i := 61) rfl))) Via.refl rfl f53 (g := (mkF m 28 #[.val (.ref sx), .val (.ref o49), .val (.ref v38), .val (.int (3 : Int32)), .val (.int (1 : Int32)), .val (.ref dB)] [(.ref dB)])) rfl rfl (hb hby d_prog_38_m4_28)
    refine Go.st st54 ?_
    show Go p.tables e below Kx T54 (mkF m 31 #[.val (.ref sx), .val (.ref o49), .val (.ref v38), .val (.int (3 : Int32)), .val (.int (1 : Int32)), .val (.ref dB)] [(.ref tB)])
    refine s_aloadN (pc' := 32) X54.here hx (hb hby d_prog_38_m4_31) rfl rfl rfl ?_
    have f55 : Str Z T49.heap Z.heap.size tB [(51 : Int32), (54 : Int32), (53 : Int32)] := (((TdB.ext X00.2).keep Kq38 all0).keep Kq49 all0)
    have f56 : Str Z T49.heap bz sx cs := (f45.keep Kq49 all0)
    obtain ⟨-, sE57, sC57, ⟨st57, sk57, -, sF57, sA57⟩, sp57, sl57⟩ := id f55
    obtain ⟨-, sE58, sC58, ⟨st58, sk58, -, sF58, sA58⟩, sp58, sl58⟩ := id f56
    obtain ⟨cq59, kq59, q59a, q59b, q59c⟩ := isOf hZ e54 sE57
    obtain ⟨_, _, ⟨T59, L59, k59, n59⟩, -, X59, ⟨Lc59, hQ59, l59, y59, z59⟩, st59⟩ := X54.virtualBack hx (y := (⟨"java/lang/String", "equals", "(Ljava/lang/Object;)Z"⟩ : MethodName)) (z := (⟨"java/lang/String", "equals", "(Ljava/lang/Object;)Z"⟩ : MethodName)) hown (mvT hZ (hw _ (List.mem_of_getElem? (i := 63) rfl))) (mvT hZ (hw _ (List.mem_of_getElem? (i := 64) rfl))) (notFace_of_selects (args := #[]) (mvT hZ (hw _ (List.mem_of_getElem? (i := 66) rfl)))) (mvT hZ (hw _ (List.mem_of_getElem? (i := 66) rfl))) (mvT hZ (hw _ (List.mem_of_getElem? (i := 65) rfl))) (by decide) (StrChars.Road.eqW (W := 0) hZ (hwsE Z a0 hw) (kI := 4) (hw _ (List.mem_of_getElem? (i := 6) rfl)) sE57 sF57 sC57 sA57 (StrChars.Road.codOf rfl (fun c hc => (sp57 c hc).2)) (chr_up sp57) sl57 sE58 sF58 sC58 sA58 (StrChars.Road.codOf rfl (fun c hc => (sp58 c hc).2)) (chr_up sp58) sl58 (S1.ext O49.2) P1 (by decide) (by decide)) q59a q59c (g := (mkF m 32 #[.val (.ref sx), .val (.ref o49), .val (.ref v38), .val (.int (3 : Int32)), .val (.int (1 : Int32)), .val (.ref dB)] [(.ref sx), (.ref tB)])) rfl (by rw [hml]; rfl) (Steps.refl _) (argsL := [(.ref sx)]) (rest := []) (lenOf pd_5 rfl) rfl (by show 2 * 0 + _ ≤ _; exact Nat.le_of_eq rfl) (hb hby d_prog_38_m4_32) (fun _ _ => ⟨rfl, e54, (by decide : 2 + 0 ≤ _), (by decide : 4 + 0 ≤ _)⟩)
    dsimp only [Pt.U, Pt.locs, Pt.cells, Pt.slots] at X59 l59 y59 z59 st59 hQ59
    rw [l59, y59, z59] at X59
    obtain ⟨hv59, rfl, hE59⟩ := hQ59
    rcases hv59 with ⟨rfl, hs59⟩ | ⟨rfl, hs59⟩
    · skip
      have N59 := Fr.app N49 (Fr.nil n0)
      refine Go.tr st59 ?_
      show Go p.tables e below Kx T59 (mkF m 35 #[.val (.ref sx), .val (.ref o49), .val (.ref v38), .val (.int (3 : Int32)), .val (.int (1 : Int32)), .val (.ref dB)] [(.int (1 : Int32))])
      exact absurd (hs48.trans hs59.symm) (by decide)
    · skip
      have N59 := Fr.app N49 (Fr.nil n0)
      refine Go.tr st59 ?_
      show Go p.tables e below Kx T59 (mkF m 35 #[.val (.ref sx), .val (.ref o49), .val (.ref v38), .val (.int (3 : Int32)), .val (.int (1 : Int32)), .val (.ref dB)] [(.int (0 : Int32))])
      refine s_ifY (pc' := 46) X59.here hx (hb hby d_prog_38_m4_35) ((if0 _ _).trans (teq (by decide)).1) (by decide) (by decide) ?_
      refine s_aloadN (pc' := 47) X59.here hx (hb hby d_prog_38_m4_46) rfl rfl rfl ?_
      refine s_astoreN (pc' := 48) (Ls' := #[.val (.ref sx), .val (.ref o49), .val (.ref v38), .val (.int (3 : Int32)), .val (.int (1 : Int32)), .val (.ref dB)]) X59.here hx (hb hby d_prog_38_m4_47) rfl rfl rfl ?_
      refine s_iinc (pc' := 51) (Ls' := #[.val (.ref sx), .val (.ref o49), .val (.ref v38), .val (.int (3 : Int32)), .val (.int (2 : Int32)), .val (.ref dB)]) (z := (2 : Int32)) X59.here hx (hb hby d_prog_38_m4_48) rfl rfl (by decide) rfl ?_
      refine s_goto (pc' := 14) X59.here hx (hb hby d_prog_38_m4_51) (by decide) (by decide) ?_
      refine s_iload (pc' := 16) X59.here hx (hb hby d_prog_38_m4_14) rfl rfl ?_
      refine s_iloadN (pc' := 17) X59.here hx (hb hby d_prog_38_m4_16) rfl rfl ?_
      refine s_icmpN (pc' := 20) X59.here hx (hb hby d_prog_38_m4_17) rfl (tlt (by decide)).2.1 ?_
      refine s_aloadN (pc' := 21) X59.here hx (hb hby d_prog_38_m4_20) rfl rfl rfl ?_
      refine s_iload (pc' := 23) X59.here hx (hb hby d_prog_38_m4_21) rfl rfl ?_
      obtain ⟨cl60, Ar60, Aq60, As60, An60, Ah60, Ag60⟩ := id f50
      have in61 := inb_of (j := (2 : Int32)) As60 (by decide)
      have at61 : cl60.slots[((2 : Int32)).toNatClampNeg]? = some (.ref dC) := Ah60.at in61 rfl
      refine Go.st (X59.aaload hx (j := (2 : Int32)) (v := (.ref dC)) (by rw [hE59]; exact Ar60.1) (State.isArrayOf_alike hZ.alike Ar60.2.1) rfl Ar60.2.2 in61 at61 (g := (mkF m 23 #[.val (.ref sx), .val (.ref o49), .val (.ref v38), .val (.int (3 : Int32)), .val (.int (2 : Int32)), .val (.ref dB)] [(.int (2 : Int32)), (.ref v38)])) rfl rfl (hb hby d_prog_38_m4_23)) ?_
      show Go p.tables e below Kx T59 (mkF m 24 #[.val (.ref sx), .val (.ref o49), .val (.ref v38), .val (.int (3 : Int32)), .val (.int (2 : Int32)), .val (.ref dB)] [(.ref dC)])
      refine s_astore (pc' := 26) (Ls' := #[.val (.ref sx), .val (.ref o49), .val (.ref v38), .val (.int (3 : Int32)), .val (.int (2 : Int32)), .val (.ref dC)]) X59.here hx (hb hby d_prog_38_m4_24) rfl rfl rfl ?_
      refine s_aload (pc' := 28) X59.here hx (hb hby d_prog_38_m4_26) rfl rfl rfl ?_
      have f62 : Fld Z T49.heap dC "com/example/syndica/syndica/InterestBasis" "value" "Ljava/lang/String;" (.ref tC) := (((FdC.ext X00.2).keep Kq38 nin0).keep Kq49 nin0)
      obtain ⟨T63, X63, e63, st63⟩ := getF X59 hx hZ hown (host := "") (Or.inl (hw _ (List.mem_of_getElem? (i := 61) rfl))) Via.refl hE59 f62 (g := (mkF m 28 #[.val (.ref sx), .val (.ref o49), .val (.ref v38), .val (.int (3 : Int32)), .val (.int (2 : Int32)), .val (.ref dC)] [(.ref dC)])) rfl rfl (hb hby d_prog_38_m4_28)
      refine Go.st st63 ?_
      show Go p.tables e below Kx T63 (mkF m 31 #[.val (.ref sx), .val (.ref o49), .val (.ref v38), .val (.int (3 : Int32)), .val (.int (2 : Int32)), .val (.ref dC)] [(.ref tC)])
      refine s_aloadN (pc' := 32) X63.here hx (hb hby d_prog_38_m4_31) rfl rfl rfl ?_
      have f64 : Str Z T49.heap Z.heap.size tC [(51 : Int32), (54 : Int32), (53 : Int32), (47 : Int32), (51 : Int32), (54 : Int32), (54 : Int32)] := (((TdC.ext X00.2).keep Kq38 all0).keep Kq49 all0)
      obtain ⟨-, sE65, sC65, ⟨st65, sk65, -, sF65, sA65⟩, sp65, sl65⟩ := id f64
      obtain ⟨-, sE66, sC66, ⟨st66, sk66, -, sF66, sA66⟩, sp66, sl66⟩ := id f56
      obtain ⟨cq67, kq67, q67a, q67b, q67c⟩ := isOf hZ e63 sE65
      obtain ⟨_, _, ⟨T67, L67, k67, n67⟩, -, X67, ⟨Lc67, hQ67, l67, y67, z67⟩, st67⟩ := X63.virtualBack hx (y := (⟨"java/lang/String", "equals", "(Ljava/lang/Object;)Z"⟩ : MethodName)) (z := (⟨"java/lang/String", "equals", "(Ljava/lang/Object;)Z"⟩ : MethodName)) hown (mvT hZ (hw _ (List.mem_of_getElem? (i := 63) rfl))) (mvT hZ (hw _ (List.mem_of_getElem? (i := 64) rfl))) (notFace_of_selects (args := #[]) (mvT hZ (hw _ (List.mem_of_getElem? (i := 66) rfl)))) (mvT hZ (hw _ (List.mem_of_getElem? (i := 66) rfl))) (mvT hZ (hw _ (List.mem_of_getElem? (i := 65) rfl))) (by decide) (StrChars.Road.eqW (W := 0) hZ (hwsE Z a0 hw) (kI := 4) (hw _ (List.mem_of_getElem? (i := 6) rfl)) sE65 sF65 sC65 sA65 (StrChars.Road.codOf rfl (fun c hc => (sp65 c hc).2)) (chr_up sp65) sl65 sE66 sF66 sC66 sA66 (StrChars.Road.codOf rfl (fun c hc => (sp66 c hc).2)) (chr_up sp66) sl66 (S1.ext O49.2) P1 (by decide) (by decide)) q67a q67c (g := (mkF m 32 #[.val (.ref sx), .val (.ref o49), .val (.ref v38), .val (.int (3 : Int32)), .val (.int (2 : Int32)), .val (.ref dC)] [(.ref sx), (.ref tC)])) rfl (by rw [hml]; rfl) (Steps.refl _) (argsL := [(.ref sx)]) (rest := []) (lenOf pd_5 rfl) rfl (by show 2 * 0 + _ ≤ _; exact Nat.le_of_eq rfl) (hb hby d_prog_38_m4_32) (fun _ _ => ⟨rfl, e63, (by decide : 2 + 0 ≤ _), (by decide : 4 + 0 ≤ _)⟩)
      dsimp only [Pt.U, Pt.locs, Pt.cells, Pt.slots] at X67 l67 y67 z67 st67 hQ67
      rw [l67, y67, z67] at X67
      obtain ⟨hv67, rfl, hE67⟩ := hQ67
      rcases hv67 with ⟨rfl, hs67⟩ | ⟨rfl, hs67⟩
      · skip
        have N67 := Fr.app N59 (Fr.nil n0)
        refine Go.tr st67 ?_
        show Go p.tables e below Kx T67 (mkF m 35 #[.val (.ref sx), .val (.ref o49), .val (.ref v38), .val (.int (3 : Int32)), .val (.int (2 : Int32)), .val (.ref dC)] [(.int (1 : Int32))])
        exact absurd (hs48.trans hs67.symm) (by decide)
      · skip
        have N67 := Fr.app N59 (Fr.nil n0)
        refine Go.tr st67 ?_
        show Go p.tables e below Kx T67 (mkF m 35 #[.val (.ref sx), .val (.ref o49), .val (.ref v38), .val (.int (3 : Int32)), .val (.int (2 : Int32)), .val (.ref dC)] [(.int (0 : Int32))])
        refine s_ifY (pc' := 46) X67.here hx (hb hby d_prog_38_m4_35) ((if0 _ _).trans (teq (by decide)).1) (by decide) (by decide) ?_
        refine s_aloadN (pc' := 47) X67.here hx (hb hby d_prog_38_m4_46) rfl rfl rfl ?_
        refine s_astoreN (pc' := 48) (Ls' := #[.val (.ref sx), .val (.ref o49), .val (.ref v38), .val (.int (3 : Int32)), .val (.int (2 : Int32)), .val (.ref dC)]) X67.here hx (hb hby d_prog_38_m4_47) rfl rfl rfl ?_
        refine s_iinc (pc' := 51) (Ls' := #[.val (.ref sx), .val (.ref o49), .val (.ref v38), .val (.int (3 : Int32)), .val (.int (3 : Int32)), .val (.ref dC)]) (z := (3 : Int32)) X67.here hx (hb hby d_prog_38_m4_48) rfl rfl (by decide) rfl ?_
        refine s_goto (pc' := 14) X67.here hx (hb hby d_prog_38_m4_51) (by decide) (by decide) ?_
        refine s_iload (pc' := 16) X67.here hx (hb hby d_prog_38_m4_14) rfl rfl ?_
        refine s_iloadN (pc' := 17) X67.here hx (hb hby d_prog_38_m4_16) rfl rfl ?_
        refine s_icmpY (pc' := 54) X67.here hx (hb hby d_prog_38_m4_17) (flt (by decide)).2.1 (by decide) (by decide) ?_
        refine s_aloadN (pc' := 55) X67.here hx (hb hby d_prog_38_m4_54) rfl rfl rfl ?_
        obtain ⟨fs, hr, hrun, hended, hW, hsame⟩ := X67.leave (v := (some (.ref o49))) (fun h => by rw [Bd.returns] at h; cases h)
        refine Go.fin (retOut X67 hx Bd.returns rfl (Or.inr (Or.inr (Or.inr (Or.inr ⟨rfl, rfl, rfl⟩)))) (hb hby d_prog_38_m4_55) hr) (hF _ _ hrun hended ⟨_, _, rfl, ?_, ⟨_, rfl⟩, hW, hsame.mono (by decide) (by decide)⟩)
        · show QF Z va dA dB dC tA tB tC eo kv sx bz cs h0 n0 ((some (.ref o49)) : Option Value) T67.heap _
          rw [hE67]
          exact ⟨_, _, rfl, N67, K49, q1_49, q2_49, Or.inl ⟨rfl, hs48⟩⟩
  · skip
    have N48 := Fr.app N38 (Fr.nil n0)
    refine Go.tr st48 ?_
    show Go p.tables e below Kx T48 (mkF m 35 #[.val (.ref sx), .val (.ref eo), .val (.ref v38), .val (.int (3 : Int32)), .val (.int (0 : Int32)), .val (.ref dA)] [(.int (0 : Int32))])
    refine s_ifY (pc' := 46) X48.here hx (hb hby d_prog_38_m4_35) ((if0 _ _).trans (teq (by decide)).1) (by decide) (by decide) ?_
    refine s_aloadN (pc' := 47) X48.here hx (hb hby d_prog_38_m4_46) rfl rfl rfl ?_
    refine s_astoreN (pc' := 48) (Ls' := #[.val (.ref sx), .val (.ref eo), .val (.ref v38), .val (.int (3 : Int32)), .val (.int (0 : Int32)), .val (.ref dA)]) X48.here hx (hb hby d_prog_38_m4_47) rfl rfl rfl ?_
    refine s_iinc (pc' := 51) (Ls' := #[.val (.ref sx), .val (.ref eo), .val (.ref v38), .val (.int (3 : Int32)), .val (.int (1 : Int32)), .val (.ref dA)]) (z := (1 : Int32)) X48.here hx (hb hby d_prog_38_m4_48) rfl rfl (by decide) rfl ?_
    refine s_goto (pc' := 14) X48.here hx (hb hby d_prog_38_m4_51) (by decide) (by decide) ?_
    refine s_iload (pc' := 16) X48.here hx (hb hby d_prog_38_m4_14) rfl rfl ?_
    refine s_iloadN (pc' := 17) X48.here hx (hb hby d_prog_38_m4_16) rfl rfl ?_
    refine s_icmpN (pc' := 20) X48.here hx (hb hby d_prog_38_m4_17) rfl (tlt (by decide)).2.1 ?_
    refine s_aloadN (pc' := 21) X48.here hx (hb hby d_prog_38_m4_20) rfl rfl rfl ?_
    refine s_iload (pc' := 23) X48.here hx (hb hby d_prog_38_m4_21) rfl rfl ?_
    obtain ⟨cl68, Ar68, Aq68, As68, An68, Ah68, Ag68⟩ := id q1_38
    have in69 := inb_of (j := (1 : Int32)) As68 (by decide)
    have at69 : cl68.slots[((1 : Int32)).toNatClampNeg]? = some (.ref dB) := Ah68.at in69 rfl
    refine Go.st (X48.aaload hx (j := (1 : Int32)) (v := (.ref dB)) (by rw [hE48]; exact Ar68.1) (State.isArrayOf_alike hZ.alike Ar68.2.1) rfl Ar68.2.2 in69 at69 (g := (mkF m 23 #[.val (.ref sx), .val (.ref eo), .val (.ref v38), .val (.int (3 : Int32)), .val (.int (1 : Int32)), .val (.ref dA)] [(.int (1 : Int32)), (.ref v38)])) rfl rfl (hb hby d_prog_38_m4_23)) ?_
    show Go p.tables e below Kx T48 (mkF m 24 #[.val (.ref sx), .val (.ref eo), .val (.ref v38), .val (.int (3 : Int32)), .val (.int (1 : Int32)), .val (.ref dA)] [(.ref dB)])
    refine s_astore (pc' := 26) (Ls' := #[.val (.ref sx), .val (.ref eo), .val (.ref v38), .val (.int (3 : Int32)), .val (.int (1 : Int32)), .val (.ref dB)]) X48.here hx (hb hby d_prog_38_m4_24) rfl rfl rfl ?_
    refine s_aload (pc' := 28) X48.here hx (hb hby d_prog_38_m4_26) rfl rfl rfl ?_
    have f70 : Fld Z T38.heap dB "com/example/syndica/syndica/InterestBasis" "value" "Ljava/lang/String;" (.ref tB) := ((FdB.ext X00.2).keep Kq38 nin0)
    obtain ⟨T71, X71, e71, st71⟩ := getF X48 hx hZ hown (host := "") (Or.inl (hw _ (List.mem_of_getElem? (i := 61) rfl))) Via.refl hE48 f70 (g := (mkF m 28 #[.val (.ref sx), .val (.ref eo), .val (.ref v38), .val (.int (3 : Int32)), .val (.int (1 : Int32)), .val (.ref dB)] [(.ref dB)])) rfl rfl (hb hby d_prog_38_m4_28)
    refine Go.st st71 ?_
    show Go p.tables e below Kx T71 (mkF m 31 #[.val (.ref sx), .val (.ref eo), .val (.ref v38), .val (.int (3 : Int32)), .val (.int (1 : Int32)), .val (.ref dB)] [(.ref tB)])
    refine s_aloadN (pc' := 32) X71.here hx (hb hby d_prog_38_m4_31) rfl rfl rfl ?_
    have f72 : Str Z T38.heap Z.heap.size tB [(51 : Int32), (54 : Int32), (53 : Int32)] := ((TdB.ext X00.2).keep Kq38 all0)
    obtain ⟨-, sE73, sC73, ⟨st73, sk73, -, sF73, sA73⟩, sp73, sl73⟩ := id f72
    obtain ⟨-, sE74, sC74, ⟨st74, sk74, -, sF74, sA74⟩, sp74, sl74⟩ := id f45
    obtain ⟨cq75, kq75, q75a, q75b, q75c⟩ := isOf hZ e71 sE73
    obtain ⟨_, _, ⟨T75, L75, k75, n75⟩, -, X75, ⟨Lc75, hQ75, l75, y75, z75⟩, st75⟩ := X71.virtualBack hx (y := (⟨"java/lang/String", "equals", "(Ljava/lang/Object;)Z"⟩ : MethodName)) (z := (⟨"java/lang/String", "equals", "(Ljava/lang/Object;)Z"⟩ : MethodName)) hown (mvT hZ (hw _ (List.mem_of_getElem? (i := 63) rfl))) (mvT hZ (hw _ (List.mem_of_getElem? (i := 64) rfl))) (notFace_of_selects (args := #[]) (mvT hZ (hw _ (List.mem_of_getElem? (i := 66) rfl)))) (mvT hZ (hw _ (List.mem_of_getElem? (i := 66) rfl))) (mvT hZ (hw _ (List.mem_of_getElem? (i := 65) rfl))) (by decide) (StrChars.Road.eqW (W := 0) hZ (hwsE Z a0 hw) (kI := 4) (hw _ (List.mem_of_getElem? (i := 6) rfl)) sE73 sF73 sC73 sA73 (StrChars.Road.codOf rfl (fun c hc => (sp73 c hc).2)) (chr_up sp73) sl73 sE74 sF74 sC74 sA74 (StrChars.Road.codOf rfl (fun c hc => (sp74 c hc).2)) (chr_up sp74) sl74 (S1.ext O38.2) P1 (by decide) (by decide)) q75a q75c (g := (mkF m 32 #[.val (.ref sx), .val (.ref eo), .val (.ref v38), .val (.int (3 : Int32)), .val (.int (1 : Int32)), .val (.ref dB)] [(.ref sx), (.ref tB)])) rfl (by rw [hml]; rfl) (Steps.refl _) (argsL := [(.ref sx)]) (rest := []) (lenOf pd_5 rfl) rfl (by show 2 * 0 + _ ≤ _; exact Nat.le_of_eq rfl) (hb hby d_prog_38_m4_32) (fun _ _ => ⟨rfl, e71, (by decide : 1 + 0 ≤ _), (by decide : 3 + 0 ≤ _)⟩)
    dsimp only [Pt.U, Pt.locs, Pt.cells, Pt.slots] at X75 l75 y75 z75 st75 hQ75
    rw [l75, y75, z75] at X75
    obtain ⟨hv75, rfl, hE75⟩ := hQ75
    rcases hv75 with ⟨rfl, hs75⟩ | ⟨rfl, hs75⟩
    · skip
      have N75 := Fr.app N48 (Fr.nil n0)
      refine Go.tr st75 ?_
      show Go p.tables e below Kx T75 (mkF m 35 #[.val (.ref sx), .val (.ref eo), .val (.ref v38), .val (.int (3 : Int32)), .val (.int (1 : Int32)), .val (.ref dB)] [(.int (1 : Int32))])
      refine s_ifN (pc' := 38) X75.here hx (hb hby d_prog_38_m4_35) rfl ((if0 _ _).trans (feq (by decide)).1) ?_
      refine s_aload (pc' := 40) X75.here hx (hb hby d_prog_38_m4_38) rfl rfl rfl ?_
      obtain ⟨_, _, ⟨T76, L76, k76, n76⟩, -, X76, ⟨Lc76, hQ76, l76, y76, z76⟩, st76⟩ := Jvm.LawKit.callS X75 hx (y := (⟨"java/util/Optional", "of", "(Ljava/lang/Object;)Ljava/util/Optional;"⟩ : MethodName)) hown (mvT hZ (hw _ (List.mem_of_getElem? (i := 73) rfl))) (mvT hZ (hw _ (List.mem_of_getElem? (i := 74) rfl))) (mvT hZ (hw _ (List.mem_of_getElem? (i := 40) rfl))) (mvT hZ (hw _ (List.mem_of_getElem? (i := 75) rfl))) (by decide) (backOf (W := 0) (rmO l Z a0 hw [] dB T38.heap n0 O38 ) hZ (hw _ (List.mem_of_getElem? (i := 75) rfl)) (hw _ (List.mem_of_getElem? (i := 40) rfl)) (by decide) (by decide)) (g := (mkF m 40 #[.val (.ref sx), .val (.ref eo), .val (.ref v38), .val (.int (3 : Int32)), .val (.int (1 : Int32)), .val (.ref dB)] [(.ref dB)])) rfl (by rw [hml]; rfl) (argsL := [(.ref dB)]) (rest := []) (lenOf pd_6 rfl) rfl (by show 2 * 0 + _ ≤ _; exact Nat.le_of_eq rfl) (hb hby d_prog_38_m4_40) (fun _ _ => ⟨rfl, hE75, (by decide : 1 + 1 ≤ _), (by decide : 3 + 1 ≤ _)⟩)
      dsimp only [Pt.U, Pt.locs, Pt.cells, Pt.slots] at X76 l76 y76 z76 st76 hQ76
      rw [l76, y76, z76] at X76
      obtain ⟨o76, rfl, Nq76, Kq76, q1_76, q2_76⟩ := hQ76
      have N76 := Fr.app N75 Nq76
      have K76 : Keep h0 T76.heap [] := K38.trans Kq76 all0
      have O76 : Old Z n0 T76.heap := O38.keep Kq76 all0
      refine Go.st st76 ?_
      show Go p.tables e below Kx T76 (mkF m 43 #[.val (.ref sx), .val (.ref eo), .val (.ref v38), .val (.int (3 : Int32)), .val (.int (1 : Int32)), .val (.ref dB)] [(.ref o76)])
      refine s_goto (pc' := 47) X76.here hx (hb hby d_prog_38_m4_43) (by decide) (by decide) ?_
      refine s_astoreN (pc' := 48) (Ls' := #[.val (.ref sx), .val (.ref o76), .val (.ref v38), .val (.int (3 : Int32)), .val (.int (1 : Int32)), .val (.ref dB)]) X76.here hx (hb hby d_prog_38_m4_47) rfl rfl rfl ?_
      refine s_iinc (pc' := 51) (Ls' := #[.val (.ref sx), .val (.ref o76), .val (.ref v38), .val (.int (3 : Int32)), .val (.int (2 : Int32)), .val (.ref dB)]) (z := (2 : Int32)) X76.here hx (hb hby d_prog_38_m4_48) rfl rfl (by decide) rfl ?_
      refine s_goto (pc' := 14) X76.here hx (hb hby d_prog_38_m4_51) (by decide) (by decide) ?_
      refine s_iload (pc' := 16) X76.here hx (hb hby d_prog_38_m4_14) rfl rfl ?_
      refine s_iloadN (pc' := 17) X76.here hx (hb hby d_prog_38_m4_16) rfl rfl ?_
      refine s_icmpN (pc' := 20) X76.here hx (hb hby d_prog_38_m4_17) rfl (tlt (by decide)).2.1 ?_
      refine s_aloadN (pc' := 21) X76.here hx (hb hby d_prog_38_m4_20) rfl rfl rfl ?_
      refine s_iload (pc' := 23) X76.here hx (hb hby d_prog_38_m4_21) rfl rfl ?_
      have f77 : Arv Z T76.heap v38 kv38 (.object "com/example/syndica/syndica/InterestBasis") (3 : Int32) [(.ref dA), (.ref dB), (.ref dC)] .null := (q1_38.keep Kq76 nin0)
      obtain ⟨cl78, Ar78, Aq78, As78, An78, Ah78, Ag78⟩ := id f77
      have in79 := inb_of (j := (2 : Int32)) As78 (by decide)
      have at79 : cl78.slots[((2 : Int32)).toNatClampNeg]? = some (.ref dC) := Ah78.at in79 rfl
      refine Go.st (X76.aaload hx (j := (2 : Int32)) (v := (.ref dC)) (by  exact Ar78.1) (State.isArrayOf_alike hZ.alike Ar78.2.1) rfl Ar78.2.2 in79 at79 (g := (mkF m 23 #[.val (.ref sx), .val (.ref o76), .val (.ref v38), .val (.int (3 : Int32)), .val (.int (2 : Int32)), .val (.ref dB)] [(.int (2 : Int32)), (.ref v38)])) rfl rfl (hb hby d_prog_38_m4_23)) ?_
      show Go p.tables e below Kx T76 (mkF m 24 #[.val (.ref sx), .val (.ref o76), .val (.ref v38), .val (.int (3 : Int32)), .val (.int (2 : Int32)), .val (.ref dB)] [(.ref dC)])
      refine s_astore (pc' := 26) (Ls' := #[.val (.ref sx), .val (.ref o76), .val (.ref v38), .val (.int (3 : Int32)), .val (.int (2 : Int32)), .val (.ref dC)]) X76.here hx (hb hby d_prog_38_m4_24) rfl rfl rfl ?_
      refine s_aload (pc' := 28) X76.here hx (hb hby d_prog_38_m4_26) rfl rfl rfl ?_
      have f80 : Fld Z T76.heap dC "com/example/syndica/syndica/InterestBasis" "value" "Ljava/lang/String;" (.ref tC) := (((FdC.ext X00.2).keep Kq38 nin0).keep Kq76 nin0)
      obtain ⟨T81, X81, e81, st81⟩ := getF X76 hx hZ hown (host := "") (Or.inl (hw _ (List.mem_of_getElem? (i := 61) rfl))) Via.refl rfl f80 (g := (mkF m 28 #[.val (.ref sx), .val (.ref o76), .val (.ref v38), .val (.int (3 : Int32)), .val (.int (2 : Int32)), .val (.ref dC)] [(.ref dC)])) rfl rfl (hb hby d_prog_38_m4_28)
      refine Go.st st81 ?_
      show Go p.tables e below Kx T81 (mkF m 31 #[.val (.ref sx), .val (.ref o76), .val (.ref v38), .val (.int (3 : Int32)), .val (.int (2 : Int32)), .val (.ref dC)] [(.ref tC)])
      refine s_aloadN (pc' := 32) X81.here hx (hb hby d_prog_38_m4_31) rfl rfl rfl ?_
      have f82 : Str Z T76.heap Z.heap.size tC [(51 : Int32), (54 : Int32), (53 : Int32), (47 : Int32), (51 : Int32), (54 : Int32), (54 : Int32)] := (((TdC.ext X00.2).keep Kq38 all0).keep Kq76 all0)
      have f83 : Str Z T76.heap bz sx cs := (f45.keep Kq76 all0)
      obtain ⟨-, sE84, sC84, ⟨st84, sk84, -, sF84, sA84⟩, sp84, sl84⟩ := id f82
      obtain ⟨-, sE85, sC85, ⟨st85, sk85, -, sF85, sA85⟩, sp85, sl85⟩ := id f83
      obtain ⟨cq86, kq86, q86a, q86b, q86c⟩ := isOf hZ e81 sE84
      obtain ⟨_, _, ⟨T86, L86, k86, n86⟩, -, X86, ⟨Lc86, hQ86, l86, y86, z86⟩, st86⟩ := X81.virtualBack hx (y := (⟨"java/lang/String", "equals", "(Ljava/lang/Object;)Z"⟩ : MethodName)) (z := (⟨"java/lang/String", "equals", "(Ljava/lang/Object;)Z"⟩ : MethodName)) hown (mvT hZ (hw _ (List.mem_of_getElem? (i := 63) rfl))) (mvT hZ (hw _ (List.mem_of_getElem? (i := 64) rfl))) (notFace_of_selects (args := #[]) (mvT hZ (hw _ (List.mem_of_getElem? (i := 66) rfl)))) (mvT hZ (hw _ (List.mem_of_getElem? (i := 66) rfl))) (mvT hZ (hw _ (List.mem_of_getElem? (i := 65) rfl))) (by decide) (StrChars.Road.eqW (W := 0) hZ (hwsE Z a0 hw) (kI := 4) (hw _ (List.mem_of_getElem? (i := 6) rfl)) sE84 sF84 sC84 sA84 (StrChars.Road.codOf rfl (fun c hc => (sp84 c hc).2)) (chr_up sp84) sl84 sE85 sF85 sC85 sA85 (StrChars.Road.codOf rfl (fun c hc => (sp85 c hc).2)) (chr_up sp85) sl85 (S1.ext O76.2) P1 (by decide) (by decide)) q86a q86c (g := (mkF m 32 #[.val (.ref sx), .val (.ref o76), .val (.ref v38), .val (.int (3 : Int32)), .val (.int (2 : Int32)), .val (.ref dC)] [(.ref sx), (.ref tC)])) rfl (by rw [hml]; rfl) (Steps.refl _) (argsL := [(.ref sx)]) (rest := []) (lenOf pd_5 rfl) rfl (by show 2 * 0 + _ ≤ _; exact Nat.le_of_eq rfl) (hb hby d_prog_38_m4_32) (fun _ _ => ⟨rfl, e81, (by decide : 2 + 0 ≤ _), (by decide : 4 + 0 ≤ _)⟩)
      dsimp only [Pt.U, Pt.locs, Pt.cells, Pt.slots] at X86 l86 y86 z86 st86 hQ86
      rw [l86, y86, z86] at X86
      obtain ⟨hv86, rfl, hE86⟩ := hQ86
      rcases hv86 with ⟨rfl, hs86⟩ | ⟨rfl, hs86⟩
      · skip
        have N86 := Fr.app N76 (Fr.nil n0)
        refine Go.tr st86 ?_
        show Go p.tables e below Kx T86 (mkF m 35 #[.val (.ref sx), .val (.ref o76), .val (.ref v38), .val (.int (3 : Int32)), .val (.int (2 : Int32)), .val (.ref dC)] [(.int (1 : Int32))])
        exact absurd (hs75.trans hs86.symm) (by decide)
      · skip
        have N86 := Fr.app N76 (Fr.nil n0)
        refine Go.tr st86 ?_
        show Go p.tables e below Kx T86 (mkF m 35 #[.val (.ref sx), .val (.ref o76), .val (.ref v38), .val (.int (3 : Int32)), .val (.int (2 : Int32)), .val (.ref dC)] [(.int (0 : Int32))])
        refine s_ifY (pc' := 46) X86.here hx (hb hby d_prog_38_m4_35) ((if0 _ _).trans (teq (by decide)).1) (by decide) (by decide) ?_
        refine s_aloadN (pc' := 47) X86.here hx (hb hby d_prog_38_m4_46) rfl rfl rfl ?_
        refine s_astoreN (pc' := 48) (Ls' := #[.val (.ref sx), .val (.ref o76), .val (.ref v38), .val (.int (3 : Int32)), .val (.int (2 : Int32)), .val (.ref dC)]) X86.here hx (hb hby d_prog_38_m4_47) rfl rfl rfl ?_
        refine s_iinc (pc' := 51) (Ls' := #[.val (.ref sx), .val (.ref o76), .val (.ref v38), .val (.int (3 : Int32)), .val (.int (3 : Int32)), .val (.ref dC)]) (z := (3 : Int32)) X86.here hx (hb hby d_prog_38_m4_48) rfl rfl (by decide) rfl ?_
        refine s_goto (pc' := 14) X86.here hx (hb hby d_prog_38_m4_51) (by decide) (by decide) ?_
        refine s_iload (pc' := 16) X86.here hx (hb hby d_prog_38_m4_14) rfl rfl ?_
        refine s_iloadN (pc' := 17) X86.here hx (hb hby d_prog_38_m4_16) rfl rfl ?_
        refine s_icmpY (pc' := 54) X86.here hx (hb hby d_prog_38_m4_17) (flt (by decide)).2.1 (by decide) (by decide) ?_
        refine s_aloadN (pc' := 55) X86.here hx (hb hby d_prog_38_m4_54) rfl rfl rfl ?_
        obtain ⟨fs, hr, hrun, hended, hW, hsame⟩ := X86.leave (v := (some (.ref o76))) (fun h => by rw [Bd.returns] at h; cases h)
        refine Go.fin (retOut X86 hx Bd.returns rfl (Or.inr (Or.inr (Or.inr (Or.inr ⟨rfl, rfl, rfl⟩)))) (hb hby d_prog_38_m4_55) hr) (hF _ _ hrun hended ⟨_, _, rfl, ?_, ⟨_, rfl⟩, hW, hsame.mono (by decide) (by decide)⟩)
        · show QF Z va dA dB dC tA tB tC eo kv sx bz cs h0 n0 ((some (.ref o76)) : Option Value) T86.heap _
          rw [hE86]
          exact ⟨_, _, rfl, N86, K76, q1_76, q2_76, Or.inr (Or.inl ⟨rfl, hs75⟩)⟩
    · skip
      have N75 := Fr.app N48 (Fr.nil n0)
      refine Go.tr st75 ?_
      show Go p.tables e below Kx T75 (mkF m 35 #[.val (.ref sx), .val (.ref eo), .val (.ref v38), .val (.int (3 : Int32)), .val (.int (1 : Int32)), .val (.ref dB)] [(.int (0 : Int32))])
      refine s_ifY (pc' := 46) X75.here hx (hb hby d_prog_38_m4_35) ((if0 _ _).trans (teq (by decide)).1) (by decide) (by decide) ?_
      refine s_aloadN (pc' := 47) X75.here hx (hb hby d_prog_38_m4_46) rfl rfl rfl ?_
      refine s_astoreN (pc' := 48) (Ls' := #[.val (.ref sx), .val (.ref eo), .val (.ref v38), .val (.int (3 : Int32)), .val (.int (1 : Int32)), .val (.ref dB)]) X75.here hx (hb hby d_prog_38_m4_47) rfl rfl rfl ?_
      refine s_iinc (pc' := 51) (Ls' := #[.val (.ref sx), .val (.ref eo), .val (.ref v38), .val (.int (3 : Int32)), .val (.int (2 : Int32)), .val (.ref dB)]) (z := (2 : Int32)) X75.here hx (hb hby d_prog_38_m4_48) rfl rfl (by decide) rfl ?_
      refine s_goto (pc' := 14) X75.here hx (hb hby d_prog_38_m4_51) (by decide) (by decide) ?_
      refine s_iload (pc' := 16) X75.here hx (hb hby d_prog_38_m4_14) rfl rfl ?_
      refine s_iloadN (pc' := 17) X75.here hx (hb hby d_prog_38_m4_16) rfl rfl ?_
      refine s_icmpN (pc' := 20) X75.here hx (hb hby d_prog_38_m4_17) rfl (tlt (by decide)).2.1 ?_
      refine s_aloadN (pc' := 21) X75.here hx (hb hby d_prog_38_m4_20) rfl rfl rfl ?_
      refine s_iload (pc' := 23) X75.here hx (hb hby d_prog_38_m4_21) rfl rfl ?_
      obtain ⟨cl87, Ar87, Aq87, As87, An87, Ah87, Ag87⟩ := id q1_38
      have in88 := inb_of (j := (2 : Int32)) As87 (by decide)
      have at88 : cl87.slots[((2 : Int32)).toNatClampNeg]? = some (.ref dC) := Ah87.at in88 rfl
      refine Go.st (X75.aaload hx (j := (2 : Int32)) (v := (.ref dC)) (by rw [hE75]; exact Ar87.1) (State.isArrayOf_alike hZ.alike Ar87.2.1) rfl Ar87.2.2 in88 at88 (g := (mkF m 23 #[.val (.ref sx), .val (.ref eo), .val (.ref v38), .val (.int (3 : Int32)), .val (.int (2 : Int32)), .val (.ref dB)] [(.int (2 : Int32)), (.ref v38)])) rfl rfl (hb hby d_prog_38_m4_23)) ?_
      show Go p.tables e below Kx T75 (mkF m 24 #[.val (.ref sx), .val (.ref eo), .val (.ref v38), .val (.int (3 : Int32)), .val (.int (2 : Int32)), .val (.ref dB)] [(.ref dC)])
      refine s_astore (pc' := 26) (Ls' := #[.val (.ref sx), .val (.ref eo), .val (.ref v38), .val (.int (3 : Int32)), .val (.int (2 : Int32)), .val (.ref dC)]) X75.here hx (hb hby d_prog_38_m4_24) rfl rfl rfl ?_
      refine s_aload (pc' := 28) X75.here hx (hb hby d_prog_38_m4_26) rfl rfl rfl ?_
      have f89 : Fld Z T38.heap dC "com/example/syndica/syndica/InterestBasis" "value" "Ljava/lang/String;" (.ref tC) := ((FdC.ext X00.2).keep Kq38 nin0)
      obtain ⟨T90, X90, e90, st90⟩ := getF X75 hx hZ hown (host := "") (Or.inl (hw _ (List.mem_of_getElem? (i := 61) rfl))) Via.refl hE75 f89 (g := (mkF m 28 #[.val (.ref sx), .val (.ref eo), .val (.ref v38), .val (.int (3 : Int32)), .val (.int (2 : Int32)), .val (.ref dC)] [(.ref dC)])) rfl rfl (hb hby d_prog_38_m4_28)
      refine Go.st st90 ?_
      show Go p.tables e below Kx T90 (mkF m 31 #[.val (.ref sx), .val (.ref eo), .val (.ref v38), .val (.int (3 : Int32)), .val (.int (2 : Int32)), .val (.ref dC)] [(.ref tC)])
      refine s_aloadN (pc' := 32) X90.here hx (hb hby d_prog_38_m4_31) rfl rfl rfl ?_
      have f91 : Str Z T38.heap Z.heap.size tC [(51 : Int32), (54 : Int32), (53 : Int32), (47 : Int32), (51 : Int32), (54 : Int32), (54 : Int32)] := ((TdC.ext X00.2).keep Kq38 all0)
      obtain ⟨-, sE92, sC92, ⟨st92, sk92, -, sF92, sA92⟩, sp92, sl92⟩ := id f91
      obtain ⟨-, sE93, sC93, ⟨st93, sk93, -, sF93, sA93⟩, sp93, sl93⟩ := id f45
      obtain ⟨cq94, kq94, q94a, q94b, q94c⟩ := isOf hZ e90 sE92
      obtain ⟨_, _, ⟨T94, L94, k94, n94⟩, -, X94, ⟨Lc94, hQ94, l94, y94, z94⟩, st94⟩ := X90.virtualBack hx (y := (⟨"java/lang/String", "equals", "(Ljava/lang/Object;)Z"⟩ : MethodName)) (z := (⟨"java/lang/String", "equals", "(Ljava/lang/Object;)Z"⟩ : MethodName)) hown (mvT hZ (hw _ (List.mem_of_getElem? (i := 63) rfl))) (mvT hZ (hw _ (List.mem_of_getElem? (i := 64) rfl))) (notFace_of_selects (args := #[]) (mvT hZ (hw _ (List.mem_of_getElem? (i := 66) rfl)))) (mvT hZ (hw _ (List.mem_of_getElem? (i := 66) rfl))) (mvT hZ (hw _ (List.mem_of_getElem? (i := 65) rfl))) (by decide) (StrChars.Road.eqW (W := 0) hZ (hwsE Z a0 hw) (kI := 4) (hw _ (List.mem_of_getElem? (i := 6) rfl)) sE92 sF92 sC92 sA92 (StrChars.Road.codOf rfl (fun c hc => (sp92 c hc).2)) (chr_up sp92) sl92 sE93 sF93 sC93 sA93 (StrChars.Road.codOf rfl (fun c hc => (sp93 c hc).2)) (chr_up sp93) sl93 (S1.ext O38.2) P1 (by decide) (by decide)) q94a q94c (g := (mkF m 32 #[.val (.ref sx), .val (.ref eo), .val (.ref v38), .val (.int (3 : Int32)), .val (.int (2 : Int32)), .val (.ref dC)] [(.ref sx), (.ref tC)])) rfl (by rw [hml]; rfl) (Steps.refl _) (argsL := [(.ref sx)]) (rest := []) (lenOf pd_5 rfl) rfl (by show 2 * 0 + _ ≤ _; exact Nat.le_of_eq rfl) (hb hby d_prog_38_m4_32) (fun _ _ => ⟨rfl, e90, (by decide : 1 + 0 ≤ _), (by decide : 3 + 0 ≤ _)⟩)
      dsimp only [Pt.U, Pt.locs, Pt.cells, Pt.slots] at X94 l94 y94 z94 st94 hQ94
      rw [l94, y94, z94] at X94
      obtain ⟨hv94, rfl, hE94⟩ := hQ94
      rcases hv94 with ⟨rfl, hs94⟩ | ⟨rfl, hs94⟩
      · skip
        have N94 := Fr.app N75 (Fr.nil n0)
        refine Go.tr st94 ?_
        show Go p.tables e below Kx T94 (mkF m 35 #[.val (.ref sx), .val (.ref eo), .val (.ref v38), .val (.int (3 : Int32)), .val (.int (2 : Int32)), .val (.ref dC)] [(.int (1 : Int32))])
        refine s_ifN (pc' := 38) X94.here hx (hb hby d_prog_38_m4_35) rfl ((if0 _ _).trans (feq (by decide)).1) ?_
        refine s_aload (pc' := 40) X94.here hx (hb hby d_prog_38_m4_38) rfl rfl rfl ?_
        obtain ⟨_, _, ⟨T95, L95, k95, n95⟩, -, X95, ⟨Lc95, hQ95, l95, y95, z95⟩, st95⟩ := Jvm.LawKit.callS X94 hx (y := (⟨"java/util/Optional", "of", "(Ljava/lang/Object;)Ljava/util/Optional;"⟩ : MethodName)) hown (mvT hZ (hw _ (List.mem_of_getElem? (i := 73) rfl))) (mvT hZ (hw _ (List.mem_of_getElem? (i := 74) rfl))) (mvT hZ (hw _ (List.mem_of_getElem? (i := 40) rfl))) (mvT hZ (hw _ (List.mem_of_getElem? (i := 75) rfl))) (by decide) (backOf (W := 0) (rmO l Z a0 hw [] dC T38.heap n0 O38 ) hZ (hw _ (List.mem_of_getElem? (i := 75) rfl)) (hw _ (List.mem_of_getElem? (i := 40) rfl)) (by decide) (by decide)) (g := (mkF m 40 #[.val (.ref sx), .val (.ref eo), .val (.ref v38), .val (.int (3 : Int32)), .val (.int (2 : Int32)), .val (.ref dC)] [(.ref dC)])) rfl (by rw [hml]; rfl) (argsL := [(.ref dC)]) (rest := []) (lenOf pd_6 rfl) rfl (by show 2 * 0 + _ ≤ _; exact Nat.le_of_eq rfl) (hb hby d_prog_38_m4_40) (fun _ _ => ⟨rfl, hE94, (by decide : 1 + 1 ≤ _), (by decide : 3 + 1 ≤ _)⟩)
        dsimp only [Pt.U, Pt.locs, Pt.cells, Pt.slots] at X95 l95 y95 z95 st95 hQ95
        rw [l95, y95, z95] at X95
        obtain ⟨o95, rfl, Nq95, Kq95, q1_95, q2_95⟩ := hQ95
        have N95 := Fr.app N94 Nq95
        have K95 : Keep h0 T95.heap [] := K38.trans Kq95 all0
        have O95 : Old Z n0 T95.heap := O38.keep Kq95 all0
        refine Go.st st95 ?_
        show Go p.tables e below Kx T95 (mkF m 43 #[.val (.ref sx), .val (.ref eo), .val (.ref v38), .val (.int (3 : Int32)), .val (.int (2 : Int32)), .val (.ref dC)] [(.ref o95)])
        refine s_goto (pc' := 47) X95.here hx (hb hby d_prog_38_m4_43) (by decide) (by decide) ?_
        refine s_astoreN (pc' := 48) (Ls' := #[.val (.ref sx), .val (.ref o95), .val (.ref v38), .val (.int (3 : Int32)), .val (.int (2 : Int32)), .val (.ref dC)]) X95.here hx (hb hby d_prog_38_m4_47) rfl rfl rfl ?_
        refine s_iinc (pc' := 51) (Ls' := #[.val (.ref sx), .val (.ref o95), .val (.ref v38), .val (.int (3 : Int32)), .val (.int (3 : Int32)), .val (.ref dC)]) (z := (3 : Int32)) X95.here hx (hb hby d_prog_38_m4_48) rfl rfl (by decide) rfl ?_
        refine s_goto (pc' := 14) X95.here hx (hb hby d_prog_38_m4_51) (by decide) (by decide) ?_
        refine s_iload (pc' := 16) X95.here hx (hb hby d_prog_38_m4_14) rfl rfl ?_
        refine s_iloadN (pc' := 17) X95.here hx (hb hby d_prog_38_m4_16) rfl rfl ?_
        refine s_icmpY (pc' := 54) X95.here hx (hb hby d_prog_38_m4_17) (flt (by decide)).2.1 (by decide) (by decide) ?_
        refine s_aloadN (pc' := 55) X95.here hx (hb hby d_prog_38_m4_54) rfl rfl rfl ?_
        obtain ⟨fs, hr, hrun, hended, hW, hsame⟩ := X95.leave (v := (some (.ref o95))) (fun h => by rw [Bd.returns] at h; cases h)
        refine Go.fin (retOut X95 hx Bd.returns rfl (Or.inr (Or.inr (Or.inr (Or.inr ⟨rfl, rfl, rfl⟩)))) (hb hby d_prog_38_m4_55) hr) (hF _ _ hrun hended ⟨_, _, rfl, ?_, ⟨_, rfl⟩, hW, hsame.mono (by decide) (by decide)⟩)
        · show QF Z va dA dB dC tA tB tC eo kv sx bz cs h0 n0 ((some (.ref o95)) : Option Value) T95.heap _
          skip
          exact ⟨_, _, rfl, N95, K95, q1_95, q2_95, Or.inr (Or.inr (Or.inl ⟨rfl, hs94⟩))⟩
      · skip
        have N94 := Fr.app N75 (Fr.nil n0)
        refine Go.tr st94 ?_
        show Go p.tables e below Kx T94 (mkF m 35 #[.val (.ref sx), .val (.ref eo), .val (.ref v38), .val (.int (3 : Int32)), .val (.int (2 : Int32)), .val (.ref dC)] [(.int (0 : Int32))])
        refine s_ifY (pc' := 46) X94.here hx (hb hby d_prog_38_m4_35) ((if0 _ _).trans (teq (by decide)).1) (by decide) (by decide) ?_
        refine s_aloadN (pc' := 47) X94.here hx (hb hby d_prog_38_m4_46) rfl rfl rfl ?_
        refine s_astoreN (pc' := 48) (Ls' := #[.val (.ref sx), .val (.ref eo), .val (.ref v38), .val (.int (3 : Int32)), .val (.int (2 : Int32)), .val (.ref dC)]) X94.here hx (hb hby d_prog_38_m4_47) rfl rfl rfl ?_
        refine s_iinc (pc' := 51) (Ls' := #[.val (.ref sx), .val (.ref eo), .val (.ref v38), .val (.int (3 : Int32)), .val (.int (3 : Int32)), .val (.ref dC)]) (z := (3 : Int32)) X94.here hx (hb hby d_prog_38_m4_48) rfl rfl (by decide) rfl ?_
        refine s_goto (pc' := 14) X94.here hx (hb hby d_prog_38_m4_51) (by decide) (by decide) ?_
        refine s_iload (pc' := 16) X94.here hx (hb hby d_prog_38_m4_14) rfl rfl ?_
        refine s_iloadN (pc' := 17) X94.here hx (hb hby d_prog_38_m4_16) rfl rfl ?_
        refine s_icmpY (pc' := 54) X94.here hx (hb hby d_prog_38_m4_17) (flt (by decide)).2.1 (by decide) (by decide) ?_
        refine s_aloadN (pc' := 55) X94.here hx (hb hby d_prog_38_m4_54) rfl rfl rfl ?_
        have f96 : Exa Z T38.heap eo "java/util/Optional" := ((EO.ext X00.2).keep Kq38)
        have f97 : Fld Z T38.heap eo "java/util/Optional" "value" "Ljava/lang/Object;" .null := ((FO.ext X00.2).keep Kq38 nin0)
        obtain ⟨fs, hr, hrun, hended, hW, hsame⟩ := X94.leave (v := (some (.ref eo))) (fun h => by rw [Bd.returns] at h; cases h)
        refine Go.fin (retOut X94 hx Bd.returns rfl (Or.inr (Or.inr (Or.inr (Or.inr ⟨rfl, rfl, rfl⟩)))) (hb hby d_prog_38_m4_55) hr) (hF _ _ hrun hended ⟨_, _, rfl, ?_, ⟨_, rfl⟩, hW, hsame.mono (by decide) (by decide)⟩)
        · show QF Z va dA dB dC tA tB tC eo kv sx bz cs h0 n0 ((some (.ref eo)) : Option Value) T94.heap _
          rw [hE94]
          exact ⟨_, _, rfl, N94, K38, f96, f97, Or.inr (Or.inr (Or.inr ⟨rfl, hs48, hs75, hs94⟩))⟩
def QN (Z : State) (va dA dB dC tA tB tC eo : Addr) (kv : ClassId) (h0 : Heap) (n0 : Nat) (v : Option Value) (h : Heap) (L : List Loc) : Prop := ∃ (y : Addr) (wv : Value), v = some (.ref y) ∧ Fr n0 L ∧ Keep h0 h [] ∧ Exa Z h y "java/util/Optional" ∧ Fld Z h y "java/util/Optional" "value" "Ljava/lang/Object;" wv ∧ wv = .null
set_option maxRecDepth 65536 in
set_option maxHeartbeats 40000000 in
theorem rmN (l : Launch) (Z : State) (a0 : Array Value) (hw : ∀ d ∈ tables_1, d.before a0 Z = true) (ws : List Jvm.Cond) (va dA dB dC tA tB tC eo : Addr) (kv : ClassId) (h0 : Heap) (n0 : Nat) (X00 : Old Z n0 h0) (EN : En Z va dA dB dC tA tB tC eo kv) :
    MetFree l (⟨"com/example/syndica/syndica/InterestBasis", "of", "(Ljava/lang/String;)Ljava/util/Optional;"⟩ : MethodName) (head1 (Jvm.Cond.code (⟨"com/example/syndica/syndica/InterestBasis", "of", "(Ljava/lang/String;)Ljava/util/Optional;"⟩ : MethodName) prog_38_method_4_code 6 (some (.object "java/util/Optional")) :: ws) ({ frames := 4, cells := 2, slots := 4, locals := 80 } : Room)) (fun aa U => aa = #[.null] ∧ Z.Warmed39 U.vm ∧ U.heap = h0) (fun _ _ _ _ _ => True) (fun _ U o U' => ∃ v L, o = .returned v ∧ QN Z va dA dB dC tA tB tC eo kv h0 n0 v U'.heap L ∧ FrameEnd U o U' L ({ frames := 4, cells := 2, slots := 4, locals := 80 } : Room).cells ({ frames := 4, cells := 2, slots := 4, locals := 80 } : Room).slots) := by
  refine MetFree.of_bodySF (plainFor_of_name pn_4) hisR ?_
  intro p e s m args below meth c s₁ Bd hml0 hP hK
  obtain ⟨rfl, hZ, hh⟩ := hP
  have hx := Bd.exec
  have hby := Bd.bytes
  have hml : c.maxLocals = 6 := hml0
  have hown : s.vm.findClass "com/example/syndica/syndica/InterestBasis" = some m.cls := findClass_of_methodNamed Bd.named
  have hnm := (name_of_methodNamed Bd.named Bd.method).1
  have X0 : Stand p l e ({ frames := 4, cells := 2, slots := 4, locals := 80 } : Room) s m #[.null] below meth c s₁ [] 0 0 := Stand.of_body Bd
  have e0 : s₁.heap = h0 := by rw [← hh, Bd.state]; rfl
  have N0 := Fr.nil n0
  have K0 := Keep.refl h0 []
  have ef : entryFrame m #[.null] 6 = mkF m 0 #[.val .null, .unset, .unset, .unset, .unset, .unset] [] := (by first | (simp [entryFrame, mkF, argsToLocals, Value.category]; done) | rfl : entryFrame m #[.null] 6 = mkF m 0 #[.val .null, .unset, .unset, .unset, .unset, .unset] [])
  rw [ef]
  refine fin_of fun Kx hF => ?_
  show Go p.tables e below Kx s₁ (mkF m 0 #[.val .null, .unset, .unset, .unset, .unset, .unset] [])
  obtain ⟨SV, AV, EV, SdA, EdA, FdA, TdA, SdB, EdB, FdB, TdB, SdC, EdC, FdC, TdC, SO, EO, FO⟩ := id EN
  obtain ⟨_, _, ⟨T98, L98, k98, n98⟩, -, X98, ⟨Lc98, hQ98, l98, y98, z98⟩, st98⟩ := Jvm.LawKit.callS X0 hx (y := (⟨"java/util/Optional", "empty", "()Ljava/util/Optional;"⟩ : MethodName)) hown (mvT hZ (hw _ (List.mem_of_getElem? (i := 38) rfl))) (mvT hZ (hw _ (List.mem_of_getElem? (i := 39) rfl))) (mvT hZ (hw _ (List.mem_of_getElem? (i := 40) rfl))) (mvT hZ (hw _ (List.mem_of_getElem? (i := 41) rfl))) (by decide) (backOf (W := 0) (rmM l Z a0 hw [] va dA dB dC tA tB tC eo kv h0 n0 X00 EN) hZ (hw _ (List.mem_of_getElem? (i := 41) rfl)) (hw _ (List.mem_of_getElem? (i := 40) rfl)) (by decide) (by decide)) (g := (mkF m 0 #[.val .null, .unset, .unset, .unset, .unset, .unset] [])) rfl (by rw [hml]; rfl) (argsL := []) (rest := []) (lenOf pd_3 rfl) rfl (by show 2 * 0 + _ ≤ _; exact Nat.le_of_eq rfl) (hb hby d_prog_38_m4_0) (fun _ _ => ⟨rfl, e0, (by decide : 0 + 0 ≤ _), (by decide : 0 + 0 ≤ _)⟩)
  dsimp only [Pt.U, Pt.locs, Pt.cells, Pt.slots] at X98 l98 y98 z98 st98 hQ98
  rw [l98, y98, z98] at X98
  obtain ⟨rfl, Nq98, hE98⟩ := hQ98
  have N98 := Fr.app N0 Nq98
  refine Go.st st98 ?_
  show Go p.tables e below Kx T98 (mkF m 3 #[.val .null, .unset, .unset, .unset, .unset, .unset] [(.ref eo)])
  refine s_astoreN (pc' := 4) (Ls' := #[.val .null, .val (.ref eo), .unset, .unset, .unset, .unset]) X98.here hx (hb hby d_prog_38_m4_3) rfl rfl rfl ?_
  obtain ⟨_, _, ⟨T99, L99, k99, n99⟩, -, X99, ⟨Lc99, hQ99, l99, y99, z99⟩, st99⟩ := Jvm.LawKit.callS X98 hx (y := (⟨"com/example/syndica/syndica/InterestBasis", "values", "()[Lcom/example/syndica/syndica/InterestBasis;"⟩ : MethodName)) hown (mvT hZ (hw _ (List.mem_of_getElem? (i := 43) rfl))) (mvT hZ (hw _ (List.mem_of_getElem? (i := 44) rfl))) (mvT hZ (hw _ (List.mem_of_getElem? (i := 36) rfl))) (mvT hZ (hw _ (List.mem_of_getElem? (i := 45) rfl))) (by decide) (backOf (W := 0) (rmV l Z a0 hw [] va dA dB dC tA tB tC eo kv h0 n0 X00 EN) hZ (hw _ (List.mem_of_getElem? (i := 45) rfl)) (hw _ (List.mem_of_getElem? (i := 36) rfl)) (by decide) (by decide)) (g := (mkF m 4 #[.val .null, .val (.ref eo), .unset, .unset, .unset, .unset] [])) rfl (by rw [hml]; rfl) (argsL := []) (rest := []) (lenOf pd_4 rfl) rfl (by show 2 * 0 + _ ≤ _; exact Nat.le_of_eq rfl) (hb hby d_prog_38_m4_4) (fun _ _ => ⟨rfl, hE98, (by decide : 0 + 1 ≤ _), (by decide : 0 + 3 ≤ _)⟩)
  dsimp only [Pt.U, Pt.locs, Pt.cells, Pt.slots] at X99 l99 y99 z99 st99 hQ99
  rw [l99, y99, z99] at X99
  obtain ⟨v99, kv99, rfl, Nq99, Kq99, q1_99⟩ := hQ99
  have N99 := Fr.app N98 Nq99
  have K99 : Keep h0 T99.heap [] := K0.trans Kq99 all0
  have O99 : Old Z n0 T99.heap := X00.keep Kq99 all0
  refine Go.st st99 ?_
  show Go p.tables e below Kx T99 (mkF m 7 #[.val .null, .val (.ref eo), .unset, .unset, .unset, .unset] [(.ref v99)])
  refine s_astoreN (pc' := 8) (Ls' := #[.val .null, .val (.ref eo), .val (.ref v99), .unset, .unset, .unset]) X99.here hx (hb hby d_prog_38_m4_7) rfl rfl rfl ?_
  refine s_aloadN (pc' := 9) X99.here hx (hb hby d_prog_38_m4_8) rfl rfl rfl ?_
  obtain ⟨cl100, Ar100, Aq100, As100, An100, Ah100, Ag100⟩ := id q1_99
  refine Go.st (X99.arraylength hx (by  exact Ar100.1) (State.isArrayOf_alike hZ.alike Ar100.2.1) (g := (mkF m 9 #[.val .null, .val (.ref eo), .val (.ref v99), .unset, .unset, .unset] [(.ref v99)])) rfl rfl (hb hby d_prog_38_m4_9)) ?_
  rw [len_of As100 An100]
  show Go p.tables e below Kx T99 (mkF m 10 #[.val .null, .val (.ref eo), .val (.ref v99), .unset, .unset, .unset] [(.int (3 : Int32))])
  refine s_istoreN (pc' := 11) (Ls' := #[.val .null, .val (.ref eo), .val (.ref v99), .val (.int (3 : Int32)), .unset, .unset]) X99.here hx (hb hby d_prog_38_m4_10) rfl  rfl ?_
  refine s_iconst (pc' := 12) (v := (0 : Int32)) X99.here hx (hb hby d_prog_38_m4_11) rfl rfl ?_
  refine s_istore (pc' := 14) (Ls' := #[.val .null, .val (.ref eo), .val (.ref v99), .val (.int (3 : Int32)), .val (.int (0 : Int32)), .unset]) X99.here hx (hb hby d_prog_38_m4_12) rfl  rfl ?_
  refine s_iload (pc' := 16) X99.here hx (hb hby d_prog_38_m4_14) rfl rfl ?_
  refine s_iloadN (pc' := 17) X99.here hx (hb hby d_prog_38_m4_16) rfl rfl ?_
  refine s_icmpN (pc' := 20) X99.here hx (hb hby d_prog_38_m4_17) rfl (tlt (by decide)).2.1 ?_
  refine s_aloadN (pc' := 21) X99.here hx (hb hby d_prog_38_m4_20) rfl rfl rfl ?_
  refine s_iload (pc' := 23) X99.here hx (hb hby d_prog_38_m4_21) rfl rfl ?_
  obtain ⟨cl101, Ar101, Aq101, As101, An101, Ah101, Ag101⟩ := id q1_99
  have in102 := inb_of (j := (0 : Int32)) As101 (by decide)
  have at102 : cl101.slots[((0 : Int32)).toNatClampNeg]? = some (.ref dA) := Ah101.at in102 rfl
  refine Go.st (X99.aaload hx (j := (0 : Int32)) (v := (.ref dA)) (by  exact Ar101.1) (State.isArrayOf_alike hZ.alike Ar101.2.1) rfl Ar101.2.2 in102 at102 (g := (mkF m 23 #[.val .null, .val (.ref eo), .val (.ref v99), .val (.int (3 : Int32)), .val (.int (0 : Int32)), .unset] [(.int (0 : Int32)), (.ref v99)])) rfl rfl (hb hby d_prog_38_m4_23)) ?_
  show Go p.tables e below Kx T99 (mkF m 24 #[.val .null, .val (.ref eo), .val (.ref v99), .val (.int (3 : Int32)), .val (.int (0 : Int32)), .unset] [(.ref dA)])
  refine s_astore (pc' := 26) (Ls' := #[.val .null, .val (.ref eo), .val (.ref v99), .val (.int (3 : Int32)), .val (.int (0 : Int32)), .val (.ref dA)]) X99.here hx (hb hby d_prog_38_m4_24) rfl rfl rfl ?_
  refine s_aload (pc' := 28) X99.here hx (hb hby d_prog_38_m4_26) rfl rfl rfl ?_
  have f103 : Fld Z T99.heap dA "com/example/syndica/syndica/InterestBasis" "value" "Ljava/lang/String;" (.ref tA) := ((FdA.ext X00.2).keep Kq99 nin0)
  obtain ⟨T104, X104, e104, st104⟩ := getF X99 hx hZ hown (host := "") (Or.inl (hw _ (List.mem_of_getElem? (i := 61) rfl))) Via.refl rfl f103 (g := (mkF m 28 #[.val .null, .val (.ref eo), .val (.ref v99), .val (.int (3 : Int32)), .val (.int (0 : Int32)), .val (.ref dA)] [(.ref dA)])) rfl rfl (hb hby d_prog_38_m4_28)
  refine Go.st st104 ?_
  show Go p.tables e below Kx T104 (mkF m 31 #[.val .null, .val (.ref eo), .val (.ref v99), .val (.int (3 : Int32)), .val (.int (0 : Int32)), .val (.ref dA)] [(.ref tA)])
  refine s_aloadN (pc' := 32) X104.here hx (hb hby d_prog_38_m4_31) rfl rfl rfl ?_
  have f105 : Str Z T99.heap Z.heap.size tA [(51 : Int32), (54 : Int32), (48 : Int32)] := ((TdA.ext X00.2).keep Kq99 all0)
  obtain ⟨cq106, kq106, q106a, q106b, q106c⟩ := isOf hZ e104 f105.2.1
  obtain ⟨_, _, ⟨T106, L106, k106, n106⟩, -, X106, ⟨Lc106, hQ106, l106, y106, z106⟩, st106⟩ := X104.virtualBack hx (y := (⟨"java/lang/String", "equals", "(Ljava/lang/Object;)Z"⟩ : MethodName)) (z := (⟨"java/lang/String", "equals", "(Ljava/lang/Object;)Z"⟩ : MethodName)) hown (mvT hZ (hw _ (List.mem_of_getElem? (i := 63) rfl))) (mvT hZ (hw _ (List.mem_of_getElem? (i := 64) rfl))) (notFace_of_selects (args := #[]) (mvT hZ (hw _ (List.mem_of_getElem? (i := 66) rfl)))) (mvT hZ (hw _ (List.mem_of_getElem? (i := 66) rfl))) (mvT hZ (hw _ (List.mem_of_getElem? (i := 65) rfl))) (by decide) (backOf (W := 0) (rmS l Z a0 hw [] tA T99.heap n0 O99 ) hZ (hw _ (List.mem_of_getElem? (i := 67) rfl)) (hw _ (List.mem_of_getElem? (i := 7) rfl)) (by decide) (by decide)) q106a q106c (g := (mkF m 32 #[.val .null, .val (.ref eo), .val (.ref v99), .val (.int (3 : Int32)), .val (.int (0 : Int32)), .val (.ref dA)] [.null, (.ref tA)])) rfl (by rw [hml]; rfl) (Steps.refl _) (argsL := [.null]) (rest := []) (lenOf pd_5 rfl) rfl (by show 2 * 0 + _ ≤ _; exact Nat.le_of_eq rfl) (hb hby d_prog_38_m4_32) (fun _ _ => ⟨rfl, e104, (by decide : 1 + 0 ≤ _), (by decide : 3 + 0 ≤ _)⟩)
  dsimp only [Pt.U, Pt.locs, Pt.cells, Pt.slots] at X106 l106 y106 z106 st106 hQ106
  rw [l106, y106, z106] at X106
  obtain ⟨rfl, Nq106, hE106⟩ := hQ106
  have N106 := Fr.app N99 Nq106
  refine Go.tr st106 ?_
  show Go p.tables e below Kx T106 (mkF m 35 #[.val .null, .val (.ref eo), .val (.ref v99), .val (.int (3 : Int32)), .val (.int (0 : Int32)), .val (.ref dA)] [(.int (0 : Int32))])
  refine s_ifY (pc' := 46) X106.here hx (hb hby d_prog_38_m4_35) ((if0 _ _).trans (teq (by decide)).1) (by decide) (by decide) ?_
  refine s_aloadN (pc' := 47) X106.here hx (hb hby d_prog_38_m4_46) rfl rfl rfl ?_
  refine s_astoreN (pc' := 48) (Ls' := #[.val .null, .val (.ref eo), .val (.ref v99), .val (.int (3 : Int32)), .val (.int (0 : Int32)), .val (.ref dA)]) X106.here hx (hb hby d_prog_38_m4_47) rfl rfl rfl ?_
  refine s_iinc (pc' := 51) (Ls' := #[.val .null, .val (.ref eo), .val (.ref v99), .val (.int (3 : Int32)), .val (.int (1 : Int32)), .val (.ref dA)]) (z := (1 : Int32)) X106.here hx (hb hby d_prog_38_m4_48) rfl rfl (by decide) rfl ?_
  refine s_goto (pc' := 14) X106.here hx (hb hby d_prog_38_m4_51) (by decide) (by decide) ?_
  refine s_iload (pc' := 16) X106.here hx (hb hby d_prog_38_m4_14) rfl rfl ?_
  refine s_iloadN (pc' := 17) X106.here hx (hb hby d_prog_38_m4_16) rfl rfl ?_
  refine s_icmpN (pc' := 20) X106.here hx (hb hby d_prog_38_m4_17) rfl (tlt (by decide)).2.1 ?_
  refine s_aloadN (pc' := 21) X106.here hx (hb hby d_prog_38_m4_20) rfl rfl rfl ?_
  refine s_iload (pc' := 23) X106.here hx (hb hby d_prog_38_m4_21) rfl rfl ?_
  obtain ⟨cl107, Ar107, Aq107, As107, An107, Ah107, Ag107⟩ := id q1_99
  have in108 := inb_of (j := (1 : Int32)) As107 (by decide)
  have at108 : cl107.slots[((1 : Int32)).toNatClampNeg]? = some (.ref dB) := Ah107.at in108 rfl
  refine Go.st (X106.aaload hx (j := (1 : Int32)) (v := (.ref dB)) (by rw [hE106]; exact Ar107.1) (State.isArrayOf_alike hZ.alike Ar107.2.1) rfl Ar107.2.2 in108 at108 (g := (mkF m 23 #[.val .null, .val (.ref eo), .val (.ref v99), .val (.int (3 : Int32)), .val (.int (1 : Int32)), .val (.ref dA)] [(.int (1 : Int32)), (.ref v99)])) rfl rfl (hb hby d_prog_38_m4_23)) ?_
  show Go p.tables e below Kx T106 (mkF m 24 #[.val .null, .val (.ref eo), .val (.ref v99), .val (.int (3 : Int32)), .val (.int (1 : Int32)), .val (.ref dA)] [(.ref dB)])
  refine s_astore (pc' := 26) (Ls' := #[.val .null, .val (.ref eo), .val (.ref v99), .val (.int (3 : Int32)), .val (.int (1 : Int32)), .val (.ref dB)]) X106.here hx (hb hby d_prog_38_m4_24) rfl rfl rfl ?_
  refine s_aload (pc' := 28) X106.here hx (hb hby d_prog_38_m4_26) rfl rfl rfl ?_
  have f109 : Fld Z T99.heap dB "com/example/syndica/syndica/InterestBasis" "value" "Ljava/lang/String;" (.ref tB) := ((FdB.ext X00.2).keep Kq99 nin0)
  obtain ⟨T110, X110, e110, st110⟩ := getF X106 hx hZ hown (host := "") (Or.inl (hw _ (List.mem_of_getElem? (i := 61) rfl))) Via.refl hE106 f109 (g := (mkF m 28 #[.val .null, .val (.ref eo), .val (.ref v99), .val (.int (3 : Int32)), .val (.int (1 : Int32)), .val (.ref dB)] [(.ref dB)])) rfl rfl (hb hby d_prog_38_m4_28)
  refine Go.st st110 ?_
  show Go p.tables e below Kx T110 (mkF m 31 #[.val .null, .val (.ref eo), .val (.ref v99), .val (.int (3 : Int32)), .val (.int (1 : Int32)), .val (.ref dB)] [(.ref tB)])
  refine s_aloadN (pc' := 32) X110.here hx (hb hby d_prog_38_m4_31) rfl rfl rfl ?_
  have f111 : Str Z T99.heap Z.heap.size tB [(51 : Int32), (54 : Int32), (53 : Int32)] := ((TdB.ext X00.2).keep Kq99 all0)
  obtain ⟨cq112, kq112, q112a, q112b, q112c⟩ := isOf hZ e110 f111.2.1
  obtain ⟨_, _, ⟨T112, L112, k112, n112⟩, -, X112, ⟨Lc112, hQ112, l112, y112, z112⟩, st112⟩ := X110.virtualBack hx (y := (⟨"java/lang/String", "equals", "(Ljava/lang/Object;)Z"⟩ : MethodName)) (z := (⟨"java/lang/String", "equals", "(Ljava/lang/Object;)Z"⟩ : MethodName)) hown (mvT hZ (hw _ (List.mem_of_getElem? (i := 63) rfl))) (mvT hZ (hw _ (List.mem_of_getElem? (i := 64) rfl))) (notFace_of_selects (args := #[]) (mvT hZ (hw _ (List.mem_of_getElem? (i := 66) rfl)))) (mvT hZ (hw _ (List.mem_of_getElem? (i := 66) rfl))) (mvT hZ (hw _ (List.mem_of_getElem? (i := 65) rfl))) (by decide) (backOf (W := 0) (rmS l Z a0 hw [] tB T99.heap n0 O99 ) hZ (hw _ (List.mem_of_getElem? (i := 67) rfl)) (hw _ (List.mem_of_getElem? (i := 7) rfl)) (by decide) (by decide)) q112a q112c (g := (mkF m 32 #[.val .null, .val (.ref eo), .val (.ref v99), .val (.int (3 : Int32)), .val (.int (1 : Int32)), .val (.ref dB)] [.null, (.ref tB)])) rfl (by rw [hml]; rfl) (Steps.refl _) (argsL := [.null]) (rest := []) (lenOf pd_5 rfl) rfl (by show 2 * 0 + _ ≤ _; exact Nat.le_of_eq rfl) (hb hby d_prog_38_m4_32) (fun _ _ => ⟨rfl, e110, (by decide : 1 + 0 ≤ _), (by decide : 3 + 0 ≤ _)⟩)
  dsimp only [Pt.U, Pt.locs, Pt.cells, Pt.slots] at X112 l112 y112 z112 st112 hQ112
  rw [l112, y112, z112] at X112
  obtain ⟨rfl, Nq112, hE112⟩ := hQ112
  have N112 := Fr.app N106 Nq112
  refine Go.tr st112 ?_
  show Go p.tables e below Kx T112 (mkF m 35 #[.val .null, .val (.ref eo), .val (.ref v99), .val (.int (3 : Int32)), .val (.int (1 : Int32)), .val (.ref dB)] [(.int (0 : Int32))])
  refine s_ifY (pc' := 46) X112.here hx (hb hby d_prog_38_m4_35) ((if0 _ _).trans (teq (by decide)).1) (by decide) (by decide) ?_
  refine s_aloadN (pc' := 47) X112.here hx (hb hby d_prog_38_m4_46) rfl rfl rfl ?_
  refine s_astoreN (pc' := 48) (Ls' := #[.val .null, .val (.ref eo), .val (.ref v99), .val (.int (3 : Int32)), .val (.int (1 : Int32)), .val (.ref dB)]) X112.here hx (hb hby d_prog_38_m4_47) rfl rfl rfl ?_
  refine s_iinc (pc' := 51) (Ls' := #[.val .null, .val (.ref eo), .val (.ref v99), .val (.int (3 : Int32)), .val (.int (2 : Int32)), .val (.ref dB)]) (z := (2 : Int32)) X112.here hx (hb hby d_prog_38_m4_48) rfl rfl (by decide) rfl ?_
  refine s_goto (pc' := 14) X112.here hx (hb hby d_prog_38_m4_51) (by decide) (by decide) ?_
  refine s_iload (pc' := 16) X112.here hx (hb hby d_prog_38_m4_14) rfl rfl ?_
  refine s_iloadN (pc' := 17) X112.here hx (hb hby d_prog_38_m4_16) rfl rfl ?_
  refine s_icmpN (pc' := 20) X112.here hx (hb hby d_prog_38_m4_17) rfl (tlt (by decide)).2.1 ?_
  refine s_aloadN (pc' := 21) X112.here hx (hb hby d_prog_38_m4_20) rfl rfl rfl ?_
  refine s_iload (pc' := 23) X112.here hx (hb hby d_prog_38_m4_21) rfl rfl ?_
  obtain ⟨cl113, Ar113, Aq113, As113, An113, Ah113, Ag113⟩ := id q1_99
  have in114 := inb_of (j := (2 : Int32)) As113 (by decide)
  have at114 : cl113.slots[((2 : Int32)).toNatClampNeg]? = some (.ref dC) := Ah113.at in114 rfl
  refine Go.st (X112.aaload hx (j := (2 : Int32)) (v := (.ref dC)) (by rw [hE112]; exact Ar113.1) (State.isArrayOf_alike hZ.alike Ar113.2.1) rfl Ar113.2.2 in114 at114 (g := (mkF m 23 #[.val .null, .val (.ref eo), .val (.ref v99), .val (.int (3 : Int32)), .val (.int (2 : Int32)), .val (.ref dB)] [(.int (2 : Int32)), (.ref v99)])) rfl rfl (hb hby d_prog_38_m4_23)) ?_
  show Go p.tables e below Kx T112 (mkF m 24 #[.val .null, .val (.ref eo), .val (.ref v99), .val (.int (3 : Int32)), .val (.int (2 : Int32)), .val (.ref dB)] [(.ref dC)])
  refine s_astore (pc' := 26) (Ls' := #[.val .null, .val (.ref eo), .val (.ref v99), .val (.int (3 : Int32)), .val (.int (2 : Int32)), .val (.ref dC)]) X112.here hx (hb hby d_prog_38_m4_24) rfl rfl rfl ?_
  refine s_aload (pc' := 28) X112.here hx (hb hby d_prog_38_m4_26) rfl rfl rfl ?_
  have f115 : Fld Z T99.heap dC "com/example/syndica/syndica/InterestBasis" "value" "Ljava/lang/String;" (.ref tC) := ((FdC.ext X00.2).keep Kq99 nin0)
  obtain ⟨T116, X116, e116, st116⟩ := getF X112 hx hZ hown (host := "") (Or.inl (hw _ (List.mem_of_getElem? (i := 61) rfl))) Via.refl hE112 f115 (g := (mkF m 28 #[.val .null, .val (.ref eo), .val (.ref v99), .val (.int (3 : Int32)), .val (.int (2 : Int32)), .val (.ref dC)] [(.ref dC)])) rfl rfl (hb hby d_prog_38_m4_28)
  refine Go.st st116 ?_
  show Go p.tables e below Kx T116 (mkF m 31 #[.val .null, .val (.ref eo), .val (.ref v99), .val (.int (3 : Int32)), .val (.int (2 : Int32)), .val (.ref dC)] [(.ref tC)])
  refine s_aloadN (pc' := 32) X116.here hx (hb hby d_prog_38_m4_31) rfl rfl rfl ?_
  have f117 : Str Z T99.heap Z.heap.size tC [(51 : Int32), (54 : Int32), (53 : Int32), (47 : Int32), (51 : Int32), (54 : Int32), (54 : Int32)] := ((TdC.ext X00.2).keep Kq99 all0)
  obtain ⟨cq118, kq118, q118a, q118b, q118c⟩ := isOf hZ e116 f117.2.1
  obtain ⟨_, _, ⟨T118, L118, k118, n118⟩, -, X118, ⟨Lc118, hQ118, l118, y118, z118⟩, st118⟩ := X116.virtualBack hx (y := (⟨"java/lang/String", "equals", "(Ljava/lang/Object;)Z"⟩ : MethodName)) (z := (⟨"java/lang/String", "equals", "(Ljava/lang/Object;)Z"⟩ : MethodName)) hown (mvT hZ (hw _ (List.mem_of_getElem? (i := 63) rfl))) (mvT hZ (hw _ (List.mem_of_getElem? (i := 64) rfl))) (notFace_of_selects (args := #[]) (mvT hZ (hw _ (List.mem_of_getElem? (i := 66) rfl)))) (mvT hZ (hw _ (List.mem_of_getElem? (i := 66) rfl))) (mvT hZ (hw _ (List.mem_of_getElem? (i := 65) rfl))) (by decide) (backOf (W := 0) (rmS l Z a0 hw [] tC T99.heap n0 O99 ) hZ (hw _ (List.mem_of_getElem? (i := 67) rfl)) (hw _ (List.mem_of_getElem? (i := 7) rfl)) (by decide) (by decide)) q118a q118c (g := (mkF m 32 #[.val .null, .val (.ref eo), .val (.ref v99), .val (.int (3 : Int32)), .val (.int (2 : Int32)), .val (.ref dC)] [.null, (.ref tC)])) rfl (by rw [hml]; rfl) (Steps.refl _) (argsL := [.null]) (rest := []) (lenOf pd_5 rfl) rfl (by show 2 * 0 + _ ≤ _; exact Nat.le_of_eq rfl) (hb hby d_prog_38_m4_32) (fun _ _ => ⟨rfl, e116, (by decide : 1 + 0 ≤ _), (by decide : 3 + 0 ≤ _)⟩)
  dsimp only [Pt.U, Pt.locs, Pt.cells, Pt.slots] at X118 l118 y118 z118 st118 hQ118
  rw [l118, y118, z118] at X118
  obtain ⟨rfl, Nq118, hE118⟩ := hQ118
  have N118 := Fr.app N112 Nq118
  refine Go.tr st118 ?_
  show Go p.tables e below Kx T118 (mkF m 35 #[.val .null, .val (.ref eo), .val (.ref v99), .val (.int (3 : Int32)), .val (.int (2 : Int32)), .val (.ref dC)] [(.int (0 : Int32))])
  refine s_ifY (pc' := 46) X118.here hx (hb hby d_prog_38_m4_35) ((if0 _ _).trans (teq (by decide)).1) (by decide) (by decide) ?_
  refine s_aloadN (pc' := 47) X118.here hx (hb hby d_prog_38_m4_46) rfl rfl rfl ?_
  refine s_astoreN (pc' := 48) (Ls' := #[.val .null, .val (.ref eo), .val (.ref v99), .val (.int (3 : Int32)), .val (.int (2 : Int32)), .val (.ref dC)]) X118.here hx (hb hby d_prog_38_m4_47) rfl rfl rfl ?_
  refine s_iinc (pc' := 51) (Ls' := #[.val .null, .val (.ref eo), .val (.ref v99), .val (.int (3 : Int32)), .val (.int (3 : Int32)), .val (.ref dC)]) (z := (3 : Int32)) X118.here hx (hb hby d_prog_38_m4_48) rfl rfl (by decide) rfl ?_
  refine s_goto (pc' := 14) X118.here hx (hb hby d_prog_38_m4_51) (by decide) (by decide) ?_
  refine s_iload (pc' := 16) X118.here hx (hb hby d_prog_38_m4_14) rfl rfl ?_
  refine s_iloadN (pc' := 17) X118.here hx (hb hby d_prog_38_m4_16) rfl rfl ?_
  refine s_icmpY (pc' := 54) X118.here hx (hb hby d_prog_38_m4_17) (flt (by decide)).2.1 (by decide) (by decide) ?_
  refine s_aloadN (pc' := 55) X118.here hx (hb hby d_prog_38_m4_54) rfl rfl rfl ?_
  have f119 : Exa Z T99.heap eo "java/util/Optional" := ((EO.ext X00.2).keep Kq99)
  have f120 : Fld Z T99.heap eo "java/util/Optional" "value" "Ljava/lang/Object;" .null := ((FO.ext X00.2).keep Kq99 nin0)
  obtain ⟨fs, hr, hrun, hended, hW, hsame⟩ := X118.leave (v := (some (.ref eo))) (fun h => by rw [Bd.returns] at h; cases h)
  refine Go.fin (retOut X118 hx Bd.returns rfl (Or.inr (Or.inr (Or.inr (Or.inr ⟨rfl, rfl, rfl⟩)))) (hb hby d_prog_38_m4_55) hr) (hF _ _ hrun hended ⟨_, _, rfl, ?_, ⟨_, rfl⟩, hW, hsame.mono (by decide) (by decide)⟩)
  · show QN Z va dA dB dC tA tB tC eo kv h0 n0 ((some (.ref eo)) : Option Value) T118.heap _
    rw [hE118]
    exact ⟨_, _, rfl, N118, K99, f119, f120, rfl⟩
theorem pd_7 : parseMethodDescriptor "(IIJC)C" = some ⟨[.int, .int, .long, .char], some .char⟩ := by decide +kernel
theorem pd_8 : parseMethodDescriptor "([C)V" = some ⟨[(.array .char)], none⟩ := by decide +kernel
theorem pd_9 : parseMethodDescriptor "(Ljava/lang/String;)Ljava/util/Optional;" = some ⟨[(.object "java/lang/String")], some (.object "java/util/Optional")⟩ := by decide +kernel
theorem pd_10 : parseMethodDescriptor "()Z" = some ⟨[], some .boolean⟩ := by decide +kernel
theorem pd_11 : parseMethodDescriptor "()Ljava/lang/Object;" = some ⟨[], some (.object "java/lang/Object")⟩ := by decide +kernel
def QL (Z : State) (p0 p1 : Int32) (p2 : Int64) (va dA dB dC tA tB tC eo : Addr) (kv : ClassId) (h0 : Heap) (n0 : Nat) (v : Option Value) (h : Heap) (L : List Loc) : Prop := v = some (.int 1) ∧ Fr n0 L
set_option maxRecDepth 65536 in
set_option maxHeartbeats 40000000 in
theorem rmL (l : Launch) (Z : State) (a0 : Array Value) (hw : ∀ d ∈ tables_1, d.before a0 Z = true) (ws : List Jvm.Cond) (p0 p1 : Int32) (p2 : Int64) (va dA dB dC tA tB tC eo : Addr) (kv : ClassId) (h0 : Heap) (n0 : Nat) (X00 : Old Z n0 h0) (hEL : EW Z a0 consts_1) (wS : ∀ a ∈ Bundle.stringAtoms, a.before a0 Z = true) (EN : En Z va dA dB dC tA tB tC eo kv) (G1 : Int32) (S1 : Sta Z Z.heap "java/lang/String" "COMPACT_STRINGS" "Z" (.int G1)) (P1 : ¬ G1 = 0) :
    MetFree l x (head1 (Jvm.Cond.code x code maxLocals ret :: ws) room_1) (fun aa U => aa = #[(.int p0), (.int p1), (.long p2)] ∧ Z.Warmed39 U.vm ∧ U.heap = h0 ∧ CHv Z consts_1 U.vm h0) (fun _ _ _ _ _ => True) (fun _ U o U' => ∃ v L, o = .returned v ∧ QL Z p0 p1 p2 va dA dB dC tA tB tC eo kv h0 n0 v U'.heap L ∧ CHr Z consts_1 U.vm U.heap U'.vm U'.heap ∧ ReturnedEndW U o U' L room_1.cells room_1.slots) := by
  refine MetFree.of_bodySF (plainFor_of_name pn_1) hisR ?_
  intro p e s m args below meth c s₁ Bd hml0 hP hK
  obtain ⟨rfl, hZ, hh, H0⟩ := hP
  have hx := Bd.exec
  have hby := Bd.bytes
  have hml : c.maxLocals = 13 := hml0
  have hown : s.vm.findClass "com/example/syndica/syndica/InterestBasisOfPinLaw" = some m.cls := findClass_of_methodNamed Bd.named
  have hnm := (name_of_methodNamed Bd.named Bd.method).1
  have X0 : Stand p l e room_1 (s.setVm s.vm) m #[(.int p0), (.int p1), (.long p2)] below meth c s₁ [] 0 0 := Stand.of_body Bd
  have e0 : s₁.heap = h0 := by rw [← hh, Bd.state]; rfl
  have N0 := Fr.nil n0
  have K0 := Keep.refl h0 []
  have hS0 : s.Since s.vm h0.size := (State.WarmedH.refl s).since _
  have hk0 := Nat.le_refl h0.size
  have C0 : CHr Z consts_1 s.vm h0 s.vm h0 := CHr.refl H0
  have ef : entryFrame m #[(.int p0), (.int p1), (.long p2)] maxLocals = mkF m 0 #[.val (.int p0), .val (.int p1), .val (.long p2), .second, .unset, .unset, .unset, .unset, .unset, .unset, .unset, .unset, .unset] [] := (by first | (simp [entryFrame, mkF, argsToLocals, Value.category, maxLocals]; done) | rfl : entryFrame m #[(.int p0), (.int p1), (.long p2)] maxLocals = mkF m 0 #[.val (.int p0), .val (.int p1), .val (.long p2), .second, .unset, .unset, .unset, .unset, .unset, .unset, .unset, .unset, .unset] [])
  rw [ef]
  refine fin_of fun Kx hF => ?_
  show Go p.tables e below Kx s₁ (mkF m 0 #[.val (.int p0), .val (.int p1), .val (.long p2), .second, .unset, .unset, .unset, .unset, .unset, .unset, .unset, .unset, .unset] [])
  obtain ⟨SV, AV, EV, SdA, EdA, FdA, TdA, SdB, EdB, FdB, TdB, SdC, EdC, FdC, TdC, SO, EO, FO⟩ := id EN
  refine s_iloadN (pc' := 1) X0.here hx (hb hby at_0) rfl rfl ?_
  refine s_iconst (pc' := 2) (v := (3 : Int32)) X0.here hx (hb hby at_1) rfl rfl ?_
  refine s_iushr (pc' := 3) X0.here hx (hb hby at_2) rfl rfl ?_
  refine s_iconst (pc' := 4) (v := (1 : Int32)) X0.here hx (hb hby at_3) rfl rfl ?_
  refine s_iand (pc' := 5) X0.here hx (hb hby at_4) rfl rfl ?_
  suffices J122 : Go p.tables e below Kx s₁ (mkF m 15 #[.val (.int p0), .val (.int p1), .val (.long p2), .second, .unset, .unset, .unset, .unset, .unset, .unset, .unset, .unset, .unset] [(.int (if (((p0.toUInt32 >>> ((3 : Int32) &&& 31).toUInt32).toInt32) &&& (1 : Int32)) = (0 : Int32) then (48 : Int32) else (53 : Int32)))]) by
    by_cases hc121 : (((p0.toUInt32 >>> ((3 : Int32) &&& 31).toUInt32).toInt32) &&& (1 : Int32)) = (0 : Int32)
    · skip
      simp only [if_pos hc121] at J122
      refine s_ifY (pc' := 13) X0.here hx (hb hby at_5) ((if0 _ _).trans (teq hc121).1) (by decide) (by decide) ?_
      refine s_bipush (pc' := 15) (v := (48 : Int32)) X0.here hx (hb hby at_13) rfl rfl ?_
      exact J122
    · skip
      simp only [if_neg hc121] at J122
      refine s_ifN (pc' := 8) X0.here hx (hb hby at_5) rfl ((if0 _ _).trans (feq hc121).1) ?_
      refine s_bipush (pc' := 10) (v := (53 : Int32)) X0.here hx (hb hby at_8) rfl rfl ?_
      refine s_goto (pc' := 15) X0.here hx (hb hby at_10) (by decide) (by decide) ?_
      exact J122
  have hzc : ¬ (if (((p0.toUInt32 >>> ((3 : Int32) &&& 31).toUInt32).toInt32) &&& (1 : Int32)) = (0 : Int32) then (48 : Int32) else (53 : Int32)) < 0 ∧ ¬ (255 : Int32) < (if (((p0.toUInt32 >>> ((3 : Int32) &&& 31).toUInt32).toInt32) &&& (1 : Int32)) = (0 : Int32) then (48 : Int32) else (53 : Int32)) := chr_ite
  revert hzc
  generalize (if (((p0.toUInt32 >>> ((3 : Int32) &&& 31).toUInt32).toInt32) &&& (1 : Int32)) = (0 : Int32) then (48 : Int32) else (53 : Int32)) = zc
  intro hzc
  show Go p.tables e below Kx s₁ (mkF m 15 #[.val (.int p0), .val (.int p1), .val (.long p2), .second, .unset, .unset, .unset, .unset, .unset, .unset, .unset, .unset, .unset] [(.int zc)])
  refine s_istore (pc' := 17) (Ls' := #[.val (.int p0), .val (.int p1), .val (.long p2), .second, .val (.int zc), .unset, .unset, .unset, .unset, .unset, .unset, .unset, .unset]) X0.here hx (hb hby at_15) rfl  rfl ?_
  refine s_iloadN (pc' := 18) X0.here hx (hb hby at_17) rfl rfl ?_
  refine s_iconst (pc' := 19) (v := (4 : Int32)) X0.here hx (hb hby at_18) rfl rfl ?_
  refine s_iushr (pc' := 20) X0.here hx (hb hby at_19) rfl rfl ?_
  refine s_iconst (pc' := 21) (v := (1 : Int32)) X0.here hx (hb hby at_20) rfl rfl ?_
  refine s_iand (pc' := 22) X0.here hx (hb hby at_21) rfl rfl ?_
  suffices J124 : Go p.tables e below Kx s₁ (mkF m 34 #[.val (.int p0), .val (.int p1), .val (.long p2), .second, .val (.int zc), .unset, .unset, .unset, .unset, .unset, .unset, .unset, .unset] [(.int (if (((p0.toUInt32 >>> ((4 : Int32) &&& 31).toUInt32).toInt32) &&& (1 : Int32)) = (0 : Int32) then (0 : Int32) else (p1 &&& (255 : Int32))))]) by
    by_cases hc123 : (((p0.toUInt32 >>> ((4 : Int32) &&& 31).toUInt32).toInt32) &&& (1 : Int32)) = (0 : Int32)
    · skip
      simp only [if_pos hc123] at J124
      refine s_ifY (pc' := 33) X0.here hx (hb hby at_22) ((if0 _ _).trans (teq hc123).1) (by decide) (by decide) ?_
      refine s_iconst (pc' := 34) (v := (0 : Int32)) X0.here hx (hb hby at_33) rfl rfl ?_
      exact J124
    · skip
      simp only [if_neg hc123] at J124
      refine s_ifN (pc' := 25) X0.here hx (hb hby at_22) rfl ((if0 _ _).trans (feq hc123).1) ?_
      refine s_iloadN (pc' := 26) X0.here hx (hb hby at_25) rfl rfl ?_
      refine s_sipush (pc' := 29) (v := (255 : Int32)) X0.here hx (hb hby at_26) rfl rfl ?_
      refine s_iand (pc' := 30) X0.here hx (hb hby at_29) rfl rfl ?_
      refine s_goto (pc' := 34) X0.here hx (hb hby at_30) (by decide) (by decide) ?_
      exact J124
  generalize (if (((p0.toUInt32 >>> ((4 : Int32) &&& 31).toUInt32).toInt32) &&& (1 : Int32)) = (0 : Int32) then (0 : Int32) else (p1 &&& (255 : Int32))) = mk
  show Go p.tables e below Kx s₁ (mkF m 34 #[.val (.int p0), .val (.int p1), .val (.long p2), .second, .val (.int zc), .unset, .unset, .unset, .unset, .unset, .unset, .unset, .unset] [(.int mk)])
  refine s_istore (pc' := 36) (Ls' := #[.val (.int p0), .val (.int p1), .val (.long p2), .second, .val (.int zc), .val (.int mk), .unset, .unset, .unset, .unset, .unset, .unset, .unset]) X0.here hx (hb hby at_34) rfl  rfl ?_
  refine s_bipush (pc' := 38) (v := (8 : Int32)) X0.here hx (hb hby at_36) rfl rfl ?_
  obtain ⟨T125, h125, k125, X125, e125, E125, A125, st125⟩ := newP X0 hx hZ (hw _ (List.mem_of_getElem? (i := 0) rfl)) e0 (g := (mkF m 38 #[.val (.int p0), .val (.int p1), .val (.long p2), .second, .val (.int zc), .val (.int mk), .unset, .unset, .unset, .unset, .unset, .unset, .unset] [(.int (8 : Int32))])) rfl (hb hby at_38) rfl (by decide) (cap := 8) (by decide) (by decide) (by decide) (by decide)
  obtain ⟨b125, g125⟩ : ∃ z, z = h0.size := ⟨_, rfl⟩
  rw [← g125] at A125 st125
  have sz125 : h0.size ≤ b125 := Nat.le_trans K0.1 (Nat.le_of_eq g125.symm)
  have ge125 : n0 ≤ b125 := Nat.le_trans (X00.1 ▸ X00.2.1) (Nat.le_of_eq g125.symm)
  have sn125 : Safe Z consts_1 s.vm h0 b125 := Safe.new (Nat.le_of_eq g125.symm)
  have K125 : Keep h0 h125 [] := K0.ext E125
  have O125 : Old Z n0 h125 := X00.ext E125
  have sf126 : Safe Z consts_1 s.vm h125 b125 := (Safe.ext E125 H0 sn125)
  have H125 : CHv Z consts_1 s.vm h125 := H0.ext E125
  have C125 : CHr Z consts_1 s.vm h0 s.vm h125 := C0.trans (CHr.ext E125 H0)
  have hk125 := Nat.le_trans hk0 E125.1
  have V125 : Arv Z h125 b125 k125 .char (8 : Int32) [(.int (0 : Int32)), (.int (0 : Int32)), (.int (0 : Int32)), (.int (0 : Int32)), (.int (0 : Int32)), (.int (0 : Int32)), (.int (0 : Int32)), (.int (0 : Int32))] (.int (0 : Int32)) := (Arv.new A125 (by decide)).pad (pad_rep [] (.int (0 : Int32)) 8)
  refine Go.st st125 ?_
  show Go p.tables e below Kx T125 (mkF m 40 #[.val (.int p0), .val (.int p1), .val (.long p2), .second, .val (.int zc), .val (.int mk), .unset, .unset, .unset, .unset, .unset, .unset, .unset] [(.ref b125)])
  refine s_astore (pc' := 42) (Ls' := #[.val (.int p0), .val (.int p1), .val (.long p2), .second, .val (.int zc), .val (.int mk), .val (.ref b125), .unset, .unset, .unset, .unset, .unset, .unset]) X125.here hx (hb hby at_40) rfl rfl rfl ?_
  refine s_aload (pc' := 44) X125.here hx (hb hby at_42) rfl rfl rfl ?_
  refine s_iconst (pc' := 45) (v := (0 : Int32)) X125.here hx (hb hby at_44) rfl rfl ?_
  refine s_iconst (pc' := 46) (v := (0 : Int32)) X125.here hx (hb hby at_45) rfl rfl ?_
  refine s_iload (pc' := 48) X125.here hx (hb hby at_46) rfl rfl ?_
  refine s_lloadN (pc' := 49) X125.here hx (hb hby at_48) rfl rfl ?_
  refine s_bipush (pc' := 51) (v := (51 : Int32)) X125.here hx (hb hby at_49) rfl rfl ?_
  obtain ⟨_, _, ⟨T127, L127, k127, n127⟩, -, X127, ⟨Lc127, hQ127, l127, y127, z127⟩, st127⟩ := Jvm.LawKit.callS X125 hx (y := (⟨"com/example/syndica/syndica/InterestBasisOfPinLaw", "ch", "(IIJC)C"⟩ : MethodName)) hown (mvT hZ (hw _ (List.mem_of_getElem? (i := 1) rfl))) (mvT hZ (hw _ (List.mem_of_getElem? (i := 2) rfl))) (mvT hZ (hw _ (List.mem_of_getElem? (i := 3) rfl))) (mvT hZ (hw _ (List.mem_of_getElem? (i := 4) rfl))) (by decide) (backOf (W := 2) (rmC l Z a0 hw [] (0 : Int32) mk p2 (51 : Int32) h125 n0 O125 (by decide)) hZ (hw _ (List.mem_of_getElem? (i := 4) rfl)) (hw _ (List.mem_of_getElem? (i := 3) rfl)) (by decide) (by decide)) (g := (mkF m 51 #[.val (.int p0), .val (.int p1), .val (.long p2), .second, .val (.int zc), .val (.int mk), .val (.ref b125), .unset, .unset, .unset, .unset, .unset, .unset] [(.int (51 : Int32)), (.long p2), (.int mk), (.int (0 : Int32)), (.int (0 : Int32)), (.ref b125)])) rfl (by rw [hml]; rfl) (argsL := [(.int (0 : Int32)), (.int mk), (.long p2), (.int (51 : Int32))]) (rest := [(.int (0 : Int32)), (.ref b125)]) (lenOf pd_7 rfl) rfl (by show 2 * 0 + _ ≤ _; exact Nat.le_of_eq rfl) (hb hby at_51) (fun _ _ => ⟨rfl, e125, (by decide : 1 + 0 ≤ _), (by decide : 8 + 0 ≤ _)⟩)
  dsimp only [Pt.U, Pt.locs, Pt.cells, Pt.slots] at X127 l127 y127 z127 st127 hQ127
  rw [l127, y127, z127] at X127
  obtain ⟨⟨r127, rfl, hr127⟩, Nq127, hE127⟩ := hQ127
  have N127 := Fr.app N0 Nq127
  refine Go.st st127 ?_
  show Go p.tables e below Kx T127 (mkF m 54 #[.val (.int p0), .val (.int p1), .val (.long p2), .second, .val (.int zc), .val (.int mk), .val (.ref b125), .unset, .unset, .unset, .unset, .unset, .unset] [(.int r127), (.int (0 : Int32)), (.ref b125)])
  obtain ⟨cl128, Ar128, Aq128, As128, An128, Ah128, Ag128⟩ := id V125
  have in129 := inb_of (j := (0 : Int32)) As128 (by decide)
  obtain ⟨T129, h129, X129, e129, W129, st129⟩ := stC X127 hx hZ hE127 Ar128 (j := (0 : Int32)) in129 (g := (mkF m 54 #[.val (.int p0), .val (.int p1), .val (.long p2), .second, .val (.int zc), .val (.int mk), .val (.ref b125), .unset, .unset, .unset, .unset, .unset, .unset] [(.int r127), (.int (0 : Int32)), (.ref b125)])) rfl rfl (hb hby at_54)
  have V129 : Arv Z h129 b125 k125 .char (8 : Int32) [(.int r127), (.int (0 : Int32)), (.int (0 : Int32)), (.int (0 : Int32)), (.int (0 : Int32)), (.int (0 : Int32)), (.int (0 : Int32)), (.int (0 : Int32))] (.int (0 : Int32)) := by
    have q := Arv.set Ar128 Aq128 As128 An128 Ah128 Ag128 (fits_nar_char _) W129 0 rfl (Nat.le_of_ble_eq_true rfl)
    rw [chr_nar hr127] at q; exact q
  have K129 : Keep h0 h129 [] := K125.wr W129 (Or.inr sz125)
  have O129 : Old Z n0 h129 := O125.wr W129 ge125
  have sf130 : Safe Z consts_1 s.vm h129 b125 := (Safe.wr W129 sf126 H125 sf126)
  have H129 : CHv Z consts_1 s.vm h129 := H125.wr W129 sf126
  have C129 : CHr Z consts_1 s.vm h0 s.vm h129 := C125.trans (CHr.wr W129 sf126 H125)
  have hk129 := Nat.le_trans hk125 (Nat.le_of_eq W129.size.symm)
  have N129 := Fr.snoc X129 N127 ge125
  refine Go.st st129 ?_
  show Go p.tables e below Kx T129 (mkF m 55 #[.val (.int p0), .val (.int p1), .val (.long p2), .second, .val (.int zc), .val (.int mk), .val (.ref b125), .unset, .unset, .unset, .unset, .unset, .unset] [])
  refine s_aload (pc' := 57) X129.here hx (hb hby at_55) rfl rfl rfl ?_
  refine s_iconst (pc' := 58) (v := (1 : Int32)) X129.here hx (hb hby at_57) rfl rfl ?_
  refine s_iconst (pc' := 59) (v := (1 : Int32)) X129.here hx (hb hby at_58) rfl rfl ?_
  refine s_iload (pc' := 61) X129.here hx (hb hby at_59) rfl rfl ?_
  refine s_lloadN (pc' := 62) X129.here hx (hb hby at_61) rfl rfl ?_
  refine s_bipush (pc' := 64) (v := (54 : Int32)) X129.here hx (hb hby at_62) rfl rfl ?_
  obtain ⟨_, _, ⟨T131, L131, k131, n131⟩, -, X131, ⟨Lc131, hQ131, l131, y131, z131⟩, st131⟩ := Jvm.LawKit.callS X129 hx (y := (⟨"com/example/syndica/syndica/InterestBasisOfPinLaw", "ch", "(IIJC)C"⟩ : MethodName)) hown (mvT hZ (hw _ (List.mem_of_getElem? (i := 1) rfl))) (mvT hZ (hw _ (List.mem_of_getElem? (i := 2) rfl))) (mvT hZ (hw _ (List.mem_of_getElem? (i := 3) rfl))) (mvT hZ (hw _ (List.mem_of_getElem? (i := 4) rfl))) (by decide) (backOf (W := 2) (rmC l Z a0 hw [] (1 : Int32) mk p2 (54 : Int32) h129 n0 O129 (by decide)) hZ (hw _ (List.mem_of_getElem? (i := 4) rfl)) (hw _ (List.mem_of_getElem? (i := 3) rfl)) (by decide) (by decide)) (g := (mkF m 64 #[.val (.int p0), .val (.int p1), .val (.long p2), .second, .val (.int zc), .val (.int mk), .val (.ref b125), .unset, .unset, .unset, .unset, .unset, .unset] [(.int (54 : Int32)), (.long p2), (.int mk), (.int (1 : Int32)), (.int (1 : Int32)), (.ref b125)])) rfl (by rw [hml]; rfl) (argsL := [(.int (1 : Int32)), (.int mk), (.long p2), (.int (54 : Int32))]) (rest := [(.int (1 : Int32)), (.ref b125)]) (lenOf pd_7 rfl) rfl (by show 2 * 0 + _ ≤ _; exact Nat.le_of_eq rfl) (hb hby at_64) (fun _ _ => ⟨rfl, e129, (by decide : 1 + 0 ≤ _), (by decide : 8 + 0 ≤ _)⟩)
  dsimp only [Pt.U, Pt.locs, Pt.cells, Pt.slots] at X131 l131 y131 z131 st131 hQ131
  rw [l131, y131, z131] at X131
  obtain ⟨⟨r131, rfl, hr131⟩, Nq131, hE131⟩ := hQ131
  have N131 := Fr.app N129 Nq131
  refine Go.st st131 ?_
  show Go p.tables e below Kx T131 (mkF m 67 #[.val (.int p0), .val (.int p1), .val (.long p2), .second, .val (.int zc), .val (.int mk), .val (.ref b125), .unset, .unset, .unset, .unset, .unset, .unset] [(.int r131), (.int (1 : Int32)), (.ref b125)])
  obtain ⟨cl132, Ar132, Aq132, As132, An132, Ah132, Ag132⟩ := id V129
  have in133 := inb_of (j := (1 : Int32)) As132 (by decide)
  obtain ⟨T133, h133, X133, e133, W133, st133⟩ := stC X131 hx hZ hE131 Ar132 (j := (1 : Int32)) in133 (g := (mkF m 67 #[.val (.int p0), .val (.int p1), .val (.long p2), .second, .val (.int zc), .val (.int mk), .val (.ref b125), .unset, .unset, .unset, .unset, .unset, .unset] [(.int r131), (.int (1 : Int32)), (.ref b125)])) rfl rfl (hb hby at_67)
  have V133 : Arv Z h133 b125 k125 .char (8 : Int32) [(.int r127), (.int r131), (.int (0 : Int32)), (.int (0 : Int32)), (.int (0 : Int32)), (.int (0 : Int32)), (.int (0 : Int32)), (.int (0 : Int32))] (.int (0 : Int32)) := by
    have q := Arv.set Ar132 Aq132 As132 An132 Ah132 Ag132 (fits_nar_char _) W133 1 rfl (Nat.le_of_ble_eq_true rfl)
    rw [chr_nar hr131] at q; exact q
  have K133 : Keep h0 h133 [] := K129.wr W133 (Or.inr sz125)
  have O133 : Old Z n0 h133 := O129.wr W133 ge125
  have sf134 : Safe Z consts_1 s.vm h133 b125 := (Safe.wr W133 sf130 H129 sf130)
  have H133 : CHv Z consts_1 s.vm h133 := H129.wr W133 sf130
  have C133 : CHr Z consts_1 s.vm h0 s.vm h133 := C129.trans (CHr.wr W133 sf130 H129)
  have hk133 := Nat.le_trans hk129 (Nat.le_of_eq W133.size.symm)
  have N133 := Fr.snoc X133 N131 ge125
  refine Go.st st133 ?_
  show Go p.tables e below Kx T133 (mkF m 68 #[.val (.int p0), .val (.int p1), .val (.long p2), .second, .val (.int zc), .val (.int mk), .val (.ref b125), .unset, .unset, .unset, .unset, .unset, .unset] [])
  refine s_aload (pc' := 70) X133.here hx (hb hby at_68) rfl rfl rfl ?_
  refine s_iconst (pc' := 71) (v := (2 : Int32)) X133.here hx (hb hby at_70) rfl rfl ?_
  refine s_iconst (pc' := 72) (v := (2 : Int32)) X133.here hx (hb hby at_71) rfl rfl ?_
  refine s_iload (pc' := 74) X133.here hx (hb hby at_72) rfl rfl ?_
  refine s_lloadN (pc' := 75) X133.here hx (hb hby at_74) rfl rfl ?_
  refine s_iload (pc' := 77) X133.here hx (hb hby at_75) rfl rfl ?_
  obtain ⟨_, _, ⟨T135, L135, k135, n135⟩, -, X135, ⟨Lc135, hQ135, l135, y135, z135⟩, st135⟩ := Jvm.LawKit.callS X133 hx (y := (⟨"com/example/syndica/syndica/InterestBasisOfPinLaw", "ch", "(IIJC)C"⟩ : MethodName)) hown (mvT hZ (hw _ (List.mem_of_getElem? (i := 1) rfl))) (mvT hZ (hw _ (List.mem_of_getElem? (i := 2) rfl))) (mvT hZ (hw _ (List.mem_of_getElem? (i := 3) rfl))) (mvT hZ (hw _ (List.mem_of_getElem? (i := 4) rfl))) (by decide) (backOf (W := 2) (rmC l Z a0 hw [] (2 : Int32) mk p2 zc h133 n0 O133 hzc) hZ (hw _ (List.mem_of_getElem? (i := 4) rfl)) (hw _ (List.mem_of_getElem? (i := 3) rfl)) (by decide) (by decide)) (g := (mkF m 77 #[.val (.int p0), .val (.int p1), .val (.long p2), .second, .val (.int zc), .val (.int mk), .val (.ref b125), .unset, .unset, .unset, .unset, .unset, .unset] [(.int zc), (.long p2), (.int mk), (.int (2 : Int32)), (.int (2 : Int32)), (.ref b125)])) rfl (by rw [hml]; rfl) (argsL := [(.int (2 : Int32)), (.int mk), (.long p2), (.int zc)]) (rest := [(.int (2 : Int32)), (.ref b125)]) (lenOf pd_7 rfl) rfl (by show 2 * 0 + _ ≤ _; exact Nat.le_of_eq rfl) (hb hby at_77) (fun _ _ => ⟨rfl, e133, (by decide : 1 + 0 ≤ _), (by decide : 8 + 0 ≤ _)⟩)
  dsimp only [Pt.U, Pt.locs, Pt.cells, Pt.slots] at X135 l135 y135 z135 st135 hQ135
  rw [l135, y135, z135] at X135
  obtain ⟨⟨r135, rfl, hr135⟩, Nq135, hE135⟩ := hQ135
  have N135 := Fr.app N133 Nq135
  refine Go.st st135 ?_
  show Go p.tables e below Kx T135 (mkF m 80 #[.val (.int p0), .val (.int p1), .val (.long p2), .second, .val (.int zc), .val (.int mk), .val (.ref b125), .unset, .unset, .unset, .unset, .unset, .unset] [(.int r135), (.int (2 : Int32)), (.ref b125)])
  obtain ⟨cl136, Ar136, Aq136, As136, An136, Ah136, Ag136⟩ := id V133
  have in137 := inb_of (j := (2 : Int32)) As136 (by decide)
  obtain ⟨T137, h137, X137, e137, W137, st137⟩ := stC X135 hx hZ hE135 Ar136 (j := (2 : Int32)) in137 (g := (mkF m 80 #[.val (.int p0), .val (.int p1), .val (.long p2), .second, .val (.int zc), .val (.int mk), .val (.ref b125), .unset, .unset, .unset, .unset, .unset, .unset] [(.int r135), (.int (2 : Int32)), (.ref b125)])) rfl rfl (hb hby at_80)
  have V137 : Arv Z h137 b125 k125 .char (8 : Int32) [(.int r127), (.int r131), (.int r135), (.int (0 : Int32)), (.int (0 : Int32)), (.int (0 : Int32)), (.int (0 : Int32)), (.int (0 : Int32))] (.int (0 : Int32)) := by
    have q := Arv.set Ar136 Aq136 As136 An136 Ah136 Ag136 (fits_nar_char _) W137 2 rfl (Nat.le_of_ble_eq_true rfl)
    rw [chr_nar hr135] at q; exact q
  have K137 : Keep h0 h137 [] := K133.wr W137 (Or.inr sz125)
  have O137 : Old Z n0 h137 := O133.wr W137 ge125
  have sf138 : Safe Z consts_1 s.vm h137 b125 := (Safe.wr W137 sf134 H133 sf134)
  have H137 : CHv Z consts_1 s.vm h137 := H133.wr W137 sf134
  have C137 : CHr Z consts_1 s.vm h0 s.vm h137 := C133.trans (CHr.wr W137 sf134 H133)
  have hk137 := Nat.le_trans hk133 (Nat.le_of_eq W137.size.symm)
  have N137 := Fr.snoc X137 N135 ge125
  refine Go.st st137 ?_
  show Go p.tables e below Kx T137 (mkF m 81 #[.val (.int p0), .val (.int p1), .val (.long p2), .second, .val (.int zc), .val (.int mk), .val (.ref b125), .unset, .unset, .unset, .unset, .unset, .unset] [])
  refine s_aload (pc' := 83) X137.here hx (hb hby at_81) rfl rfl rfl ?_
  refine s_iconst (pc' := 84) (v := (3 : Int32)) X137.here hx (hb hby at_83) rfl rfl ?_
  refine s_iconst (pc' := 85) (v := (3 : Int32)) X137.here hx (hb hby at_84) rfl rfl ?_
  refine s_iload (pc' := 87) X137.here hx (hb hby at_85) rfl rfl ?_
  refine s_lloadN (pc' := 88) X137.here hx (hb hby at_87) rfl rfl ?_
  refine s_bipush (pc' := 90) (v := (47 : Int32)) X137.here hx (hb hby at_88) rfl rfl ?_
  obtain ⟨_, _, ⟨T139, L139, k139, n139⟩, -, X139, ⟨Lc139, hQ139, l139, y139, z139⟩, st139⟩ := Jvm.LawKit.callS X137 hx (y := (⟨"com/example/syndica/syndica/InterestBasisOfPinLaw", "ch", "(IIJC)C"⟩ : MethodName)) hown (mvT hZ (hw _ (List.mem_of_getElem? (i := 1) rfl))) (mvT hZ (hw _ (List.mem_of_getElem? (i := 2) rfl))) (mvT hZ (hw _ (List.mem_of_getElem? (i := 3) rfl))) (mvT hZ (hw _ (List.mem_of_getElem? (i := 4) rfl))) (by decide) (backOf (W := 2) (rmC l Z a0 hw [] (3 : Int32) mk p2 (47 : Int32) h137 n0 O137 (by decide)) hZ (hw _ (List.mem_of_getElem? (i := 4) rfl)) (hw _ (List.mem_of_getElem? (i := 3) rfl)) (by decide) (by decide)) (g := (mkF m 90 #[.val (.int p0), .val (.int p1), .val (.long p2), .second, .val (.int zc), .val (.int mk), .val (.ref b125), .unset, .unset, .unset, .unset, .unset, .unset] [(.int (47 : Int32)), (.long p2), (.int mk), (.int (3 : Int32)), (.int (3 : Int32)), (.ref b125)])) rfl (by rw [hml]; rfl) (argsL := [(.int (3 : Int32)), (.int mk), (.long p2), (.int (47 : Int32))]) (rest := [(.int (3 : Int32)), (.ref b125)]) (lenOf pd_7 rfl) rfl (by show 2 * 0 + _ ≤ _; exact Nat.le_of_eq rfl) (hb hby at_90) (fun _ _ => ⟨rfl, e137, (by decide : 1 + 0 ≤ _), (by decide : 8 + 0 ≤ _)⟩)
  dsimp only [Pt.U, Pt.locs, Pt.cells, Pt.slots] at X139 l139 y139 z139 st139 hQ139
  rw [l139, y139, z139] at X139
  obtain ⟨⟨r139, rfl, hr139⟩, Nq139, hE139⟩ := hQ139
  have N139 := Fr.app N137 Nq139
  refine Go.st st139 ?_
  show Go p.tables e below Kx T139 (mkF m 93 #[.val (.int p0), .val (.int p1), .val (.long p2), .second, .val (.int zc), .val (.int mk), .val (.ref b125), .unset, .unset, .unset, .unset, .unset, .unset] [(.int r139), (.int (3 : Int32)), (.ref b125)])
  obtain ⟨cl140, Ar140, Aq140, As140, An140, Ah140, Ag140⟩ := id V137
  have in141 := inb_of (j := (3 : Int32)) As140 (by decide)
  obtain ⟨T141, h141, X141, e141, W141, st141⟩ := stC X139 hx hZ hE139 Ar140 (j := (3 : Int32)) in141 (g := (mkF m 93 #[.val (.int p0), .val (.int p1), .val (.long p2), .second, .val (.int zc), .val (.int mk), .val (.ref b125), .unset, .unset, .unset, .unset, .unset, .unset] [(.int r139), (.int (3 : Int32)), (.ref b125)])) rfl rfl (hb hby at_93)
  have V141 : Arv Z h141 b125 k125 .char (8 : Int32) [(.int r127), (.int r131), (.int r135), (.int r139), (.int (0 : Int32)), (.int (0 : Int32)), (.int (0 : Int32)), (.int (0 : Int32))] (.int (0 : Int32)) := by
    have q := Arv.set Ar140 Aq140 As140 An140 Ah140 Ag140 (fits_nar_char _) W141 3 rfl (Nat.le_of_ble_eq_true rfl)
    rw [chr_nar hr139] at q; exact q
  have K141 : Keep h0 h141 [] := K137.wr W141 (Or.inr sz125)
  have O141 : Old Z n0 h141 := O137.wr W141 ge125
  have sf142 : Safe Z consts_1 s.vm h141 b125 := (Safe.wr W141 sf138 H137 sf138)
  have H141 : CHv Z consts_1 s.vm h141 := H137.wr W141 sf138
  have C141 : CHr Z consts_1 s.vm h0 s.vm h141 := C137.trans (CHr.wr W141 sf138 H137)
  have hk141 := Nat.le_trans hk137 (Nat.le_of_eq W141.size.symm)
  have N141 := Fr.snoc X141 N139 ge125
  refine Go.st st141 ?_
  show Go p.tables e below Kx T141 (mkF m 94 #[.val (.int p0), .val (.int p1), .val (.long p2), .second, .val (.int zc), .val (.int mk), .val (.ref b125), .unset, .unset, .unset, .unset, .unset, .unset] [])
  refine s_aload (pc' := 96) X141.here hx (hb hby at_94) rfl rfl rfl ?_
  refine s_iconst (pc' := 97) (v := (4 : Int32)) X141.here hx (hb hby at_96) rfl rfl ?_
  refine s_iconst (pc' := 98) (v := (4 : Int32)) X141.here hx (hb hby at_97) rfl rfl ?_
  refine s_iload (pc' := 100) X141.here hx (hb hby at_98) rfl rfl ?_
  refine s_lloadN (pc' := 101) X141.here hx (hb hby at_100) rfl rfl ?_
  refine s_bipush (pc' := 103) (v := (51 : Int32)) X141.here hx (hb hby at_101) rfl rfl ?_
  obtain ⟨_, _, ⟨T143, L143, k143, n143⟩, -, X143, ⟨Lc143, hQ143, l143, y143, z143⟩, st143⟩ := Jvm.LawKit.callS X141 hx (y := (⟨"com/example/syndica/syndica/InterestBasisOfPinLaw", "ch", "(IIJC)C"⟩ : MethodName)) hown (mvT hZ (hw _ (List.mem_of_getElem? (i := 1) rfl))) (mvT hZ (hw _ (List.mem_of_getElem? (i := 2) rfl))) (mvT hZ (hw _ (List.mem_of_getElem? (i := 3) rfl))) (mvT hZ (hw _ (List.mem_of_getElem? (i := 4) rfl))) (by decide) (backOf (W := 2) (rmC l Z a0 hw [] (4 : Int32) mk p2 (51 : Int32) h141 n0 O141 (by decide)) hZ (hw _ (List.mem_of_getElem? (i := 4) rfl)) (hw _ (List.mem_of_getElem? (i := 3) rfl)) (by decide) (by decide)) (g := (mkF m 103 #[.val (.int p0), .val (.int p1), .val (.long p2), .second, .val (.int zc), .val (.int mk), .val (.ref b125), .unset, .unset, .unset, .unset, .unset, .unset] [(.int (51 : Int32)), (.long p2), (.int mk), (.int (4 : Int32)), (.int (4 : Int32)), (.ref b125)])) rfl (by rw [hml]; rfl) (argsL := [(.int (4 : Int32)), (.int mk), (.long p2), (.int (51 : Int32))]) (rest := [(.int (4 : Int32)), (.ref b125)]) (lenOf pd_7 rfl) rfl (by show 2 * 0 + _ ≤ _; exact Nat.le_of_eq rfl) (hb hby at_103) (fun _ _ => ⟨rfl, e141, (by decide : 1 + 0 ≤ _), (by decide : 8 + 0 ≤ _)⟩)
  dsimp only [Pt.U, Pt.locs, Pt.cells, Pt.slots] at X143 l143 y143 z143 st143 hQ143
  rw [l143, y143, z143] at X143
  obtain ⟨⟨r143, rfl, hr143⟩, Nq143, hE143⟩ := hQ143
  have N143 := Fr.app N141 Nq143
  refine Go.st st143 ?_
  show Go p.tables e below Kx T143 (mkF m 106 #[.val (.int p0), .val (.int p1), .val (.long p2), .second, .val (.int zc), .val (.int mk), .val (.ref b125), .unset, .unset, .unset, .unset, .unset, .unset] [(.int r143), (.int (4 : Int32)), (.ref b125)])
  obtain ⟨cl144, Ar144, Aq144, As144, An144, Ah144, Ag144⟩ := id V141
  have in145 := inb_of (j := (4 : Int32)) As144 (by decide)
  obtain ⟨T145, h145, X145, e145, W145, st145⟩ := stC X143 hx hZ hE143 Ar144 (j := (4 : Int32)) in145 (g := (mkF m 106 #[.val (.int p0), .val (.int p1), .val (.long p2), .second, .val (.int zc), .val (.int mk), .val (.ref b125), .unset, .unset, .unset, .unset, .unset, .unset] [(.int r143), (.int (4 : Int32)), (.ref b125)])) rfl rfl (hb hby at_106)
  have V145 : Arv Z h145 b125 k125 .char (8 : Int32) [(.int r127), (.int r131), (.int r135), (.int r139), (.int r143), (.int (0 : Int32)), (.int (0 : Int32)), (.int (0 : Int32))] (.int (0 : Int32)) := by
    have q := Arv.set Ar144 Aq144 As144 An144 Ah144 Ag144 (fits_nar_char _) W145 4 rfl (Nat.le_of_ble_eq_true rfl)
    rw [chr_nar hr143] at q; exact q
  have K145 : Keep h0 h145 [] := K141.wr W145 (Or.inr sz125)
  have O145 : Old Z n0 h145 := O141.wr W145 ge125
  have sf146 : Safe Z consts_1 s.vm h145 b125 := (Safe.wr W145 sf142 H141 sf142)
  have H145 : CHv Z consts_1 s.vm h145 := H141.wr W145 sf142
  have C145 : CHr Z consts_1 s.vm h0 s.vm h145 := C141.trans (CHr.wr W145 sf142 H141)
  have hk145 := Nat.le_trans hk141 (Nat.le_of_eq W145.size.symm)
  have N145 := Fr.snoc X145 N143 ge125
  refine Go.st st145 ?_
  show Go p.tables e below Kx T145 (mkF m 107 #[.val (.int p0), .val (.int p1), .val (.long p2), .second, .val (.int zc), .val (.int mk), .val (.ref b125), .unset, .unset, .unset, .unset, .unset, .unset] [])
  refine s_aload (pc' := 109) X145.here hx (hb hby at_107) rfl rfl rfl ?_
  refine s_iconst (pc' := 110) (v := (5 : Int32)) X145.here hx (hb hby at_109) rfl rfl ?_
  refine s_iconst (pc' := 111) (v := (5 : Int32)) X145.here hx (hb hby at_110) rfl rfl ?_
  refine s_iload (pc' := 113) X145.here hx (hb hby at_111) rfl rfl ?_
  refine s_lloadN (pc' := 114) X145.here hx (hb hby at_113) rfl rfl ?_
  refine s_bipush (pc' := 116) (v := (54 : Int32)) X145.here hx (hb hby at_114) rfl rfl ?_
  obtain ⟨_, _, ⟨T147, L147, k147, n147⟩, -, X147, ⟨Lc147, hQ147, l147, y147, z147⟩, st147⟩ := Jvm.LawKit.callS X145 hx (y := (⟨"com/example/syndica/syndica/InterestBasisOfPinLaw", "ch", "(IIJC)C"⟩ : MethodName)) hown (mvT hZ (hw _ (List.mem_of_getElem? (i := 1) rfl))) (mvT hZ (hw _ (List.mem_of_getElem? (i := 2) rfl))) (mvT hZ (hw _ (List.mem_of_getElem? (i := 3) rfl))) (mvT hZ (hw _ (List.mem_of_getElem? (i := 4) rfl))) (by decide) (backOf (W := 2) (rmC l Z a0 hw [] (5 : Int32) mk p2 (54 : Int32) h145 n0 O145 (by decide)) hZ (hw _ (List.mem_of_getElem? (i := 4) rfl)) (hw _ (List.mem_of_getElem? (i := 3) rfl)) (by decide) (by decide)) (g := (mkF m 116 #[.val (.int p0), .val (.int p1), .val (.long p2), .second, .val (.int zc), .val (.int mk), .val (.ref b125), .unset, .unset, .unset, .unset, .unset, .unset] [(.int (54 : Int32)), (.long p2), (.int mk), (.int (5 : Int32)), (.int (5 : Int32)), (.ref b125)])) rfl (by rw [hml]; rfl) (argsL := [(.int (5 : Int32)), (.int mk), (.long p2), (.int (54 : Int32))]) (rest := [(.int (5 : Int32)), (.ref b125)]) (lenOf pd_7 rfl) rfl (by show 2 * 0 + _ ≤ _; exact Nat.le_of_eq rfl) (hb hby at_116) (fun _ _ => ⟨rfl, e145, (by decide : 1 + 0 ≤ _), (by decide : 8 + 0 ≤ _)⟩)
  dsimp only [Pt.U, Pt.locs, Pt.cells, Pt.slots] at X147 l147 y147 z147 st147 hQ147
  rw [l147, y147, z147] at X147
  obtain ⟨⟨r147, rfl, hr147⟩, Nq147, hE147⟩ := hQ147
  have N147 := Fr.app N145 Nq147
  refine Go.st st147 ?_
  show Go p.tables e below Kx T147 (mkF m 119 #[.val (.int p0), .val (.int p1), .val (.long p2), .second, .val (.int zc), .val (.int mk), .val (.ref b125), .unset, .unset, .unset, .unset, .unset, .unset] [(.int r147), (.int (5 : Int32)), (.ref b125)])
  obtain ⟨cl148, Ar148, Aq148, As148, An148, Ah148, Ag148⟩ := id V145
  have in149 := inb_of (j := (5 : Int32)) As148 (by decide)
  obtain ⟨T149, h149, X149, e149, W149, st149⟩ := stC X147 hx hZ hE147 Ar148 (j := (5 : Int32)) in149 (g := (mkF m 119 #[.val (.int p0), .val (.int p1), .val (.long p2), .second, .val (.int zc), .val (.int mk), .val (.ref b125), .unset, .unset, .unset, .unset, .unset, .unset] [(.int r147), (.int (5 : Int32)), (.ref b125)])) rfl rfl (hb hby at_119)
  have V149 : Arv Z h149 b125 k125 .char (8 : Int32) [(.int r127), (.int r131), (.int r135), (.int r139), (.int r143), (.int r147), (.int (0 : Int32)), (.int (0 : Int32))] (.int (0 : Int32)) := by
    have q := Arv.set Ar148 Aq148 As148 An148 Ah148 Ag148 (fits_nar_char _) W149 5 rfl (Nat.le_of_ble_eq_true rfl)
    rw [chr_nar hr147] at q; exact q
  have K149 : Keep h0 h149 [] := K145.wr W149 (Or.inr sz125)
  have O149 : Old Z n0 h149 := O145.wr W149 ge125
  have sf150 : Safe Z consts_1 s.vm h149 b125 := (Safe.wr W149 sf146 H145 sf146)
  have H149 : CHv Z consts_1 s.vm h149 := H145.wr W149 sf146
  have C149 : CHr Z consts_1 s.vm h0 s.vm h149 := C145.trans (CHr.wr W149 sf146 H145)
  have hk149 := Nat.le_trans hk145 (Nat.le_of_eq W149.size.symm)
  have N149 := Fr.snoc X149 N147 ge125
  refine Go.st st149 ?_
  show Go p.tables e below Kx T149 (mkF m 120 #[.val (.int p0), .val (.int p1), .val (.long p2), .second, .val (.int zc), .val (.int mk), .val (.ref b125), .unset, .unset, .unset, .unset, .unset, .unset] [])
  refine s_aload (pc' := 122) X149.here hx (hb hby at_120) rfl rfl rfl ?_
  refine s_bipush (pc' := 124) (v := (6 : Int32)) X149.here hx (hb hby at_122) rfl rfl ?_
  refine s_bipush (pc' := 126) (v := (6 : Int32)) X149.here hx (hb hby at_124) rfl rfl ?_
  refine s_iload (pc' := 128) X149.here hx (hb hby at_126) rfl rfl ?_
  refine s_lloadN (pc' := 129) X149.here hx (hb hby at_128) rfl rfl ?_
  refine s_bipush (pc' := 131) (v := (54 : Int32)) X149.here hx (hb hby at_129) rfl rfl ?_
  obtain ⟨_, _, ⟨T151, L151, k151, n151⟩, -, X151, ⟨Lc151, hQ151, l151, y151, z151⟩, st151⟩ := Jvm.LawKit.callS X149 hx (y := (⟨"com/example/syndica/syndica/InterestBasisOfPinLaw", "ch", "(IIJC)C"⟩ : MethodName)) hown (mvT hZ (hw _ (List.mem_of_getElem? (i := 1) rfl))) (mvT hZ (hw _ (List.mem_of_getElem? (i := 2) rfl))) (mvT hZ (hw _ (List.mem_of_getElem? (i := 3) rfl))) (mvT hZ (hw _ (List.mem_of_getElem? (i := 4) rfl))) (by decide) (backOf (W := 2) (rmC l Z a0 hw [] (6 : Int32) mk p2 (54 : Int32) h149 n0 O149 (by decide)) hZ (hw _ (List.mem_of_getElem? (i := 4) rfl)) (hw _ (List.mem_of_getElem? (i := 3) rfl)) (by decide) (by decide)) (g := (mkF m 131 #[.val (.int p0), .val (.int p1), .val (.long p2), .second, .val (.int zc), .val (.int mk), .val (.ref b125), .unset, .unset, .unset, .unset, .unset, .unset] [(.int (54 : Int32)), (.long p2), (.int mk), (.int (6 : Int32)), (.int (6 : Int32)), (.ref b125)])) rfl (by rw [hml]; rfl) (argsL := [(.int (6 : Int32)), (.int mk), (.long p2), (.int (54 : Int32))]) (rest := [(.int (6 : Int32)), (.ref b125)]) (lenOf pd_7 rfl) rfl (by show 2 * 0 + _ ≤ _; exact Nat.le_of_eq rfl) (hb hby at_131) (fun _ _ => ⟨rfl, e149, (by decide : 1 + 0 ≤ _), (by decide : 8 + 0 ≤ _)⟩)
  dsimp only [Pt.U, Pt.locs, Pt.cells, Pt.slots] at X151 l151 y151 z151 st151 hQ151
  rw [l151, y151, z151] at X151
  obtain ⟨⟨r151, rfl, hr151⟩, Nq151, hE151⟩ := hQ151
  have N151 := Fr.app N149 Nq151
  refine Go.st st151 ?_
  show Go p.tables e below Kx T151 (mkF m 134 #[.val (.int p0), .val (.int p1), .val (.long p2), .second, .val (.int zc), .val (.int mk), .val (.ref b125), .unset, .unset, .unset, .unset, .unset, .unset] [(.int r151), (.int (6 : Int32)), (.ref b125)])
  obtain ⟨cl152, Ar152, Aq152, As152, An152, Ah152, Ag152⟩ := id V149
  have in153 := inb_of (j := (6 : Int32)) As152 (by decide)
  obtain ⟨T153, h153, X153, e153, W153, st153⟩ := stC X151 hx hZ hE151 Ar152 (j := (6 : Int32)) in153 (g := (mkF m 134 #[.val (.int p0), .val (.int p1), .val (.long p2), .second, .val (.int zc), .val (.int mk), .val (.ref b125), .unset, .unset, .unset, .unset, .unset, .unset] [(.int r151), (.int (6 : Int32)), (.ref b125)])) rfl rfl (hb hby at_134)
  have V153 : Arv Z h153 b125 k125 .char (8 : Int32) [(.int r127), (.int r131), (.int r135), (.int r139), (.int r143), (.int r147), (.int r151), (.int (0 : Int32))] (.int (0 : Int32)) := by
    have q := Arv.set Ar152 Aq152 As152 An152 Ah152 Ag152 (fits_nar_char _) W153 6 rfl (Nat.le_of_ble_eq_true rfl)
    rw [chr_nar hr151] at q; exact q
  have K153 : Keep h0 h153 [] := K149.wr W153 (Or.inr sz125)
  have O153 : Old Z n0 h153 := O149.wr W153 ge125
  have sf154 : Safe Z consts_1 s.vm h153 b125 := (Safe.wr W153 sf150 H149 sf150)
  have H153 : CHv Z consts_1 s.vm h153 := H149.wr W153 sf150
  have C153 : CHr Z consts_1 s.vm h0 s.vm h153 := C149.trans (CHr.wr W153 sf150 H149)
  have hk153 := Nat.le_trans hk149 (Nat.le_of_eq W153.size.symm)
  have N153 := Fr.snoc X153 N151 ge125
  refine Go.st st153 ?_
  show Go p.tables e below Kx T153 (mkF m 135 #[.val (.int p0), .val (.int p1), .val (.long p2), .second, .val (.int zc), .val (.int mk), .val (.ref b125), .unset, .unset, .unset, .unset, .unset, .unset] [])
  refine s_aload (pc' := 137) X153.here hx (hb hby at_135) rfl rfl rfl ?_
  refine s_bipush (pc' := 139) (v := (7 : Int32)) X153.here hx (hb hby at_137) rfl rfl ?_
  refine s_bipush (pc' := 141) (v := (7 : Int32)) X153.here hx (hb hby at_139) rfl rfl ?_
  refine s_iload (pc' := 143) X153.here hx (hb hby at_141) rfl rfl ?_
  refine s_lloadN (pc' := 144) X153.here hx (hb hby at_143) rfl rfl ?_
  refine s_bipush (pc' := 146) (v := (54 : Int32)) X153.here hx (hb hby at_144) rfl rfl ?_
  obtain ⟨_, _, ⟨T155, L155, k155, n155⟩, -, X155, ⟨Lc155, hQ155, l155, y155, z155⟩, st155⟩ := Jvm.LawKit.callS X153 hx (y := (⟨"com/example/syndica/syndica/InterestBasisOfPinLaw", "ch", "(IIJC)C"⟩ : MethodName)) hown (mvT hZ (hw _ (List.mem_of_getElem? (i := 1) rfl))) (mvT hZ (hw _ (List.mem_of_getElem? (i := 2) rfl))) (mvT hZ (hw _ (List.mem_of_getElem? (i := 3) rfl))) (mvT hZ (hw _ (List.mem_of_getElem? (i := 4) rfl))) (by decide) (backOf (W := 2) (rmC l Z a0 hw [] (7 : Int32) mk p2 (54 : Int32) h153 n0 O153 (by decide)) hZ (hw _ (List.mem_of_getElem? (i := 4) rfl)) (hw _ (List.mem_of_getElem? (i := 3) rfl)) (by decide) (by decide)) (g := (mkF m 146 #[.val (.int p0), .val (.int p1), .val (.long p2), .second, .val (.int zc), .val (.int mk), .val (.ref b125), .unset, .unset, .unset, .unset, .unset, .unset] [(.int (54 : Int32)), (.long p2), (.int mk), (.int (7 : Int32)), (.int (7 : Int32)), (.ref b125)])) rfl (by rw [hml]; rfl) (argsL := [(.int (7 : Int32)), (.int mk), (.long p2), (.int (54 : Int32))]) (rest := [(.int (7 : Int32)), (.ref b125)]) (lenOf pd_7 rfl) rfl (by show 2 * 0 + _ ≤ _; exact Nat.le_of_eq rfl) (hb hby at_146) (fun _ _ => ⟨rfl, e153, (by decide : 1 + 0 ≤ _), (by decide : 8 + 0 ≤ _)⟩)
  dsimp only [Pt.U, Pt.locs, Pt.cells, Pt.slots] at X155 l155 y155 z155 st155 hQ155
  rw [l155, y155, z155] at X155
  obtain ⟨⟨r155, rfl, hr155⟩, Nq155, hE155⟩ := hQ155
  have N155 := Fr.app N153 Nq155
  refine Go.st st155 ?_
  show Go p.tables e below Kx T155 (mkF m 149 #[.val (.int p0), .val (.int p1), .val (.long p2), .second, .val (.int zc), .val (.int mk), .val (.ref b125), .unset, .unset, .unset, .unset, .unset, .unset] [(.int r155), (.int (7 : Int32)), (.ref b125)])
  obtain ⟨cl156, Ar156, Aq156, As156, An156, Ah156, Ag156⟩ := id V153
  have in157 := inb_of (j := (7 : Int32)) As156 (by decide)
  obtain ⟨T157, h157, X157, e157, W157, st157⟩ := stC X155 hx hZ hE155 Ar156 (j := (7 : Int32)) in157 (g := (mkF m 149 #[.val (.int p0), .val (.int p1), .val (.long p2), .second, .val (.int zc), .val (.int mk), .val (.ref b125), .unset, .unset, .unset, .unset, .unset, .unset] [(.int r155), (.int (7 : Int32)), (.ref b125)])) rfl rfl (hb hby at_149)
  have V157 : Arv Z h157 b125 k125 .char (8 : Int32) [(.int r127), (.int r131), (.int r135), (.int r139), (.int r143), (.int r147), (.int r151), (.int r155)] (.int (0 : Int32)) := by
    have q := Arv.set Ar156 Aq156 As156 An156 Ah156 Ag156 (fits_nar_char _) W157 7 rfl (Nat.le_of_ble_eq_true rfl)
    rw [chr_nar hr155] at q; exact q
  have K157 : Keep h0 h157 [] := K153.wr W157 (Or.inr sz125)
  have O157 : Old Z n0 h157 := O153.wr W157 ge125
  have sf158 : Safe Z consts_1 s.vm h157 b125 := (Safe.wr W157 sf154 H153 sf154)
  have H157 : CHv Z consts_1 s.vm h157 := H153.wr W157 sf154
  have C157 : CHr Z consts_1 s.vm h0 s.vm h157 := C153.trans (CHr.wr W157 sf154 H153)
  have hk157 := Nat.le_trans hk153 (Nat.le_of_eq W157.size.symm)
  have N157 := Fr.snoc X157 N155 ge125
  refine Go.st st157 ?_
  show Go p.tables e below Kx T157 (mkF m 150 #[.val (.int p0), .val (.int p1), .val (.long p2), .second, .val (.int zc), .val (.int mk), .val (.ref b125), .unset, .unset, .unset, .unset, .unset, .unset] [])
  have f159 : Exa Z h157 dA "com/example/syndica/syndica/InterestBasis" := ((((((((((EdA.ext X00.2).ext E125).wr W129).wr W133).wr W137).wr W141).wr W145).wr W149).wr W153).wr W157)
  have f160 : Fld Z h157 dA "com/example/syndica/syndica/InterestBasis" "value" "Ljava/lang/String;" (.ref tA) := ((((((((((FdA.ext X00.2).ext E125).other W129 (Or.inl (Nat.ne_of_lt (Nat.lt_of_lt_of_le (EdA.ext X00.2).lt (Nat.le_of_eq g125.symm))))).other W133 (Or.inl (Nat.ne_of_lt (Nat.lt_of_lt_of_le (EdA.ext X00.2).lt (Nat.le_of_eq g125.symm))))).other W137 (Or.inl (Nat.ne_of_lt (Nat.lt_of_lt_of_le (EdA.ext X00.2).lt (Nat.le_of_eq g125.symm))))).other W141 (Or.inl (Nat.ne_of_lt (Nat.lt_of_lt_of_le (EdA.ext X00.2).lt (Nat.le_of_eq g125.symm))))).other W145 (Or.inl (Nat.ne_of_lt (Nat.lt_of_lt_of_le (EdA.ext X00.2).lt (Nat.le_of_eq g125.symm))))).other W149 (Or.inl (Nat.ne_of_lt (Nat.lt_of_lt_of_le (EdA.ext X00.2).lt (Nat.le_of_eq g125.symm))))).other W153 (Or.inl (Nat.ne_of_lt (Nat.lt_of_lt_of_le (EdA.ext X00.2).lt (Nat.le_of_eq g125.symm))))).other W157 (Or.inl (Nat.ne_of_lt (Nat.lt_of_lt_of_le (EdA.ext X00.2).lt (Nat.le_of_eq g125.symm)))))
  have f161 : Exa Z h157 dB "com/example/syndica/syndica/InterestBasis" := ((((((((((EdB.ext X00.2).ext E125).wr W129).wr W133).wr W137).wr W141).wr W145).wr W149).wr W153).wr W157)
  have f162 : Fld Z h157 dB "com/example/syndica/syndica/InterestBasis" "value" "Ljava/lang/String;" (.ref tB) := ((((((((((FdB.ext X00.2).ext E125).other W129 (Or.inl (Nat.ne_of_lt (Nat.lt_of_lt_of_le (EdB.ext X00.2).lt (Nat.le_of_eq g125.symm))))).other W133 (Or.inl (Nat.ne_of_lt (Nat.lt_of_lt_of_le (EdB.ext X00.2).lt (Nat.le_of_eq g125.symm))))).other W137 (Or.inl (Nat.ne_of_lt (Nat.lt_of_lt_of_le (EdB.ext X00.2).lt (Nat.le_of_eq g125.symm))))).other W141 (Or.inl (Nat.ne_of_lt (Nat.lt_of_lt_of_le (EdB.ext X00.2).lt (Nat.le_of_eq g125.symm))))).other W145 (Or.inl (Nat.ne_of_lt (Nat.lt_of_lt_of_le (EdB.ext X00.2).lt (Nat.le_of_eq g125.symm))))).other W149 (Or.inl (Nat.ne_of_lt (Nat.lt_of_lt_of_le (EdB.ext X00.2).lt (Nat.le_of_eq g125.symm))))).other W153 (Or.inl (Nat.ne_of_lt (Nat.lt_of_lt_of_le (EdB.ext X00.2).lt (Nat.le_of_eq g125.symm))))).other W157 (Or.inl (Nat.ne_of_lt (Nat.lt_of_lt_of_le (EdB.ext X00.2).lt (Nat.le_of_eq g125.symm)))))
  have f163 : Exa Z h157 dC "com/example/syndica/syndica/InterestBasis" := ((((((((((EdC.ext X00.2).ext E125).wr W129).wr W133).wr W137).wr W141).wr W145).wr W149).wr W153).wr W157)
  have f164 : Fld Z h157 dC "com/example/syndica/syndica/InterestBasis" "value" "Ljava/lang/String;" (.ref tC) := ((((((((((FdC.ext X00.2).ext E125).other W129 (Or.inl (Nat.ne_of_lt (Nat.lt_of_lt_of_le (EdC.ext X00.2).lt (Nat.le_of_eq g125.symm))))).other W133 (Or.inl (Nat.ne_of_lt (Nat.lt_of_lt_of_le (EdC.ext X00.2).lt (Nat.le_of_eq g125.symm))))).other W137 (Or.inl (Nat.ne_of_lt (Nat.lt_of_lt_of_le (EdC.ext X00.2).lt (Nat.le_of_eq g125.symm))))).other W141 (Or.inl (Nat.ne_of_lt (Nat.lt_of_lt_of_le (EdC.ext X00.2).lt (Nat.le_of_eq g125.symm))))).other W145 (Or.inl (Nat.ne_of_lt (Nat.lt_of_lt_of_le (EdC.ext X00.2).lt (Nat.le_of_eq g125.symm))))).other W149 (Or.inl (Nat.ne_of_lt (Nat.lt_of_lt_of_le (EdC.ext X00.2).lt (Nat.le_of_eq g125.symm))))).other W153 (Or.inl (Nat.ne_of_lt (Nat.lt_of_lt_of_le (EdC.ext X00.2).lt (Nat.le_of_eq g125.symm))))).other W157 (Or.inl (Nat.ne_of_lt (Nat.lt_of_lt_of_le (EdC.ext X00.2).lt (Nat.le_of_eq g125.symm)))))
  have lt165 : b125 < h157.size := (Nat.lt_of_lt_of_le A125.lt (Nat.le_trans (Nat.le_trans (Nat.le_trans (Nat.le_trans (Nat.le_trans (Nat.le_trans (Nat.le_trans (Nat.le_of_eq W129.size.symm) (Nat.le_of_eq W133.size.symm)) (Nat.le_of_eq W137.size.symm)) (Nat.le_of_eq W141.size.symm)) (Nat.le_of_eq W145.size.symm)) (Nat.le_of_eq W149.size.symm)) (Nat.le_of_eq W153.size.symm)) (Nat.le_of_eq W157.size.symm)))
  have lt166 : dA < h157.size := (Nat.lt_of_lt_of_le (EdA.ext X00.2).lt (Nat.le_trans (Nat.le_trans (Nat.le_trans (Nat.le_trans (Nat.le_trans (Nat.le_trans (Nat.le_trans (Nat.le_trans E125.1 (Nat.le_of_eq W129.size.symm)) (Nat.le_of_eq W133.size.symm)) (Nat.le_of_eq W137.size.symm)) (Nat.le_of_eq W141.size.symm)) (Nat.le_of_eq W145.size.symm)) (Nat.le_of_eq W149.size.symm)) (Nat.le_of_eq W153.size.symm)) (Nat.le_of_eq W157.size.symm)))
  have lt167 : dB < h157.size := (Nat.lt_of_lt_of_le (EdB.ext X00.2).lt (Nat.le_trans (Nat.le_trans (Nat.le_trans (Nat.le_trans (Nat.le_trans (Nat.le_trans (Nat.le_trans (Nat.le_trans E125.1 (Nat.le_of_eq W129.size.symm)) (Nat.le_of_eq W133.size.symm)) (Nat.le_of_eq W137.size.symm)) (Nat.le_of_eq W141.size.symm)) (Nat.le_of_eq W145.size.symm)) (Nat.le_of_eq W149.size.symm)) (Nat.le_of_eq W153.size.symm)) (Nat.le_of_eq W157.size.symm)))
  have lt168 : dC < h157.size := (Nat.lt_of_lt_of_le (EdC.ext X00.2).lt (Nat.le_trans (Nat.le_trans (Nat.le_trans (Nat.le_trans (Nat.le_trans (Nat.le_trans (Nat.le_trans (Nat.le_trans E125.1 (Nat.le_of_eq W129.size.symm)) (Nat.le_of_eq W133.size.symm)) (Nat.le_of_eq W137.size.symm)) (Nat.le_of_eq W141.size.symm)) (Nat.le_of_eq W145.size.symm)) (Nat.le_of_eq W149.size.symm)) (Nat.le_of_eq W153.size.symm)) (Nat.le_of_eq W157.size.symm)))
  (try clear st157); (try clear W157); (try clear in157); (try clear Ag156); (try clear Ah156); (try clear An156); (try clear As156); (try clear Aq156); (try clear Ar156); (try clear cl156); (try clear N155); (try clear hE155)
  (try clear Nq155); (try clear st155); (try clear z155); (try clear y155); (try clear l155); (try clear hQ155); (try clear Lc155); (try clear X155); (try clear n155); (try clear k155); (try clear L155); (try clear T155)
  (try clear N153); (try clear hk153); (try clear C153); (try clear H153); (try clear sf154); (try clear O153); (try clear K153); (try clear V153); (try clear st153); (try clear W153); (try clear e153); (try clear X153)
  (try clear h153); (try clear T153); (try clear in153); (try clear Ag152); (try clear Ah152); (try clear An152); (try clear As152); (try clear Aq152); (try clear Ar152); (try clear cl152); (try clear N151); (try clear hE151)
  (try clear Nq151); (try clear st151); (try clear z151); (try clear y151); (try clear l151); (try clear hQ151); (try clear Lc151); (try clear X151); (try clear n151); (try clear k151); (try clear L151); (try clear T151)
  (try clear N149); (try clear hk149); (try clear C149); (try clear H149); (try clear sf150); (try clear O149); (try clear K149); (try clear V149); (try clear st149); (try clear W149); (try clear e149); (try clear X149)
  (try clear h149); (try clear T149); (try clear in149); (try clear Ag148); (try clear Ah148); (try clear An148); (try clear As148); (try clear Aq148); (try clear Ar148); (try clear cl148); (try clear N147); (try clear hE147)
  (try clear Nq147); (try clear st147); (try clear z147); (try clear y147); (try clear l147); (try clear hQ147); (try clear Lc147); (try clear X147); (try clear n147); (try clear k147); (try clear L147); (try clear T147)
  (try clear N145); (try clear hk145); (try clear C145); (try clear H145); (try clear sf146); (try clear O145); (try clear K145); (try clear V145); (try clear st145); (try clear W145); (try clear e145); (try clear X145)
  (try clear h145); (try clear T145); (try clear in145); (try clear Ag144); (try clear Ah144); (try clear An144); (try clear As144); (try clear Aq144); (try clear Ar144); (try clear cl144); (try clear N143); (try clear hE143)
  (try clear Nq143); (try clear st143); (try clear z143); (try clear y143); (try clear l143); (try clear hQ143); (try clear Lc143); (try clear X143); (try clear n143); (try clear k143); (try clear L143); (try clear T143)
  (try clear N141); (try clear hk141); (try clear C141); (try clear H141); (try clear sf142); (try clear O141); (try clear K141); (try clear V141); (try clear st141); (try clear W141); (try clear e141); (try clear X141)
  (try clear h141); (try clear T141); (try clear in141); (try clear Ag140); (try clear Ah140); (try clear An140); (try clear As140); (try clear Aq140); (try clear Ar140); (try clear cl140); (try clear N139); (try clear hE139)
  (try clear Nq139); (try clear st139); (try clear z139); (try clear y139); (try clear l139); (try clear hQ139); (try clear Lc139); (try clear X139); (try clear n139); (try clear k139); (try clear L139); (try clear T139)
  (try clear N137); (try clear hk137); (try clear C137); (try clear H137); (try clear sf138); (try clear O137); (try clear K137); (try clear V137); (try clear st137); (try clear W137); (try clear e137); (try clear X137)
  (try clear h137); (try clear T137); (try clear in137); (try clear Ag136); (try clear Ah136); (try clear An136); (try clear As136); (try clear Aq136); (try clear Ar136); (try clear cl136); (try clear N135); (try clear hE135)
  (try clear Nq135); (try clear st135); (try clear z135); (try clear y135); (try clear l135); (try clear hQ135); (try clear Lc135); (try clear X135); (try clear n135); (try clear k135); (try clear L135); (try clear T135)
  (try clear N133); (try clear hk133); (try clear C133); (try clear H133); (try clear sf134); (try clear O133); (try clear K133); (try clear V133); (try clear st133); (try clear W133); (try clear e133); (try clear X133)
  (try clear h133); (try clear T133); (try clear in133); (try clear Ag132); (try clear Ah132); (try clear An132); (try clear As132); (try clear Aq132); (try clear Ar132); (try clear cl132); (try clear N131); (try clear hE131)
  (try clear Nq131); (try clear st131); (try clear z131); (try clear y131); (try clear l131); (try clear hQ131); (try clear Lc131); (try clear X131); (try clear n131); (try clear k131); (try clear L131); (try clear T131)
  (try clear N129); (try clear hk129); (try clear C129); (try clear H129); (try clear sf130); (try clear O129); (try clear K129); (try clear q); (try clear V129); (try clear st129); (try clear W129); (try clear e129)
  (try clear X129); (try clear h129); (try clear T129); (try clear in129); (try clear Ag128); (try clear Ah128); (try clear An128); (try clear As128); (try clear Aq128); (try clear Ar128); (try clear cl128); (try clear N127)
  (try clear hE127); (try clear Nq127); (try clear st127); (try clear z127); (try clear y127); (try clear l127); (try clear hQ127); (try clear Lc127); (try clear X127); (try clear n127); (try clear k127); (try clear L127)
  (try clear T127); (try clear _); (try clear V125); (try clear hk125); (try clear C125); (try clear H125); (try clear sf126); (try clear O125); (try clear K125); (try clear sn125); (try clear st125); (try clear A125)
  (try clear E125); (try clear e125); (try clear X125); (try clear h125); (try clear T125); (try clear FO); (try clear EO); (try clear TdC); (try clear FdC); (try clear EdC); (try clear TdB); (try clear FdB)
  (try clear EdB); (try clear TdA); (try clear FdA); (try clear EdA); (try clear EV); (try clear AV); (try clear C0); (try clear hk0); (try clear e0); (try clear X0)
  show Go p.tables e below Kx T157 (mkF m 150 #[.val (.int p0), .val (.int p1), .val (.long p2), .second, .val (.int zc), .val (.int mk), .val (.ref b125), .unset, .unset, .unset, .unset, .unset, .unset] [])
  refine s_iloadN (pc' := 151) X157.here hx (hb hby at_150) rfl rfl ?_
  refine s_bipush (pc' := 153) (v := (7 : Int32)) X157.here hx (hb hby at_151) rfl rfl ?_
  refine s_iand (pc' := 154) X157.here hx (hb hby at_153) rfl rfl ?_
  generalize (p0 &&& (7 : Int32)) = sel
  show Go p.tables e below Kx T157 (mkF m 154 #[.val (.int p0), .val (.int p1), .val (.long p2), .second, .val (.int zc), .val (.int mk), .val (.ref b125), .unset, .unset, .unset, .unset, .unset, .unset] [(.int sel)])
  refine s_istore (pc' := 156) (Ls' := #[.val (.int p0), .val (.int p1), .val (.long p2), .second, .val (.int zc), .val (.int mk), .val (.ref b125), .val (.int sel), .unset, .unset, .unset, .unset, .unset]) X157.here hx (hb hby at_154) rfl  rfl ?_
  refine s_iload (pc' := 158) X157.here hx (hb hby at_156) rfl rfl ?_
  refine s_iconst (pc' := 159) (v := (1 : Int32)) X157.here hx (hb hby at_158) rfl rfl ?_
  by_cases hc169 : (1 : Int32) < sel
  · skip
    refine s_icmpY (pc' := 201) X157.here hx (hb hby at_159) (tlt hc169).2.2.1 (by decide) (by decide) ?_
    refine s_iload (pc' := 203) X157.here hx (hb hby at_201) rfl rfl ?_
    refine s_iconst (pc' := 204) (v := (3 : Int32)) X157.here hx (hb hby at_203) rfl rfl ?_
    by_cases hc170 : (3 : Int32) < sel
    · skip
      refine s_icmpY (pc' := 278) X157.here hx (hb hby at_204) (tlt hc170).2.2.1 (by decide) (by decide) ?_
      refine s_iload (pc' := 280) X157.here hx (hb hby at_278) rfl rfl ?_
      refine s_iconst (pc' := 281) (v := (4 : Int32)) X157.here hx (hb hby at_280) rfl rfl ?_
      by_cases hc171 : sel = (4 : Int32)
      · skip
        refine s_icmpN (pc' := 284) X157.here hx (hb hby at_281) rfl (teq hc171).2 ?_
        refine s_iconst (pc' := 285) (v := (0 : Int32)) X157.here hx (hb hby at_284) rfl rfl ?_
        refine s_istore (pc' := 287) (Ls' := #[.val (.int p0), .val (.int p1), .val (.long p2), .second, .val (.int zc), .val (.int mk), .val (.ref b125), .val (.int sel), .val (.int (0 : Int32)), .unset, .unset, .unset, .unset]) X157.here hx (hb hby at_285) rfl  rfl ?_
        obtain ⟨T172, h172, X172, e172, E172, A172, D172, -, st172⟩ := newO X157 hx hZ hown (hw _ (List.mem_of_getElem? (i := 5) rfl)) (hw _ (List.mem_of_getElem? (i := 6) rfl)) (hw _ (List.mem_of_getElem? (i := 7) rfl)) e157 (g := (mkF m 287 #[.val (.int p0), .val (.int p1), .val (.long p2), .second, .val (.int zc), .val (.int mk), .val (.ref b125), .val (.int sel), .val (.int (0 : Int32)), .unset, .unset, .unset, .unset] [])) rfl (hb hby at_287) (by decide) (by decide)
        obtain ⟨b172, g172⟩ : ∃ z, z = h157.size := ⟨_, rfl⟩
        rw [← g172] at A172 D172 st172
        have sz172 : h0.size ≤ b172 := Nat.le_trans K157.1 (Nat.le_of_eq g172.symm)
        have ge172 : n0 ≤ b172 := Nat.le_trans (O157.1 ▸ O157.2.1) (Nat.le_of_eq g172.symm)
        have sn172 : Safe Z consts_1 s.vm h157 b172 := Safe.new (Nat.le_of_eq g172.symm)
        have K172 : Keep h0 h172 [] := K157.ext E172
        have O172 : Old Z n0 h172 := O157.ext E172
        have sf173 : Safe Z consts_1 s.vm h172 b125 := (Safe.ext E172 H157 sf158)
        have sf174 : Safe Z consts_1 s.vm h172 b172 := (Safe.ext E172 H157 sn172)
        have H172 : CHv Z consts_1 s.vm h172 := H157.ext E172
        have C172 : CHr Z consts_1 s.vm h0 s.vm h172 := C157.trans (CHr.ext E172 H157)
        have hk172 := Nat.le_trans hk157 E172.1
        have F172_coder : Fld Z h172 b172 "java/lang/String" "coder" "B" (.int (0 : Int32)) := D172 (Or.inr (hw _ (List.mem_of_getElem? (i := 31) rfl))) (ty := .byte) (by decide)
        have F172_value : Fld Z h172 b172 "java/lang/String" "value" "[B" .null := D172 (Or.inr (hw _ (List.mem_of_getElem? (i := 33) rfl))) (ty := (.array .byte)) (by decide)
        refine Go.st st172 ?_
        show Go p.tables e below Kx T172 (mkF m 290 #[.val (.int p0), .val (.int p1), .val (.long p2), .second, .val (.int zc), .val (.int mk), .val (.ref b125), .val (.int sel), .val (.int (0 : Int32)), .unset, .unset, .unset, .unset] [(.ref b172)])
        refine s_dup (pc' := 291) X172.here hx (hb hby at_290) rfl rfl ?_
        refine s_iconst (pc' := 292) (v := (0 : Int32)) X172.here hx (hb hby at_291) rfl rfl ?_
        obtain ⟨T175, h175, k175, X175, e175, E175, A175, st175⟩ := newP X172 hx hZ (hw _ (List.mem_of_getElem? (i := 0) rfl)) e172 (g := (mkF m 292 #[.val (.int p0), .val (.int p1), .val (.long p2), .second, .val (.int zc), .val (.int mk), .val (.ref b125), .val (.int sel), .val (.int (0 : Int32)), .unset, .unset, .unset, .unset] [(.int (0 : Int32)), (.ref b172), (.ref b172)])) rfl (hb hby at_292) rfl (by decide) (cap := 0) (by decide) (by decide) (by decide) (by decide)
        obtain ⟨b175, g175⟩ : ∃ z, z = h172.size := ⟨_, rfl⟩
        rw [← g175] at A175 st175
        have sz175 : h0.size ≤ b175 := Nat.le_trans K172.1 (Nat.le_of_eq g175.symm)
        have ge175 : n0 ≤ b175 := Nat.le_trans (O172.1 ▸ O172.2.1) (Nat.le_of_eq g175.symm)
        have sn175 : Safe Z consts_1 s.vm h172 b175 := Safe.new (Nat.le_of_eq g175.symm)
        have K175 : Keep h0 h175 [] := K172.ext E175
        have O175 : Old Z n0 h175 := O172.ext E175
        have sf176 : Safe Z consts_1 s.vm h175 b125 := (Safe.ext E175 H172 sf173)
        have sf177 : Safe Z consts_1 s.vm h175 b172 := (Safe.ext E175 H172 sf174)
        have sf178 : Safe Z consts_1 s.vm h175 b175 := (Safe.ext E175 H172 sn175)
        have H175 : CHv Z consts_1 s.vm h175 := H172.ext E175
        have C175 : CHr Z consts_1 s.vm h0 s.vm h175 := C172.trans (CHr.ext E175 H172)
        have hk175 := Nat.le_trans hk172 E175.1
        have V175 : Arv Z h175 b175 k175 .char (0 : Int32) [] (.int (0 : Int32)) := (Arv.new A175 (by decide)).pad (pad_rep [] (.int (0 : Int32)) 0)
        refine Go.st st175 ?_
        show Go p.tables e below Kx T175 (mkF m 294 #[.val (.int p0), .val (.int p1), .val (.long p2), .second, .val (.int zc), .val (.int mk), .val (.ref b125), .val (.int sel), .val (.int (0 : Int32)), .unset, .unset, .unset, .unset] [(.ref b175), (.ref b172), (.ref b172)])
        have f179 : Exa Z h175 b172 "java/lang/String" := (A172.ext E175)
        have f180 : Fld Z h175 b172 "java/lang/String" "value" "[B" .null := (F172_value.ext E175)
        have f181 : Fld Z h175 b172 "java/lang/String" "coder" "B" (.int (0 : Int32)) := (F172_coder.ext E175)
        obtain ⟨_, _, ⟨T182, L182, k182, n182⟩, -, X182, hS'182, hg'182, ⟨Lc182, hQ182, l182, y182, z182, Cr182⟩, st182⟩ := X175.specialBackS hx (y := (⟨"java/lang/String", "<init>", "([C)V"⟩ : MethodName)) rfl hown (mvT hZ (hw _ (List.mem_of_getElem? (i := 8) rfl))) (mvT hZ (hw _ (List.mem_of_getElem? (i := 9) rfl))) (mvT hZ (hw _ (List.mem_of_getElem? (i := 10) rfl))) (by decide) (backX (W := 1) (rmE2 l Z a0 hw [] b172 b175 k175 h175 n0 O175 hEL wS ge172 f179 f180 f181 V175) hZ (hw _ (List.mem_of_getElem? (i := 10) rfl)) (hw _ (List.mem_of_getElem? (i := 7) rfl)) (by decide) (by decide) hEL H175 (allS (P := fun zz => zz < h175.size ∧ Safe Z consts_1 s.vm h175 zz) ⟨(Nat.lt_of_lt_of_le A172.lt E175.1), sf177⟩ all0)) (g := (mkF m 294 #[.val (.int p0), .val (.int p1), .val (.long p2), .second, .val (.int zc), .val (.int mk), .val (.ref b125), .val (.int sel), .val (.int (0 : Int32)), .unset, .unset, .unset, .unset] [(.ref b175), (.ref b172), (.ref b172)])) rfl (by rw [hml]; rfl) (Steps.refl _) (a := b172) (argsL := [(.ref b175)]) (rest := [(.ref b172)]) (lenOf pd_8 rfl) rfl (by show 2 * 0 + _ ≤ _; exact Nat.le_of_eq rfl) (hb hby at_294) (fun _ _ => ⟨rfl, e175, (by decide : 3 + 4 ≤ _), (by decide : 12 + 8 ≤ _)⟩)
        dsimp only [Pt.U, Pt.locs, Pt.cells, Pt.slots] at X182 l182 y182 z182 st182 hQ182 hS'182 hg'182 Cr182
        rw [l182, y182, z182] at X182
        obtain ⟨rfl, Nq182, Kq182, q1_182, q2_182, t182, kt182, q3_182, q4_182⟩ := hQ182
        have N182 := Fr.app N157 Nq182
        have X182 : Stand p l e _ (s.setVm T182.vm) m _ below meth c T182 _ _ _ := X182
        obtain ⟨hZ182, hown182⟩ := wideOn hZ hS'182 hown
        have hS182 : s.Since T182.vm T182.heap.size := hS0.trans hS'182 (Nat.le_trans hk175 (by rw [e175] at hg'182; exact hg'182))
        have hk182 := Nat.le_refl T182.heap.size
        have sf183 : Safe Z consts_1 T182.vm T182.heap b125 := Cr182.safe (Nat.lt_of_lt_of_le lt165 (Nat.le_trans E172.1 E175.1)) sf176
        have sf184 : Safe Z consts_1 T182.vm T182.heap b172 := Cr182.safe (Nat.lt_of_lt_of_le A172.lt E175.1) sf177
        have sf185 : Safe Z consts_1 T182.vm T182.heap b175 := Cr182.safe A175.lt sf178
        have C182 := C175.trans Cr182
        have K182 : Keep h0 T182.heap [] := K175.trans Kq182 (allS (P := fun zz => zz ∈ [] ∨ h0.size ≤ zz) (Or.inr sz172) all0)
        have O182 : Old Z n0 T182.heap := O175.keep Kq182 (allS ge172 all0)
        refine Go.tr st182 ?_
        show Go p.tables e below Kx T182 (mkF m 297 #[.val (.int p0), .val (.int p1), .val (.long p2), .second, .val (.int zc), .val (.int mk), .val (.ref b125), .val (.int sel), .val (.int (0 : Int32)), .unset, .unset, .unset, .unset] [(.ref b172)])
        have St182 : Str Z T182.heap T182.heap.size b172 [] := Str.of q1_182 q2_182 q3_182 (bs := []) q4_182 rfl rfl (fun _ hc => nomatch hc) (by decide)
        refine s_astore (pc' := 299) (Ls' := #[.val (.int p0), .val (.int p1), .val (.long p2), .second, .val (.int zc), .val (.int mk), .val (.ref b125), .val (.int sel), .val (.int (0 : Int32)), .val (.ref b172), .unset, .unset, .unset]) X182.here hx (hb hby at_297) rfl rfl rfl ?_
        refine s_goto (pc' := 433) X182.here hx (hb hby at_299) (by decide) (by decide) ?_
        have f186 : Exa Z T182.heap dA "com/example/syndica/syndica/InterestBasis" := (((f159.ext E172).ext E175).keep Kq182)
        have f187 : Fld Z T182.heap dA "com/example/syndica/syndica/InterestBasis" "value" "Ljava/lang/String;" (.ref tA) := (((f160.ext E172).ext E175).keep Kq182 (ninS (Nat.ne_of_lt (Nat.lt_of_lt_of_le lt166 (Nat.le_of_eq g172.symm))) nin0))
        have f188 : Exa Z T182.heap dB "com/example/syndica/syndica/InterestBasis" := (((f161.ext E172).ext E175).keep Kq182)
        have f189 : Fld Z T182.heap dB "com/example/syndica/syndica/InterestBasis" "value" "Ljava/lang/String;" (.ref tB) := (((f162.ext E172).ext E175).keep Kq182 (ninS (Nat.ne_of_lt (Nat.lt_of_lt_of_le lt167 (Nat.le_of_eq g172.symm))) nin0))
        have f190 : Exa Z T182.heap dC "com/example/syndica/syndica/InterestBasis" := (((f163.ext E172).ext E175).keep Kq182)
        have f191 : Fld Z T182.heap dC "com/example/syndica/syndica/InterestBasis" "value" "Ljava/lang/String;" (.ref tC) := (((f164.ext E172).ext E175).keep Kq182 (ninS (Nat.ne_of_lt (Nat.lt_of_lt_of_le lt168 (Nat.le_of_eq g172.symm))) nin0))
        have f192 : Arv Z T182.heap b125 k125 .char (8 : Int32) [(.int r127), (.int r131), (.int r135), (.int r139), (.int r143), (.int r147), (.int r151), (.int r155)] (.int (0 : Int32)) := (((V157.ext E172).ext E175).keep Kq182 (ninS (Nat.ne_of_lt (Nat.lt_of_lt_of_le lt165 (Nat.le_of_eq g172.symm))) nin0))
        have lt193 : b125 < T182.heap.size := (Nat.lt_of_lt_of_le lt165 (Nat.le_trans (Nat.le_trans E172.1 E175.1) Kq182.1))
        have lt194 : b172 < T182.heap.size := (Nat.lt_of_lt_of_le A172.lt (Nat.le_trans E175.1 Kq182.1))
        have ne195 : b125 ≠ b172 := (Nat.ne_of_lt (Nat.lt_of_lt_of_le lt165 (Nat.le_of_eq g172.symm)))
        have lt196 : dA < T182.heap.size := (Nat.lt_of_lt_of_le lt166 (Nat.le_trans (Nat.le_trans E172.1 E175.1) Kq182.1))
        have lt197 : dB < T182.heap.size := (Nat.lt_of_lt_of_le lt167 (Nat.le_trans (Nat.le_trans E172.1 E175.1) Kq182.1))
        have lt198 : dC < T182.heap.size := (Nat.lt_of_lt_of_le lt168 (Nat.le_trans (Nat.le_trans E172.1 E175.1) Kq182.1))
        (try clear sf185); (try clear q4_182); (try clear q3_182); (try clear kt182); (try clear t182); (try clear q2_182); (try clear Kq182); (try clear Nq182); (try clear st182); (try clear z182); (try clear y182); (try clear l182)
        (try clear hQ182); (try clear Lc182); (try clear hg'182); (try clear hS'182); (try clear n182); (try clear k182); (try clear L182); (try clear _); (try clear f181); (try clear f180); (try clear f179); (try clear V175)
        (try clear hk175); (try clear C175); (try clear H175); (try clear sf178); (try clear sf177); (try clear sf176); (try clear O175); (try clear K175); (try clear sn175); (try clear ge175); (try clear sz175); (try clear g175)
        (try clear b175); (try clear st175); (try clear A175); (try clear E175); (try clear e175); (try clear X175); (try clear k175); (try clear h175); (try clear T175); (try clear F172_value); (try clear F172_coder); (try clear hk172)
        (try clear C172); (try clear H172); (try clear sf174); (try clear sf173); (try clear O172); (try clear K172); (try clear sn172); (try clear st172); (try clear D172); (try clear A172); (try clear E172); (try clear e172)
        (try clear X172); (try clear h172); (try clear T172); (try clear lt168); (try clear lt167); (try clear lt166); (try clear lt165); (try clear f164); (try clear f163); (try clear f162); (try clear f161); (try clear f160)
        (try clear f159); (try clear N157); (try clear hk157); (try clear C157); (try clear H157); (try clear sf158); (try clear O157); (try clear K157); (try clear V157); (try clear e157); (try clear X157); (try clear h157)
        (try clear T157); (try clear hS0)
        show Go p.tables e below Kx T182 (mkF m 433 #[.val (.int p0), .val (.int p1), .val (.long p2), .second, .val (.int zc), .val (.int mk), .val (.ref b125), .val (.int sel), .val (.int (0 : Int32)), .val (.ref b172), .unset, .unset, .unset] [])
        refine s_aload (pc' := 435) X182.here hx (hb hby at_433) rfl rfl rfl ?_
        obtain ⟨_, _, ⟨T199, L199, k199, n199⟩, -, X199, ⟨Lc199, hQ199, l199, y199, z199⟩, st199⟩ := Jvm.LawKit.callS X182 hx (y := (⟨"com/example/syndica/syndica/InterestBasis", "of", "(Ljava/lang/String;)Ljava/util/Optional;"⟩ : MethodName)) hown182 (mvT hZ182 (hw _ (List.mem_of_getElem? (i := 34) rfl))) (mvT hZ182 (hw _ (List.mem_of_getElem? (i := 35) rfl))) (mvT hZ182 (hw _ (List.mem_of_getElem? (i := 36) rfl))) (mvT hZ182 (hw _ (List.mem_of_getElem? (i := 37) rfl))) (by decide) (backOf (W := 0) (rmF l Z a0 hw [] va dA dB dC tA tB tC eo kv b172 _ [] T182.heap n0 O182 EN G1 S1 P1 St182) hZ182 (hw _ (List.mem_of_getElem? (i := 37) rfl)) (hw _ (List.mem_of_getElem? (i := 36) rfl)) (by decide) (by decide)) (g := (mkF m 435 #[.val (.int p0), .val (.int p1), .val (.long p2), .second, .val (.int zc), .val (.int mk), .val (.ref b125), .val (.int sel), .val (.int (0 : Int32)), .val (.ref b172), .unset, .unset, .unset] [(.ref b172)])) rfl (by rw [hml]; rfl) (argsL := [(.ref b172)]) (rest := []) (lenOf pd_9 rfl) rfl (by show 2 * 0 + _ ≤ _; exact Nat.le_of_eq rfl) (hb hby at_435) (fun _ _ => ⟨rfl, rfl, (by decide : 7 + 2 ≤ _), (by decide : 20 + 4 ≤ _)⟩)
        dsimp only [Pt.U, Pt.locs, Pt.cells, Pt.slots] at X199 l199 y199 z199 st199 hQ199
        rw [l199, y199, z199] at X199
        obtain ⟨o199, wv199, rfl, Nq199, Kq199, q1_199, q2_199, hw199⟩ := hQ199
        rcases hw199 with ⟨rfl, hs199⟩ | ⟨rfl, hs199⟩ | ⟨rfl, hs199⟩ | ⟨rfl, hA199, hB199, hC199⟩
        · skip
          exact absurd (congrArg List.length hs199) (show ¬ (3 = 0) by decide)
        · skip
          exact absurd (congrArg List.length hs199) (show ¬ (3 = 0) by decide)
        · skip
          exact absurd (congrArg List.length hs199) (show ¬ (7 = 0) by decide)
        · skip
          have N199 := Fr.app N182 Nq199
          have K199 : Keep h0 T199.heap [] := K182.trans Kq199 all0
          have O199 : Old Z n0 T199.heap := O182.keep Kq199 all0
          have sf200 : Safe Z consts_1 T182.vm T199.heap b125 := (Safe.keep Kq199 sf0 Cr182.1 sf183)
          have sf201 : Safe Z consts_1 T182.vm T199.heap b172 := (Safe.keep Kq199 sf0 Cr182.1 sf184)
          have H199 : CHv Z consts_1 T182.vm T199.heap := Cr182.1.keep Kq199 sf0
          have C199 : CHr Z consts_1 s.vm h0 T182.vm T199.heap := C182.trans (CHr.keep Kq199 sf0 Cr182.1)
          have hk199 := Nat.le_trans hk182 Kq199.1
          refine Go.st st199 ?_
          show Go p.tables e below Kx T199 (mkF m 438 #[.val (.int p0), .val (.int p1), .val (.long p2), .second, .val (.int zc), .val (.int mk), .val (.ref b125), .val (.int sel), .val (.int (0 : Int32)), .val (.ref b172), .unset, .unset, .unset] [(.ref o199)])
          refine s_astore (pc' := 440) (Ls' := #[.val (.int p0), .val (.int p1), .val (.long p2), .second, .val (.int zc), .val (.int mk), .val (.ref b125), .val (.int sel), .val (.int (0 : Int32)), .val (.ref b172), .val (.ref o199), .unset, .unset]) X199.here hx (hb hby at_438) rfl rfl rfl ?_
          refine s_aload (pc' := 442) X199.here hx (hb hby at_440) rfl rfl rfl ?_
          obtain ⟨cq202, kq202, q202a, q202b, q202c⟩ := isOf hZ182 rfl q1_199
          obtain ⟨_, _, ⟨T202, L202, k202, n202⟩, -, X202, ⟨Lc202, hQ202, l202, y202, z202⟩, st202⟩ := X199.virtualBack hx (y := (⟨"java/util/Optional", "isPresent", "()Z"⟩ : MethodName)) (z := (⟨"java/util/Optional", "isPresent", "()Z"⟩ : MethodName)) hown182 (mvT hZ182 (hw _ (List.mem_of_getElem? (i := 89) rfl))) (mvT hZ182 (hw _ (List.mem_of_getElem? (i := 90) rfl))) (notFace_of_selects (args := #[]) (mvT hZ182 (hw _ (List.mem_of_getElem? (i := 92) rfl)))) (mvT hZ182 (hw _ (List.mem_of_getElem? (i := 92) rfl))) (mvT hZ182 (hw _ (List.mem_of_getElem? (i := 91) rfl))) (by decide) (backOf (W := 0) (rmP0 l Z a0 hw [] o199 o199 T199.heap n0 O199 q2_199) hZ182 (hw _ (List.mem_of_getElem? (i := 93) rfl)) (hw _ (List.mem_of_getElem? (i := 40) rfl)) (by decide) (by decide)) q202a q202c (g := (mkF m 442 #[.val (.int p0), .val (.int p1), .val (.long p2), .second, .val (.int zc), .val (.int mk), .val (.ref b125), .val (.int sel), .val (.int (0 : Int32)), .val (.ref b172), .val (.ref o199), .unset, .unset] [(.ref o199)])) rfl (by rw [hml]; rfl) (Steps.refl _) (argsL := []) (rest := []) (lenOf pd_10 rfl) rfl (by show 2 * 0 + _ ≤ _; exact Nat.le_of_eq rfl) (hb hby at_442) (fun _ _ => ⟨rfl, rfl, (by decide : 9 + 0 ≤ _), (by decide : 24 + 0 ≤ _)⟩)
          dsimp only [Pt.U, Pt.locs, Pt.cells, Pt.slots] at X202 l202 y202 z202 st202 hQ202
          rw [l202, y202, z202] at X202
          obtain ⟨rfl, Nq202, hE202⟩ := hQ202
          have N202 := Fr.app N199 Nq202
          refine Go.tr st202 ?_
          show Go p.tables e below Kx T202 (mkF m 445 #[.val (.int p0), .val (.int p1), .val (.long p2), .second, .val (.int zc), .val (.int mk), .val (.ref b125), .val (.int sel), .val (.int (0 : Int32)), .val (.ref b172), .val (.ref o199), .unset, .unset] [(.int (0 : Int32))])
          refine s_ifY (pc' := 459) X202.here hx (hb hby at_445) ((if0 _ _).trans (teq (by decide)).1) (by decide) (by decide) ?_
          refine s_aconst_null (pc' := 460) X202.here hx (hb hby at_459) rfl ?_
          refine s_astore (pc' := 462) (Ls' := #[.val (.int p0), .val (.int p1), .val (.long p2), .second, .val (.int zc), .val (.int mk), .val (.ref b125), .val (.int sel), .val (.int (0 : Int32)), .val (.ref b172), .val (.ref o199), .val .null, .unset]) X202.here hx (hb hby at_460) rfl rfl rfl ?_
          have f203 : Exa Z T199.heap dA "com/example/syndica/syndica/InterestBasis" := (f186.keep Kq199)
          have f204 : Fld Z T199.heap dA "com/example/syndica/syndica/InterestBasis" "value" "Ljava/lang/String;" (.ref tA) := (f187.keep Kq199 nin0)
          have f205 : Exa Z T199.heap dB "com/example/syndica/syndica/InterestBasis" := (f188.keep Kq199)
          have f206 : Fld Z T199.heap dB "com/example/syndica/syndica/InterestBasis" "value" "Ljava/lang/String;" (.ref tB) := (f189.keep Kq199 nin0)
          have f207 : Exa Z T199.heap dC "com/example/syndica/syndica/InterestBasis" := (f190.keep Kq199)
          have f208 : Fld Z T199.heap dC "com/example/syndica/syndica/InterestBasis" "value" "Ljava/lang/String;" (.ref tC) := (f191.keep Kq199 nin0)
          have f209 : Arv Z T199.heap b125 k125 .char (8 : Int32) [(.int r127), (.int r131), (.int r135), (.int r139), (.int r143), (.int r147), (.int r151), (.int r155)] (.int (0 : Int32)) := (f192.keep Kq199 nin0)
          have lt210 : b125 < T199.heap.size := (Nat.lt_of_lt_of_le lt193 Kq199.1)
          have lt211 : dA < T199.heap.size := (Nat.lt_of_lt_of_le lt196 Kq199.1)
          have lt212 : dB < T199.heap.size := (Nat.lt_of_lt_of_le lt197 Kq199.1)
          have lt213 : dC < T199.heap.size := (Nat.lt_of_lt_of_le lt198 Kq199.1)
          (try clear Nq202); (try clear st202); (try clear z202); (try clear y202); (try clear l202); (try clear hQ202); (try clear Lc202); (try clear n202); (try clear k202); (try clear L202); (try clear q202c); (try clear q202b)
          (try clear q202a); (try clear kq202); (try clear cq202); (try clear sf201); (try clear N199); (try clear hw199); (try clear q2_199); (try clear q1_199); (try clear Kq199); (try clear Nq199); (try clear wv199); (try clear st199)
          (try clear z199); (try clear y199); (try clear l199); (try clear hQ199); (try clear Lc199); (try clear X199); (try clear n199); (try clear k199); (try clear L199); (try clear _); (try clear lt198); (try clear lt197)
          (try clear lt196); (try clear ne195); (try clear lt194); (try clear lt193); (try clear f192); (try clear f191); (try clear f190); (try clear f189); (try clear f188); (try clear f187); (try clear f186); (try clear St182)
          (try clear O182); (try clear K182); (try clear C182); (try clear sf184); (try clear sf183); (try clear hk182); (try clear N182); (try clear q1_182); (try clear Cr182); (try clear X182); (try clear ge172); (try clear sz172)
          (try clear g172)
          show Go p.tables e below Kx T202 (mkF m 462 #[.val (.int p0), .val (.int p1), .val (.long p2), .second, .val (.int zc), .val (.int mk), .val (.ref b125), .val (.int sel), .val (.int (0 : Int32)), .val (.ref b172), .val (.ref o199), .val .null, .unset] [])
          refine s_aconst_null (pc' := 463) X202.here hx (hb hby at_462) rfl ?_
          refine s_astore (pc' := 465) (Ls' := #[.val (.int p0), .val (.int p1), .val (.long p2), .second, .val (.int zc), .val (.int mk), .val (.ref b125), .val (.int sel), .val (.int (0 : Int32)), .val (.ref b172), .val (.ref o199), .val .null, .val .null]) X202.here hx (hb hby at_463) rfl rfl rfl ?_
          refine s_iload (pc' := 467) X202.here hx (hb hby at_465) rfl rfl ?_
          refine s_iconst (pc' := 468) (v := (3 : Int32)) X202.here hx (hb hby at_467) rfl rfl ?_
          refine s_icmpY (pc' := 520) X202.here hx (hb hby at_468) (feq (by decide)).2 (by decide) (by decide) ?_
          refine s_iload (pc' := 522) X202.here hx (hb hby at_520) rfl rfl ?_
          refine s_bipush (pc' := 524) (v := (7 : Int32)) X202.here hx (hb hby at_522) rfl rfl ?_
          refine s_icmpY (pc' := 596) X202.here hx (hb hby at_524) (feq (by decide)).2 (by decide) (by decide) ?_
          refine s_aload (pc' := 598) X202.here hx (hb hby at_596) rfl rfl rfl ?_
          refine s_aload (pc' := 600) X202.here hx (hb hby at_598) rfl rfl rfl ?_
          refine Go.st (fun _ r => Jvm.RoadKit.acmp (g := (mkF m 600 #[.val (.int p0), .val (.int p1), .val (.long p2), .second, .val (.int zc), .val (.int mk), .val (.ref b125), .val (.int sel), .val (.int (0 : Int32)), .val (.ref b172), .val (.ref o199), .val .null, .val .null] [.null, .null])) X202 hx rfl rfl rfl (pc0 := 600) (pc' := 603) (same := true) rfl (hb hby at_600) rfl (decide_eq_true rfl) (by decide) (by decide) r) ?_
          show Go p.tables e below Kx T202 (mkF m 603 #[.val (.int p0), .val (.int p1), .val (.long p2), .second, .val (.int zc), .val (.int mk), .val (.ref b125), .val (.int sel), .val (.int (0 : Int32)), .val (.ref b172), .val (.ref o199), .val .null, .val .null] [])
          refine s_iconst (pc' := 604) (v := (1 : Int32)) X202.here hx (hb hby at_603) rfl rfl ?_
          refine s_goto (pc' := 608) X202.here hx (hb hby at_604) (by decide) (by decide) ?_
          obtain ⟨fs, hr, hrun, hended, hRW⟩ := X202.leaveW hS182 (by rw [hE202]; exact hk199) (v := (some (.int (1 : Int32)))) (fun h => by rw [Bd.returns] at h; cases h)
          have hCx := C199.trans (CHv.at X202 hZ182 hEL H199)
          refine Go.fin (retN X202 hx (t := .boolean) Bd.returns (by simp) (hb hby at_608) hr) (hF _ _ hrun hended ⟨_, _, rfl, ?_, ?_, hRW.1, hRW.2.1, hRW.2.2.1, hRW.2.2.2.mono (by decide) (by decide)⟩)
          · show QL Z p0 p1 p2 va dA dB dC tA tB tC eo kv h0 n0 ((some (.int (1 : Int32))) : Option Value) T202.heap _
            rw [hE202]
            exact ⟨rfl, N202⟩
          · show CHr Z consts_1 s.vm s.heap T202.vm T202.heap
            rw [hE202, hh]; exact hCx
      · skip
        refine s_icmpY (pc' := 302) X157.here hx (hb hby at_281) (feq hc171).2 (by decide) (by decide) ?_
        refine s_iload (pc' := 304) X157.here hx (hb hby at_302) rfl rfl ?_
        refine s_iconst (pc' := 305) (v := (5 : Int32)) X157.here hx (hb hby at_304) rfl rfl ?_
        by_cases hc214 : sel = (5 : Int32)
        · skip
          refine s_icmpN (pc' := 308) X157.here hx (hb hby at_305) rfl (teq hc214).2 ?_
          refine s_iconst (pc' := 309) (v := (2 : Int32)) X157.here hx (hb hby at_308) rfl rfl ?_
          refine s_istore (pc' := 311) (Ls' := #[.val (.int p0), .val (.int p1), .val (.long p2), .second, .val (.int zc), .val (.int mk), .val (.ref b125), .val (.int sel), .val (.int (2 : Int32)), .unset, .unset, .unset, .unset]) X157.here hx (hb hby at_309) rfl  rfl ?_
          obtain ⟨T215, h215, X215, e215, E215, A215, D215, -, st215⟩ := newO X157 hx hZ hown (hw _ (List.mem_of_getElem? (i := 5) rfl)) (hw _ (List.mem_of_getElem? (i := 6) rfl)) (hw _ (List.mem_of_getElem? (i := 7) rfl)) e157 (g := (mkF m 311 #[.val (.int p0), .val (.int p1), .val (.long p2), .second, .val (.int zc), .val (.int mk), .val (.ref b125), .val (.int sel), .val (.int (2 : Int32)), .unset, .unset, .unset, .unset] [])) rfl (hb hby at_311) (by decide) (by decide)
          obtain ⟨b215, g215⟩ : ∃ z, z = h157.size := ⟨_, rfl⟩
          rw [← g215] at A215 D215 st215
          have sz215 : h0.size ≤ b215 := Nat.le_trans K157.1 (Nat.le_of_eq g215.symm)
          have ge215 : n0 ≤ b215 := Nat.le_trans (O157.1 ▸ O157.2.1) (Nat.le_of_eq g215.symm)
          have sn215 : Safe Z consts_1 s.vm h157 b215 := Safe.new (Nat.le_of_eq g215.symm)
          have K215 : Keep h0 h215 [] := K157.ext E215
          have O215 : Old Z n0 h215 := O157.ext E215
          have sf216 : Safe Z consts_1 s.vm h215 b125 := (Safe.ext E215 H157 sf158)
          have sf217 : Safe Z consts_1 s.vm h215 b215 := (Safe.ext E215 H157 sn215)
          have H215 : CHv Z consts_1 s.vm h215 := H157.ext E215
          have C215 : CHr Z consts_1 s.vm h0 s.vm h215 := C157.trans (CHr.ext E215 H157)
          have hk215 := Nat.le_trans hk157 E215.1
          have F215_coder : Fld Z h215 b215 "java/lang/String" "coder" "B" (.int (0 : Int32)) := D215 (Or.inr (hw _ (List.mem_of_getElem? (i := 31) rfl))) (ty := .byte) (by decide)
          have F215_value : Fld Z h215 b215 "java/lang/String" "value" "[B" .null := D215 (Or.inr (hw _ (List.mem_of_getElem? (i := 33) rfl))) (ty := (.array .byte)) (by decide)
          refine Go.st st215 ?_
          show Go p.tables e below Kx T215 (mkF m 314 #[.val (.int p0), .val (.int p1), .val (.long p2), .second, .val (.int zc), .val (.int mk), .val (.ref b125), .val (.int sel), .val (.int (2 : Int32)), .unset, .unset, .unset, .unset] [(.ref b215)])
          refine s_dup (pc' := 315) X215.here hx (hb hby at_314) rfl rfl ?_
          refine s_iconst (pc' := 316) (v := (2 : Int32)) X215.here hx (hb hby at_315) rfl rfl ?_
          obtain ⟨T218, h218, k218, X218, e218, E218, A218, st218⟩ := newP X215 hx hZ (hw _ (List.mem_of_getElem? (i := 0) rfl)) e215 (g := (mkF m 316 #[.val (.int p0), .val (.int p1), .val (.long p2), .second, .val (.int zc), .val (.int mk), .val (.ref b125), .val (.int sel), .val (.int (2 : Int32)), .unset, .unset, .unset, .unset] [(.int (2 : Int32)), (.ref b215), (.ref b215)])) rfl (hb hby at_316) rfl (by decide) (cap := 2) (by decide) (by decide) (by decide) (by decide)
          obtain ⟨b218, g218⟩ : ∃ z, z = h215.size := ⟨_, rfl⟩
          rw [← g218] at A218 st218
          have sz218 : h0.size ≤ b218 := Nat.le_trans K215.1 (Nat.le_of_eq g218.symm)
          have ge218 : n0 ≤ b218 := Nat.le_trans (O215.1 ▸ O215.2.1) (Nat.le_of_eq g218.symm)
          have sn218 : Safe Z consts_1 s.vm h215 b218 := Safe.new (Nat.le_of_eq g218.symm)
          have K218 : Keep h0 h218 [] := K215.ext E218
          have O218 : Old Z n0 h218 := O215.ext E218
          have sf219 : Safe Z consts_1 s.vm h218 b125 := (Safe.ext E218 H215 sf216)
          have sf220 : Safe Z consts_1 s.vm h218 b215 := (Safe.ext E218 H215 sf217)
          have sf221 : Safe Z consts_1 s.vm h218 b218 := (Safe.ext E218 H215 sn218)
          have H218 : CHv Z consts_1 s.vm h218 := H215.ext E218
          have C218 : CHr Z consts_1 s.vm h0 s.vm h218 := C215.trans (CHr.ext E218 H215)
          have hk218 := Nat.le_trans hk215 E218.1
          have V218 : Arv Z h218 b218 k218 .char (2 : Int32) [(.int (0 : Int32)), (.int (0 : Int32))] (.int (0 : Int32)) := (Arv.new A218 (by decide)).pad (pad_rep [] (.int (0 : Int32)) 2)
          refine Go.st st218 ?_
          show Go p.tables e below Kx T218 (mkF m 318 #[.val (.int p0), .val (.int p1), .val (.long p2), .second, .val (.int zc), .val (.int mk), .val (.ref b125), .val (.int sel), .val (.int (2 : Int32)), .unset, .unset, .unset, .unset] [(.ref b218), (.ref b215), (.ref b215)])
          refine s_dup (pc' := 319) X218.here hx (hb hby at_318) rfl rfl ?_
          refine s_iconst (pc' := 320) (v := (0 : Int32)) X218.here hx (hb hby at_319) rfl rfl ?_
          refine s_aload (pc' := 322) X218.here hx (hb hby at_320) rfl rfl rfl ?_
          refine s_iconst (pc' := 323) (v := (0 : Int32)) X218.here hx (hb hby at_322) rfl rfl ?_
          have f222 : Arv Z h218 b125 k125 .char (8 : Int32) [(.int r127), (.int r131), (.int r135), (.int r139), (.int r143), (.int r147), (.int r151), (.int r155)] (.int (0 : Int32)) := ((V157.ext E215).ext E218)
          obtain ⟨cl223, Ar223, Aq223, As223, An223, Ah223, Ag223⟩ := id f222
          have in224 := inb_of (j := (0 : Int32)) As223 (by decide)
          have at224 : cl223.slots[((0 : Int32)).toNatClampNeg]? = some (.int r127) := Ah223.at in224 rfl
          refine Go.st (X218.caload hx (j := (0 : Int32)) (v := (.int r127)) (by rw [e218]; exact Ar223.1) (State.isArrayOf_alike hZ.alike Ar223.2.1) Ar223.2.2 in224 at224 (g := (mkF m 323 #[.val (.int p0), .val (.int p1), .val (.long p2), .second, .val (.int zc), .val (.int mk), .val (.ref b125), .val (.int sel), .val (.int (2 : Int32)), .unset, .unset, .unset, .unset] [(.int (0 : Int32)), (.ref b125), (.int (0 : Int32)), (.ref b218), (.ref b218), (.ref b215), (.ref b215)])) rfl rfl (hb hby at_323)) ?_
          show Go p.tables e below Kx T218 (mkF m 324 #[.val (.int p0), .val (.int p1), .val (.long p2), .second, .val (.int zc), .val (.int mk), .val (.ref b125), .val (.int sel), .val (.int (2 : Int32)), .unset, .unset, .unset, .unset] [(.int r127), (.int (0 : Int32)), (.ref b218), (.ref b218), (.ref b215), (.ref b215)])
          obtain ⟨cl225, Ar225, Aq225, As225, An225, Ah225, Ag225⟩ := id V218
          have in226 := inb_of (j := (0 : Int32)) As225 (by decide)
          obtain ⟨T226, h226, X226, e226, W226, st226⟩ := stC X218 hx hZ e218 Ar225 (j := (0 : Int32)) in226 (g := (mkF m 324 #[.val (.int p0), .val (.int p1), .val (.long p2), .second, .val (.int zc), .val (.int mk), .val (.ref b125), .val (.int sel), .val (.int (2 : Int32)), .unset, .unset, .unset, .unset] [(.int r127), (.int (0 : Int32)), (.ref b218), (.ref b218), (.ref b215), (.ref b215)])) rfl rfl (hb hby at_324)
          have V226 : Arv Z h226 b218 k218 .char (2 : Int32) [(.int r127), (.int (0 : Int32))] (.int (0 : Int32)) := by
            have q := Arv.set Ar225 Aq225 As225 An225 Ah225 Ag225 (fits_nar_char _) W226 0 rfl (Nat.le_of_ble_eq_true rfl)
            rw [chr_nar hr127] at q; exact q
          have K226 : Keep h0 h226 [] := K218.wr W226 (Or.inr sz218)
          have O226 : Old Z n0 h226 := O218.wr W226 ge218
          have sf227 : Safe Z consts_1 s.vm h226 b125 := (Safe.wr W226 sf221 H218 sf219)
          have sf228 : Safe Z consts_1 s.vm h226 b215 := (Safe.wr W226 sf221 H218 sf220)
          have sf229 : Safe Z consts_1 s.vm h226 b218 := (Safe.wr W226 sf221 H218 sf221)
          have H226 : CHv Z consts_1 s.vm h226 := H218.wr W226 sf221
          have C226 : CHr Z consts_1 s.vm h0 s.vm h226 := C218.trans (CHr.wr W226 sf221 H218)
          have hk226 := Nat.le_trans hk218 (Nat.le_of_eq W226.size.symm)
          have N226 := Fr.snoc X226 N157 ge218
          refine Go.st st226 ?_
          show Go p.tables e below Kx T226 (mkF m 325 #[.val (.int p0), .val (.int p1), .val (.long p2), .second, .val (.int zc), .val (.int mk), .val (.ref b125), .val (.int sel), .val (.int (2 : Int32)), .unset, .unset, .unset, .unset] [(.ref b218), (.ref b215), (.ref b215)])
          refine s_dup (pc' := 326) X226.here hx (hb hby at_325) rfl rfl ?_
          refine s_iconst (pc' := 327) (v := (1 : Int32)) X226.here hx (hb hby at_326) rfl rfl ?_
          refine s_aload (pc' := 329) X226.here hx (hb hby at_327) rfl rfl rfl ?_
          refine s_iconst (pc' := 330) (v := (1 : Int32)) X226.here hx (hb hby at_329) rfl rfl ?_
          have f230 : Arv Z h226 b125 k125 .char (8 : Int32) [(.int r127), (.int r131), (.int r135), (.int r139), (.int r143), (.int r147), (.int r151), (.int r155)] (.int (0 : Int32)) := (f222.other W226 (Nat.ne_of_lt (Nat.lt_of_lt_of_le (Nat.lt_of_lt_of_le lt165 E215.1) (Nat.le_of_eq g218.symm))))
          obtain ⟨cl231, Ar231, Aq231, As231, An231, Ah231, Ag231⟩ := id f230
          have in232 := inb_of (j := (1 : Int32)) As231 (by decide)
          have at232 : cl231.slots[((1 : Int32)).toNatClampNeg]? = some (.int r131) := Ah231.at in232 rfl
          refine Go.st (X226.caload hx (j := (1 : Int32)) (v := (.int r131)) (by rw [e226]; exact Ar231.1) (State.isArrayOf_alike hZ.alike Ar231.2.1) Ar231.2.2 in232 at232 (g := (mkF m 330 #[.val (.int p0), .val (.int p1), .val (.long p2), .second, .val (.int zc), .val (.int mk), .val (.ref b125), .val (.int sel), .val (.int (2 : Int32)), .unset, .unset, .unset, .unset] [(.int (1 : Int32)), (.ref b125), (.int (1 : Int32)), (.ref b218), (.ref b218), (.ref b215), (.ref b215)])) rfl rfl (hb hby at_330)) ?_
          show Go p.tables e below Kx T226 (mkF m 331 #[.val (.int p0), .val (.int p1), .val (.long p2), .second, .val (.int zc), .val (.int mk), .val (.ref b125), .val (.int sel), .val (.int (2 : Int32)), .unset, .unset, .unset, .unset] [(.int r131), (.int (1 : Int32)), (.ref b218), (.ref b218), (.ref b215), (.ref b215)])
          obtain ⟨cl233, Ar233, Aq233, As233, An233, Ah233, Ag233⟩ := id V226
          have in234 := inb_of (j := (1 : Int32)) As233 (by decide)
          obtain ⟨T234, h234, X234, e234, W234, st234⟩ := stC X226 hx hZ e226 Ar233 (j := (1 : Int32)) in234 (g := (mkF m 331 #[.val (.int p0), .val (.int p1), .val (.long p2), .second, .val (.int zc), .val (.int mk), .val (.ref b125), .val (.int sel), .val (.int (2 : Int32)), .unset, .unset, .unset, .unset] [(.int r131), (.int (1 : Int32)), (.ref b218), (.ref b218), (.ref b215), (.ref b215)])) rfl rfl (hb hby at_331)
          have V234 : Arv Z h234 b218 k218 .char (2 : Int32) [(.int r127), (.int r131)] (.int (0 : Int32)) := by
            have q := Arv.set Ar233 Aq233 As233 An233 Ah233 Ag233 (fits_nar_char _) W234 1 rfl (Nat.le_of_ble_eq_true rfl)
            rw [chr_nar hr131] at q; exact q
          have K234 : Keep h0 h234 [] := K226.wr W234 (Or.inr sz218)
          have O234 : Old Z n0 h234 := O226.wr W234 ge218
          have sf235 : Safe Z consts_1 s.vm h234 b125 := (Safe.wr W234 sf229 H226 sf227)
          have sf236 : Safe Z consts_1 s.vm h234 b215 := (Safe.wr W234 sf229 H226 sf228)
          have sf237 : Safe Z consts_1 s.vm h234 b218 := (Safe.wr W234 sf229 H226 sf229)
          have H234 : CHv Z consts_1 s.vm h234 := H226.wr W234 sf229
          have C234 : CHr Z consts_1 s.vm h0 s.vm h234 := C226.trans (CHr.wr W234 sf229 H226)
          have hk234 := Nat.le_trans hk226 (Nat.le_of_eq W234.size.symm)
          have N234 := Fr.snoc X234 N226 ge218
          refine Go.st st234 ?_
          show Go p.tables e below Kx T234 (mkF m 332 #[.val (.int p0), .val (.int p1), .val (.long p2), .second, .val (.int zc), .val (.int mk), .val (.ref b125), .val (.int sel), .val (.int (2 : Int32)), .unset, .unset, .unset, .unset] [(.ref b218), (.ref b215), (.ref b215)])
          have f238 : Exa Z h234 b215 "java/lang/String" := (((A215.ext E218).wr W226).wr W234)
          have f239 : Fld Z h234 b215 "java/lang/String" "value" "[B" .null := (((F215_value.ext E218).other W226 (Or.inl (Nat.ne_of_lt (Nat.lt_of_lt_of_le A215.lt (Nat.le_of_eq g218.symm))))).other W234 (Or.inl (Nat.ne_of_lt (Nat.lt_of_lt_of_le A215.lt (Nat.le_of_eq g218.symm)))))
          have f240 : Fld Z h234 b215 "java/lang/String" "coder" "B" (.int (0 : Int32)) := (((F215_coder.ext E218).other W226 (Or.inl (Nat.ne_of_lt (Nat.lt_of_lt_of_le A215.lt (Nat.le_of_eq g218.symm))))).other W234 (Or.inl (Nat.ne_of_lt (Nat.lt_of_lt_of_le A215.lt (Nat.le_of_eq g218.symm)))))
          have hp241 : ∀ c ∈ ([r127, r131] : List Int32), ¬ c < 0 ∧ ¬ (255 : Int32) < c := by
            intro c hc
            simp only [List.mem_cons, List.not_mem_nil, or_false] at hc
            rcases hc with rfl | rfl
            · exact hr127
            · exact hr131
          obtain ⟨_, _, ⟨T242, L242, k242, n242⟩, -, X242, ⟨Lc242, hQ242, l242, y242, z242⟩, st242⟩ := X234.specialBack hx (y := (⟨"java/lang/String", "<init>", "([C)V"⟩ : MethodName)) rfl hown (mvT hZ (hw _ (List.mem_of_getElem? (i := 8) rfl))) (mvT hZ (hw _ (List.mem_of_getElem? (i := 9) rfl))) (mvT hZ (hw _ (List.mem_of_getElem? (i := 10) rfl))) (by decide) (StrChars.Road.backV (W := 1) hZ (hwsV Z a0 hw) (kI := 4) (hw _ (List.mem_of_getElem? (i := 6) rfl)) (cs := [r127, r131]) (bs := ([r127, r131] : List Int32).map (fun c => c.toInt8.toInt32)) (n := 2) ge215 (O234.1 ▸ O234.2.1) f238 f239 f240 V234 (S1.ext O234.2) P1 rfl rfl (by decide) (by decide) hp241 rfl (by decide) (by decide)) (g := (mkF m 332 #[.val (.int p0), .val (.int p1), .val (.long p2), .second, .val (.int zc), .val (.int mk), .val (.ref b125), .val (.int sel), .val (.int (2 : Int32)), .unset, .unset, .unset, .unset] [(.ref b218), (.ref b215), (.ref b215)])) rfl (by rw [hml]; rfl) (Steps.refl _) (a := b215) (argsL := [(.ref b218)]) (rest := [(.ref b215)]) (lenOf pd_8 rfl) rfl (by show 2 * 0 + _ ≤ _; exact Nat.le_of_eq rfl) (hb hby at_332) (fun _ _ => ⟨rfl, e234, (by decide : 3 + 1 ≤ _), (by decide : 14 + 2 ≤ _)⟩)
          dsimp only [Pt.U, Pt.locs, Pt.cells, Pt.slots] at X242 l242 y242 z242 st242 hQ242
          rw [l242, y242, z242] at X242
          obtain ⟨rfl, Nq242, Kq242, q1_242, q2_242, t242, kt242, -, -, -, q3_242, q4_242⟩ := hQ242
          have N242 := Fr.app N234 Nq242
          have K242 : Keep h0 T242.heap [] := K234.trans Kq242 (allS (P := fun zz => zz ∈ [] ∨ h0.size ≤ zz) (Or.inr sz215) all0)
          have O242 : Old Z n0 T242.heap := O234.keep Kq242 (allS ge215 all0)
          have sf243 : Safe Z consts_1 s.vm T242.heap b125 := (Safe.keep Kq242 (sfS sf236 sf0) H234 sf235)
          have sf244 : Safe Z consts_1 s.vm T242.heap b215 := (Safe.keep Kq242 (sfS sf236 sf0) H234 sf236)
          have sf245 : Safe Z consts_1 s.vm T242.heap b218 := (Safe.keep Kq242 (sfS sf236 sf0) H234 sf237)
          have H242 : CHv Z consts_1 s.vm T242.heap := H234.keep Kq242 (sfS sf236 sf0)
          have C242 : CHr Z consts_1 s.vm h0 s.vm T242.heap := C234.trans (CHr.keep Kq242 (sfS sf236 sf0) H234)
          have hk242 := Nat.le_trans hk234 Kq242.1
          refine Go.tr st242 ?_
          show Go p.tables e below Kx T242 (mkF m 335 #[.val (.int p0), .val (.int p1), .val (.long p2), .second, .val (.int zc), .val (.int mk), .val (.ref b125), .val (.int sel), .val (.int (2 : Int32)), .unset, .unset, .unset, .unset] [(.ref b215)])
          have St242 : Str Z T242.heap T242.heap.size b215 [r127, r131] := Str.of q1_242 q2_242 q3_242 q4_242 rfl rfl hp241 (Nat.le_of_ble_eq_true rfl)
          refine s_astore (pc' := 337) (Ls' := #[.val (.int p0), .val (.int p1), .val (.long p2), .second, .val (.int zc), .val (.int mk), .val (.ref b125), .val (.int sel), .val (.int (2 : Int32)), .val (.ref b215), .unset, .unset, .unset]) X242.here hx (hb hby at_335) rfl rfl rfl ?_
          refine s_goto (pc' := 433) X242.here hx (hb hby at_337) (by decide) (by decide) ?_
          have f246 : Exa Z T242.heap dA "com/example/syndica/syndica/InterestBasis" := (((((f159.ext E215).ext E218).wr W226).wr W234).keep Kq242)
          have f247 : Fld Z T242.heap dA "com/example/syndica/syndica/InterestBasis" "value" "Ljava/lang/String;" (.ref tA) := (((((f160.ext E215).ext E218).other W226 (Or.inl (Nat.ne_of_lt (Nat.lt_of_lt_of_le (Nat.lt_of_lt_of_le lt166 E215.1) (Nat.le_of_eq g218.symm))))).other W234 (Or.inl (Nat.ne_of_lt (Nat.lt_of_lt_of_le (Nat.lt_of_lt_of_le lt166 E215.1) (Nat.le_of_eq g218.symm))))).keep Kq242 (ninS (Nat.ne_of_lt (Nat.lt_of_lt_of_le lt166 (Nat.le_of_eq g215.symm))) nin0))
          have f248 : Exa Z T242.heap dB "com/example/syndica/syndica/InterestBasis" := (((((f161.ext E215).ext E218).wr W226).wr W234).keep Kq242)
          have f249 : Fld Z T242.heap dB "com/example/syndica/syndica/InterestBasis" "value" "Ljava/lang/String;" (.ref tB) := (((((f162.ext E215).ext E218).other W226 (Or.inl (Nat.ne_of_lt (Nat.lt_of_lt_of_le (Nat.lt_of_lt_of_le lt167 E215.1) (Nat.le_of_eq g218.symm))))).other W234 (Or.inl (Nat.ne_of_lt (Nat.lt_of_lt_of_le (Nat.lt_of_lt_of_le lt167 E215.1) (Nat.le_of_eq g218.symm))))).keep Kq242 (ninS (Nat.ne_of_lt (Nat.lt_of_lt_of_le lt167 (Nat.le_of_eq g215.symm))) nin0))
          have f250 : Exa Z T242.heap dC "com/example/syndica/syndica/InterestBasis" := (((((f163.ext E215).ext E218).wr W226).wr W234).keep Kq242)
          have f251 : Fld Z T242.heap dC "com/example/syndica/syndica/InterestBasis" "value" "Ljava/lang/String;" (.ref tC) := (((((f164.ext E215).ext E218).other W226 (Or.inl (Nat.ne_of_lt (Nat.lt_of_lt_of_le (Nat.lt_of_lt_of_le lt168 E215.1) (Nat.le_of_eq g218.symm))))).other W234 (Or.inl (Nat.ne_of_lt (Nat.lt_of_lt_of_le (Nat.lt_of_lt_of_le lt168 E215.1) (Nat.le_of_eq g218.symm))))).keep Kq242 (ninS (Nat.ne_of_lt (Nat.lt_of_lt_of_le lt168 (Nat.le_of_eq g215.symm))) nin0))
          have f252 : Arv Z T242.heap b125 k125 .char (8 : Int32) [(.int r127), (.int r131), (.int r135), (.int r139), (.int r143), (.int r147), (.int r151), (.int r155)] (.int (0 : Int32)) := ((f230.other W234 (Nat.ne_of_lt (Nat.lt_of_lt_of_le (Nat.lt_of_lt_of_le lt165 E215.1) (Nat.le_of_eq g218.symm)))).keep Kq242 (ninS (Nat.ne_of_lt (Nat.lt_of_lt_of_le lt165 (Nat.le_of_eq g215.symm))) nin0))
          have lt253 : b125 < T242.heap.size := (Nat.lt_of_lt_of_le lt165 (Nat.le_trans (Nat.le_trans (Nat.le_trans (Nat.le_trans E215.1 E218.1) (Nat.le_of_eq W226.size.symm)) (Nat.le_of_eq W234.size.symm)) Kq242.1))
          have lt254 : b215 < T242.heap.size := (Nat.lt_of_lt_of_le A215.lt (Nat.le_trans (Nat.le_trans (Nat.le_trans E218.1 (Nat.le_of_eq W226.size.symm)) (Nat.le_of_eq W234.size.symm)) Kq242.1))
          have ne255 : b125 ≠ b215 := (Nat.ne_of_lt (Nat.lt_of_lt_of_le lt165 (Nat.le_of_eq g215.symm)))
          have lt256 : dA < T242.heap.size := (Nat.lt_of_lt_of_le lt166 (Nat.le_trans (Nat.le_trans (Nat.le_trans (Nat.le_trans E215.1 E218.1) (Nat.le_of_eq W226.size.symm)) (Nat.le_of_eq W234.size.symm)) Kq242.1))
          have lt257 : dB < T242.heap.size := (Nat.lt_of_lt_of_le lt167 (Nat.le_trans (Nat.le_trans (Nat.le_trans (Nat.le_trans E215.1 E218.1) (Nat.le_of_eq W226.size.symm)) (Nat.le_of_eq W234.size.symm)) Kq242.1))
          have lt258 : dC < T242.heap.size := (Nat.lt_of_lt_of_le lt168 (Nat.le_trans (Nat.le_trans (Nat.le_trans (Nat.le_trans E215.1 E218.1) (Nat.le_of_eq W226.size.symm)) (Nat.le_of_eq W234.size.symm)) Kq242.1))
          (try clear sf245); (try clear q4_242); (try clear q3_242); (try clear kt242); (try clear t242); (try clear q2_242); (try clear Kq242); (try clear Nq242); (try clear st242); (try clear z242); (try clear y242); (try clear l242)
          (try clear hQ242); (try clear Lc242); (try clear n242); (try clear k242); (try clear L242); (try clear _); (try clear hp241); (try clear f240); (try clear f239); (try clear f238); (try clear N234); (try clear hk234)
          (try clear C234); (try clear H234); (try clear sf237); (try clear sf236); (try clear sf235); (try clear O234); (try clear K234); (try clear V234); (try clear st234); (try clear W234); (try clear e234); (try clear X234)
          (try clear h234); (try clear T234); (try clear in234); (try clear Ag233); (try clear Ah233); (try clear An233); (try clear As233); (try clear Aq233); (try clear Ar233); (try clear cl233); (try clear at232); (try clear in232)
          (try clear Ag231); (try clear Ah231); (try clear An231); (try clear As231); (try clear Aq231); (try clear Ar231); (try clear cl231); (try clear f230); (try clear N226); (try clear hk226); (try clear C226); (try clear H226)
          (try clear sf229); (try clear sf228); (try clear sf227); (try clear O226); (try clear K226); (try clear q); (try clear V226); (try clear st226); (try clear W226); (try clear e226); (try clear X226); (try clear h226)
          (try clear T226); (try clear in226); (try clear Ag225); (try clear Ah225); (try clear An225); (try clear As225); (try clear Aq225); (try clear Ar225); (try clear cl225); (try clear at224); (try clear in224); (try clear Ag223)
          (try clear Ah223); (try clear An223); (try clear As223); (try clear Aq223); (try clear Ar223); (try clear cl223); (try clear f222); (try clear V218); (try clear hk218); (try clear C218); (try clear H218); (try clear sf221)
          (try clear sf220); (try clear sf219); (try clear O218); (try clear K218); (try clear sn218); (try clear ge218); (try clear sz218); (try clear g218); (try clear b218); (try clear st218); (try clear A218); (try clear E218)
          (try clear e218); (try clear X218); (try clear k218); (try clear h218); (try clear T218); (try clear F215_value); (try clear F215_coder); (try clear hk215); (try clear C215); (try clear H215); (try clear sf217); (try clear sf216)
          (try clear O215); (try clear K215); (try clear sn215); (try clear st215); (try clear D215); (try clear A215); (try clear E215); (try clear e215); (try clear X215); (try clear h215); (try clear T215); (try clear lt168)
          (try clear lt167); (try clear lt166); (try clear lt165); (try clear f164); (try clear f163); (try clear f162); (try clear f161); (try clear f160); (try clear f159); (try clear N157); (try clear hk157); (try clear C157)
          (try clear H157); (try clear sf158); (try clear O157); (try clear K157); (try clear V157); (try clear e157); (try clear X157); (try clear h157); (try clear T157)
          show Go p.tables e below Kx T242 (mkF m 433 #[.val (.int p0), .val (.int p1), .val (.long p2), .second, .val (.int zc), .val (.int mk), .val (.ref b125), .val (.int sel), .val (.int (2 : Int32)), .val (.ref b215), .unset, .unset, .unset] [])
          refine s_aload (pc' := 435) X242.here hx (hb hby at_433) rfl rfl rfl ?_
          obtain ⟨_, _, ⟨T259, L259, k259, n259⟩, -, X259, ⟨Lc259, hQ259, l259, y259, z259⟩, st259⟩ := Jvm.LawKit.callS X242 hx (y := (⟨"com/example/syndica/syndica/InterestBasis", "of", "(Ljava/lang/String;)Ljava/util/Optional;"⟩ : MethodName)) hown (mvT hZ (hw _ (List.mem_of_getElem? (i := 34) rfl))) (mvT hZ (hw _ (List.mem_of_getElem? (i := 35) rfl))) (mvT hZ (hw _ (List.mem_of_getElem? (i := 36) rfl))) (mvT hZ (hw _ (List.mem_of_getElem? (i := 37) rfl))) (by decide) (backOf (W := 0) (rmF l Z a0 hw [] va dA dB dC tA tB tC eo kv b215 _ [r127, r131] T242.heap n0 O242 EN G1 S1 P1 St242) hZ (hw _ (List.mem_of_getElem? (i := 37) rfl)) (hw _ (List.mem_of_getElem? (i := 36) rfl)) (by decide) (by decide)) (g := (mkF m 435 #[.val (.int p0), .val (.int p1), .val (.long p2), .second, .val (.int zc), .val (.int mk), .val (.ref b125), .val (.int sel), .val (.int (2 : Int32)), .val (.ref b215), .unset, .unset, .unset] [(.ref b215)])) rfl (by rw [hml]; rfl) (argsL := [(.ref b215)]) (rest := []) (lenOf pd_9 rfl) rfl (by show 2 * 0 + _ ≤ _; exact Nat.le_of_eq rfl) (hb hby at_435) (fun _ _ => ⟨rfl, rfl, (by decide : 4 + 2 ≤ _), (by decide : 16 + 4 ≤ _)⟩)
          dsimp only [Pt.U, Pt.locs, Pt.cells, Pt.slots] at X259 l259 y259 z259 st259 hQ259
          rw [l259, y259, z259] at X259
          obtain ⟨o259, wv259, rfl, Nq259, Kq259, q1_259, q2_259, hw259⟩ := hQ259
          rcases hw259 with ⟨rfl, hs259⟩ | ⟨rfl, hs259⟩ | ⟨rfl, hs259⟩ | ⟨rfl, hA259, hB259, hC259⟩
          · skip
            exact absurd (congrArg List.length hs259) (show ¬ (3 = 2) by decide)
          · skip
            exact absurd (congrArg List.length hs259) (show ¬ (3 = 2) by decide)
          · skip
            exact absurd (congrArg List.length hs259) (show ¬ (7 = 2) by decide)
          · skip
            have N259 := Fr.app N242 Nq259
            have K259 : Keep h0 T259.heap [] := K242.trans Kq259 all0
            have O259 : Old Z n0 T259.heap := O242.keep Kq259 all0
            have sf260 : Safe Z consts_1 s.vm T259.heap b125 := (Safe.keep Kq259 sf0 H242 sf243)
            have sf261 : Safe Z consts_1 s.vm T259.heap b215 := (Safe.keep Kq259 sf0 H242 sf244)
            have H259 : CHv Z consts_1 s.vm T259.heap := H242.keep Kq259 sf0
            have C259 : CHr Z consts_1 s.vm h0 s.vm T259.heap := C242.trans (CHr.keep Kq259 sf0 H242)
            have hk259 := Nat.le_trans hk242 Kq259.1
            refine Go.st st259 ?_
            show Go p.tables e below Kx T259 (mkF m 438 #[.val (.int p0), .val (.int p1), .val (.long p2), .second, .val (.int zc), .val (.int mk), .val (.ref b125), .val (.int sel), .val (.int (2 : Int32)), .val (.ref b215), .unset, .unset, .unset] [(.ref o259)])
            refine s_astore (pc' := 440) (Ls' := #[.val (.int p0), .val (.int p1), .val (.long p2), .second, .val (.int zc), .val (.int mk), .val (.ref b125), .val (.int sel), .val (.int (2 : Int32)), .val (.ref b215), .val (.ref o259), .unset, .unset]) X259.here hx (hb hby at_438) rfl rfl rfl ?_
            refine s_aload (pc' := 442) X259.here hx (hb hby at_440) rfl rfl rfl ?_
            obtain ⟨cq262, kq262, q262a, q262b, q262c⟩ := isOf hZ rfl q1_259
            obtain ⟨_, _, ⟨T262, L262, k262, n262⟩, -, X262, ⟨Lc262, hQ262, l262, y262, z262⟩, st262⟩ := X259.virtualBack hx (y := (⟨"java/util/Optional", "isPresent", "()Z"⟩ : MethodName)) (z := (⟨"java/util/Optional", "isPresent", "()Z"⟩ : MethodName)) hown (mvT hZ (hw _ (List.mem_of_getElem? (i := 89) rfl))) (mvT hZ (hw _ (List.mem_of_getElem? (i := 90) rfl))) (notFace_of_selects (args := #[]) (mvT hZ (hw _ (List.mem_of_getElem? (i := 92) rfl)))) (mvT hZ (hw _ (List.mem_of_getElem? (i := 92) rfl))) (mvT hZ (hw _ (List.mem_of_getElem? (i := 91) rfl))) (by decide) (backOf (W := 0) (rmP0 l Z a0 hw [] o259 o259 T259.heap n0 O259 q2_259) hZ (hw _ (List.mem_of_getElem? (i := 93) rfl)) (hw _ (List.mem_of_getElem? (i := 40) rfl)) (by decide) (by decide)) q262a q262c (g := (mkF m 442 #[.val (.int p0), .val (.int p1), .val (.long p2), .second, .val (.int zc), .val (.int mk), .val (.ref b125), .val (.int sel), .val (.int (2 : Int32)), .val (.ref b215), .val (.ref o259), .unset, .unset] [(.ref o259)])) rfl (by rw [hml]; rfl) (Steps.refl _) (argsL := []) (rest := []) (lenOf pd_10 rfl) rfl (by show 2 * 0 + _ ≤ _; exact Nat.le_of_eq rfl) (hb hby at_442) (fun _ _ => ⟨rfl, rfl, (by decide : 6 + 0 ≤ _), (by decide : 20 + 0 ≤ _)⟩)
            dsimp only [Pt.U, Pt.locs, Pt.cells, Pt.slots] at X262 l262 y262 z262 st262 hQ262
            rw [l262, y262, z262] at X262
            obtain ⟨rfl, Nq262, hE262⟩ := hQ262
            have N262 := Fr.app N259 Nq262
            refine Go.tr st262 ?_
            show Go p.tables e below Kx T262 (mkF m 445 #[.val (.int p0), .val (.int p1), .val (.long p2), .second, .val (.int zc), .val (.int mk), .val (.ref b125), .val (.int sel), .val (.int (2 : Int32)), .val (.ref b215), .val (.ref o259), .unset, .unset] [(.int (0 : Int32))])
            refine s_ifY (pc' := 459) X262.here hx (hb hby at_445) ((if0 _ _).trans (teq (by decide)).1) (by decide) (by decide) ?_
            refine s_aconst_null (pc' := 460) X262.here hx (hb hby at_459) rfl ?_
            refine s_astore (pc' := 462) (Ls' := #[.val (.int p0), .val (.int p1), .val (.long p2), .second, .val (.int zc), .val (.int mk), .val (.ref b125), .val (.int sel), .val (.int (2 : Int32)), .val (.ref b215), .val (.ref o259), .val .null, .unset]) X262.here hx (hb hby at_460) rfl rfl rfl ?_
            have f263 : Exa Z T259.heap dA "com/example/syndica/syndica/InterestBasis" := (f246.keep Kq259)
            have f264 : Fld Z T259.heap dA "com/example/syndica/syndica/InterestBasis" "value" "Ljava/lang/String;" (.ref tA) := (f247.keep Kq259 nin0)
            have f265 : Exa Z T259.heap dB "com/example/syndica/syndica/InterestBasis" := (f248.keep Kq259)
            have f266 : Fld Z T259.heap dB "com/example/syndica/syndica/InterestBasis" "value" "Ljava/lang/String;" (.ref tB) := (f249.keep Kq259 nin0)
            have f267 : Exa Z T259.heap dC "com/example/syndica/syndica/InterestBasis" := (f250.keep Kq259)
            have f268 : Fld Z T259.heap dC "com/example/syndica/syndica/InterestBasis" "value" "Ljava/lang/String;" (.ref tC) := (f251.keep Kq259 nin0)
            have f269 : Arv Z T259.heap b125 k125 .char (8 : Int32) [(.int r127), (.int r131), (.int r135), (.int r139), (.int r143), (.int r147), (.int r151), (.int r155)] (.int (0 : Int32)) := (f252.keep Kq259 nin0)
            have lt270 : b125 < T259.heap.size := (Nat.lt_of_lt_of_le lt253 Kq259.1)
            have lt271 : dA < T259.heap.size := (Nat.lt_of_lt_of_le lt256 Kq259.1)
            have lt272 : dB < T259.heap.size := (Nat.lt_of_lt_of_le lt257 Kq259.1)
            have lt273 : dC < T259.heap.size := (Nat.lt_of_lt_of_le lt258 Kq259.1)
            (try clear Nq262); (try clear st262); (try clear z262); (try clear y262); (try clear l262); (try clear hQ262); (try clear Lc262); (try clear n262); (try clear k262); (try clear L262); (try clear q262c); (try clear q262b)
            (try clear q262a); (try clear kq262); (try clear cq262); (try clear sf261); (try clear N259); (try clear hw259); (try clear q2_259); (try clear q1_259); (try clear Kq259); (try clear Nq259); (try clear wv259); (try clear st259)
            (try clear z259); (try clear y259); (try clear l259); (try clear hQ259); (try clear Lc259); (try clear X259); (try clear n259); (try clear k259); (try clear L259); (try clear _); (try clear lt258); (try clear lt257)
            (try clear lt256); (try clear ne255); (try clear lt254); (try clear lt253); (try clear f252); (try clear f251); (try clear f250); (try clear f249); (try clear f248); (try clear f247); (try clear f246); (try clear St242)
            (try clear hk242); (try clear C242); (try clear H242); (try clear sf244); (try clear sf243); (try clear O242); (try clear K242); (try clear N242); (try clear q1_242); (try clear X242); (try clear T242); (try clear ge215)
            (try clear sz215); (try clear g215)
            show Go p.tables e below Kx T262 (mkF m 462 #[.val (.int p0), .val (.int p1), .val (.long p2), .second, .val (.int zc), .val (.int mk), .val (.ref b125), .val (.int sel), .val (.int (2 : Int32)), .val (.ref b215), .val (.ref o259), .val .null, .unset] [])
            refine s_aconst_null (pc' := 463) X262.here hx (hb hby at_462) rfl ?_
            refine s_astore (pc' := 465) (Ls' := #[.val (.int p0), .val (.int p1), .val (.long p2), .second, .val (.int zc), .val (.int mk), .val (.ref b125), .val (.int sel), .val (.int (2 : Int32)), .val (.ref b215), .val (.ref o259), .val .null, .val .null]) X262.here hx (hb hby at_463) rfl rfl rfl ?_
            refine s_iload (pc' := 467) X262.here hx (hb hby at_465) rfl rfl ?_
            refine s_iconst (pc' := 468) (v := (3 : Int32)) X262.here hx (hb hby at_467) rfl rfl ?_
            refine s_icmpY (pc' := 520) X262.here hx (hb hby at_468) (feq (by decide)).2 (by decide) (by decide) ?_
            refine s_iload (pc' := 522) X262.here hx (hb hby at_520) rfl rfl ?_
            refine s_bipush (pc' := 524) (v := (7 : Int32)) X262.here hx (hb hby at_522) rfl rfl ?_
            refine s_icmpY (pc' := 596) X262.here hx (hb hby at_524) (feq (by decide)).2 (by decide) (by decide) ?_
            refine s_aload (pc' := 598) X262.here hx (hb hby at_596) rfl rfl rfl ?_
            refine s_aload (pc' := 600) X262.here hx (hb hby at_598) rfl rfl rfl ?_
            refine Go.st (fun _ r => Jvm.RoadKit.acmp (g := (mkF m 600 #[.val (.int p0), .val (.int p1), .val (.long p2), .second, .val (.int zc), .val (.int mk), .val (.ref b125), .val (.int sel), .val (.int (2 : Int32)), .val (.ref b215), .val (.ref o259), .val .null, .val .null] [.null, .null])) X262 hx rfl rfl rfl (pc0 := 600) (pc' := 603) (same := true) rfl (hb hby at_600) rfl (decide_eq_true rfl) (by decide) (by decide) r) ?_
            show Go p.tables e below Kx T262 (mkF m 603 #[.val (.int p0), .val (.int p1), .val (.long p2), .second, .val (.int zc), .val (.int mk), .val (.ref b125), .val (.int sel), .val (.int (2 : Int32)), .val (.ref b215), .val (.ref o259), .val .null, .val .null] [])
            refine s_iconst (pc' := 604) (v := (1 : Int32)) X262.here hx (hb hby at_603) rfl rfl ?_
            refine s_goto (pc' := 608) X262.here hx (hb hby at_604) (by decide) (by decide) ?_
            obtain ⟨fs, hr, hrun, hended, hRW⟩ := X262.leaveW hS0 (by rw [hE262]; exact hk259) (v := (some (.int (1 : Int32)))) (fun h => by rw [Bd.returns] at h; cases h)
            have hCx := C259.trans (CHv.at X262 hZ hEL H259)
            refine Go.fin (retN X262 hx (t := .boolean) Bd.returns (by simp) (hb hby at_608) hr) (hF _ _ hrun hended ⟨_, _, rfl, ?_, ?_, hRW.1, hRW.2.1, hRW.2.2.1, hRW.2.2.2.mono (by decide) (by decide)⟩)
            · show QL Z p0 p1 p2 va dA dB dC tA tB tC eo kv h0 n0 ((some (.int (1 : Int32))) : Option Value) T262.heap _
              rw [hE262]
              exact ⟨rfl, N262⟩
            · show CHr Z consts_1 s.vm s.heap T262.vm T262.heap
              rw [hE262, hh]; exact hCx
        · skip
          refine s_icmpY (pc' := 340) X157.here hx (hb hby at_305) (feq hc214).2 (by decide) (by decide) ?_
          refine s_iload (pc' := 342) X157.here hx (hb hby at_340) rfl rfl ?_
          refine s_bipush (pc' := 344) (v := (6 : Int32)) X157.here hx (hb hby at_342) rfl rfl ?_
          by_cases hc274 : sel = (6 : Int32)
          · skip
            refine s_icmpN (pc' := 347) X157.here hx (hb hby at_344) rfl (teq hc274).2 ?_
            refine s_bipush (pc' := 349) (v := (8 : Int32)) X157.here hx (hb hby at_347) rfl rfl ?_
            refine s_istore (pc' := 351) (Ls' := #[.val (.int p0), .val (.int p1), .val (.long p2), .second, .val (.int zc), .val (.int mk), .val (.ref b125), .val (.int sel), .val (.int (8 : Int32)), .unset, .unset, .unset, .unset]) X157.here hx (hb hby at_349) rfl  rfl ?_
            obtain ⟨T275, h275, X275, e275, E275, A275, D275, -, st275⟩ := newO X157 hx hZ hown (hw _ (List.mem_of_getElem? (i := 5) rfl)) (hw _ (List.mem_of_getElem? (i := 6) rfl)) (hw _ (List.mem_of_getElem? (i := 7) rfl)) e157 (g := (mkF m 351 #[.val (.int p0), .val (.int p1), .val (.long p2), .second, .val (.int zc), .val (.int mk), .val (.ref b125), .val (.int sel), .val (.int (8 : Int32)), .unset, .unset, .unset, .unset] [])) rfl (hb hby at_351) (by decide) (by decide)
            obtain ⟨b275, g275⟩ : ∃ z, z = h157.size := ⟨_, rfl⟩
            rw [← g275] at A275 D275 st275
            have sz275 : h0.size ≤ b275 := Nat.le_trans K157.1 (Nat.le_of_eq g275.symm)
            have ge275 : n0 ≤ b275 := Nat.le_trans (O157.1 ▸ O157.2.1) (Nat.le_of_eq g275.symm)
            have sn275 : Safe Z consts_1 s.vm h157 b275 := Safe.new (Nat.le_of_eq g275.symm)
            have K275 : Keep h0 h275 [] := K157.ext E275
            have O275 : Old Z n0 h275 := O157.ext E275
            have sf276 : Safe Z consts_1 s.vm h275 b125 := (Safe.ext E275 H157 sf158)
            have sf277 : Safe Z consts_1 s.vm h275 b275 := (Safe.ext E275 H157 sn275)
            have H275 : CHv Z consts_1 s.vm h275 := H157.ext E275
            have C275 : CHr Z consts_1 s.vm h0 s.vm h275 := C157.trans (CHr.ext E275 H157)
            have hk275 := Nat.le_trans hk157 E275.1
            have F275_coder : Fld Z h275 b275 "java/lang/String" "coder" "B" (.int (0 : Int32)) := D275 (Or.inr (hw _ (List.mem_of_getElem? (i := 31) rfl))) (ty := .byte) (by decide)
            have F275_value : Fld Z h275 b275 "java/lang/String" "value" "[B" .null := D275 (Or.inr (hw _ (List.mem_of_getElem? (i := 33) rfl))) (ty := (.array .byte)) (by decide)
            refine Go.st st275 ?_
            show Go p.tables e below Kx T275 (mkF m 354 #[.val (.int p0), .val (.int p1), .val (.long p2), .second, .val (.int zc), .val (.int mk), .val (.ref b125), .val (.int sel), .val (.int (8 : Int32)), .unset, .unset, .unset, .unset] [(.ref b275)])
            refine s_dup (pc' := 355) X275.here hx (hb hby at_354) rfl rfl ?_
            refine s_bipush (pc' := 357) (v := (8 : Int32)) X275.here hx (hb hby at_355) rfl rfl ?_
            obtain ⟨T278, h278, k278, X278, e278, E278, A278, st278⟩ := newP X275 hx hZ (hw _ (List.mem_of_getElem? (i := 0) rfl)) e275 (g := (mkF m 357 #[.val (.int p0), .val (.int p1), .val (.long p2), .second, .val (.int zc), .val (.int mk), .val (.ref b125), .val (.int sel), .val (.int (8 : Int32)), .unset, .unset, .unset, .unset] [(.int (8 : Int32)), (.ref b275), (.ref b275)])) rfl (hb hby at_357) rfl (by decide) (cap := 8) (by decide) (by decide) (by decide) (by decide)
            obtain ⟨b278, g278⟩ : ∃ z, z = h275.size := ⟨_, rfl⟩
            rw [← g278] at A278 st278
            have sz278 : h0.size ≤ b278 := Nat.le_trans K275.1 (Nat.le_of_eq g278.symm)
            have ge278 : n0 ≤ b278 := Nat.le_trans (O275.1 ▸ O275.2.1) (Nat.le_of_eq g278.symm)
            have sn278 : Safe Z consts_1 s.vm h275 b278 := Safe.new (Nat.le_of_eq g278.symm)
            have K278 : Keep h0 h278 [] := K275.ext E278
            have O278 : Old Z n0 h278 := O275.ext E278
            have sf279 : Safe Z consts_1 s.vm h278 b125 := (Safe.ext E278 H275 sf276)
            have sf280 : Safe Z consts_1 s.vm h278 b275 := (Safe.ext E278 H275 sf277)
            have sf281 : Safe Z consts_1 s.vm h278 b278 := (Safe.ext E278 H275 sn278)
            have H278 : CHv Z consts_1 s.vm h278 := H275.ext E278
            have C278 : CHr Z consts_1 s.vm h0 s.vm h278 := C275.trans (CHr.ext E278 H275)
            have hk278 := Nat.le_trans hk275 E278.1
            have V278 : Arv Z h278 b278 k278 .char (8 : Int32) [(.int (0 : Int32)), (.int (0 : Int32)), (.int (0 : Int32)), (.int (0 : Int32)), (.int (0 : Int32)), (.int (0 : Int32)), (.int (0 : Int32)), (.int (0 : Int32))] (.int (0 : Int32)) := (Arv.new A278 (by decide)).pad (pad_rep [] (.int (0 : Int32)) 8)
            refine Go.st st278 ?_
            show Go p.tables e below Kx T278 (mkF m 359 #[.val (.int p0), .val (.int p1), .val (.long p2), .second, .val (.int zc), .val (.int mk), .val (.ref b125), .val (.int sel), .val (.int (8 : Int32)), .unset, .unset, .unset, .unset] [(.ref b278), (.ref b275), (.ref b275)])
            refine s_dup (pc' := 360) X278.here hx (hb hby at_359) rfl rfl ?_
            refine s_iconst (pc' := 361) (v := (0 : Int32)) X278.here hx (hb hby at_360) rfl rfl ?_
            refine s_aload (pc' := 363) X278.here hx (hb hby at_361) rfl rfl rfl ?_
            refine s_iconst (pc' := 364) (v := (0 : Int32)) X278.here hx (hb hby at_363) rfl rfl ?_
            have f282 : Arv Z h278 b125 k125 .char (8 : Int32) [(.int r127), (.int r131), (.int r135), (.int r139), (.int r143), (.int r147), (.int r151), (.int r155)] (.int (0 : Int32)) := ((V157.ext E275).ext E278)
            obtain ⟨cl283, Ar283, Aq283, As283, An283, Ah283, Ag283⟩ := id f282
            have in284 := inb_of (j := (0 : Int32)) As283 (by decide)
            have at284 : cl283.slots[((0 : Int32)).toNatClampNeg]? = some (.int r127) := Ah283.at in284 rfl
            refine Go.st (X278.caload hx (j := (0 : Int32)) (v := (.int r127)) (by rw [e278]; exact Ar283.1) (State.isArrayOf_alike hZ.alike Ar283.2.1) Ar283.2.2 in284 at284 (g := (mkF m 364 #[.val (.int p0), .val (.int p1), .val (.long p2), .second, .val (.int zc), .val (.int mk), .val (.ref b125), .val (.int sel), .val (.int (8 : Int32)), .unset, .unset, .unset, .unset] [(.int (0 : Int32)), (.ref b125), (.int (0 : Int32)), (.ref b278), (.ref b278), (.ref b275), (.ref b275)])) rfl rfl (hb hby at_364)) ?_
            show Go p.tables e below Kx T278 (mkF m 365 #[.val (.int p0), .val (.int p1), .val (.long p2), .second, .val (.int zc), .val (.int mk), .val (.ref b125), .val (.int sel), .val (.int (8 : Int32)), .unset, .unset, .unset, .unset] [(.int r127), (.int (0 : Int32)), (.ref b278), (.ref b278), (.ref b275), (.ref b275)])
            obtain ⟨cl285, Ar285, Aq285, As285, An285, Ah285, Ag285⟩ := id V278
            have in286 := inb_of (j := (0 : Int32)) As285 (by decide)
            obtain ⟨T286, h286, X286, e286, W286, st286⟩ := stC X278 hx hZ e278 Ar285 (j := (0 : Int32)) in286 (g := (mkF m 365 #[.val (.int p0), .val (.int p1), .val (.long p2), .second, .val (.int zc), .val (.int mk), .val (.ref b125), .val (.int sel), .val (.int (8 : Int32)), .unset, .unset, .unset, .unset] [(.int r127), (.int (0 : Int32)), (.ref b278), (.ref b278), (.ref b275), (.ref b275)])) rfl rfl (hb hby at_365)
            have V286 : Arv Z h286 b278 k278 .char (8 : Int32) [(.int r127), (.int (0 : Int32)), (.int (0 : Int32)), (.int (0 : Int32)), (.int (0 : Int32)), (.int (0 : Int32)), (.int (0 : Int32)), (.int (0 : Int32))] (.int (0 : Int32)) := by
              have q := Arv.set Ar285 Aq285 As285 An285 Ah285 Ag285 (fits_nar_char _) W286 0 rfl (Nat.le_of_ble_eq_true rfl)
              rw [chr_nar hr127] at q; exact q
            have K286 : Keep h0 h286 [] := K278.wr W286 (Or.inr sz278)
            have O286 : Old Z n0 h286 := O278.wr W286 ge278
            have sf287 : Safe Z consts_1 s.vm h286 b125 := (Safe.wr W286 sf281 H278 sf279)
            have sf288 : Safe Z consts_1 s.vm h286 b275 := (Safe.wr W286 sf281 H278 sf280)
            have sf289 : Safe Z consts_1 s.vm h286 b278 := (Safe.wr W286 sf281 H278 sf281)
            have H286 : CHv Z consts_1 s.vm h286 := H278.wr W286 sf281
            have C286 : CHr Z consts_1 s.vm h0 s.vm h286 := C278.trans (CHr.wr W286 sf281 H278)
            have hk286 := Nat.le_trans hk278 (Nat.le_of_eq W286.size.symm)
            have N286 := Fr.snoc X286 N157 ge278
            refine Go.st st286 ?_
            show Go p.tables e below Kx T286 (mkF m 366 #[.val (.int p0), .val (.int p1), .val (.long p2), .second, .val (.int zc), .val (.int mk), .val (.ref b125), .val (.int sel), .val (.int (8 : Int32)), .unset, .unset, .unset, .unset] [(.ref b278), (.ref b275), (.ref b275)])
            refine s_dup (pc' := 367) X286.here hx (hb hby at_366) rfl rfl ?_
            refine s_iconst (pc' := 368) (v := (1 : Int32)) X286.here hx (hb hby at_367) rfl rfl ?_
            refine s_aload (pc' := 370) X286.here hx (hb hby at_368) rfl rfl rfl ?_
            refine s_iconst (pc' := 371) (v := (1 : Int32)) X286.here hx (hb hby at_370) rfl rfl ?_
            have f290 : Arv Z h286 b125 k125 .char (8 : Int32) [(.int r127), (.int r131), (.int r135), (.int r139), (.int r143), (.int r147), (.int r151), (.int r155)] (.int (0 : Int32)) := (f282.other W286 (Nat.ne_of_lt (Nat.lt_of_lt_of_le (Nat.lt_of_lt_of_le lt165 E275.1) (Nat.le_of_eq g278.symm))))
            obtain ⟨cl291, Ar291, Aq291, As291, An291, Ah291, Ag291⟩ := id f290
            have in292 := inb_of (j := (1 : Int32)) As291 (by decide)
            have at292 : cl291.slots[((1 : Int32)).toNatClampNeg]? = some (.int r131) := Ah291.at in292 rfl
            refine Go.st (X286.caload hx (j := (1 : Int32)) (v := (.int r131)) (by rw [e286]; exact Ar291.1) (State.isArrayOf_alike hZ.alike Ar291.2.1) Ar291.2.2 in292 at292 (g := (mkF m 371 #[.val (.int p0), .val (.int p1), .val (.long p2), .second, .val (.int zc), .val (.int mk), .val (.ref b125), .val (.int sel), .val (.int (8 : Int32)), .unset, .unset, .unset, .unset] [(.int (1 : Int32)), (.ref b125), (.int (1 : Int32)), (.ref b278), (.ref b278), (.ref b275), (.ref b275)])) rfl rfl (hb hby at_371)) ?_
            show Go p.tables e below Kx T286 (mkF m 372 #[.val (.int p0), .val (.int p1), .val (.long p2), .second, .val (.int zc), .val (.int mk), .val (.ref b125), .val (.int sel), .val (.int (8 : Int32)), .unset, .unset, .unset, .unset] [(.int r131), (.int (1 : Int32)), (.ref b278), (.ref b278), (.ref b275), (.ref b275)])
            obtain ⟨cl293, Ar293, Aq293, As293, An293, Ah293, Ag293⟩ := id V286
            have in294 := inb_of (j := (1 : Int32)) As293 (by decide)
            obtain ⟨T294, h294, X294, e294, W294, st294⟩ := stC X286 hx hZ e286 Ar293 (j := (1 : Int32)) in294 (g := (mkF m 372 #[.val (.int p0), .val (.int p1), .val (.long p2), .second, .val (.int zc), .val (.int mk), .val (.ref b125), .val (.int sel), .val (.int (8 : Int32)), .unset, .unset, .unset, .unset] [(.int r131), (.int (1 : Int32)), (.ref b278), (.ref b278), (.ref b275), (.ref b275)])) rfl rfl (hb hby at_372)
            have V294 : Arv Z h294 b278 k278 .char (8 : Int32) [(.int r127), (.int r131), (.int (0 : Int32)), (.int (0 : Int32)), (.int (0 : Int32)), (.int (0 : Int32)), (.int (0 : Int32)), (.int (0 : Int32))] (.int (0 : Int32)) := by
              have q := Arv.set Ar293 Aq293 As293 An293 Ah293 Ag293 (fits_nar_char _) W294 1 rfl (Nat.le_of_ble_eq_true rfl)
              rw [chr_nar hr131] at q; exact q
            have K294 : Keep h0 h294 [] := K286.wr W294 (Or.inr sz278)
            have O294 : Old Z n0 h294 := O286.wr W294 ge278
            have sf295 : Safe Z consts_1 s.vm h294 b125 := (Safe.wr W294 sf289 H286 sf287)
            have sf296 : Safe Z consts_1 s.vm h294 b275 := (Safe.wr W294 sf289 H286 sf288)
            have sf297 : Safe Z consts_1 s.vm h294 b278 := (Safe.wr W294 sf289 H286 sf289)
            have H294 : CHv Z consts_1 s.vm h294 := H286.wr W294 sf289
            have C294 : CHr Z consts_1 s.vm h0 s.vm h294 := C286.trans (CHr.wr W294 sf289 H286)
            have hk294 := Nat.le_trans hk286 (Nat.le_of_eq W294.size.symm)
            have N294 := Fr.snoc X294 N286 ge278
            refine Go.st st294 ?_
            show Go p.tables e below Kx T294 (mkF m 373 #[.val (.int p0), .val (.int p1), .val (.long p2), .second, .val (.int zc), .val (.int mk), .val (.ref b125), .val (.int sel), .val (.int (8 : Int32)), .unset, .unset, .unset, .unset] [(.ref b278), (.ref b275), (.ref b275)])
            refine s_dup (pc' := 374) X294.here hx (hb hby at_373) rfl rfl ?_
            refine s_iconst (pc' := 375) (v := (2 : Int32)) X294.here hx (hb hby at_374) rfl rfl ?_
            refine s_aload (pc' := 377) X294.here hx (hb hby at_375) rfl rfl rfl ?_
            refine s_iconst (pc' := 378) (v := (2 : Int32)) X294.here hx (hb hby at_377) rfl rfl ?_
            have f298 : Arv Z h294 b125 k125 .char (8 : Int32) [(.int r127), (.int r131), (.int r135), (.int r139), (.int r143), (.int r147), (.int r151), (.int r155)] (.int (0 : Int32)) := (f290.other W294 (Nat.ne_of_lt (Nat.lt_of_lt_of_le (Nat.lt_of_lt_of_le lt165 E275.1) (Nat.le_of_eq g278.symm))))
            obtain ⟨cl299, Ar299, Aq299, As299, An299, Ah299, Ag299⟩ := id f298
            have in300 := inb_of (j := (2 : Int32)) As299 (by decide)
            have at300 : cl299.slots[((2 : Int32)).toNatClampNeg]? = some (.int r135) := Ah299.at in300 rfl
            refine Go.st (X294.caload hx (j := (2 : Int32)) (v := (.int r135)) (by rw [e294]; exact Ar299.1) (State.isArrayOf_alike hZ.alike Ar299.2.1) Ar299.2.2 in300 at300 (g := (mkF m 378 #[.val (.int p0), .val (.int p1), .val (.long p2), .second, .val (.int zc), .val (.int mk), .val (.ref b125), .val (.int sel), .val (.int (8 : Int32)), .unset, .unset, .unset, .unset] [(.int (2 : Int32)), (.ref b125), (.int (2 : Int32)), (.ref b278), (.ref b278), (.ref b275), (.ref b275)])) rfl rfl (hb hby at_378)) ?_
            show Go p.tables e below Kx T294 (mkF m 379 #[.val (.int p0), .val (.int p1), .val (.long p2), .second, .val (.int zc), .val (.int mk), .val (.ref b125), .val (.int sel), .val (.int (8 : Int32)), .unset, .unset, .unset, .unset] [(.int r135), (.int (2 : Int32)), (.ref b278), (.ref b278), (.ref b275), (.ref b275)])
            obtain ⟨cl301, Ar301, Aq301, As301, An301, Ah301, Ag301⟩ := id V294
            have in302 := inb_of (j := (2 : Int32)) As301 (by decide)
            obtain ⟨T302, h302, X302, e302, W302, st302⟩ := stC X294 hx hZ e294 Ar301 (j := (2 : Int32)) in302 (g := (mkF m 379 #[.val (.int p0), .val (.int p1), .val (.long p2), .second, .val (.int zc), .val (.int mk), .val (.ref b125), .val (.int sel), .val (.int (8 : Int32)), .unset, .unset, .unset, .unset] [(.int r135), (.int (2 : Int32)), (.ref b278), (.ref b278), (.ref b275), (.ref b275)])) rfl rfl (hb hby at_379)
            have V302 : Arv Z h302 b278 k278 .char (8 : Int32) [(.int r127), (.int r131), (.int r135), (.int (0 : Int32)), (.int (0 : Int32)), (.int (0 : Int32)), (.int (0 : Int32)), (.int (0 : Int32))] (.int (0 : Int32)) := by
              have q := Arv.set Ar301 Aq301 As301 An301 Ah301 Ag301 (fits_nar_char _) W302 2 rfl (Nat.le_of_ble_eq_true rfl)
              rw [chr_nar hr135] at q; exact q
            have K302 : Keep h0 h302 [] := K294.wr W302 (Or.inr sz278)
            have O302 : Old Z n0 h302 := O294.wr W302 ge278
            have sf303 : Safe Z consts_1 s.vm h302 b125 := (Safe.wr W302 sf297 H294 sf295)
            have sf304 : Safe Z consts_1 s.vm h302 b275 := (Safe.wr W302 sf297 H294 sf296)
            have sf305 : Safe Z consts_1 s.vm h302 b278 := (Safe.wr W302 sf297 H294 sf297)
            have H302 : CHv Z consts_1 s.vm h302 := H294.wr W302 sf297
            have C302 : CHr Z consts_1 s.vm h0 s.vm h302 := C294.trans (CHr.wr W302 sf297 H294)
            have hk302 := Nat.le_trans hk294 (Nat.le_of_eq W302.size.symm)
            have N302 := Fr.snoc X302 N294 ge278
            refine Go.st st302 ?_
            show Go p.tables e below Kx T302 (mkF m 380 #[.val (.int p0), .val (.int p1), .val (.long p2), .second, .val (.int zc), .val (.int mk), .val (.ref b125), .val (.int sel), .val (.int (8 : Int32)), .unset, .unset, .unset, .unset] [(.ref b278), (.ref b275), (.ref b275)])
            refine s_dup (pc' := 381) X302.here hx (hb hby at_380) rfl rfl ?_
            refine s_iconst (pc' := 382) (v := (3 : Int32)) X302.here hx (hb hby at_381) rfl rfl ?_
            refine s_aload (pc' := 384) X302.here hx (hb hby at_382) rfl rfl rfl ?_
            refine s_iconst (pc' := 385) (v := (3 : Int32)) X302.here hx (hb hby at_384) rfl rfl ?_
            have f306 : Arv Z h302 b125 k125 .char (8 : Int32) [(.int r127), (.int r131), (.int r135), (.int r139), (.int r143), (.int r147), (.int r151), (.int r155)] (.int (0 : Int32)) := (f298.other W302 (Nat.ne_of_lt (Nat.lt_of_lt_of_le (Nat.lt_of_lt_of_le lt165 E275.1) (Nat.le_of_eq g278.symm))))
            obtain ⟨cl307, Ar307, Aq307, As307, An307, Ah307, Ag307⟩ := id f306
            have in308 := inb_of (j := (3 : Int32)) As307 (by decide)
            have at308 : cl307.slots[((3 : Int32)).toNatClampNeg]? = some (.int r139) := Ah307.at in308 rfl
            refine Go.st (X302.caload hx (j := (3 : Int32)) (v := (.int r139)) (by rw [e302]; exact Ar307.1) (State.isArrayOf_alike hZ.alike Ar307.2.1) Ar307.2.2 in308 at308 (g := (mkF m 385 #[.val (.int p0), .val (.int p1), .val (.long p2), .second, .val (.int zc), .val (.int mk), .val (.ref b125), .val (.int sel), .val (.int (8 : Int32)), .unset, .unset, .unset, .unset] [(.int (3 : Int32)), (.ref b125), (.int (3 : Int32)), (.ref b278), (.ref b278), (.ref b275), (.ref b275)])) rfl rfl (hb hby at_385)) ?_
            show Go p.tables e below Kx T302 (mkF m 386 #[.val (.int p0), .val (.int p1), .val (.long p2), .second, .val (.int zc), .val (.int mk), .val (.ref b125), .val (.int sel), .val (.int (8 : Int32)), .unset, .unset, .unset, .unset] [(.int r139), (.int (3 : Int32)), (.ref b278), (.ref b278), (.ref b275), (.ref b275)])
            obtain ⟨cl309, Ar309, Aq309, As309, An309, Ah309, Ag309⟩ := id V302
            have in310 := inb_of (j := (3 : Int32)) As309 (by decide)
            obtain ⟨T310, h310, X310, e310, W310, st310⟩ := stC X302 hx hZ e302 Ar309 (j := (3 : Int32)) in310 (g := (mkF m 386 #[.val (.int p0), .val (.int p1), .val (.long p2), .second, .val (.int zc), .val (.int mk), .val (.ref b125), .val (.int sel), .val (.int (8 : Int32)), .unset, .unset, .unset, .unset] [(.int r139), (.int (3 : Int32)), (.ref b278), (.ref b278), (.ref b275), (.ref b275)])) rfl rfl (hb hby at_386)
            have V310 : Arv Z h310 b278 k278 .char (8 : Int32) [(.int r127), (.int r131), (.int r135), (.int r139), (.int (0 : Int32)), (.int (0 : Int32)), (.int (0 : Int32)), (.int (0 : Int32))] (.int (0 : Int32)) := by
              have q := Arv.set Ar309 Aq309 As309 An309 Ah309 Ag309 (fits_nar_char _) W310 3 rfl (Nat.le_of_ble_eq_true rfl)
              rw [chr_nar hr139] at q; exact q
            have K310 : Keep h0 h310 [] := K302.wr W310 (Or.inr sz278)
            have O310 : Old Z n0 h310 := O302.wr W310 ge278
            have sf311 : Safe Z consts_1 s.vm h310 b125 := (Safe.wr W310 sf305 H302 sf303)
            have sf312 : Safe Z consts_1 s.vm h310 b275 := (Safe.wr W310 sf305 H302 sf304)
            have sf313 : Safe Z consts_1 s.vm h310 b278 := (Safe.wr W310 sf305 H302 sf305)
            have H310 : CHv Z consts_1 s.vm h310 := H302.wr W310 sf305
            have C310 : CHr Z consts_1 s.vm h0 s.vm h310 := C302.trans (CHr.wr W310 sf305 H302)
            have hk310 := Nat.le_trans hk302 (Nat.le_of_eq W310.size.symm)
            have N310 := Fr.snoc X310 N302 ge278
            refine Go.st st310 ?_
            show Go p.tables e below Kx T310 (mkF m 387 #[.val (.int p0), .val (.int p1), .val (.long p2), .second, .val (.int zc), .val (.int mk), .val (.ref b125), .val (.int sel), .val (.int (8 : Int32)), .unset, .unset, .unset, .unset] [(.ref b278), (.ref b275), (.ref b275)])
            refine s_dup (pc' := 388) X310.here hx (hb hby at_387) rfl rfl ?_
            refine s_iconst (pc' := 389) (v := (4 : Int32)) X310.here hx (hb hby at_388) rfl rfl ?_
            refine s_aload (pc' := 391) X310.here hx (hb hby at_389) rfl rfl rfl ?_
            refine s_iconst (pc' := 392) (v := (4 : Int32)) X310.here hx (hb hby at_391) rfl rfl ?_
            have f314 : Arv Z h310 b125 k125 .char (8 : Int32) [(.int r127), (.int r131), (.int r135), (.int r139), (.int r143), (.int r147), (.int r151), (.int r155)] (.int (0 : Int32)) := (f306.other W310 (Nat.ne_of_lt (Nat.lt_of_lt_of_le (Nat.lt_of_lt_of_le lt165 E275.1) (Nat.le_of_eq g278.symm))))
            obtain ⟨cl315, Ar315, Aq315, As315, An315, Ah315, Ag315⟩ := id f314
            have in316 := inb_of (j := (4 : Int32)) As315 (by decide)
            have at316 : cl315.slots[((4 : Int32)).toNatClampNeg]? = some (.int r143) := Ah315.at in316 rfl
            refine Go.st (X310.caload hx (j := (4 : Int32)) (v := (.int r143)) (by rw [e310]; exact Ar315.1) (State.isArrayOf_alike hZ.alike Ar315.2.1) Ar315.2.2 in316 at316 (g := (mkF m 392 #[.val (.int p0), .val (.int p1), .val (.long p2), .second, .val (.int zc), .val (.int mk), .val (.ref b125), .val (.int sel), .val (.int (8 : Int32)), .unset, .unset, .unset, .unset] [(.int (4 : Int32)), (.ref b125), (.int (4 : Int32)), (.ref b278), (.ref b278), (.ref b275), (.ref b275)])) rfl rfl (hb hby at_392)) ?_
            show Go p.tables e below Kx T310 (mkF m 393 #[.val (.int p0), .val (.int p1), .val (.long p2), .second, .val (.int zc), .val (.int mk), .val (.ref b125), .val (.int sel), .val (.int (8 : Int32)), .unset, .unset, .unset, .unset] [(.int r143), (.int (4 : Int32)), (.ref b278), (.ref b278), (.ref b275), (.ref b275)])
            obtain ⟨cl317, Ar317, Aq317, As317, An317, Ah317, Ag317⟩ := id V310
            have in318 := inb_of (j := (4 : Int32)) As317 (by decide)
            obtain ⟨T318, h318, X318, e318, W318, st318⟩ := stC X310 hx hZ e310 Ar317 (j := (4 : Int32)) in318 (g := (mkF m 393 #[.val (.int p0), .val (.int p1), .val (.long p2), .second, .val (.int zc), .val (.int mk), .val (.ref b125), .val (.int sel), .val (.int (8 : Int32)), .unset, .unset, .unset, .unset] [(.int r143), (.int (4 : Int32)), (.ref b278), (.ref b278), (.ref b275), (.ref b275)])) rfl rfl (hb hby at_393)
            have V318 : Arv Z h318 b278 k278 .char (8 : Int32) [(.int r127), (.int r131), (.int r135), (.int r139), (.int r143), (.int (0 : Int32)), (.int (0 : Int32)), (.int (0 : Int32))] (.int (0 : Int32)) := by
              have q := Arv.set Ar317 Aq317 As317 An317 Ah317 Ag317 (fits_nar_char _) W318 4 rfl (Nat.le_of_ble_eq_true rfl)
              rw [chr_nar hr143] at q; exact q
            have K318 : Keep h0 h318 [] := K310.wr W318 (Or.inr sz278)
            have O318 : Old Z n0 h318 := O310.wr W318 ge278
            have sf319 : Safe Z consts_1 s.vm h318 b125 := (Safe.wr W318 sf313 H310 sf311)
            have sf320 : Safe Z consts_1 s.vm h318 b275 := (Safe.wr W318 sf313 H310 sf312)
            have sf321 : Safe Z consts_1 s.vm h318 b278 := (Safe.wr W318 sf313 H310 sf313)
            have H318 : CHv Z consts_1 s.vm h318 := H310.wr W318 sf313
            have C318 : CHr Z consts_1 s.vm h0 s.vm h318 := C310.trans (CHr.wr W318 sf313 H310)
            have hk318 := Nat.le_trans hk310 (Nat.le_of_eq W318.size.symm)
            have N318 := Fr.snoc X318 N310 ge278
            refine Go.st st318 ?_
            show Go p.tables e below Kx T318 (mkF m 394 #[.val (.int p0), .val (.int p1), .val (.long p2), .second, .val (.int zc), .val (.int mk), .val (.ref b125), .val (.int sel), .val (.int (8 : Int32)), .unset, .unset, .unset, .unset] [(.ref b278), (.ref b275), (.ref b275)])
            refine s_dup (pc' := 395) X318.here hx (hb hby at_394) rfl rfl ?_
            refine s_iconst (pc' := 396) (v := (5 : Int32)) X318.here hx (hb hby at_395) rfl rfl ?_
            refine s_aload (pc' := 398) X318.here hx (hb hby at_396) rfl rfl rfl ?_
            refine s_iconst (pc' := 399) (v := (5 : Int32)) X318.here hx (hb hby at_398) rfl rfl ?_
            have f322 : Arv Z h318 b125 k125 .char (8 : Int32) [(.int r127), (.int r131), (.int r135), (.int r139), (.int r143), (.int r147), (.int r151), (.int r155)] (.int (0 : Int32)) := (f314.other W318 (Nat.ne_of_lt (Nat.lt_of_lt_of_le (Nat.lt_of_lt_of_le lt165 E275.1) (Nat.le_of_eq g278.symm))))
            obtain ⟨cl323, Ar323, Aq323, As323, An323, Ah323, Ag323⟩ := id f322
            have in324 := inb_of (j := (5 : Int32)) As323 (by decide)
            have at324 : cl323.slots[((5 : Int32)).toNatClampNeg]? = some (.int r147) := Ah323.at in324 rfl
            refine Go.st (X318.caload hx (j := (5 : Int32)) (v := (.int r147)) (by rw [e318]; exact Ar323.1) (State.isArrayOf_alike hZ.alike Ar323.2.1) Ar323.2.2 in324 at324 (g := (mkF m 399 #[.val (.int p0), .val (.int p1), .val (.long p2), .second, .val (.int zc), .val (.int mk), .val (.ref b125), .val (.int sel), .val (.int (8 : Int32)), .unset, .unset, .unset, .unset] [(.int (5 : Int32)), (.ref b125), (.int (5 : Int32)), (.ref b278), (.ref b278), (.ref b275), (.ref b275)])) rfl rfl (hb hby at_399)) ?_
            show Go p.tables e below Kx T318 (mkF m 400 #[.val (.int p0), .val (.int p1), .val (.long p2), .second, .val (.int zc), .val (.int mk), .val (.ref b125), .val (.int sel), .val (.int (8 : Int32)), .unset, .unset, .unset, .unset] [(.int r147), (.int (5 : Int32)), (.ref b278), (.ref b278), (.ref b275), (.ref b275)])
            obtain ⟨cl325, Ar325, Aq325, As325, An325, Ah325, Ag325⟩ := id V318
            have in326 := inb_of (j := (5 : Int32)) As325 (by decide)
            obtain ⟨T326, h326, X326, e326, W326, st326⟩ := stC X318 hx hZ e318 Ar325 (j := (5 : Int32)) in326 (g := (mkF m 400 #[.val (.int p0), .val (.int p1), .val (.long p2), .second, .val (.int zc), .val (.int mk), .val (.ref b125), .val (.int sel), .val (.int (8 : Int32)), .unset, .unset, .unset, .unset] [(.int r147), (.int (5 : Int32)), (.ref b278), (.ref b278), (.ref b275), (.ref b275)])) rfl rfl (hb hby at_400)
            have V326 : Arv Z h326 b278 k278 .char (8 : Int32) [(.int r127), (.int r131), (.int r135), (.int r139), (.int r143), (.int r147), (.int (0 : Int32)), (.int (0 : Int32))] (.int (0 : Int32)) := by
              have q := Arv.set Ar325 Aq325 As325 An325 Ah325 Ag325 (fits_nar_char _) W326 5 rfl (Nat.le_of_ble_eq_true rfl)
              rw [chr_nar hr147] at q; exact q
            have K326 : Keep h0 h326 [] := K318.wr W326 (Or.inr sz278)
            have O326 : Old Z n0 h326 := O318.wr W326 ge278
            have sf327 : Safe Z consts_1 s.vm h326 b125 := (Safe.wr W326 sf321 H318 sf319)
            have sf328 : Safe Z consts_1 s.vm h326 b275 := (Safe.wr W326 sf321 H318 sf320)
            have sf329 : Safe Z consts_1 s.vm h326 b278 := (Safe.wr W326 sf321 H318 sf321)
            have H326 : CHv Z consts_1 s.vm h326 := H318.wr W326 sf321
            have C326 : CHr Z consts_1 s.vm h0 s.vm h326 := C318.trans (CHr.wr W326 sf321 H318)
            have hk326 := Nat.le_trans hk318 (Nat.le_of_eq W326.size.symm)
            have N326 := Fr.snoc X326 N318 ge278
            refine Go.st st326 ?_
            show Go p.tables e below Kx T326 (mkF m 401 #[.val (.int p0), .val (.int p1), .val (.long p2), .second, .val (.int zc), .val (.int mk), .val (.ref b125), .val (.int sel), .val (.int (8 : Int32)), .unset, .unset, .unset, .unset] [(.ref b278), (.ref b275), (.ref b275)])
            refine s_dup (pc' := 402) X326.here hx (hb hby at_401) rfl rfl ?_
            refine s_bipush (pc' := 404) (v := (6 : Int32)) X326.here hx (hb hby at_402) rfl rfl ?_
            refine s_aload (pc' := 406) X326.here hx (hb hby at_404) rfl rfl rfl ?_
            refine s_bipush (pc' := 408) (v := (6 : Int32)) X326.here hx (hb hby at_406) rfl rfl ?_
            have f330 : Arv Z h326 b125 k125 .char (8 : Int32) [(.int r127), (.int r131), (.int r135), (.int r139), (.int r143), (.int r147), (.int r151), (.int r155)] (.int (0 : Int32)) := (f322.other W326 (Nat.ne_of_lt (Nat.lt_of_lt_of_le (Nat.lt_of_lt_of_le lt165 E275.1) (Nat.le_of_eq g278.symm))))
            obtain ⟨cl331, Ar331, Aq331, As331, An331, Ah331, Ag331⟩ := id f330
            have in332 := inb_of (j := (6 : Int32)) As331 (by decide)
            have at332 : cl331.slots[((6 : Int32)).toNatClampNeg]? = some (.int r151) := Ah331.at in332 rfl
            refine Go.st (X326.caload hx (j := (6 : Int32)) (v := (.int r151)) (by rw [e326]; exact Ar331.1) (State.isArrayOf_alike hZ.alike Ar331.2.1) Ar331.2.2 in332 at332 (g := (mkF m 408 #[.val (.int p0), .val (.int p1), .val (.long p2), .second, .val (.int zc), .val (.int mk), .val (.ref b125), .val (.int sel), .val (.int (8 : Int32)), .unset, .unset, .unset, .unset] [(.int (6 : Int32)), (.ref b125), (.int (6 : Int32)), (.ref b278), (.ref b278), (.ref b275), (.ref b275)])) rfl rfl (hb hby at_408)) ?_
            show Go p.tables e below Kx T326 (mkF m 409 #[.val (.int p0), .val (.int p1), .val (.long p2), .second, .val (.int zc), .val (.int mk), .val (.ref b125), .val (.int sel), .val (.int (8 : Int32)), .unset, .unset, .unset, .unset] [(.int r151), (.int (6 : Int32)), (.ref b278), (.ref b278), (.ref b275), (.ref b275)])
            obtain ⟨cl333, Ar333, Aq333, As333, An333, Ah333, Ag333⟩ := id V326
            have in334 := inb_of (j := (6 : Int32)) As333 (by decide)
            obtain ⟨T334, h334, X334, e334, W334, st334⟩ := stC X326 hx hZ e326 Ar333 (j := (6 : Int32)) in334 (g := (mkF m 409 #[.val (.int p0), .val (.int p1), .val (.long p2), .second, .val (.int zc), .val (.int mk), .val (.ref b125), .val (.int sel), .val (.int (8 : Int32)), .unset, .unset, .unset, .unset] [(.int r151), (.int (6 : Int32)), (.ref b278), (.ref b278), (.ref b275), (.ref b275)])) rfl rfl (hb hby at_409)
            have V334 : Arv Z h334 b278 k278 .char (8 : Int32) [(.int r127), (.int r131), (.int r135), (.int r139), (.int r143), (.int r147), (.int r151), (.int (0 : Int32))] (.int (0 : Int32)) := by
              have q := Arv.set Ar333 Aq333 As333 An333 Ah333 Ag333 (fits_nar_char _) W334 6 rfl (Nat.le_of_ble_eq_true rfl)
              rw [chr_nar hr151] at q; exact q
            have K334 : Keep h0 h334 [] := K326.wr W334 (Or.inr sz278)
            have O334 : Old Z n0 h334 := O326.wr W334 ge278
            have sf335 : Safe Z consts_1 s.vm h334 b125 := (Safe.wr W334 sf329 H326 sf327)
            have sf336 : Safe Z consts_1 s.vm h334 b275 := (Safe.wr W334 sf329 H326 sf328)
            have sf337 : Safe Z consts_1 s.vm h334 b278 := (Safe.wr W334 sf329 H326 sf329)
            have H334 : CHv Z consts_1 s.vm h334 := H326.wr W334 sf329
            have C334 : CHr Z consts_1 s.vm h0 s.vm h334 := C326.trans (CHr.wr W334 sf329 H326)
            have hk334 := Nat.le_trans hk326 (Nat.le_of_eq W334.size.symm)
            have N334 := Fr.snoc X334 N326 ge278
            refine Go.st st334 ?_
            show Go p.tables e below Kx T334 (mkF m 410 #[.val (.int p0), .val (.int p1), .val (.long p2), .second, .val (.int zc), .val (.int mk), .val (.ref b125), .val (.int sel), .val (.int (8 : Int32)), .unset, .unset, .unset, .unset] [(.ref b278), (.ref b275), (.ref b275)])
            refine s_dup (pc' := 411) X334.here hx (hb hby at_410) rfl rfl ?_
            refine s_bipush (pc' := 413) (v := (7 : Int32)) X334.here hx (hb hby at_411) rfl rfl ?_
            refine s_aload (pc' := 415) X334.here hx (hb hby at_413) rfl rfl rfl ?_
            refine s_bipush (pc' := 417) (v := (7 : Int32)) X334.here hx (hb hby at_415) rfl rfl ?_
            have f338 : Arv Z h334 b125 k125 .char (8 : Int32) [(.int r127), (.int r131), (.int r135), (.int r139), (.int r143), (.int r147), (.int r151), (.int r155)] (.int (0 : Int32)) := (f330.other W334 (Nat.ne_of_lt (Nat.lt_of_lt_of_le (Nat.lt_of_lt_of_le lt165 E275.1) (Nat.le_of_eq g278.symm))))
            obtain ⟨cl339, Ar339, Aq339, As339, An339, Ah339, Ag339⟩ := id f338
            have in340 := inb_of (j := (7 : Int32)) As339 (by decide)
            have at340 : cl339.slots[((7 : Int32)).toNatClampNeg]? = some (.int r155) := Ah339.at in340 rfl
            refine Go.st (X334.caload hx (j := (7 : Int32)) (v := (.int r155)) (by rw [e334]; exact Ar339.1) (State.isArrayOf_alike hZ.alike Ar339.2.1) Ar339.2.2 in340 at340 (g := (mkF m 417 #[.val (.int p0), .val (.int p1), .val (.long p2), .second, .val (.int zc), .val (.int mk), .val (.ref b125), .val (.int sel), .val (.int (8 : Int32)), .unset, .unset, .unset, .unset] [(.int (7 : Int32)), (.ref b125), (.int (7 : Int32)), (.ref b278), (.ref b278), (.ref b275), (.ref b275)])) rfl rfl (hb hby at_417)) ?_
            show Go p.tables e below Kx T334 (mkF m 418 #[.val (.int p0), .val (.int p1), .val (.long p2), .second, .val (.int zc), .val (.int mk), .val (.ref b125), .val (.int sel), .val (.int (8 : Int32)), .unset, .unset, .unset, .unset] [(.int r155), (.int (7 : Int32)), (.ref b278), (.ref b278), (.ref b275), (.ref b275)])
            obtain ⟨cl341, Ar341, Aq341, As341, An341, Ah341, Ag341⟩ := id V334
            have in342 := inb_of (j := (7 : Int32)) As341 (by decide)
            obtain ⟨T342, h342, X342, e342, W342, st342⟩ := stC X334 hx hZ e334 Ar341 (j := (7 : Int32)) in342 (g := (mkF m 418 #[.val (.int p0), .val (.int p1), .val (.long p2), .second, .val (.int zc), .val (.int mk), .val (.ref b125), .val (.int sel), .val (.int (8 : Int32)), .unset, .unset, .unset, .unset] [(.int r155), (.int (7 : Int32)), (.ref b278), (.ref b278), (.ref b275), (.ref b275)])) rfl rfl (hb hby at_418)
            have V342 : Arv Z h342 b278 k278 .char (8 : Int32) [(.int r127), (.int r131), (.int r135), (.int r139), (.int r143), (.int r147), (.int r151), (.int r155)] (.int (0 : Int32)) := by
              have q := Arv.set Ar341 Aq341 As341 An341 Ah341 Ag341 (fits_nar_char _) W342 7 rfl (Nat.le_of_ble_eq_true rfl)
              rw [chr_nar hr155] at q; exact q
            have K342 : Keep h0 h342 [] := K334.wr W342 (Or.inr sz278)
            have O342 : Old Z n0 h342 := O334.wr W342 ge278
            have sf343 : Safe Z consts_1 s.vm h342 b125 := (Safe.wr W342 sf337 H334 sf335)
            have sf344 : Safe Z consts_1 s.vm h342 b275 := (Safe.wr W342 sf337 H334 sf336)
            have sf345 : Safe Z consts_1 s.vm h342 b278 := (Safe.wr W342 sf337 H334 sf337)
            have H342 : CHv Z consts_1 s.vm h342 := H334.wr W342 sf337
            have C342 : CHr Z consts_1 s.vm h0 s.vm h342 := C334.trans (CHr.wr W342 sf337 H334)
            have hk342 := Nat.le_trans hk334 (Nat.le_of_eq W342.size.symm)
            have N342 := Fr.snoc X342 N334 ge278
            refine Go.st st342 ?_
            show Go p.tables e below Kx T342 (mkF m 419 #[.val (.int p0), .val (.int p1), .val (.long p2), .second, .val (.int zc), .val (.int mk), .val (.ref b125), .val (.int sel), .val (.int (8 : Int32)), .unset, .unset, .unset, .unset] [(.ref b278), (.ref b275), (.ref b275)])
            have f346 : Exa Z h342 b275 "java/lang/String" := (((((((((A275.ext E278).wr W286).wr W294).wr W302).wr W310).wr W318).wr W326).wr W334).wr W342)
            have f347 : Fld Z h342 b275 "java/lang/String" "value" "[B" .null := (((((((((F275_value.ext E278).other W286 (Or.inl (Nat.ne_of_lt (Nat.lt_of_lt_of_le A275.lt (Nat.le_of_eq g278.symm))))).other W294 (Or.inl (Nat.ne_of_lt (Nat.lt_of_lt_of_le A275.lt (Nat.le_of_eq g278.symm))))).other W302 (Or.inl (Nat.ne_of_lt (Nat.lt_of_lt_of_le A275.lt (Nat.le_of_eq g278.symm))))).other W310 (Or.inl (Nat.ne_of_lt (Nat.lt_of_lt_of_le A275.lt (Nat.le_of_eq g278.symm))))).other W318 (Or.inl (Nat.ne_of_lt (Nat.lt_of_lt_of_le A275.lt (Nat.le_of_eq g278.symm))))).other W326 (Or.inl (Nat.ne_of_lt (Nat.lt_of_lt_of_le A275.lt (Nat.le_of_eq g278.symm))))).other W334 (Or.inl (Nat.ne_of_lt (Nat.lt_of_lt_of_le A275.lt (Nat.le_of_eq g278.symm))))).other W342 (Or.inl (Nat.ne_of_lt (Nat.lt_of_lt_of_le A275.lt (Nat.le_of_eq g278.symm)))))
            have f348 : Fld Z h342 b275 "java/lang/String" "coder" "B" (.int (0 : Int32)) := (((((((((F275_coder.ext E278).other W286 (Or.inl (Nat.ne_of_lt (Nat.lt_of_lt_of_le A275.lt (Nat.le_of_eq g278.symm))))).other W294 (Or.inl (Nat.ne_of_lt (Nat.lt_of_lt_of_le A275.lt (Nat.le_of_eq g278.symm))))).other W302 (Or.inl (Nat.ne_of_lt (Nat.lt_of_lt_of_le A275.lt (Nat.le_of_eq g278.symm))))).other W310 (Or.inl (Nat.ne_of_lt (Nat.lt_of_lt_of_le A275.lt (Nat.le_of_eq g278.symm))))).other W318 (Or.inl (Nat.ne_of_lt (Nat.lt_of_lt_of_le A275.lt (Nat.le_of_eq g278.symm))))).other W326 (Or.inl (Nat.ne_of_lt (Nat.lt_of_lt_of_le A275.lt (Nat.le_of_eq g278.symm))))).other W334 (Or.inl (Nat.ne_of_lt (Nat.lt_of_lt_of_le A275.lt (Nat.le_of_eq g278.symm))))).other W342 (Or.inl (Nat.ne_of_lt (Nat.lt_of_lt_of_le A275.lt (Nat.le_of_eq g278.symm)))))
            have hp349 : ∀ c ∈ ([r127, r131, r135, r139, r143, r147, r151, r155] : List Int32), ¬ c < 0 ∧ ¬ (255 : Int32) < c := by
              intro c hc
              simp only [List.mem_cons, List.not_mem_nil, or_false] at hc
              rcases hc with rfl | rfl | rfl | rfl | rfl | rfl | rfl | rfl
              · exact hr127
              · exact hr131
              · exact hr135
              · exact hr139
              · exact hr143
              · exact hr147
              · exact hr151
              · exact hr155
            obtain ⟨_, _, ⟨T350, L350, k350, n350⟩, -, X350, ⟨Lc350, hQ350, l350, y350, z350⟩, st350⟩ := X342.specialBack hx (y := (⟨"java/lang/String", "<init>", "([C)V"⟩ : MethodName)) rfl hown (mvT hZ (hw _ (List.mem_of_getElem? (i := 8) rfl))) (mvT hZ (hw _ (List.mem_of_getElem? (i := 9) rfl))) (mvT hZ (hw _ (List.mem_of_getElem? (i := 10) rfl))) (by decide) (StrChars.Road.backV (W := 1) hZ (hwsV Z a0 hw) (kI := 4) (hw _ (List.mem_of_getElem? (i := 6) rfl)) (cs := [r127, r131, r135, r139, r143, r147, r151, r155]) (bs := ([r127, r131, r135, r139, r143, r147, r151, r155] : List Int32).map (fun c => c.toInt8.toInt32)) (n := 8) ge275 (O342.1 ▸ O342.2.1) f346 f347 f348 V342 (S1.ext O342.2) P1 rfl rfl (by decide) (by decide) hp349 rfl (by decide) (by decide)) (g := (mkF m 419 #[.val (.int p0), .val (.int p1), .val (.long p2), .second, .val (.int zc), .val (.int mk), .val (.ref b125), .val (.int sel), .val (.int (8 : Int32)), .unset, .unset, .unset, .unset] [(.ref b278), (.ref b275), (.ref b275)])) rfl (by rw [hml]; rfl) (Steps.refl _) (a := b275) (argsL := [(.ref b278)]) (rest := [(.ref b275)]) (lenOf pd_8 rfl) rfl (by show 2 * 0 + _ ≤ _; exact Nat.le_of_eq rfl) (hb hby at_419) (fun _ _ => ⟨rfl, e342, (by decide : 3 + 1 ≤ _), (by decide : 20 + 8 ≤ _)⟩)
            dsimp only [Pt.U, Pt.locs, Pt.cells, Pt.slots] at X350 l350 y350 z350 st350 hQ350
            rw [l350, y350, z350] at X350
            obtain ⟨rfl, Nq350, Kq350, q1_350, q2_350, t350, kt350, -, -, -, q3_350, q4_350⟩ := hQ350
            have N350 := Fr.app N342 Nq350
            have K350 : Keep h0 T350.heap [] := K342.trans Kq350 (allS (P := fun zz => zz ∈ [] ∨ h0.size ≤ zz) (Or.inr sz275) all0)
            have O350 : Old Z n0 T350.heap := O342.keep Kq350 (allS ge275 all0)
            have sf351 : Safe Z consts_1 s.vm T350.heap b125 := (Safe.keep Kq350 (sfS sf344 sf0) H342 sf343)
            have sf352 : Safe Z consts_1 s.vm T350.heap b275 := (Safe.keep Kq350 (sfS sf344 sf0) H342 sf344)
            have sf353 : Safe Z consts_1 s.vm T350.heap b278 := (Safe.keep Kq350 (sfS sf344 sf0) H342 sf345)
            have H350 : CHv Z consts_1 s.vm T350.heap := H342.keep Kq350 (sfS sf344 sf0)
            have C350 : CHr Z consts_1 s.vm h0 s.vm T350.heap := C342.trans (CHr.keep Kq350 (sfS sf344 sf0) H342)
            have hk350 := Nat.le_trans hk342 Kq350.1
            refine Go.tr st350 ?_
            show Go p.tables e below Kx T350 (mkF m 422 #[.val (.int p0), .val (.int p1), .val (.long p2), .second, .val (.int zc), .val (.int mk), .val (.ref b125), .val (.int sel), .val (.int (8 : Int32)), .unset, .unset, .unset, .unset] [(.ref b275)])
            have St350 : Str Z T350.heap T350.heap.size b275 [r127, r131, r135, r139, r143, r147, r151, r155] := Str.of q1_350 q2_350 q3_350 q4_350 rfl rfl hp349 (Nat.le_of_ble_eq_true rfl)
            refine s_astore (pc' := 424) (Ls' := #[.val (.int p0), .val (.int p1), .val (.long p2), .second, .val (.int zc), .val (.int mk), .val (.ref b125), .val (.int sel), .val (.int (8 : Int32)), .val (.ref b275), .unset, .unset, .unset]) X350.here hx (hb hby at_422) rfl rfl rfl ?_
            refine s_goto (pc' := 433) X350.here hx (hb hby at_424) (by decide) (by decide) ?_
            have f354 : Exa Z T350.heap dA "com/example/syndica/syndica/InterestBasis" := (((((((((((f159.ext E275).ext E278).wr W286).wr W294).wr W302).wr W310).wr W318).wr W326).wr W334).wr W342).keep Kq350)
            have f355 : Fld Z T350.heap dA "com/example/syndica/syndica/InterestBasis" "value" "Ljava/lang/String;" (.ref tA) := (((((((((((f160.ext E275).ext E278).other W286 (Or.inl (Nat.ne_of_lt (Nat.lt_of_lt_of_le (Nat.lt_of_lt_of_le lt166 E275.1) (Nat.le_of_eq g278.symm))))).other W294 (Or.inl (Nat.ne_of_lt (Nat.lt_of_lt_of_le (Nat.lt_of_lt_of_le lt166 E275.1) (Nat.le_of_eq g278.symm))))).other W302 (Or.inl (Nat.ne_of_lt (Nat.lt_of_lt_of_le (Nat.lt_of_lt_of_le lt166 E275.1) (Nat.le_of_eq g278.symm))))).other W310 (Or.inl (Nat.ne_of_lt (Nat.lt_of_lt_of_le (Nat.lt_of_lt_of_le lt166 E275.1) (Nat.le_of_eq g278.symm))))).other W318 (Or.inl (Nat.ne_of_lt (Nat.lt_of_lt_of_le (Nat.lt_of_lt_of_le lt166 E275.1) (Nat.le_of_eq g278.symm))))).other W326 (Or.inl (Nat.ne_of_lt (Nat.lt_of_lt_of_le (Nat.lt_of_lt_of_le lt166 E275.1) (Nat.le_of_eq g278.symm))))).other W334 (Or.inl (Nat.ne_of_lt (Nat.lt_of_lt_of_le (Nat.lt_of_lt_of_le lt166 E275.1) (Nat.le_of_eq g278.symm))))).other W342 (Or.inl (Nat.ne_of_lt (Nat.lt_of_lt_of_le (Nat.lt_of_lt_of_le lt166 E275.1) (Nat.le_of_eq g278.symm))))).keep Kq350 (ninS (Nat.ne_of_lt (Nat.lt_of_lt_of_le lt166 (Nat.le_of_eq g275.symm))) nin0))
            have f356 : Exa Z T350.heap dB "com/example/syndica/syndica/InterestBasis" := (((((((((((f161.ext E275).ext E278).wr W286).wr W294).wr W302).wr W310).wr W318).wr W326).wr W334).wr W342).keep Kq350)
            have f357 : Fld Z T350.heap dB "com/example/syndica/syndica/InterestBasis" "value" "Ljava/lang/String;" (.ref tB) := (((((((((((f162.ext E275).ext E278).other W286 (Or.inl (Nat.ne_of_lt (Nat.lt_of_lt_of_le (Nat.lt_of_lt_of_le lt167 E275.1) (Nat.le_of_eq g278.symm))))).other W294 (Or.inl (Nat.ne_of_lt (Nat.lt_of_lt_of_le (Nat.lt_of_lt_of_le lt167 E275.1) (Nat.le_of_eq g278.symm))))).other W302 (Or.inl (Nat.ne_of_lt (Nat.lt_of_lt_of_le (Nat.lt_of_lt_of_le lt167 E275.1) (Nat.le_of_eq g278.symm))))).other W310 (Or.inl (Nat.ne_of_lt (Nat.lt_of_lt_of_le (Nat.lt_of_lt_of_le lt167 E275.1) (Nat.le_of_eq g278.symm))))).other W318 (Or.inl (Nat.ne_of_lt (Nat.lt_of_lt_of_le (Nat.lt_of_lt_of_le lt167 E275.1) (Nat.le_of_eq g278.symm))))).other W326 (Or.inl (Nat.ne_of_lt (Nat.lt_of_lt_of_le (Nat.lt_of_lt_of_le lt167 E275.1) (Nat.le_of_eq g278.symm))))).other W334 (Or.inl (Nat.ne_of_lt (Nat.lt_of_lt_of_le (Nat.lt_of_lt_of_le lt167 E275.1) (Nat.le_of_eq g278.symm))))).other W342 (Or.inl (Nat.ne_of_lt (Nat.lt_of_lt_of_le (Nat.lt_of_lt_of_le lt167 E275.1) (Nat.le_of_eq g278.symm))))).keep Kq350 (ninS (Nat.ne_of_lt (Nat.lt_of_lt_of_le lt167 (Nat.le_of_eq g275.symm))) nin0))
            have f358 : Exa Z T350.heap dC "com/example/syndica/syndica/InterestBasis" := (((((((((((f163.ext E275).ext E278).wr W286).wr W294).wr W302).wr W310).wr W318).wr W326).wr W334).wr W342).keep Kq350)
            have f359 : Fld Z T350.heap dC "com/example/syndica/syndica/InterestBasis" "value" "Ljava/lang/String;" (.ref tC) := (((((((((((f164.ext E275).ext E278).other W286 (Or.inl (Nat.ne_of_lt (Nat.lt_of_lt_of_le (Nat.lt_of_lt_of_le lt168 E275.1) (Nat.le_of_eq g278.symm))))).other W294 (Or.inl (Nat.ne_of_lt (Nat.lt_of_lt_of_le (Nat.lt_of_lt_of_le lt168 E275.1) (Nat.le_of_eq g278.symm))))).other W302 (Or.inl (Nat.ne_of_lt (Nat.lt_of_lt_of_le (Nat.lt_of_lt_of_le lt168 E275.1) (Nat.le_of_eq g278.symm))))).other W310 (Or.inl (Nat.ne_of_lt (Nat.lt_of_lt_of_le (Nat.lt_of_lt_of_le lt168 E275.1) (Nat.le_of_eq g278.symm))))).other W318 (Or.inl (Nat.ne_of_lt (Nat.lt_of_lt_of_le (Nat.lt_of_lt_of_le lt168 E275.1) (Nat.le_of_eq g278.symm))))).other W326 (Or.inl (Nat.ne_of_lt (Nat.lt_of_lt_of_le (Nat.lt_of_lt_of_le lt168 E275.1) (Nat.le_of_eq g278.symm))))).other W334 (Or.inl (Nat.ne_of_lt (Nat.lt_of_lt_of_le (Nat.lt_of_lt_of_le lt168 E275.1) (Nat.le_of_eq g278.symm))))).other W342 (Or.inl (Nat.ne_of_lt (Nat.lt_of_lt_of_le (Nat.lt_of_lt_of_le lt168 E275.1) (Nat.le_of_eq g278.symm))))).keep Kq350 (ninS (Nat.ne_of_lt (Nat.lt_of_lt_of_le lt168 (Nat.le_of_eq g275.symm))) nin0))
            have f360 : Arv Z T350.heap b125 k125 .char (8 : Int32) [(.int r127), (.int r131), (.int r135), (.int r139), (.int r143), (.int r147), (.int r151), (.int r155)] (.int (0 : Int32)) := ((f338.other W342 (Nat.ne_of_lt (Nat.lt_of_lt_of_le (Nat.lt_of_lt_of_le lt165 E275.1) (Nat.le_of_eq g278.symm)))).keep Kq350 (ninS (Nat.ne_of_lt (Nat.lt_of_lt_of_le lt165 (Nat.le_of_eq g275.symm))) nin0))
            have lt361 : b125 < T350.heap.size := (Nat.lt_of_lt_of_le lt165 (Nat.le_trans (Nat.le_trans (Nat.le_trans (Nat.le_trans (Nat.le_trans (Nat.le_trans (Nat.le_trans (Nat.le_trans (Nat.le_trans (Nat.le_trans E275.1 E278.1) (Nat.le_of_eq W286.size.symm)) (Nat.le_of_eq W294.size.symm)) (Nat.le_of_eq W302.size.symm)) (Nat.le_of_eq W310.size.symm)) (Nat.le_of_eq W318.size.symm)) (Nat.le_of_eq W326.size.symm)) (Nat.le_of_eq W334.size.symm)) (Nat.le_of_eq W342.size.symm)) Kq350.1))
            have lt362 : b275 < T350.heap.size := (Nat.lt_of_lt_of_le A275.lt (Nat.le_trans (Nat.le_trans (Nat.le_trans (Nat.le_trans (Nat.le_trans (Nat.le_trans (Nat.le_trans (Nat.le_trans (Nat.le_trans E278.1 (Nat.le_of_eq W286.size.symm)) (Nat.le_of_eq W294.size.symm)) (Nat.le_of_eq W302.size.symm)) (Nat.le_of_eq W310.size.symm)) (Nat.le_of_eq W318.size.symm)) (Nat.le_of_eq W326.size.symm)) (Nat.le_of_eq W334.size.symm)) (Nat.le_of_eq W342.size.symm)) Kq350.1))
            have ne363 : b125 ≠ b275 := (Nat.ne_of_lt (Nat.lt_of_lt_of_le lt165 (Nat.le_of_eq g275.symm)))
            have lt364 : dA < T350.heap.size := (Nat.lt_of_lt_of_le lt166 (Nat.le_trans (Nat.le_trans (Nat.le_trans (Nat.le_trans (Nat.le_trans (Nat.le_trans (Nat.le_trans (Nat.le_trans (Nat.le_trans (Nat.le_trans E275.1 E278.1) (Nat.le_of_eq W286.size.symm)) (Nat.le_of_eq W294.size.symm)) (Nat.le_of_eq W302.size.symm)) (Nat.le_of_eq W310.size.symm)) (Nat.le_of_eq W318.size.symm)) (Nat.le_of_eq W326.size.symm)) (Nat.le_of_eq W334.size.symm)) (Nat.le_of_eq W342.size.symm)) Kq350.1))
            have lt365 : dB < T350.heap.size := (Nat.lt_of_lt_of_le lt167 (Nat.le_trans (Nat.le_trans (Nat.le_trans (Nat.le_trans (Nat.le_trans (Nat.le_trans (Nat.le_trans (Nat.le_trans (Nat.le_trans (Nat.le_trans E275.1 E278.1) (Nat.le_of_eq W286.size.symm)) (Nat.le_of_eq W294.size.symm)) (Nat.le_of_eq W302.size.symm)) (Nat.le_of_eq W310.size.symm)) (Nat.le_of_eq W318.size.symm)) (Nat.le_of_eq W326.size.symm)) (Nat.le_of_eq W334.size.symm)) (Nat.le_of_eq W342.size.symm)) Kq350.1))
            have lt366 : dC < T350.heap.size := (Nat.lt_of_lt_of_le lt168 (Nat.le_trans (Nat.le_trans (Nat.le_trans (Nat.le_trans (Nat.le_trans (Nat.le_trans (Nat.le_trans (Nat.le_trans (Nat.le_trans (Nat.le_trans E275.1 E278.1) (Nat.le_of_eq W286.size.symm)) (Nat.le_of_eq W294.size.symm)) (Nat.le_of_eq W302.size.symm)) (Nat.le_of_eq W310.size.symm)) (Nat.le_of_eq W318.size.symm)) (Nat.le_of_eq W326.size.symm)) (Nat.le_of_eq W334.size.symm)) (Nat.le_of_eq W342.size.symm)) Kq350.1))
            (try clear sf353); (try clear q4_350); (try clear q3_350); (try clear kt350); (try clear t350); (try clear q2_350); (try clear Kq350); (try clear Nq350); (try clear st350); (try clear z350); (try clear y350); (try clear l350)
            (try clear hQ350); (try clear Lc350); (try clear n350); (try clear k350); (try clear L350); (try clear _); (try clear hp349); (try clear f348); (try clear f347); (try clear f346); (try clear N342); (try clear hk342)
            (try clear C342); (try clear H342); (try clear sf345); (try clear sf344); (try clear sf343); (try clear O342); (try clear K342); (try clear V342); (try clear st342); (try clear W342); (try clear e342); (try clear X342)
            (try clear h342); (try clear T342); (try clear in342); (try clear Ag341); (try clear Ah341); (try clear An341); (try clear As341); (try clear Aq341); (try clear Ar341); (try clear cl341); (try clear at340); (try clear in340)
            (try clear Ag339); (try clear Ah339); (try clear An339); (try clear As339); (try clear Aq339); (try clear Ar339); (try clear cl339); (try clear f338); (try clear N334); (try clear hk334); (try clear C334); (try clear H334)
            (try clear sf337); (try clear sf336); (try clear sf335); (try clear O334); (try clear K334); (try clear V334); (try clear st334); (try clear W334); (try clear e334); (try clear X334); (try clear h334); (try clear T334)
            (try clear in334); (try clear Ag333); (try clear Ah333); (try clear An333); (try clear As333); (try clear Aq333); (try clear Ar333); (try clear cl333); (try clear at332); (try clear in332); (try clear Ag331); (try clear Ah331)
            (try clear An331); (try clear As331); (try clear Aq331); (try clear Ar331); (try clear cl331); (try clear f330); (try clear N326); (try clear hk326); (try clear C326); (try clear H326); (try clear sf329); (try clear sf328)
            (try clear sf327); (try clear O326); (try clear K326); (try clear V326); (try clear st326); (try clear W326); (try clear e326); (try clear X326); (try clear h326); (try clear T326); (try clear in326); (try clear Ag325)
            (try clear Ah325); (try clear An325); (try clear As325); (try clear Aq325); (try clear Ar325); (try clear cl325); (try clear at324); (try clear in324); (try clear Ag323); (try clear Ah323); (try clear An323); (try clear As323)
            (try clear Aq323); (try clear Ar323); (try clear cl323); (try clear f322); (try clear N318); (try clear hk318); (try clear C318); (try clear H318); (try clear sf321); (try clear sf320); (try clear sf319); (try clear O318)
            (try clear K318); (try clear V318); (try clear st318); (try clear W318); (try clear e318); (try clear X318); (try clear h318); (try clear T318); (try clear in318); (try clear Ag317); (try clear Ah317); (try clear An317)
            (try clear As317); (try clear Aq317); (try clear Ar317); (try clear cl317); (try clear at316); (try clear in316); (try clear Ag315); (try clear Ah315); (try clear An315); (try clear As315); (try clear Aq315); (try clear Ar315)
            (try clear cl315); (try clear f314); (try clear N310); (try clear hk310); (try clear C310); (try clear H310); (try clear sf313); (try clear sf312); (try clear sf311); (try clear O310); (try clear K310); (try clear V310)
            (try clear st310); (try clear W310); (try clear e310); (try clear X310); (try clear h310); (try clear T310); (try clear in310); (try clear Ag309); (try clear Ah309); (try clear An309); (try clear As309); (try clear Aq309)
            (try clear Ar309); (try clear cl309); (try clear at308); (try clear in308); (try clear Ag307); (try clear Ah307); (try clear An307); (try clear As307); (try clear Aq307); (try clear Ar307); (try clear cl307); (try clear f306)
            (try clear N302); (try clear hk302); (try clear C302); (try clear H302); (try clear sf305); (try clear sf304); (try clear sf303); (try clear O302); (try clear K302); (try clear V302); (try clear st302); (try clear W302)
            (try clear e302); (try clear X302); (try clear h302); (try clear T302); (try clear in302); (try clear Ag301); (try clear Ah301); (try clear An301); (try clear As301); (try clear Aq301); (try clear Ar301); (try clear cl301)
            (try clear at300); (try clear in300); (try clear Ag299); (try clear Ah299); (try clear An299); (try clear As299); (try clear Aq299); (try clear Ar299); (try clear cl299); (try clear f298); (try clear N294); (try clear hk294)
            (try clear C294); (try clear H294); (try clear sf297); (try clear sf296); (try clear sf295); (try clear O294); (try clear K294); (try clear V294); (try clear st294); (try clear W294); (try clear e294); (try clear X294)
            (try clear h294); (try clear T294); (try clear in294); (try clear Ag293); (try clear Ah293); (try clear An293); (try clear As293); (try clear Aq293); (try clear Ar293); (try clear cl293); (try clear at292); (try clear in292)
            (try clear Ag291); (try clear Ah291); (try clear An291); (try clear As291); (try clear Aq291); (try clear Ar291); (try clear cl291); (try clear f290); (try clear N286); (try clear hk286); (try clear C286); (try clear H286)
            (try clear sf289); (try clear sf288); (try clear sf287); (try clear O286); (try clear K286); (try clear q); (try clear V286); (try clear st286); (try clear W286); (try clear e286); (try clear X286); (try clear h286)
            (try clear T286); (try clear in286); (try clear Ag285); (try clear Ah285); (try clear An285); (try clear As285); (try clear Aq285); (try clear Ar285); (try clear cl285); (try clear at284); (try clear in284); (try clear Ag283)
            (try clear Ah283); (try clear An283); (try clear As283); (try clear Aq283); (try clear Ar283); (try clear cl283); (try clear f282); (try clear V278); (try clear hk278); (try clear C278); (try clear H278); (try clear sf281)
            (try clear sf280); (try clear sf279); (try clear O278); (try clear K278); (try clear sn278); (try clear ge278); (try clear sz278); (try clear g278); (try clear b278); (try clear st278); (try clear A278); (try clear E278)
            (try clear e278); (try clear X278); (try clear k278); (try clear h278); (try clear T278); (try clear F275_value); (try clear F275_coder); (try clear hk275); (try clear C275); (try clear H275); (try clear sf277); (try clear sf276)
            (try clear O275); (try clear K275); (try clear sn275); (try clear st275); (try clear D275); (try clear A275); (try clear E275); (try clear e275); (try clear X275); (try clear h275); (try clear T275); (try clear lt168)
            (try clear lt167); (try clear lt166); (try clear lt165); (try clear f164); (try clear f163); (try clear f162); (try clear f161); (try clear f160); (try clear f159); (try clear N157); (try clear hk157); (try clear C157)
            (try clear H157); (try clear sf158); (try clear O157); (try clear K157); (try clear V157); (try clear e157); (try clear X157); (try clear h157); (try clear T157)
            show Go p.tables e below Kx T350 (mkF m 433 #[.val (.int p0), .val (.int p1), .val (.long p2), .second, .val (.int zc), .val (.int mk), .val (.ref b125), .val (.int sel), .val (.int (8 : Int32)), .val (.ref b275), .unset, .unset, .unset] [])
            refine s_aload (pc' := 435) X350.here hx (hb hby at_433) rfl rfl rfl ?_
            obtain ⟨_, _, ⟨T367, L367, k367, n367⟩, -, X367, ⟨Lc367, hQ367, l367, y367, z367⟩, st367⟩ := Jvm.LawKit.callS X350 hx (y := (⟨"com/example/syndica/syndica/InterestBasis", "of", "(Ljava/lang/String;)Ljava/util/Optional;"⟩ : MethodName)) hown (mvT hZ (hw _ (List.mem_of_getElem? (i := 34) rfl))) (mvT hZ (hw _ (List.mem_of_getElem? (i := 35) rfl))) (mvT hZ (hw _ (List.mem_of_getElem? (i := 36) rfl))) (mvT hZ (hw _ (List.mem_of_getElem? (i := 37) rfl))) (by decide) (backOf (W := 0) (rmF l Z a0 hw [] va dA dB dC tA tB tC eo kv b275 _ [r127, r131, r135, r139, r143, r147, r151, r155] T350.heap n0 O350 EN G1 S1 P1 St350) hZ (hw _ (List.mem_of_getElem? (i := 37) rfl)) (hw _ (List.mem_of_getElem? (i := 36) rfl)) (by decide) (by decide)) (g := (mkF m 435 #[.val (.int p0), .val (.int p1), .val (.long p2), .second, .val (.int zc), .val (.int mk), .val (.ref b125), .val (.int sel), .val (.int (8 : Int32)), .val (.ref b275), .unset, .unset, .unset] [(.ref b275)])) rfl (by rw [hml]; rfl) (argsL := [(.ref b275)]) (rest := []) (lenOf pd_9 rfl) rfl (by show 2 * 0 + _ ≤ _; exact Nat.le_of_eq rfl) (hb hby at_435) (fun _ _ => ⟨rfl, rfl, (by decide : 4 + 2 ≤ _), (by decide : 28 + 4 ≤ _)⟩)
            dsimp only [Pt.U, Pt.locs, Pt.cells, Pt.slots] at X367 l367 y367 z367 st367 hQ367
            rw [l367, y367, z367] at X367
            obtain ⟨o367, wv367, rfl, Nq367, Kq367, q1_367, q2_367, hw367⟩ := hQ367
            rcases hw367 with ⟨rfl, hs367⟩ | ⟨rfl, hs367⟩ | ⟨rfl, hs367⟩ | ⟨rfl, hA367, hB367, hC367⟩
            · skip
              exact absurd (congrArg List.length hs367) (show ¬ (3 = 8) by decide)
            · skip
              exact absurd (congrArg List.length hs367) (show ¬ (3 = 8) by decide)
            · skip
              exact absurd (congrArg List.length hs367) (show ¬ (7 = 8) by decide)
            · skip
              have N367 := Fr.app N350 Nq367
              have K367 : Keep h0 T367.heap [] := K350.trans Kq367 all0
              have O367 : Old Z n0 T367.heap := O350.keep Kq367 all0
              have sf368 : Safe Z consts_1 s.vm T367.heap b125 := (Safe.keep Kq367 sf0 H350 sf351)
              have sf369 : Safe Z consts_1 s.vm T367.heap b275 := (Safe.keep Kq367 sf0 H350 sf352)
              have H367 : CHv Z consts_1 s.vm T367.heap := H350.keep Kq367 sf0
              have C367 : CHr Z consts_1 s.vm h0 s.vm T367.heap := C350.trans (CHr.keep Kq367 sf0 H350)
              have hk367 := Nat.le_trans hk350 Kq367.1
              refine Go.st st367 ?_
              show Go p.tables e below Kx T367 (mkF m 438 #[.val (.int p0), .val (.int p1), .val (.long p2), .second, .val (.int zc), .val (.int mk), .val (.ref b125), .val (.int sel), .val (.int (8 : Int32)), .val (.ref b275), .unset, .unset, .unset] [(.ref o367)])
              refine s_astore (pc' := 440) (Ls' := #[.val (.int p0), .val (.int p1), .val (.long p2), .second, .val (.int zc), .val (.int mk), .val (.ref b125), .val (.int sel), .val (.int (8 : Int32)), .val (.ref b275), .val (.ref o367), .unset, .unset]) X367.here hx (hb hby at_438) rfl rfl rfl ?_
              refine s_aload (pc' := 442) X367.here hx (hb hby at_440) rfl rfl rfl ?_
              obtain ⟨cq370, kq370, q370a, q370b, q370c⟩ := isOf hZ rfl q1_367
              obtain ⟨_, _, ⟨T370, L370, k370, n370⟩, -, X370, ⟨Lc370, hQ370, l370, y370, z370⟩, st370⟩ := X367.virtualBack hx (y := (⟨"java/util/Optional", "isPresent", "()Z"⟩ : MethodName)) (z := (⟨"java/util/Optional", "isPresent", "()Z"⟩ : MethodName)) hown (mvT hZ (hw _ (List.mem_of_getElem? (i := 89) rfl))) (mvT hZ (hw _ (List.mem_of_getElem? (i := 90) rfl))) (notFace_of_selects (args := #[]) (mvT hZ (hw _ (List.mem_of_getElem? (i := 92) rfl)))) (mvT hZ (hw _ (List.mem_of_getElem? (i := 92) rfl))) (mvT hZ (hw _ (List.mem_of_getElem? (i := 91) rfl))) (by decide) (backOf (W := 0) (rmP0 l Z a0 hw [] o367 o367 T367.heap n0 O367 q2_367) hZ (hw _ (List.mem_of_getElem? (i := 93) rfl)) (hw _ (List.mem_of_getElem? (i := 40) rfl)) (by decide) (by decide)) q370a q370c (g := (mkF m 442 #[.val (.int p0), .val (.int p1), .val (.long p2), .second, .val (.int zc), .val (.int mk), .val (.ref b125), .val (.int sel), .val (.int (8 : Int32)), .val (.ref b275), .val (.ref o367), .unset, .unset] [(.ref o367)])) rfl (by rw [hml]; rfl) (Steps.refl _) (argsL := []) (rest := []) (lenOf pd_10 rfl) rfl (by show 2 * 0 + _ ≤ _; exact Nat.le_of_eq rfl) (hb hby at_442) (fun _ _ => ⟨rfl, rfl, (by decide : 6 + 0 ≤ _), (by decide : 32 + 0 ≤ _)⟩)
              dsimp only [Pt.U, Pt.locs, Pt.cells, Pt.slots] at X370 l370 y370 z370 st370 hQ370
              rw [l370, y370, z370] at X370
              obtain ⟨rfl, Nq370, hE370⟩ := hQ370
              have N370 := Fr.app N367 Nq370
              refine Go.tr st370 ?_
              show Go p.tables e below Kx T370 (mkF m 445 #[.val (.int p0), .val (.int p1), .val (.long p2), .second, .val (.int zc), .val (.int mk), .val (.ref b125), .val (.int sel), .val (.int (8 : Int32)), .val (.ref b275), .val (.ref o367), .unset, .unset] [(.int (0 : Int32))])
              refine s_ifY (pc' := 459) X370.here hx (hb hby at_445) ((if0 _ _).trans (teq (by decide)).1) (by decide) (by decide) ?_
              refine s_aconst_null (pc' := 460) X370.here hx (hb hby at_459) rfl ?_
              refine s_astore (pc' := 462) (Ls' := #[.val (.int p0), .val (.int p1), .val (.long p2), .second, .val (.int zc), .val (.int mk), .val (.ref b125), .val (.int sel), .val (.int (8 : Int32)), .val (.ref b275), .val (.ref o367), .val .null, .unset]) X370.here hx (hb hby at_460) rfl rfl rfl ?_
              have f371 : Exa Z T367.heap dA "com/example/syndica/syndica/InterestBasis" := (f354.keep Kq367)
              have f372 : Fld Z T367.heap dA "com/example/syndica/syndica/InterestBasis" "value" "Ljava/lang/String;" (.ref tA) := (f355.keep Kq367 nin0)
              have f373 : Exa Z T367.heap dB "com/example/syndica/syndica/InterestBasis" := (f356.keep Kq367)
              have f374 : Fld Z T367.heap dB "com/example/syndica/syndica/InterestBasis" "value" "Ljava/lang/String;" (.ref tB) := (f357.keep Kq367 nin0)
              have f375 : Exa Z T367.heap dC "com/example/syndica/syndica/InterestBasis" := (f358.keep Kq367)
              have f376 : Fld Z T367.heap dC "com/example/syndica/syndica/InterestBasis" "value" "Ljava/lang/String;" (.ref tC) := (f359.keep Kq367 nin0)
              have f377 : Arv Z T367.heap b125 k125 .char (8 : Int32) [(.int r127), (.int r131), (.int r135), (.int r139), (.int r143), (.int r147), (.int r151), (.int r155)] (.int (0 : Int32)) := (f360.keep Kq367 nin0)
              have lt378 : b125 < T367.heap.size := (Nat.lt_of_lt_of_le lt361 Kq367.1)
              have lt379 : dA < T367.heap.size := (Nat.lt_of_lt_of_le lt364 Kq367.1)
              have lt380 : dB < T367.heap.size := (Nat.lt_of_lt_of_le lt365 Kq367.1)
              have lt381 : dC < T367.heap.size := (Nat.lt_of_lt_of_le lt366 Kq367.1)
              (try clear Nq370); (try clear st370); (try clear z370); (try clear y370); (try clear l370); (try clear hQ370); (try clear Lc370); (try clear n370); (try clear k370); (try clear L370); (try clear q370c); (try clear q370b)
              (try clear q370a); (try clear kq370); (try clear cq370); (try clear sf369); (try clear N367); (try clear hw367); (try clear q2_367); (try clear q1_367); (try clear Kq367); (try clear Nq367); (try clear wv367); (try clear st367)
              (try clear z367); (try clear y367); (try clear l367); (try clear hQ367); (try clear Lc367); (try clear X367); (try clear n367); (try clear k367); (try clear L367); (try clear _); (try clear lt366); (try clear lt365)
              (try clear lt364); (try clear ne363); (try clear lt362); (try clear lt361); (try clear f360); (try clear f359); (try clear f358); (try clear f357); (try clear f356); (try clear f355); (try clear f354); (try clear St350)
              (try clear hk350); (try clear C350); (try clear H350); (try clear sf352); (try clear sf351); (try clear O350); (try clear K350); (try clear N350); (try clear q1_350); (try clear X350); (try clear T350); (try clear ge275)
              (try clear sz275); (try clear g275)
              show Go p.tables e below Kx T370 (mkF m 462 #[.val (.int p0), .val (.int p1), .val (.long p2), .second, .val (.int zc), .val (.int mk), .val (.ref b125), .val (.int sel), .val (.int (8 : Int32)), .val (.ref b275), .val (.ref o367), .val .null, .unset] [])
              refine s_aconst_null (pc' := 463) X370.here hx (hb hby at_462) rfl ?_
              refine s_astore (pc' := 465) (Ls' := #[.val (.int p0), .val (.int p1), .val (.long p2), .second, .val (.int zc), .val (.int mk), .val (.ref b125), .val (.int sel), .val (.int (8 : Int32)), .val (.ref b275), .val (.ref o367), .val .null, .val .null]) X370.here hx (hb hby at_463) rfl rfl rfl ?_
              refine s_iload (pc' := 467) X370.here hx (hb hby at_465) rfl rfl ?_
              refine s_iconst (pc' := 468) (v := (3 : Int32)) X370.here hx (hb hby at_467) rfl rfl ?_
              refine s_icmpY (pc' := 520) X370.here hx (hb hby at_468) (feq (by decide)).2 (by decide) (by decide) ?_
              refine s_iload (pc' := 522) X370.here hx (hb hby at_520) rfl rfl ?_
              refine s_bipush (pc' := 524) (v := (7 : Int32)) X370.here hx (hb hby at_522) rfl rfl ?_
              refine s_icmpY (pc' := 596) X370.here hx (hb hby at_524) (feq (by decide)).2 (by decide) (by decide) ?_
              refine s_aload (pc' := 598) X370.here hx (hb hby at_596) rfl rfl rfl ?_
              refine s_aload (pc' := 600) X370.here hx (hb hby at_598) rfl rfl rfl ?_
              refine Go.st (fun _ r => Jvm.RoadKit.acmp (g := (mkF m 600 #[.val (.int p0), .val (.int p1), .val (.long p2), .second, .val (.int zc), .val (.int mk), .val (.ref b125), .val (.int sel), .val (.int (8 : Int32)), .val (.ref b275), .val (.ref o367), .val .null, .val .null] [.null, .null])) X370 hx rfl rfl rfl (pc0 := 600) (pc' := 603) (same := true) rfl (hb hby at_600) rfl (decide_eq_true rfl) (by decide) (by decide) r) ?_
              show Go p.tables e below Kx T370 (mkF m 603 #[.val (.int p0), .val (.int p1), .val (.long p2), .second, .val (.int zc), .val (.int mk), .val (.ref b125), .val (.int sel), .val (.int (8 : Int32)), .val (.ref b275), .val (.ref o367), .val .null, .val .null] [])
              refine s_iconst (pc' := 604) (v := (1 : Int32)) X370.here hx (hb hby at_603) rfl rfl ?_
              refine s_goto (pc' := 608) X370.here hx (hb hby at_604) (by decide) (by decide) ?_
              obtain ⟨fs, hr, hrun, hended, hRW⟩ := X370.leaveW hS0 (by rw [hE370]; exact hk367) (v := (some (.int (1 : Int32)))) (fun h => by rw [Bd.returns] at h; cases h)
              have hCx := C367.trans (CHv.at X370 hZ hEL H367)
              refine Go.fin (retN X370 hx (t := .boolean) Bd.returns (by simp) (hb hby at_608) hr) (hF _ _ hrun hended ⟨_, _, rfl, ?_, ?_, hRW.1, hRW.2.1, hRW.2.2.1, hRW.2.2.2.mono (by decide) (by decide)⟩)
              · show QL Z p0 p1 p2 va dA dB dC tA tB tC eo kv h0 n0 ((some (.int (1 : Int32))) : Option Value) T370.heap _
                rw [hE370]
                exact ⟨rfl, N370⟩
              · show CHr Z consts_1 s.vm s.heap T370.vm T370.heap
                rw [hE370, hh]; exact hCx
          · skip
            refine s_icmpY (pc' := 427) X157.here hx (hb hby at_344) (feq hc274).2 (by decide) (by decide) ?_
            refine s_iconst (pc' := 428) (v := (-1 : Int32)) X157.here hx (hb hby at_427) rfl rfl ?_
            refine s_istore (pc' := 430) (Ls' := #[.val (.int p0), .val (.int p1), .val (.long p2), .second, .val (.int zc), .val (.int mk), .val (.ref b125), .val (.int sel), .val (.int (-1 : Int32)), .unset, .unset, .unset, .unset]) X157.here hx (hb hby at_428) rfl  rfl ?_
            refine s_aconst_null (pc' := 431) X157.here hx (hb hby at_430) rfl ?_
            refine s_astore (pc' := 433) (Ls' := #[.val (.int p0), .val (.int p1), .val (.long p2), .second, .val (.int zc), .val (.int mk), .val (.ref b125), .val (.int sel), .val (.int (-1 : Int32)), .val .null, .unset, .unset, .unset]) X157.here hx (hb hby at_431) rfl rfl rfl ?_
            have lt382 : b125 < h157.size := lt165
            have lt383 : dA < h157.size := lt166
            have lt384 : dB < h157.size := lt167
            have lt385 : dC < h157.size := lt168
            (try clear lt168); (try clear lt167); (try clear lt166); (try clear lt165)
            show Go p.tables e below Kx T157 (mkF m 433 #[.val (.int p0), .val (.int p1), .val (.long p2), .second, .val (.int zc), .val (.int mk), .val (.ref b125), .val (.int sel), .val (.int (-1 : Int32)), .val .null, .unset, .unset, .unset] [])
            refine s_aload (pc' := 435) X157.here hx (hb hby at_433) rfl rfl rfl ?_
            obtain ⟨_, _, ⟨T386, L386, k386, n386⟩, -, X386, ⟨Lc386, hQ386, l386, y386, z386⟩, st386⟩ := Jvm.LawKit.callS X157 hx (y := (⟨"com/example/syndica/syndica/InterestBasis", "of", "(Ljava/lang/String;)Ljava/util/Optional;"⟩ : MethodName)) hown (mvT hZ (hw _ (List.mem_of_getElem? (i := 34) rfl))) (mvT hZ (hw _ (List.mem_of_getElem? (i := 35) rfl))) (mvT hZ (hw _ (List.mem_of_getElem? (i := 36) rfl))) (mvT hZ (hw _ (List.mem_of_getElem? (i := 37) rfl))) (by decide) (backOf (W := 0) (rmN l Z a0 hw [] va dA dB dC tA tB tC eo kv h157 n0 O157 EN) hZ (hw _ (List.mem_of_getElem? (i := 37) rfl)) (hw _ (List.mem_of_getElem? (i := 36) rfl)) (by decide) (by decide)) (g := (mkF m 435 #[.val (.int p0), .val (.int p1), .val (.long p2), .second, .val (.int zc), .val (.int mk), .val (.ref b125), .val (.int sel), .val (.int (-1 : Int32)), .val .null, .unset, .unset, .unset] [.null])) rfl (by rw [hml]; rfl) (argsL := [.null]) (rest := []) (lenOf pd_9 rfl) rfl (by show 2 * 0 + _ ≤ _; exact Nat.le_of_eq rfl) (hb hby at_435) (fun _ _ => ⟨rfl, e157, (by decide : 1 + 2 ≤ _), (by decide : 8 + 4 ≤ _)⟩)
            dsimp only [Pt.U, Pt.locs, Pt.cells, Pt.slots] at X386 l386 y386 z386 st386 hQ386
            rw [l386, y386, z386] at X386
            obtain ⟨o386, wv386, rfl, Nq386, Kq386, q1_386, q2_386, rfl⟩ := hQ386
            have N386 := Fr.app N157 Nq386
            have K386 : Keep h0 T386.heap [] := K157.trans Kq386 all0
            have O386 : Old Z n0 T386.heap := O157.keep Kq386 all0
            have sf387 : Safe Z consts_1 s.vm T386.heap b125 := (Safe.keep Kq386 sf0 H157 sf158)
            have H386 : CHv Z consts_1 s.vm T386.heap := H157.keep Kq386 sf0
            have C386 : CHr Z consts_1 s.vm h0 s.vm T386.heap := C157.trans (CHr.keep Kq386 sf0 H157)
            have hk386 := Nat.le_trans hk157 Kq386.1
            refine Go.st st386 ?_
            show Go p.tables e below Kx T386 (mkF m 438 #[.val (.int p0), .val (.int p1), .val (.long p2), .second, .val (.int zc), .val (.int mk), .val (.ref b125), .val (.int sel), .val (.int (-1 : Int32)), .val .null, .unset, .unset, .unset] [(.ref o386)])
            refine s_astore (pc' := 440) (Ls' := #[.val (.int p0), .val (.int p1), .val (.long p2), .second, .val (.int zc), .val (.int mk), .val (.ref b125), .val (.int sel), .val (.int (-1 : Int32)), .val .null, .val (.ref o386), .unset, .unset]) X386.here hx (hb hby at_438) rfl rfl rfl ?_
            refine s_aload (pc' := 442) X386.here hx (hb hby at_440) rfl rfl rfl ?_
            obtain ⟨cq388, kq388, q388a, q388b, q388c⟩ := isOf hZ rfl q1_386
            obtain ⟨_, _, ⟨T388, L388, k388, n388⟩, -, X388, ⟨Lc388, hQ388, l388, y388, z388⟩, st388⟩ := X386.virtualBack hx (y := (⟨"java/util/Optional", "isPresent", "()Z"⟩ : MethodName)) (z := (⟨"java/util/Optional", "isPresent", "()Z"⟩ : MethodName)) hown (mvT hZ (hw _ (List.mem_of_getElem? (i := 89) rfl))) (mvT hZ (hw _ (List.mem_of_getElem? (i := 90) rfl))) (notFace_of_selects (args := #[]) (mvT hZ (hw _ (List.mem_of_getElem? (i := 92) rfl)))) (mvT hZ (hw _ (List.mem_of_getElem? (i := 92) rfl))) (mvT hZ (hw _ (List.mem_of_getElem? (i := 91) rfl))) (by decide) (backOf (W := 0) (rmP0 l Z a0 hw [] o386 o386 T386.heap n0 O386 q2_386) hZ (hw _ (List.mem_of_getElem? (i := 93) rfl)) (hw _ (List.mem_of_getElem? (i := 40) rfl)) (by decide) (by decide)) q388a q388c (g := (mkF m 442 #[.val (.int p0), .val (.int p1), .val (.long p2), .second, .val (.int zc), .val (.int mk), .val (.ref b125), .val (.int sel), .val (.int (-1 : Int32)), .val .null, .val (.ref o386), .unset, .unset] [(.ref o386)])) rfl (by rw [hml]; rfl) (Steps.refl _) (argsL := []) (rest := []) (lenOf pd_10 rfl) rfl (by show 2 * 0 + _ ≤ _; exact Nat.le_of_eq rfl) (hb hby at_442) (fun _ _ => ⟨rfl, rfl, (by decide : 3 + 0 ≤ _), (by decide : 12 + 0 ≤ _)⟩)
            dsimp only [Pt.U, Pt.locs, Pt.cells, Pt.slots] at X388 l388 y388 z388 st388 hQ388
            rw [l388, y388, z388] at X388
            obtain ⟨rfl, Nq388, hE388⟩ := hQ388
            have N388 := Fr.app N386 Nq388
            refine Go.tr st388 ?_
            show Go p.tables e below Kx T388 (mkF m 445 #[.val (.int p0), .val (.int p1), .val (.long p2), .second, .val (.int zc), .val (.int mk), .val (.ref b125), .val (.int sel), .val (.int (-1 : Int32)), .val .null, .val (.ref o386), .unset, .unset] [(.int (0 : Int32))])
            refine s_ifY (pc' := 459) X388.here hx (hb hby at_445) ((if0 _ _).trans (teq (by decide)).1) (by decide) (by decide) ?_
            refine s_aconst_null (pc' := 460) X388.here hx (hb hby at_459) rfl ?_
            refine s_astore (pc' := 462) (Ls' := #[.val (.int p0), .val (.int p1), .val (.long p2), .second, .val (.int zc), .val (.int mk), .val (.ref b125), .val (.int sel), .val (.int (-1 : Int32)), .val .null, .val (.ref o386), .val .null, .unset]) X388.here hx (hb hby at_460) rfl rfl rfl ?_
            have f389 : Exa Z T386.heap dA "com/example/syndica/syndica/InterestBasis" := (f159.keep Kq386)
            have f390 : Fld Z T386.heap dA "com/example/syndica/syndica/InterestBasis" "value" "Ljava/lang/String;" (.ref tA) := (f160.keep Kq386 nin0)
            have f391 : Exa Z T386.heap dB "com/example/syndica/syndica/InterestBasis" := (f161.keep Kq386)
            have f392 : Fld Z T386.heap dB "com/example/syndica/syndica/InterestBasis" "value" "Ljava/lang/String;" (.ref tB) := (f162.keep Kq386 nin0)
            have f393 : Exa Z T386.heap dC "com/example/syndica/syndica/InterestBasis" := (f163.keep Kq386)
            have f394 : Fld Z T386.heap dC "com/example/syndica/syndica/InterestBasis" "value" "Ljava/lang/String;" (.ref tC) := (f164.keep Kq386 nin0)
            have f395 : Arv Z T386.heap b125 k125 .char (8 : Int32) [(.int r127), (.int r131), (.int r135), (.int r139), (.int r143), (.int r147), (.int r151), (.int r155)] (.int (0 : Int32)) := (V157.keep Kq386 nin0)
            have lt396 : b125 < T386.heap.size := (Nat.lt_of_lt_of_le lt382 Kq386.1)
            have lt397 : dA < T386.heap.size := (Nat.lt_of_lt_of_le lt383 Kq386.1)
            have lt398 : dB < T386.heap.size := (Nat.lt_of_lt_of_le lt384 Kq386.1)
            have lt399 : dC < T386.heap.size := (Nat.lt_of_lt_of_le lt385 Kq386.1)
            (try clear Nq388); (try clear st388); (try clear z388); (try clear y388); (try clear l388); (try clear hQ388); (try clear Lc388); (try clear n388); (try clear k388); (try clear L388); (try clear q388c); (try clear q388b)
            (try clear q388a); (try clear kq388); (try clear cq388); (try clear N386); (try clear q2_386); (try clear q1_386); (try clear Kq386); (try clear Nq386); (try clear wv386); (try clear st386); (try clear z386); (try clear y386)
            (try clear l386); (try clear hQ386); (try clear Lc386); (try clear X386); (try clear n386); (try clear k386); (try clear L386); (try clear _); (try clear lt385); (try clear lt384); (try clear lt383); (try clear lt382)
            (try clear f164); (try clear f163); (try clear f162); (try clear f161); (try clear f160); (try clear f159); (try clear N157); (try clear hk157); (try clear C157); (try clear H157); (try clear sf158); (try clear O157)
            (try clear K157); (try clear V157); (try clear e157); (try clear X157); (try clear h157); (try clear T157)
            show Go p.tables e below Kx T388 (mkF m 462 #[.val (.int p0), .val (.int p1), .val (.long p2), .second, .val (.int zc), .val (.int mk), .val (.ref b125), .val (.int sel), .val (.int (-1 : Int32)), .val .null, .val (.ref o386), .val .null, .unset] [])
            refine s_aconst_null (pc' := 463) X388.here hx (hb hby at_462) rfl ?_
            refine s_astore (pc' := 465) (Ls' := #[.val (.int p0), .val (.int p1), .val (.long p2), .second, .val (.int zc), .val (.int mk), .val (.ref b125), .val (.int sel), .val (.int (-1 : Int32)), .val .null, .val (.ref o386), .val .null, .val .null]) X388.here hx (hb hby at_463) rfl rfl rfl ?_
            refine s_iload (pc' := 467) X388.here hx (hb hby at_465) rfl rfl ?_
            refine s_iconst (pc' := 468) (v := (3 : Int32)) X388.here hx (hb hby at_467) rfl rfl ?_
            refine s_icmpY (pc' := 520) X388.here hx (hb hby at_468) (feq (by decide)).2 (by decide) (by decide) ?_
            refine s_iload (pc' := 522) X388.here hx (hb hby at_520) rfl rfl ?_
            refine s_bipush (pc' := 524) (v := (7 : Int32)) X388.here hx (hb hby at_522) rfl rfl ?_
            refine s_icmpY (pc' := 596) X388.here hx (hb hby at_524) (feq (by decide)).2 (by decide) (by decide) ?_
            refine s_aload (pc' := 598) X388.here hx (hb hby at_596) rfl rfl rfl ?_
            refine s_aload (pc' := 600) X388.here hx (hb hby at_598) rfl rfl rfl ?_
            refine Go.st (fun _ r => Jvm.RoadKit.acmp (g := (mkF m 600 #[.val (.int p0), .val (.int p1), .val (.long p2), .second, .val (.int zc), .val (.int mk), .val (.ref b125), .val (.int sel), .val (.int (-1 : Int32)), .val .null, .val (.ref o386), .val .null, .val .null] [.null, .null])) X388 hx rfl rfl rfl (pc0 := 600) (pc' := 603) (same := true) rfl (hb hby at_600) rfl (decide_eq_true rfl) (by decide) (by decide) r) ?_
            show Go p.tables e below Kx T388 (mkF m 603 #[.val (.int p0), .val (.int p1), .val (.long p2), .second, .val (.int zc), .val (.int mk), .val (.ref b125), .val (.int sel), .val (.int (-1 : Int32)), .val .null, .val (.ref o386), .val .null, .val .null] [])
            refine s_iconst (pc' := 604) (v := (1 : Int32)) X388.here hx (hb hby at_603) rfl rfl ?_
            refine s_goto (pc' := 608) X388.here hx (hb hby at_604) (by decide) (by decide) ?_
            obtain ⟨fs, hr, hrun, hended, hRW⟩ := X388.leaveW hS0 (by rw [hE388]; exact hk386) (v := (some (.int (1 : Int32)))) (fun h => by rw [Bd.returns] at h; cases h)
            have hCx := C386.trans (CHv.at X388 hZ hEL H386)
            refine Go.fin (retN X388 hx (t := .boolean) Bd.returns (by simp) (hb hby at_608) hr) (hF _ _ hrun hended ⟨_, _, rfl, ?_, ?_, hRW.1, hRW.2.1, hRW.2.2.1, hRW.2.2.2.mono (by decide) (by decide)⟩)
            · show QL Z p0 p1 p2 va dA dB dC tA tB tC eo kv h0 n0 ((some (.int (1 : Int32))) : Option Value) T388.heap _
              rw [hE388]
              exact ⟨rfl, N388⟩
            · show CHr Z consts_1 s.vm s.heap T388.vm T388.heap
              rw [hE388, hh]; exact hCx
    · skip
      refine s_icmpN (pc' := 207) X157.here hx (hb hby at_204) rfl (flt hc170).2.2.1 ?_
      refine s_bipush (pc' := 209) (v := (7 : Int32)) X157.here hx (hb hby at_207) rfl rfl ?_
      refine s_istore (pc' := 211) (Ls' := #[.val (.int p0), .val (.int p1), .val (.long p2), .second, .val (.int zc), .val (.int mk), .val (.ref b125), .val (.int sel), .val (.int (7 : Int32)), .unset, .unset, .unset, .unset]) X157.here hx (hb hby at_209) rfl  rfl ?_
      obtain ⟨T400, h400, X400, e400, E400, A400, D400, -, st400⟩ := newO X157 hx hZ hown (hw _ (List.mem_of_getElem? (i := 5) rfl)) (hw _ (List.mem_of_getElem? (i := 6) rfl)) (hw _ (List.mem_of_getElem? (i := 7) rfl)) e157 (g := (mkF m 211 #[.val (.int p0), .val (.int p1), .val (.long p2), .second, .val (.int zc), .val (.int mk), .val (.ref b125), .val (.int sel), .val (.int (7 : Int32)), .unset, .unset, .unset, .unset] [])) rfl (hb hby at_211) (by decide) (by decide)
      obtain ⟨b400, g400⟩ : ∃ z, z = h157.size := ⟨_, rfl⟩
      rw [← g400] at A400 D400 st400
      have sz400 : h0.size ≤ b400 := Nat.le_trans K157.1 (Nat.le_of_eq g400.symm)
      have ge400 : n0 ≤ b400 := Nat.le_trans (O157.1 ▸ O157.2.1) (Nat.le_of_eq g400.symm)
      have sn400 : Safe Z consts_1 s.vm h157 b400 := Safe.new (Nat.le_of_eq g400.symm)
      have K400 : Keep h0 h400 [] := K157.ext E400
      have O400 : Old Z n0 h400 := O157.ext E400
      have sf401 : Safe Z consts_1 s.vm h400 b125 := (Safe.ext E400 H157 sf158)
      have sf402 : Safe Z consts_1 s.vm h400 b400 := (Safe.ext E400 H157 sn400)
      have H400 : CHv Z consts_1 s.vm h400 := H157.ext E400
      have C400 : CHr Z consts_1 s.vm h0 s.vm h400 := C157.trans (CHr.ext E400 H157)
      have hk400 := Nat.le_trans hk157 E400.1
      have F400_coder : Fld Z h400 b400 "java/lang/String" "coder" "B" (.int (0 : Int32)) := D400 (Or.inr (hw _ (List.mem_of_getElem? (i := 31) rfl))) (ty := .byte) (by decide)
      have F400_value : Fld Z h400 b400 "java/lang/String" "value" "[B" .null := D400 (Or.inr (hw _ (List.mem_of_getElem? (i := 33) rfl))) (ty := (.array .byte)) (by decide)
      refine Go.st st400 ?_
      show Go p.tables e below Kx T400 (mkF m 214 #[.val (.int p0), .val (.int p1), .val (.long p2), .second, .val (.int zc), .val (.int mk), .val (.ref b125), .val (.int sel), .val (.int (7 : Int32)), .unset, .unset, .unset, .unset] [(.ref b400)])
      refine s_dup (pc' := 215) X400.here hx (hb hby at_214) rfl rfl ?_
      refine s_bipush (pc' := 217) (v := (7 : Int32)) X400.here hx (hb hby at_215) rfl rfl ?_
      obtain ⟨T403, h403, k403, X403, e403, E403, A403, st403⟩ := newP X400 hx hZ (hw _ (List.mem_of_getElem? (i := 0) rfl)) e400 (g := (mkF m 217 #[.val (.int p0), .val (.int p1), .val (.long p2), .second, .val (.int zc), .val (.int mk), .val (.ref b125), .val (.int sel), .val (.int (7 : Int32)), .unset, .unset, .unset, .unset] [(.int (7 : Int32)), (.ref b400), (.ref b400)])) rfl (hb hby at_217) rfl (by decide) (cap := 7) (by decide) (by decide) (by decide) (by decide)
      obtain ⟨b403, g403⟩ : ∃ z, z = h400.size := ⟨_, rfl⟩
      rw [← g403] at A403 st403
      have sz403 : h0.size ≤ b403 := Nat.le_trans K400.1 (Nat.le_of_eq g403.symm)
      have ge403 : n0 ≤ b403 := Nat.le_trans (O400.1 ▸ O400.2.1) (Nat.le_of_eq g403.symm)
      have sn403 : Safe Z consts_1 s.vm h400 b403 := Safe.new (Nat.le_of_eq g403.symm)
      have K403 : Keep h0 h403 [] := K400.ext E403
      have O403 : Old Z n0 h403 := O400.ext E403
      have sf404 : Safe Z consts_1 s.vm h403 b125 := (Safe.ext E403 H400 sf401)
      have sf405 : Safe Z consts_1 s.vm h403 b400 := (Safe.ext E403 H400 sf402)
      have sf406 : Safe Z consts_1 s.vm h403 b403 := (Safe.ext E403 H400 sn403)
      have H403 : CHv Z consts_1 s.vm h403 := H400.ext E403
      have C403 : CHr Z consts_1 s.vm h0 s.vm h403 := C400.trans (CHr.ext E403 H400)
      have hk403 := Nat.le_trans hk400 E403.1
      have V403 : Arv Z h403 b403 k403 .char (7 : Int32) [(.int (0 : Int32)), (.int (0 : Int32)), (.int (0 : Int32)), (.int (0 : Int32)), (.int (0 : Int32)), (.int (0 : Int32)), (.int (0 : Int32))] (.int (0 : Int32)) := (Arv.new A403 (by decide)).pad (pad_rep [] (.int (0 : Int32)) 7)
      refine Go.st st403 ?_
      show Go p.tables e below Kx T403 (mkF m 219 #[.val (.int p0), .val (.int p1), .val (.long p2), .second, .val (.int zc), .val (.int mk), .val (.ref b125), .val (.int sel), .val (.int (7 : Int32)), .unset, .unset, .unset, .unset] [(.ref b403), (.ref b400), (.ref b400)])
      refine s_dup (pc' := 220) X403.here hx (hb hby at_219) rfl rfl ?_
      refine s_iconst (pc' := 221) (v := (0 : Int32)) X403.here hx (hb hby at_220) rfl rfl ?_
      refine s_aload (pc' := 223) X403.here hx (hb hby at_221) rfl rfl rfl ?_
      refine s_iconst (pc' := 224) (v := (0 : Int32)) X403.here hx (hb hby at_223) rfl rfl ?_
      have f407 : Arv Z h403 b125 k125 .char (8 : Int32) [(.int r127), (.int r131), (.int r135), (.int r139), (.int r143), (.int r147), (.int r151), (.int r155)] (.int (0 : Int32)) := ((V157.ext E400).ext E403)
      obtain ⟨cl408, Ar408, Aq408, As408, An408, Ah408, Ag408⟩ := id f407
      have in409 := inb_of (j := (0 : Int32)) As408 (by decide)
      have at409 : cl408.slots[((0 : Int32)).toNatClampNeg]? = some (.int r127) := Ah408.at in409 rfl
      refine Go.st (X403.caload hx (j := (0 : Int32)) (v := (.int r127)) (by rw [e403]; exact Ar408.1) (State.isArrayOf_alike hZ.alike Ar408.2.1) Ar408.2.2 in409 at409 (g := (mkF m 224 #[.val (.int p0), .val (.int p1), .val (.long p2), .second, .val (.int zc), .val (.int mk), .val (.ref b125), .val (.int sel), .val (.int (7 : Int32)), .unset, .unset, .unset, .unset] [(.int (0 : Int32)), (.ref b125), (.int (0 : Int32)), (.ref b403), (.ref b403), (.ref b400), (.ref b400)])) rfl rfl (hb hby at_224)) ?_
      show Go p.tables e below Kx T403 (mkF m 225 #[.val (.int p0), .val (.int p1), .val (.long p2), .second, .val (.int zc), .val (.int mk), .val (.ref b125), .val (.int sel), .val (.int (7 : Int32)), .unset, .unset, .unset, .unset] [(.int r127), (.int (0 : Int32)), (.ref b403), (.ref b403), (.ref b400), (.ref b400)])
      obtain ⟨cl410, Ar410, Aq410, As410, An410, Ah410, Ag410⟩ := id V403
      have in411 := inb_of (j := (0 : Int32)) As410 (by decide)
      obtain ⟨T411, h411, X411, e411, W411, st411⟩ := stC X403 hx hZ e403 Ar410 (j := (0 : Int32)) in411 (g := (mkF m 225 #[.val (.int p0), .val (.int p1), .val (.long p2), .second, .val (.int zc), .val (.int mk), .val (.ref b125), .val (.int sel), .val (.int (7 : Int32)), .unset, .unset, .unset, .unset] [(.int r127), (.int (0 : Int32)), (.ref b403), (.ref b403), (.ref b400), (.ref b400)])) rfl rfl (hb hby at_225)
      have V411 : Arv Z h411 b403 k403 .char (7 : Int32) [(.int r127), (.int (0 : Int32)), (.int (0 : Int32)), (.int (0 : Int32)), (.int (0 : Int32)), (.int (0 : Int32)), (.int (0 : Int32))] (.int (0 : Int32)) := by
        have q := Arv.set Ar410 Aq410 As410 An410 Ah410 Ag410 (fits_nar_char _) W411 0 rfl (Nat.le_of_ble_eq_true rfl)
        rw [chr_nar hr127] at q; exact q
      have K411 : Keep h0 h411 [] := K403.wr W411 (Or.inr sz403)
      have O411 : Old Z n0 h411 := O403.wr W411 ge403
      have sf412 : Safe Z consts_1 s.vm h411 b125 := (Safe.wr W411 sf406 H403 sf404)
      have sf413 : Safe Z consts_1 s.vm h411 b400 := (Safe.wr W411 sf406 H403 sf405)
      have sf414 : Safe Z consts_1 s.vm h411 b403 := (Safe.wr W411 sf406 H403 sf406)
      have H411 : CHv Z consts_1 s.vm h411 := H403.wr W411 sf406
      have C411 : CHr Z consts_1 s.vm h0 s.vm h411 := C403.trans (CHr.wr W411 sf406 H403)
      have hk411 := Nat.le_trans hk403 (Nat.le_of_eq W411.size.symm)
      have N411 := Fr.snoc X411 N157 ge403
      refine Go.st st411 ?_
      show Go p.tables e below Kx T411 (mkF m 226 #[.val (.int p0), .val (.int p1), .val (.long p2), .second, .val (.int zc), .val (.int mk), .val (.ref b125), .val (.int sel), .val (.int (7 : Int32)), .unset, .unset, .unset, .unset] [(.ref b403), (.ref b400), (.ref b400)])
      refine s_dup (pc' := 227) X411.here hx (hb hby at_226) rfl rfl ?_
      refine s_iconst (pc' := 228) (v := (1 : Int32)) X411.here hx (hb hby at_227) rfl rfl ?_
      refine s_aload (pc' := 230) X411.here hx (hb hby at_228) rfl rfl rfl ?_
      refine s_iconst (pc' := 231) (v := (1 : Int32)) X411.here hx (hb hby at_230) rfl rfl ?_
      have f415 : Arv Z h411 b125 k125 .char (8 : Int32) [(.int r127), (.int r131), (.int r135), (.int r139), (.int r143), (.int r147), (.int r151), (.int r155)] (.int (0 : Int32)) := (f407.other W411 (Nat.ne_of_lt (Nat.lt_of_lt_of_le (Nat.lt_of_lt_of_le lt165 E400.1) (Nat.le_of_eq g403.symm))))
      obtain ⟨cl416, Ar416, Aq416, As416, An416, Ah416, Ag416⟩ := id f415
      have in417 := inb_of (j := (1 : Int32)) As416 (by decide)
      have at417 : cl416.slots[((1 : Int32)).toNatClampNeg]? = some (.int r131) := Ah416.at in417 rfl
      refine Go.st (X411.caload hx (j := (1 : Int32)) (v := (.int r131)) (by rw [e411]; exact Ar416.1) (State.isArrayOf_alike hZ.alike Ar416.2.1) Ar416.2.2 in417 at417 (g := (mkF m 231 #[.val (.int p0), .val (.int p1), .val (.long p2), .second, .val (.int zc), .val (.int mk), .val (.ref b125), .val (.int sel), .val (.int (7 : Int32)), .unset, .unset, .unset, .unset] [(.int (1 : Int32)), (.ref b125), (.int (1 : Int32)), (.ref b403), (.ref b403), (.ref b400), (.ref b400)])) rfl rfl (hb hby at_231)) ?_
      show Go p.tables e below Kx T411 (mkF m 232 #[.val (.int p0), .val (.int p1), .val (.long p2), .second, .val (.int zc), .val (.int mk), .val (.ref b125), .val (.int sel), .val (.int (7 : Int32)), .unset, .unset, .unset, .unset] [(.int r131), (.int (1 : Int32)), (.ref b403), (.ref b403), (.ref b400), (.ref b400)])
      obtain ⟨cl418, Ar418, Aq418, As418, An418, Ah418, Ag418⟩ := id V411
      have in419 := inb_of (j := (1 : Int32)) As418 (by decide)
      obtain ⟨T419, h419, X419, e419, W419, st419⟩ := stC X411 hx hZ e411 Ar418 (j := (1 : Int32)) in419 (g := (mkF m 232 #[.val (.int p0), .val (.int p1), .val (.long p2), .second, .val (.int zc), .val (.int mk), .val (.ref b125), .val (.int sel), .val (.int (7 : Int32)), .unset, .unset, .unset, .unset] [(.int r131), (.int (1 : Int32)), (.ref b403), (.ref b403), (.ref b400), (.ref b400)])) rfl rfl (hb hby at_232)
      have V419 : Arv Z h419 b403 k403 .char (7 : Int32) [(.int r127), (.int r131), (.int (0 : Int32)), (.int (0 : Int32)), (.int (0 : Int32)), (.int (0 : Int32)), (.int (0 : Int32))] (.int (0 : Int32)) := by
        have q := Arv.set Ar418 Aq418 As418 An418 Ah418 Ag418 (fits_nar_char _) W419 1 rfl (Nat.le_of_ble_eq_true rfl)
        rw [chr_nar hr131] at q; exact q
      have K419 : Keep h0 h419 [] := K411.wr W419 (Or.inr sz403)
      have O419 : Old Z n0 h419 := O411.wr W419 ge403
      have sf420 : Safe Z consts_1 s.vm h419 b125 := (Safe.wr W419 sf414 H411 sf412)
      have sf421 : Safe Z consts_1 s.vm h419 b400 := (Safe.wr W419 sf414 H411 sf413)
      have sf422 : Safe Z consts_1 s.vm h419 b403 := (Safe.wr W419 sf414 H411 sf414)
      have H419 : CHv Z consts_1 s.vm h419 := H411.wr W419 sf414
      have C419 : CHr Z consts_1 s.vm h0 s.vm h419 := C411.trans (CHr.wr W419 sf414 H411)
      have hk419 := Nat.le_trans hk411 (Nat.le_of_eq W419.size.symm)
      have N419 := Fr.snoc X419 N411 ge403
      refine Go.st st419 ?_
      show Go p.tables e below Kx T419 (mkF m 233 #[.val (.int p0), .val (.int p1), .val (.long p2), .second, .val (.int zc), .val (.int mk), .val (.ref b125), .val (.int sel), .val (.int (7 : Int32)), .unset, .unset, .unset, .unset] [(.ref b403), (.ref b400), (.ref b400)])
      refine s_dup (pc' := 234) X419.here hx (hb hby at_233) rfl rfl ?_
      refine s_iconst (pc' := 235) (v := (2 : Int32)) X419.here hx (hb hby at_234) rfl rfl ?_
      refine s_aload (pc' := 237) X419.here hx (hb hby at_235) rfl rfl rfl ?_
      refine s_iconst (pc' := 238) (v := (2 : Int32)) X419.here hx (hb hby at_237) rfl rfl ?_
      have f423 : Arv Z h419 b125 k125 .char (8 : Int32) [(.int r127), (.int r131), (.int r135), (.int r139), (.int r143), (.int r147), (.int r151), (.int r155)] (.int (0 : Int32)) := (f415.other W419 (Nat.ne_of_lt (Nat.lt_of_lt_of_le (Nat.lt_of_lt_of_le lt165 E400.1) (Nat.le_of_eq g403.symm))))
      obtain ⟨cl424, Ar424, Aq424, As424, An424, Ah424, Ag424⟩ := id f423
      have in425 := inb_of (j := (2 : Int32)) As424 (by decide)
      have at425 : cl424.slots[((2 : Int32)).toNatClampNeg]? = some (.int r135) := Ah424.at in425 rfl
      refine Go.st (X419.caload hx (j := (2 : Int32)) (v := (.int r135)) (by rw [e419]; exact Ar424.1) (State.isArrayOf_alike hZ.alike Ar424.2.1) Ar424.2.2 in425 at425 (g := (mkF m 238 #[.val (.int p0), .val (.int p1), .val (.long p2), .second, .val (.int zc), .val (.int mk), .val (.ref b125), .val (.int sel), .val (.int (7 : Int32)), .unset, .unset, .unset, .unset] [(.int (2 : Int32)), (.ref b125), (.int (2 : Int32)), (.ref b403), (.ref b403), (.ref b400), (.ref b400)])) rfl rfl (hb hby at_238)) ?_
      show Go p.tables e below Kx T419 (mkF m 239 #[.val (.int p0), .val (.int p1), .val (.long p2), .second, .val (.int zc), .val (.int mk), .val (.ref b125), .val (.int sel), .val (.int (7 : Int32)), .unset, .unset, .unset, .unset] [(.int r135), (.int (2 : Int32)), (.ref b403), (.ref b403), (.ref b400), (.ref b400)])
      obtain ⟨cl426, Ar426, Aq426, As426, An426, Ah426, Ag426⟩ := id V419
      have in427 := inb_of (j := (2 : Int32)) As426 (by decide)
      obtain ⟨T427, h427, X427, e427, W427, st427⟩ := stC X419 hx hZ e419 Ar426 (j := (2 : Int32)) in427 (g := (mkF m 239 #[.val (.int p0), .val (.int p1), .val (.long p2), .second, .val (.int zc), .val (.int mk), .val (.ref b125), .val (.int sel), .val (.int (7 : Int32)), .unset, .unset, .unset, .unset] [(.int r135), (.int (2 : Int32)), (.ref b403), (.ref b403), (.ref b400), (.ref b400)])) rfl rfl (hb hby at_239)
      have V427 : Arv Z h427 b403 k403 .char (7 : Int32) [(.int r127), (.int r131), (.int r135), (.int (0 : Int32)), (.int (0 : Int32)), (.int (0 : Int32)), (.int (0 : Int32))] (.int (0 : Int32)) := by
        have q := Arv.set Ar426 Aq426 As426 An426 Ah426 Ag426 (fits_nar_char _) W427 2 rfl (Nat.le_of_ble_eq_true rfl)
        rw [chr_nar hr135] at q; exact q
      have K427 : Keep h0 h427 [] := K419.wr W427 (Or.inr sz403)
      have O427 : Old Z n0 h427 := O419.wr W427 ge403
      have sf428 : Safe Z consts_1 s.vm h427 b125 := (Safe.wr W427 sf422 H419 sf420)
      have sf429 : Safe Z consts_1 s.vm h427 b400 := (Safe.wr W427 sf422 H419 sf421)
      have sf430 : Safe Z consts_1 s.vm h427 b403 := (Safe.wr W427 sf422 H419 sf422)
      have H427 : CHv Z consts_1 s.vm h427 := H419.wr W427 sf422
      have C427 : CHr Z consts_1 s.vm h0 s.vm h427 := C419.trans (CHr.wr W427 sf422 H419)
      have hk427 := Nat.le_trans hk419 (Nat.le_of_eq W427.size.symm)
      have N427 := Fr.snoc X427 N419 ge403
      refine Go.st st427 ?_
      show Go p.tables e below Kx T427 (mkF m 240 #[.val (.int p0), .val (.int p1), .val (.long p2), .second, .val (.int zc), .val (.int mk), .val (.ref b125), .val (.int sel), .val (.int (7 : Int32)), .unset, .unset, .unset, .unset] [(.ref b403), (.ref b400), (.ref b400)])
      refine s_dup (pc' := 241) X427.here hx (hb hby at_240) rfl rfl ?_
      refine s_iconst (pc' := 242) (v := (3 : Int32)) X427.here hx (hb hby at_241) rfl rfl ?_
      refine s_aload (pc' := 244) X427.here hx (hb hby at_242) rfl rfl rfl ?_
      refine s_iconst (pc' := 245) (v := (3 : Int32)) X427.here hx (hb hby at_244) rfl rfl ?_
      have f431 : Arv Z h427 b125 k125 .char (8 : Int32) [(.int r127), (.int r131), (.int r135), (.int r139), (.int r143), (.int r147), (.int r151), (.int r155)] (.int (0 : Int32)) := (f423.other W427 (Nat.ne_of_lt (Nat.lt_of_lt_of_le (Nat.lt_of_lt_of_le lt165 E400.1) (Nat.le_of_eq g403.symm))))
      obtain ⟨cl432, Ar432, Aq432, As432, An432, Ah432, Ag432⟩ := id f431
      have in433 := inb_of (j := (3 : Int32)) As432 (by decide)
      have at433 : cl432.slots[((3 : Int32)).toNatClampNeg]? = some (.int r139) := Ah432.at in433 rfl
      refine Go.st (X427.caload hx (j := (3 : Int32)) (v := (.int r139)) (by rw [e427]; exact Ar432.1) (State.isArrayOf_alike hZ.alike Ar432.2.1) Ar432.2.2 in433 at433 (g := (mkF m 245 #[.val (.int p0), .val (.int p1), .val (.long p2), .second, .val (.int zc), .val (.int mk), .val (.ref b125), .val (.int sel), .val (.int (7 : Int32)), .unset, .unset, .unset, .unset] [(.int (3 : Int32)), (.ref b125), (.int (3 : Int32)), (.ref b403), (.ref b403), (.ref b400), (.ref b400)])) rfl rfl (hb hby at_245)) ?_
      show Go p.tables e below Kx T427 (mkF m 246 #[.val (.int p0), .val (.int p1), .val (.long p2), .second, .val (.int zc), .val (.int mk), .val (.ref b125), .val (.int sel), .val (.int (7 : Int32)), .unset, .unset, .unset, .unset] [(.int r139), (.int (3 : Int32)), (.ref b403), (.ref b403), (.ref b400), (.ref b400)])
      obtain ⟨cl434, Ar434, Aq434, As434, An434, Ah434, Ag434⟩ := id V427
      have in435 := inb_of (j := (3 : Int32)) As434 (by decide)
      obtain ⟨T435, h435, X435, e435, W435, st435⟩ := stC X427 hx hZ e427 Ar434 (j := (3 : Int32)) in435 (g := (mkF m 246 #[.val (.int p0), .val (.int p1), .val (.long p2), .second, .val (.int zc), .val (.int mk), .val (.ref b125), .val (.int sel), .val (.int (7 : Int32)), .unset, .unset, .unset, .unset] [(.int r139), (.int (3 : Int32)), (.ref b403), (.ref b403), (.ref b400), (.ref b400)])) rfl rfl (hb hby at_246)
      have V435 : Arv Z h435 b403 k403 .char (7 : Int32) [(.int r127), (.int r131), (.int r135), (.int r139), (.int (0 : Int32)), (.int (0 : Int32)), (.int (0 : Int32))] (.int (0 : Int32)) := by
        have q := Arv.set Ar434 Aq434 As434 An434 Ah434 Ag434 (fits_nar_char _) W435 3 rfl (Nat.le_of_ble_eq_true rfl)
        rw [chr_nar hr139] at q; exact q
      have K435 : Keep h0 h435 [] := K427.wr W435 (Or.inr sz403)
      have O435 : Old Z n0 h435 := O427.wr W435 ge403
      have sf436 : Safe Z consts_1 s.vm h435 b125 := (Safe.wr W435 sf430 H427 sf428)
      have sf437 : Safe Z consts_1 s.vm h435 b400 := (Safe.wr W435 sf430 H427 sf429)
      have sf438 : Safe Z consts_1 s.vm h435 b403 := (Safe.wr W435 sf430 H427 sf430)
      have H435 : CHv Z consts_1 s.vm h435 := H427.wr W435 sf430
      have C435 : CHr Z consts_1 s.vm h0 s.vm h435 := C427.trans (CHr.wr W435 sf430 H427)
      have hk435 := Nat.le_trans hk427 (Nat.le_of_eq W435.size.symm)
      have N435 := Fr.snoc X435 N427 ge403
      refine Go.st st435 ?_
      show Go p.tables e below Kx T435 (mkF m 247 #[.val (.int p0), .val (.int p1), .val (.long p2), .second, .val (.int zc), .val (.int mk), .val (.ref b125), .val (.int sel), .val (.int (7 : Int32)), .unset, .unset, .unset, .unset] [(.ref b403), (.ref b400), (.ref b400)])
      refine s_dup (pc' := 248) X435.here hx (hb hby at_247) rfl rfl ?_
      refine s_iconst (pc' := 249) (v := (4 : Int32)) X435.here hx (hb hby at_248) rfl rfl ?_
      refine s_aload (pc' := 251) X435.here hx (hb hby at_249) rfl rfl rfl ?_
      refine s_iconst (pc' := 252) (v := (4 : Int32)) X435.here hx (hb hby at_251) rfl rfl ?_
      have f439 : Arv Z h435 b125 k125 .char (8 : Int32) [(.int r127), (.int r131), (.int r135), (.int r139), (.int r143), (.int r147), (.int r151), (.int r155)] (.int (0 : Int32)) := (f431.other W435 (Nat.ne_of_lt (Nat.lt_of_lt_of_le (Nat.lt_of_lt_of_le lt165 E400.1) (Nat.le_of_eq g403.symm))))
      obtain ⟨cl440, Ar440, Aq440, As440, An440, Ah440, Ag440⟩ := id f439
      have in441 := inb_of (j := (4 : Int32)) As440 (by decide)
      have at441 : cl440.slots[((4 : Int32)).toNatClampNeg]? = some (.int r143) := Ah440.at in441 rfl
      refine Go.st (X435.caload hx (j := (4 : Int32)) (v := (.int r143)) (by rw [e435]; exact Ar440.1) (State.isArrayOf_alike hZ.alike Ar440.2.1) Ar440.2.2 in441 at441 (g := (mkF m 252 #[.val (.int p0), .val (.int p1), .val (.long p2), .second, .val (.int zc), .val (.int mk), .val (.ref b125), .val (.int sel), .val (.int (7 : Int32)), .unset, .unset, .unset, .unset] [(.int (4 : Int32)), (.ref b125), (.int (4 : Int32)), (.ref b403), (.ref b403), (.ref b400), (.ref b400)])) rfl rfl (hb hby at_252)) ?_
      show Go p.tables e below Kx T435 (mkF m 253 #[.val (.int p0), .val (.int p1), .val (.long p2), .second, .val (.int zc), .val (.int mk), .val (.ref b125), .val (.int sel), .val (.int (7 : Int32)), .unset, .unset, .unset, .unset] [(.int r143), (.int (4 : Int32)), (.ref b403), (.ref b403), (.ref b400), (.ref b400)])
      obtain ⟨cl442, Ar442, Aq442, As442, An442, Ah442, Ag442⟩ := id V435
      have in443 := inb_of (j := (4 : Int32)) As442 (by decide)
      obtain ⟨T443, h443, X443, e443, W443, st443⟩ := stC X435 hx hZ e435 Ar442 (j := (4 : Int32)) in443 (g := (mkF m 253 #[.val (.int p0), .val (.int p1), .val (.long p2), .second, .val (.int zc), .val (.int mk), .val (.ref b125), .val (.int sel), .val (.int (7 : Int32)), .unset, .unset, .unset, .unset] [(.int r143), (.int (4 : Int32)), (.ref b403), (.ref b403), (.ref b400), (.ref b400)])) rfl rfl (hb hby at_253)
      have V443 : Arv Z h443 b403 k403 .char (7 : Int32) [(.int r127), (.int r131), (.int r135), (.int r139), (.int r143), (.int (0 : Int32)), (.int (0 : Int32))] (.int (0 : Int32)) := by
        have q := Arv.set Ar442 Aq442 As442 An442 Ah442 Ag442 (fits_nar_char _) W443 4 rfl (Nat.le_of_ble_eq_true rfl)
        rw [chr_nar hr143] at q; exact q
      have K443 : Keep h0 h443 [] := K435.wr W443 (Or.inr sz403)
      have O443 : Old Z n0 h443 := O435.wr W443 ge403
      have sf444 : Safe Z consts_1 s.vm h443 b125 := (Safe.wr W443 sf438 H435 sf436)
      have sf445 : Safe Z consts_1 s.vm h443 b400 := (Safe.wr W443 sf438 H435 sf437)
      have sf446 : Safe Z consts_1 s.vm h443 b403 := (Safe.wr W443 sf438 H435 sf438)
      have H443 : CHv Z consts_1 s.vm h443 := H435.wr W443 sf438
      have C443 : CHr Z consts_1 s.vm h0 s.vm h443 := C435.trans (CHr.wr W443 sf438 H435)
      have hk443 := Nat.le_trans hk435 (Nat.le_of_eq W443.size.symm)
      have N443 := Fr.snoc X443 N435 ge403
      refine Go.st st443 ?_
      show Go p.tables e below Kx T443 (mkF m 254 #[.val (.int p0), .val (.int p1), .val (.long p2), .second, .val (.int zc), .val (.int mk), .val (.ref b125), .val (.int sel), .val (.int (7 : Int32)), .unset, .unset, .unset, .unset] [(.ref b403), (.ref b400), (.ref b400)])
      refine s_dup (pc' := 255) X443.here hx (hb hby at_254) rfl rfl ?_
      refine s_iconst (pc' := 256) (v := (5 : Int32)) X443.here hx (hb hby at_255) rfl rfl ?_
      refine s_aload (pc' := 258) X443.here hx (hb hby at_256) rfl rfl rfl ?_
      refine s_iconst (pc' := 259) (v := (5 : Int32)) X443.here hx (hb hby at_258) rfl rfl ?_
      have f447 : Arv Z h443 b125 k125 .char (8 : Int32) [(.int r127), (.int r131), (.int r135), (.int r139), (.int r143), (.int r147), (.int r151), (.int r155)] (.int (0 : Int32)) := (f439.other W443 (Nat.ne_of_lt (Nat.lt_of_lt_of_le (Nat.lt_of_lt_of_le lt165 E400.1) (Nat.le_of_eq g403.symm))))
      obtain ⟨cl448, Ar448, Aq448, As448, An448, Ah448, Ag448⟩ := id f447
      have in449 := inb_of (j := (5 : Int32)) As448 (by decide)
      have at449 : cl448.slots[((5 : Int32)).toNatClampNeg]? = some (.int r147) := Ah448.at in449 rfl
      refine Go.st (X443.caload hx (j := (5 : Int32)) (v := (.int r147)) (by rw [e443]; exact Ar448.1) (State.isArrayOf_alike hZ.alike Ar448.2.1) Ar448.2.2 in449 at449 (g := (mkF m 259 #[.val (.int p0), .val (.int p1), .val (.long p2), .second, .val (.int zc), .val (.int mk), .val (.ref b125), .val (.int sel), .val (.int (7 : Int32)), .unset, .unset, .unset, .unset] [(.int (5 : Int32)), (.ref b125), (.int (5 : Int32)), (.ref b403), (.ref b403), (.ref b400), (.ref b400)])) rfl rfl (hb hby at_259)) ?_
      show Go p.tables e below Kx T443 (mkF m 260 #[.val (.int p0), .val (.int p1), .val (.long p2), .second, .val (.int zc), .val (.int mk), .val (.ref b125), .val (.int sel), .val (.int (7 : Int32)), .unset, .unset, .unset, .unset] [(.int r147), (.int (5 : Int32)), (.ref b403), (.ref b403), (.ref b400), (.ref b400)])
      obtain ⟨cl450, Ar450, Aq450, As450, An450, Ah450, Ag450⟩ := id V443
      have in451 := inb_of (j := (5 : Int32)) As450 (by decide)
      obtain ⟨T451, h451, X451, e451, W451, st451⟩ := stC X443 hx hZ e443 Ar450 (j := (5 : Int32)) in451 (g := (mkF m 260 #[.val (.int p0), .val (.int p1), .val (.long p2), .second, .val (.int zc), .val (.int mk), .val (.ref b125), .val (.int sel), .val (.int (7 : Int32)), .unset, .unset, .unset, .unset] [(.int r147), (.int (5 : Int32)), (.ref b403), (.ref b403), (.ref b400), (.ref b400)])) rfl rfl (hb hby at_260)
      have V451 : Arv Z h451 b403 k403 .char (7 : Int32) [(.int r127), (.int r131), (.int r135), (.int r139), (.int r143), (.int r147), (.int (0 : Int32))] (.int (0 : Int32)) := by
        have q := Arv.set Ar450 Aq450 As450 An450 Ah450 Ag450 (fits_nar_char _) W451 5 rfl (Nat.le_of_ble_eq_true rfl)
        rw [chr_nar hr147] at q; exact q
      have K451 : Keep h0 h451 [] := K443.wr W451 (Or.inr sz403)
      have O451 : Old Z n0 h451 := O443.wr W451 ge403
      have sf452 : Safe Z consts_1 s.vm h451 b125 := (Safe.wr W451 sf446 H443 sf444)
      have sf453 : Safe Z consts_1 s.vm h451 b400 := (Safe.wr W451 sf446 H443 sf445)
      have sf454 : Safe Z consts_1 s.vm h451 b403 := (Safe.wr W451 sf446 H443 sf446)
      have H451 : CHv Z consts_1 s.vm h451 := H443.wr W451 sf446
      have C451 : CHr Z consts_1 s.vm h0 s.vm h451 := C443.trans (CHr.wr W451 sf446 H443)
      have hk451 := Nat.le_trans hk443 (Nat.le_of_eq W451.size.symm)
      have N451 := Fr.snoc X451 N443 ge403
      refine Go.st st451 ?_
      show Go p.tables e below Kx T451 (mkF m 261 #[.val (.int p0), .val (.int p1), .val (.long p2), .second, .val (.int zc), .val (.int mk), .val (.ref b125), .val (.int sel), .val (.int (7 : Int32)), .unset, .unset, .unset, .unset] [(.ref b403), (.ref b400), (.ref b400)])
      refine s_dup (pc' := 262) X451.here hx (hb hby at_261) rfl rfl ?_
      refine s_bipush (pc' := 264) (v := (6 : Int32)) X451.here hx (hb hby at_262) rfl rfl ?_
      refine s_aload (pc' := 266) X451.here hx (hb hby at_264) rfl rfl rfl ?_
      refine s_bipush (pc' := 268) (v := (6 : Int32)) X451.here hx (hb hby at_266) rfl rfl ?_
      have f455 : Arv Z h451 b125 k125 .char (8 : Int32) [(.int r127), (.int r131), (.int r135), (.int r139), (.int r143), (.int r147), (.int r151), (.int r155)] (.int (0 : Int32)) := (f447.other W451 (Nat.ne_of_lt (Nat.lt_of_lt_of_le (Nat.lt_of_lt_of_le lt165 E400.1) (Nat.le_of_eq g403.symm))))
      obtain ⟨cl456, Ar456, Aq456, As456, An456, Ah456, Ag456⟩ := id f455
      have in457 := inb_of (j := (6 : Int32)) As456 (by decide)
      have at457 : cl456.slots[((6 : Int32)).toNatClampNeg]? = some (.int r151) := Ah456.at in457 rfl
      refine Go.st (X451.caload hx (j := (6 : Int32)) (v := (.int r151)) (by rw [e451]; exact Ar456.1) (State.isArrayOf_alike hZ.alike Ar456.2.1) Ar456.2.2 in457 at457 (g := (mkF m 268 #[.val (.int p0), .val (.int p1), .val (.long p2), .second, .val (.int zc), .val (.int mk), .val (.ref b125), .val (.int sel), .val (.int (7 : Int32)), .unset, .unset, .unset, .unset] [(.int (6 : Int32)), (.ref b125), (.int (6 : Int32)), (.ref b403), (.ref b403), (.ref b400), (.ref b400)])) rfl rfl (hb hby at_268)) ?_
      show Go p.tables e below Kx T451 (mkF m 269 #[.val (.int p0), .val (.int p1), .val (.long p2), .second, .val (.int zc), .val (.int mk), .val (.ref b125), .val (.int sel), .val (.int (7 : Int32)), .unset, .unset, .unset, .unset] [(.int r151), (.int (6 : Int32)), (.ref b403), (.ref b403), (.ref b400), (.ref b400)])
      obtain ⟨cl458, Ar458, Aq458, As458, An458, Ah458, Ag458⟩ := id V451
      have in459 := inb_of (j := (6 : Int32)) As458 (by decide)
      obtain ⟨T459, h459, X459, e459, W459, st459⟩ := stC X451 hx hZ e451 Ar458 (j := (6 : Int32)) in459 (g := (mkF m 269 #[.val (.int p0), .val (.int p1), .val (.long p2), .second, .val (.int zc), .val (.int mk), .val (.ref b125), .val (.int sel), .val (.int (7 : Int32)), .unset, .unset, .unset, .unset] [(.int r151), (.int (6 : Int32)), (.ref b403), (.ref b403), (.ref b400), (.ref b400)])) rfl rfl (hb hby at_269)
      have V459 : Arv Z h459 b403 k403 .char (7 : Int32) [(.int r127), (.int r131), (.int r135), (.int r139), (.int r143), (.int r147), (.int r151)] (.int (0 : Int32)) := by
        have q := Arv.set Ar458 Aq458 As458 An458 Ah458 Ag458 (fits_nar_char _) W459 6 rfl (Nat.le_of_ble_eq_true rfl)
        rw [chr_nar hr151] at q; exact q
      have K459 : Keep h0 h459 [] := K451.wr W459 (Or.inr sz403)
      have O459 : Old Z n0 h459 := O451.wr W459 ge403
      have sf460 : Safe Z consts_1 s.vm h459 b125 := (Safe.wr W459 sf454 H451 sf452)
      have sf461 : Safe Z consts_1 s.vm h459 b400 := (Safe.wr W459 sf454 H451 sf453)
      have sf462 : Safe Z consts_1 s.vm h459 b403 := (Safe.wr W459 sf454 H451 sf454)
      have H459 : CHv Z consts_1 s.vm h459 := H451.wr W459 sf454
      have C459 : CHr Z consts_1 s.vm h0 s.vm h459 := C451.trans (CHr.wr W459 sf454 H451)
      have hk459 := Nat.le_trans hk451 (Nat.le_of_eq W459.size.symm)
      have N459 := Fr.snoc X459 N451 ge403
      refine Go.st st459 ?_
      show Go p.tables e below Kx T459 (mkF m 270 #[.val (.int p0), .val (.int p1), .val (.long p2), .second, .val (.int zc), .val (.int mk), .val (.ref b125), .val (.int sel), .val (.int (7 : Int32)), .unset, .unset, .unset, .unset] [(.ref b403), (.ref b400), (.ref b400)])
      have f463 : Exa Z h459 b400 "java/lang/String" := ((((((((A400.ext E403).wr W411).wr W419).wr W427).wr W435).wr W443).wr W451).wr W459)
      have f464 : Fld Z h459 b400 "java/lang/String" "value" "[B" .null := ((((((((F400_value.ext E403).other W411 (Or.inl (Nat.ne_of_lt (Nat.lt_of_lt_of_le A400.lt (Nat.le_of_eq g403.symm))))).other W419 (Or.inl (Nat.ne_of_lt (Nat.lt_of_lt_of_le A400.lt (Nat.le_of_eq g403.symm))))).other W427 (Or.inl (Nat.ne_of_lt (Nat.lt_of_lt_of_le A400.lt (Nat.le_of_eq g403.symm))))).other W435 (Or.inl (Nat.ne_of_lt (Nat.lt_of_lt_of_le A400.lt (Nat.le_of_eq g403.symm))))).other W443 (Or.inl (Nat.ne_of_lt (Nat.lt_of_lt_of_le A400.lt (Nat.le_of_eq g403.symm))))).other W451 (Or.inl (Nat.ne_of_lt (Nat.lt_of_lt_of_le A400.lt (Nat.le_of_eq g403.symm))))).other W459 (Or.inl (Nat.ne_of_lt (Nat.lt_of_lt_of_le A400.lt (Nat.le_of_eq g403.symm)))))
      have f465 : Fld Z h459 b400 "java/lang/String" "coder" "B" (.int (0 : Int32)) := ((((((((F400_coder.ext E403).other W411 (Or.inl (Nat.ne_of_lt (Nat.lt_of_lt_of_le A400.lt (Nat.le_of_eq g403.symm))))).other W419 (Or.inl (Nat.ne_of_lt (Nat.lt_of_lt_of_le A400.lt (Nat.le_of_eq g403.symm))))).other W427 (Or.inl (Nat.ne_of_lt (Nat.lt_of_lt_of_le A400.lt (Nat.le_of_eq g403.symm))))).other W435 (Or.inl (Nat.ne_of_lt (Nat.lt_of_lt_of_le A400.lt (Nat.le_of_eq g403.symm))))).other W443 (Or.inl (Nat.ne_of_lt (Nat.lt_of_lt_of_le A400.lt (Nat.le_of_eq g403.symm))))).other W451 (Or.inl (Nat.ne_of_lt (Nat.lt_of_lt_of_le A400.lt (Nat.le_of_eq g403.symm))))).other W459 (Or.inl (Nat.ne_of_lt (Nat.lt_of_lt_of_le A400.lt (Nat.le_of_eq g403.symm)))))
      have hp466 : ∀ c ∈ ([r127, r131, r135, r139, r143, r147, r151] : List Int32), ¬ c < 0 ∧ ¬ (255 : Int32) < c := by
        intro c hc
        simp only [List.mem_cons, List.not_mem_nil, or_false] at hc
        rcases hc with rfl | rfl | rfl | rfl | rfl | rfl | rfl
        · exact hr127
        · exact hr131
        · exact hr135
        · exact hr139
        · exact hr143
        · exact hr147
        · exact hr151
      obtain ⟨_, _, ⟨T467, L467, k467, n467⟩, -, X467, ⟨Lc467, hQ467, l467, y467, z467⟩, st467⟩ := X459.specialBack hx (y := (⟨"java/lang/String", "<init>", "([C)V"⟩ : MethodName)) rfl hown (mvT hZ (hw _ (List.mem_of_getElem? (i := 8) rfl))) (mvT hZ (hw _ (List.mem_of_getElem? (i := 9) rfl))) (mvT hZ (hw _ (List.mem_of_getElem? (i := 10) rfl))) (by decide) (StrChars.Road.backV (W := 1) hZ (hwsV Z a0 hw) (kI := 4) (hw _ (List.mem_of_getElem? (i := 6) rfl)) (cs := [r127, r131, r135, r139, r143, r147, r151]) (bs := ([r127, r131, r135, r139, r143, r147, r151] : List Int32).map (fun c => c.toInt8.toInt32)) (n := 7) ge400 (O459.1 ▸ O459.2.1) f463 f464 f465 V459 (S1.ext O459.2) P1 rfl rfl (by decide) (by decide) hp466 rfl (by decide) (by decide)) (g := (mkF m 270 #[.val (.int p0), .val (.int p1), .val (.long p2), .second, .val (.int zc), .val (.int mk), .val (.ref b125), .val (.int sel), .val (.int (7 : Int32)), .unset, .unset, .unset, .unset] [(.ref b403), (.ref b400), (.ref b400)])) rfl (by rw [hml]; rfl) (Steps.refl _) (a := b400) (argsL := [(.ref b403)]) (rest := [(.ref b400)]) (lenOf pd_8 rfl) rfl (by show 2 * 0 + _ ≤ _; exact Nat.le_of_eq rfl) (hb hby at_270) (fun _ _ => ⟨rfl, e459, (by decide : 3 + 1 ≤ _), (by decide : 19 + 7 ≤ _)⟩)
      dsimp only [Pt.U, Pt.locs, Pt.cells, Pt.slots] at X467 l467 y467 z467 st467 hQ467
      rw [l467, y467, z467] at X467
      obtain ⟨rfl, Nq467, Kq467, q1_467, q2_467, t467, kt467, -, -, -, q3_467, q4_467⟩ := hQ467
      have N467 := Fr.app N459 Nq467
      have K467 : Keep h0 T467.heap [] := K459.trans Kq467 (allS (P := fun zz => zz ∈ [] ∨ h0.size ≤ zz) (Or.inr sz400) all0)
      have O467 : Old Z n0 T467.heap := O459.keep Kq467 (allS ge400 all0)
      have sf468 : Safe Z consts_1 s.vm T467.heap b125 := (Safe.keep Kq467 (sfS sf461 sf0) H459 sf460)
      have sf469 : Safe Z consts_1 s.vm T467.heap b400 := (Safe.keep Kq467 (sfS sf461 sf0) H459 sf461)
      have sf470 : Safe Z consts_1 s.vm T467.heap b403 := (Safe.keep Kq467 (sfS sf461 sf0) H459 sf462)
      have H467 : CHv Z consts_1 s.vm T467.heap := H459.keep Kq467 (sfS sf461 sf0)
      have C467 : CHr Z consts_1 s.vm h0 s.vm T467.heap := C459.trans (CHr.keep Kq467 (sfS sf461 sf0) H459)
      have hk467 := Nat.le_trans hk459 Kq467.1
      refine Go.tr st467 ?_
      show Go p.tables e below Kx T467 (mkF m 273 #[.val (.int p0), .val (.int p1), .val (.long p2), .second, .val (.int zc), .val (.int mk), .val (.ref b125), .val (.int sel), .val (.int (7 : Int32)), .unset, .unset, .unset, .unset] [(.ref b400)])
      have St467 : Str Z T467.heap T467.heap.size b400 [r127, r131, r135, r139, r143, r147, r151] := Str.of q1_467 q2_467 q3_467 q4_467 rfl rfl hp466 (Nat.le_of_ble_eq_true rfl)
      refine s_astore (pc' := 275) (Ls' := #[.val (.int p0), .val (.int p1), .val (.long p2), .second, .val (.int zc), .val (.int mk), .val (.ref b125), .val (.int sel), .val (.int (7 : Int32)), .val (.ref b400), .unset, .unset, .unset]) X467.here hx (hb hby at_273) rfl rfl rfl ?_
      refine s_goto (pc' := 433) X467.here hx (hb hby at_275) (by decide) (by decide) ?_
      have f471 : Exa Z T467.heap dA "com/example/syndica/syndica/InterestBasis" := ((((((((((f159.ext E400).ext E403).wr W411).wr W419).wr W427).wr W435).wr W443).wr W451).wr W459).keep Kq467)
      have f472 : Fld Z T467.heap dA "com/example/syndica/syndica/InterestBasis" "value" "Ljava/lang/String;" (.ref tA) := ((((((((((f160.ext E400).ext E403).other W411 (Or.inl (Nat.ne_of_lt (Nat.lt_of_lt_of_le (Nat.lt_of_lt_of_le lt166 E400.1) (Nat.le_of_eq g403.symm))))).other W419 (Or.inl (Nat.ne_of_lt (Nat.lt_of_lt_of_le (Nat.lt_of_lt_of_le lt166 E400.1) (Nat.le_of_eq g403.symm))))).other W427 (Or.inl (Nat.ne_of_lt (Nat.lt_of_lt_of_le (Nat.lt_of_lt_of_le lt166 E400.1) (Nat.le_of_eq g403.symm))))).other W435 (Or.inl (Nat.ne_of_lt (Nat.lt_of_lt_of_le (Nat.lt_of_lt_of_le lt166 E400.1) (Nat.le_of_eq g403.symm))))).other W443 (Or.inl (Nat.ne_of_lt (Nat.lt_of_lt_of_le (Nat.lt_of_lt_of_le lt166 E400.1) (Nat.le_of_eq g403.symm))))).other W451 (Or.inl (Nat.ne_of_lt (Nat.lt_of_lt_of_le (Nat.lt_of_lt_of_le lt166 E400.1) (Nat.le_of_eq g403.symm))))).other W459 (Or.inl (Nat.ne_of_lt (Nat.lt_of_lt_of_le (Nat.lt_of_lt_of_le lt166 E400.1) (Nat.le_of_eq g403.symm))))).keep Kq467 (ninS (Nat.ne_of_lt (Nat.lt_of_lt_of_le lt166 (Nat.le_of_eq g400.symm))) nin0))
      have f473 : Exa Z T467.heap dB "com/example/syndica/syndica/InterestBasis" := ((((((((((f161.ext E400).ext E403).wr W411).wr W419).wr W427).wr W435).wr W443).wr W451).wr W459).keep Kq467)
      have f474 : Fld Z T467.heap dB "com/example/syndica/syndica/InterestBasis" "value" "Ljava/lang/String;" (.ref tB) := ((((((((((f162.ext E400).ext E403).other W411 (Or.inl (Nat.ne_of_lt (Nat.lt_of_lt_of_le (Nat.lt_of_lt_of_le lt167 E400.1) (Nat.le_of_eq g403.symm))))).other W419 (Or.inl (Nat.ne_of_lt (Nat.lt_of_lt_of_le (Nat.lt_of_lt_of_le lt167 E400.1) (Nat.le_of_eq g403.symm))))).other W427 (Or.inl (Nat.ne_of_lt (Nat.lt_of_lt_of_le (Nat.lt_of_lt_of_le lt167 E400.1) (Nat.le_of_eq g403.symm))))).other W435 (Or.inl (Nat.ne_of_lt (Nat.lt_of_lt_of_le (Nat.lt_of_lt_of_le lt167 E400.1) (Nat.le_of_eq g403.symm))))).other W443 (Or.inl (Nat.ne_of_lt (Nat.lt_of_lt_of_le (Nat.lt_of_lt_of_le lt167 E400.1) (Nat.le_of_eq g403.symm))))).other W451 (Or.inl (Nat.ne_of_lt (Nat.lt_of_lt_of_le (Nat.lt_of_lt_of_le lt167 E400.1) (Nat.le_of_eq g403.symm))))).other W459 (Or.inl (Nat.ne_of_lt (Nat.lt_of_lt_of_le (Nat.lt_of_lt_of_le lt167 E400.1) (Nat.le_of_eq g403.symm))))).keep Kq467 (ninS (Nat.ne_of_lt (Nat.lt_of_lt_of_le lt167 (Nat.le_of_eq g400.symm))) nin0))
      have f475 : Exa Z T467.heap dC "com/example/syndica/syndica/InterestBasis" := ((((((((((f163.ext E400).ext E403).wr W411).wr W419).wr W427).wr W435).wr W443).wr W451).wr W459).keep Kq467)
      have f476 : Fld Z T467.heap dC "com/example/syndica/syndica/InterestBasis" "value" "Ljava/lang/String;" (.ref tC) := ((((((((((f164.ext E400).ext E403).other W411 (Or.inl (Nat.ne_of_lt (Nat.lt_of_lt_of_le (Nat.lt_of_lt_of_le lt168 E400.1) (Nat.le_of_eq g403.symm))))).other W419 (Or.inl (Nat.ne_of_lt (Nat.lt_of_lt_of_le (Nat.lt_of_lt_of_le lt168 E400.1) (Nat.le_of_eq g403.symm))))).other W427 (Or.inl (Nat.ne_of_lt (Nat.lt_of_lt_of_le (Nat.lt_of_lt_of_le lt168 E400.1) (Nat.le_of_eq g403.symm))))).other W435 (Or.inl (Nat.ne_of_lt (Nat.lt_of_lt_of_le (Nat.lt_of_lt_of_le lt168 E400.1) (Nat.le_of_eq g403.symm))))).other W443 (Or.inl (Nat.ne_of_lt (Nat.lt_of_lt_of_le (Nat.lt_of_lt_of_le lt168 E400.1) (Nat.le_of_eq g403.symm))))).other W451 (Or.inl (Nat.ne_of_lt (Nat.lt_of_lt_of_le (Nat.lt_of_lt_of_le lt168 E400.1) (Nat.le_of_eq g403.symm))))).other W459 (Or.inl (Nat.ne_of_lt (Nat.lt_of_lt_of_le (Nat.lt_of_lt_of_le lt168 E400.1) (Nat.le_of_eq g403.symm))))).keep Kq467 (ninS (Nat.ne_of_lt (Nat.lt_of_lt_of_le lt168 (Nat.le_of_eq g400.symm))) nin0))
      have f477 : Arv Z T467.heap b125 k125 .char (8 : Int32) [(.int r127), (.int r131), (.int r135), (.int r139), (.int r143), (.int r147), (.int r151), (.int r155)] (.int (0 : Int32)) := ((f455.other W459 (Nat.ne_of_lt (Nat.lt_of_lt_of_le (Nat.lt_of_lt_of_le lt165 E400.1) (Nat.le_of_eq g403.symm)))).keep Kq467 (ninS (Nat.ne_of_lt (Nat.lt_of_lt_of_le lt165 (Nat.le_of_eq g400.symm))) nin0))
      have lt478 : b125 < T467.heap.size := (Nat.lt_of_lt_of_le lt165 (Nat.le_trans (Nat.le_trans (Nat.le_trans (Nat.le_trans (Nat.le_trans (Nat.le_trans (Nat.le_trans (Nat.le_trans (Nat.le_trans E400.1 E403.1) (Nat.le_of_eq W411.size.symm)) (Nat.le_of_eq W419.size.symm)) (Nat.le_of_eq W427.size.symm)) (Nat.le_of_eq W435.size.symm)) (Nat.le_of_eq W443.size.symm)) (Nat.le_of_eq W451.size.symm)) (Nat.le_of_eq W459.size.symm)) Kq467.1))
      have lt479 : b400 < T467.heap.size := (Nat.lt_of_lt_of_le A400.lt (Nat.le_trans (Nat.le_trans (Nat.le_trans (Nat.le_trans (Nat.le_trans (Nat.le_trans (Nat.le_trans (Nat.le_trans E403.1 (Nat.le_of_eq W411.size.symm)) (Nat.le_of_eq W419.size.symm)) (Nat.le_of_eq W427.size.symm)) (Nat.le_of_eq W435.size.symm)) (Nat.le_of_eq W443.size.symm)) (Nat.le_of_eq W451.size.symm)) (Nat.le_of_eq W459.size.symm)) Kq467.1))
      have ne480 : b125 ≠ b400 := (Nat.ne_of_lt (Nat.lt_of_lt_of_le lt165 (Nat.le_of_eq g400.symm)))
      have lt481 : dA < T467.heap.size := (Nat.lt_of_lt_of_le lt166 (Nat.le_trans (Nat.le_trans (Nat.le_trans (Nat.le_trans (Nat.le_trans (Nat.le_trans (Nat.le_trans (Nat.le_trans (Nat.le_trans E400.1 E403.1) (Nat.le_of_eq W411.size.symm)) (Nat.le_of_eq W419.size.symm)) (Nat.le_of_eq W427.size.symm)) (Nat.le_of_eq W435.size.symm)) (Nat.le_of_eq W443.size.symm)) (Nat.le_of_eq W451.size.symm)) (Nat.le_of_eq W459.size.symm)) Kq467.1))
      have lt482 : dB < T467.heap.size := (Nat.lt_of_lt_of_le lt167 (Nat.le_trans (Nat.le_trans (Nat.le_trans (Nat.le_trans (Nat.le_trans (Nat.le_trans (Nat.le_trans (Nat.le_trans (Nat.le_trans E400.1 E403.1) (Nat.le_of_eq W411.size.symm)) (Nat.le_of_eq W419.size.symm)) (Nat.le_of_eq W427.size.symm)) (Nat.le_of_eq W435.size.symm)) (Nat.le_of_eq W443.size.symm)) (Nat.le_of_eq W451.size.symm)) (Nat.le_of_eq W459.size.symm)) Kq467.1))
      have lt483 : dC < T467.heap.size := (Nat.lt_of_lt_of_le lt168 (Nat.le_trans (Nat.le_trans (Nat.le_trans (Nat.le_trans (Nat.le_trans (Nat.le_trans (Nat.le_trans (Nat.le_trans (Nat.le_trans E400.1 E403.1) (Nat.le_of_eq W411.size.symm)) (Nat.le_of_eq W419.size.symm)) (Nat.le_of_eq W427.size.symm)) (Nat.le_of_eq W435.size.symm)) (Nat.le_of_eq W443.size.symm)) (Nat.le_of_eq W451.size.symm)) (Nat.le_of_eq W459.size.symm)) Kq467.1))
      (try clear sf470); (try clear q4_467); (try clear q3_467); (try clear kt467); (try clear t467); (try clear q2_467); (try clear Kq467); (try clear Nq467); (try clear st467); (try clear z467); (try clear y467); (try clear l467)
      (try clear hQ467); (try clear Lc467); (try clear n467); (try clear k467); (try clear L467); (try clear _); (try clear hp466); (try clear f465); (try clear f464); (try clear f463); (try clear N459); (try clear hk459)
      (try clear C459); (try clear H459); (try clear sf462); (try clear sf461); (try clear sf460); (try clear O459); (try clear K459); (try clear V459); (try clear st459); (try clear W459); (try clear e459); (try clear X459)
      (try clear h459); (try clear T459); (try clear in459); (try clear Ag458); (try clear Ah458); (try clear An458); (try clear As458); (try clear Aq458); (try clear Ar458); (try clear cl458); (try clear at457); (try clear in457)
      (try clear Ag456); (try clear Ah456); (try clear An456); (try clear As456); (try clear Aq456); (try clear Ar456); (try clear cl456); (try clear f455); (try clear N451); (try clear hk451); (try clear C451); (try clear H451)
      (try clear sf454); (try clear sf453); (try clear sf452); (try clear O451); (try clear K451); (try clear V451); (try clear st451); (try clear W451); (try clear e451); (try clear X451); (try clear h451); (try clear T451)
      (try clear in451); (try clear Ag450); (try clear Ah450); (try clear An450); (try clear As450); (try clear Aq450); (try clear Ar450); (try clear cl450); (try clear at449); (try clear in449); (try clear Ag448); (try clear Ah448)
      (try clear An448); (try clear As448); (try clear Aq448); (try clear Ar448); (try clear cl448); (try clear f447); (try clear N443); (try clear hk443); (try clear C443); (try clear H443); (try clear sf446); (try clear sf445)
      (try clear sf444); (try clear O443); (try clear K443); (try clear V443); (try clear st443); (try clear W443); (try clear e443); (try clear X443); (try clear h443); (try clear T443); (try clear in443); (try clear Ag442)
      (try clear Ah442); (try clear An442); (try clear As442); (try clear Aq442); (try clear Ar442); (try clear cl442); (try clear at441); (try clear in441); (try clear Ag440); (try clear Ah440); (try clear An440); (try clear As440)
      (try clear Aq440); (try clear Ar440); (try clear cl440); (try clear f439); (try clear N435); (try clear hk435); (try clear C435); (try clear H435); (try clear sf438); (try clear sf437); (try clear sf436); (try clear O435)
      (try clear K435); (try clear V435); (try clear st435); (try clear W435); (try clear e435); (try clear X435); (try clear h435); (try clear T435); (try clear in435); (try clear Ag434); (try clear Ah434); (try clear An434)
      (try clear As434); (try clear Aq434); (try clear Ar434); (try clear cl434); (try clear at433); (try clear in433); (try clear Ag432); (try clear Ah432); (try clear An432); (try clear As432); (try clear Aq432); (try clear Ar432)
      (try clear cl432); (try clear f431); (try clear N427); (try clear hk427); (try clear C427); (try clear H427); (try clear sf430); (try clear sf429); (try clear sf428); (try clear O427); (try clear K427); (try clear V427)
      (try clear st427); (try clear W427); (try clear e427); (try clear X427); (try clear h427); (try clear T427); (try clear in427); (try clear Ag426); (try clear Ah426); (try clear An426); (try clear As426); (try clear Aq426)
      (try clear Ar426); (try clear cl426); (try clear at425); (try clear in425); (try clear Ag424); (try clear Ah424); (try clear An424); (try clear As424); (try clear Aq424); (try clear Ar424); (try clear cl424); (try clear f423)
      (try clear N419); (try clear hk419); (try clear C419); (try clear H419); (try clear sf422); (try clear sf421); (try clear sf420); (try clear O419); (try clear K419); (try clear V419); (try clear st419); (try clear W419)
      (try clear e419); (try clear X419); (try clear h419); (try clear T419); (try clear in419); (try clear Ag418); (try clear Ah418); (try clear An418); (try clear As418); (try clear Aq418); (try clear Ar418); (try clear cl418)
      (try clear at417); (try clear in417); (try clear Ag416); (try clear Ah416); (try clear An416); (try clear As416); (try clear Aq416); (try clear Ar416); (try clear cl416); (try clear f415); (try clear N411); (try clear hk411)
      (try clear C411); (try clear H411); (try clear sf414); (try clear sf413); (try clear sf412); (try clear O411); (try clear K411); (try clear q); (try clear V411); (try clear st411); (try clear W411); (try clear e411)
      (try clear X411); (try clear h411); (try clear T411); (try clear in411); (try clear Ag410); (try clear Ah410); (try clear An410); (try clear As410); (try clear Aq410); (try clear Ar410); (try clear cl410); (try clear at409)
      (try clear in409); (try clear Ag408); (try clear Ah408); (try clear An408); (try clear As408); (try clear Aq408); (try clear Ar408); (try clear cl408); (try clear f407); (try clear V403); (try clear hk403); (try clear C403)
      (try clear H403); (try clear sf406); (try clear sf405); (try clear sf404); (try clear O403); (try clear K403); (try clear sn403); (try clear ge403); (try clear sz403); (try clear g403); (try clear b403); (try clear st403)
      (try clear A403); (try clear E403); (try clear e403); (try clear X403); (try clear k403); (try clear h403); (try clear T403); (try clear F400_value); (try clear F400_coder); (try clear hk400); (try clear C400); (try clear H400)
      (try clear sf402); (try clear sf401); (try clear O400); (try clear K400); (try clear sn400); (try clear st400); (try clear D400); (try clear A400); (try clear E400); (try clear e400); (try clear X400); (try clear h400)
      (try clear T400); (try clear lt168); (try clear lt167); (try clear lt166); (try clear lt165); (try clear f164); (try clear f163); (try clear f162); (try clear f161); (try clear f160); (try clear f159); (try clear N157)
      (try clear hk157); (try clear C157); (try clear H157); (try clear sf158); (try clear O157); (try clear K157); (try clear V157); (try clear e157); (try clear X157); (try clear h157); (try clear T157)
      show Go p.tables e below Kx T467 (mkF m 433 #[.val (.int p0), .val (.int p1), .val (.long p2), .second, .val (.int zc), .val (.int mk), .val (.ref b125), .val (.int sel), .val (.int (7 : Int32)), .val (.ref b400), .unset, .unset, .unset] [])
      refine s_aload (pc' := 435) X467.here hx (hb hby at_433) rfl rfl rfl ?_
      obtain ⟨_, _, ⟨T484, L484, k484, n484⟩, -, X484, ⟨Lc484, hQ484, l484, y484, z484⟩, st484⟩ := Jvm.LawKit.callS X467 hx (y := (⟨"com/example/syndica/syndica/InterestBasis", "of", "(Ljava/lang/String;)Ljava/util/Optional;"⟩ : MethodName)) hown (mvT hZ (hw _ (List.mem_of_getElem? (i := 34) rfl))) (mvT hZ (hw _ (List.mem_of_getElem? (i := 35) rfl))) (mvT hZ (hw _ (List.mem_of_getElem? (i := 36) rfl))) (mvT hZ (hw _ (List.mem_of_getElem? (i := 37) rfl))) (by decide) (backOf (W := 0) (rmF l Z a0 hw [] va dA dB dC tA tB tC eo kv b400 _ [r127, r131, r135, r139, r143, r147, r151] T467.heap n0 O467 EN G1 S1 P1 St467) hZ (hw _ (List.mem_of_getElem? (i := 37) rfl)) (hw _ (List.mem_of_getElem? (i := 36) rfl)) (by decide) (by decide)) (g := (mkF m 435 #[.val (.int p0), .val (.int p1), .val (.long p2), .second, .val (.int zc), .val (.int mk), .val (.ref b125), .val (.int sel), .val (.int (7 : Int32)), .val (.ref b400), .unset, .unset, .unset] [(.ref b400)])) rfl (by rw [hml]; rfl) (argsL := [(.ref b400)]) (rest := []) (lenOf pd_9 rfl) rfl (by show 2 * 0 + _ ≤ _; exact Nat.le_of_eq rfl) (hb hby at_435) (fun _ _ => ⟨rfl, rfl, (by decide : 4 + 2 ≤ _), (by decide : 26 + 4 ≤ _)⟩)
      dsimp only [Pt.U, Pt.locs, Pt.cells, Pt.slots] at X484 l484 y484 z484 st484 hQ484
      rw [l484, y484, z484] at X484
      obtain ⟨o484, wv484, rfl, Nq484, Kq484, q1_484, q2_484, hw484⟩ := hQ484
      rcases hw484 with ⟨rfl, hs484⟩ | ⟨rfl, hs484⟩ | ⟨rfl, hs484⟩ | ⟨rfl, hA484, hB484, hC484⟩
      · skip
        exact absurd (congrArg List.length hs484) (show ¬ (3 = 7) by decide)
      · skip
        exact absurd (congrArg List.length hs484) (show ¬ (3 = 7) by decide)
      · skip
        have hz484_0 : r127 = (51 : Int32) := (List.cons.inj hs484).1.symm
        have hz484_1 : r131 = (54 : Int32) := (List.cons.inj (List.cons.inj hs484).2).1.symm
        have hz484_2 : r135 = (53 : Int32) := (List.cons.inj (List.cons.inj (List.cons.inj hs484).2).2).1.symm
        have hz484_3 : r139 = (47 : Int32) := (List.cons.inj (List.cons.inj (List.cons.inj (List.cons.inj hs484).2).2).2).1.symm
        have hz484_4 : r143 = (51 : Int32) := (List.cons.inj (List.cons.inj (List.cons.inj (List.cons.inj (List.cons.inj hs484).2).2).2).2).1.symm
        have hz484_5 : r147 = (54 : Int32) := (List.cons.inj (List.cons.inj (List.cons.inj (List.cons.inj (List.cons.inj (List.cons.inj hs484).2).2).2).2).2).1.symm
        have hz484_6 : r151 = (54 : Int32) := (List.cons.inj (List.cons.inj (List.cons.inj (List.cons.inj (List.cons.inj (List.cons.inj (List.cons.inj hs484).2).2).2).2).2).2).1.symm
        have N484 := Fr.app N467 Nq484
        have K484 : Keep h0 T484.heap [] := K467.trans Kq484 all0
        have O484 : Old Z n0 T484.heap := O467.keep Kq484 all0
        have sf485 : Safe Z consts_1 s.vm T484.heap b125 := (Safe.keep Kq484 sf0 H467 sf468)
        have sf486 : Safe Z consts_1 s.vm T484.heap b400 := (Safe.keep Kq484 sf0 H467 sf469)
        have H484 : CHv Z consts_1 s.vm T484.heap := H467.keep Kq484 sf0
        have C484 : CHr Z consts_1 s.vm h0 s.vm T484.heap := C467.trans (CHr.keep Kq484 sf0 H467)
        have hk484 := Nat.le_trans hk467 Kq484.1
        refine Go.st st484 ?_
        show Go p.tables e below Kx T484 (mkF m 438 #[.val (.int p0), .val (.int p1), .val (.long p2), .second, .val (.int zc), .val (.int mk), .val (.ref b125), .val (.int sel), .val (.int (7 : Int32)), .val (.ref b400), .unset, .unset, .unset] [(.ref o484)])
        refine s_astore (pc' := 440) (Ls' := #[.val (.int p0), .val (.int p1), .val (.long p2), .second, .val (.int zc), .val (.int mk), .val (.ref b125), .val (.int sel), .val (.int (7 : Int32)), .val (.ref b400), .val (.ref o484), .unset, .unset]) X484.here hx (hb hby at_438) rfl rfl rfl ?_
        refine s_aload (pc' := 442) X484.here hx (hb hby at_440) rfl rfl rfl ?_
        obtain ⟨cq487, kq487, q487a, q487b, q487c⟩ := isOf hZ rfl q1_484
        obtain ⟨_, _, ⟨T487, L487, k487, n487⟩, -, X487, ⟨Lc487, hQ487, l487, y487, z487⟩, st487⟩ := X484.virtualBack hx (y := (⟨"java/util/Optional", "isPresent", "()Z"⟩ : MethodName)) (z := (⟨"java/util/Optional", "isPresent", "()Z"⟩ : MethodName)) hown (mvT hZ (hw _ (List.mem_of_getElem? (i := 89) rfl))) (mvT hZ (hw _ (List.mem_of_getElem? (i := 90) rfl))) (notFace_of_selects (args := #[]) (mvT hZ (hw _ (List.mem_of_getElem? (i := 92) rfl)))) (mvT hZ (hw _ (List.mem_of_getElem? (i := 92) rfl))) (mvT hZ (hw _ (List.mem_of_getElem? (i := 91) rfl))) (by decide) (backOf (W := 0) (rmP1 l Z a0 hw [] o484 dC T484.heap n0 O484 q2_484) hZ (hw _ (List.mem_of_getElem? (i := 93) rfl)) (hw _ (List.mem_of_getElem? (i := 40) rfl)) (by decide) (by decide)) q487a q487c (g := (mkF m 442 #[.val (.int p0), .val (.int p1), .val (.long p2), .second, .val (.int zc), .val (.int mk), .val (.ref b125), .val (.int sel), .val (.int (7 : Int32)), .val (.ref b400), .val (.ref o484), .unset, .unset] [(.ref o484)])) rfl (by rw [hml]; rfl) (Steps.refl _) (argsL := []) (rest := []) (lenOf pd_10 rfl) rfl (by show 2 * 0 + _ ≤ _; exact Nat.le_of_eq rfl) (hb hby at_442) (fun _ _ => ⟨rfl, rfl, (by decide : 6 + 0 ≤ _), (by decide : 30 + 0 ≤ _)⟩)
        dsimp only [Pt.U, Pt.locs, Pt.cells, Pt.slots] at X487 l487 y487 z487 st487 hQ487
        rw [l487, y487, z487] at X487
        obtain ⟨rfl, Nq487, hE487⟩ := hQ487
        have N487 := Fr.app N484 Nq487
        refine Go.tr st487 ?_
        show Go p.tables e below Kx T487 (mkF m 445 #[.val (.int p0), .val (.int p1), .val (.long p2), .second, .val (.int zc), .val (.int mk), .val (.ref b125), .val (.int sel), .val (.int (7 : Int32)), .val (.ref b400), .val (.ref o484), .unset, .unset] [(.int (1 : Int32))])
        refine s_ifN (pc' := 448) X487.here hx (hb hby at_445) rfl ((if0 _ _).trans (feq (by decide)).1) ?_
        refine s_aload (pc' := 450) X487.here hx (hb hby at_448) rfl rfl rfl ?_
        obtain ⟨cq488, kq488, q488a, q488b, q488c⟩ := isOf hZ hE487 q1_484
        obtain ⟨_, _, ⟨T488, L488, k488, n488⟩, -, X488, ⟨Lc488, hQ488, l488, y488, z488⟩, st488⟩ := X487.virtualBack hx (y := (⟨"java/util/Optional", "get", "()Ljava/lang/Object;"⟩ : MethodName)) (z := (⟨"java/util/Optional", "get", "()Ljava/lang/Object;"⟩ : MethodName)) hown (mvT hZ (hw _ (List.mem_of_getElem? (i := 94) rfl))) (mvT hZ (hw _ (List.mem_of_getElem? (i := 95) rfl))) (notFace_of_selects (args := #[]) (mvT hZ (hw _ (List.mem_of_getElem? (i := 97) rfl)))) (mvT hZ (hw _ (List.mem_of_getElem? (i := 97) rfl))) (mvT hZ (hw _ (List.mem_of_getElem? (i := 96) rfl))) (by decide) (backOf (W := 0) (rmG l Z a0 hw [] o484 dC T484.heap n0 O484 q2_484) hZ (hw _ (List.mem_of_getElem? (i := 98) rfl)) (hw _ (List.mem_of_getElem? (i := 40) rfl)) (by decide) (by decide)) q488a q488c (g := (mkF m 450 #[.val (.int p0), .val (.int p1), .val (.long p2), .second, .val (.int zc), .val (.int mk), .val (.ref b125), .val (.int sel), .val (.int (7 : Int32)), .val (.ref b400), .val (.ref o484), .unset, .unset] [(.ref o484)])) rfl (by rw [hml]; rfl) (Steps.refl _) (argsL := []) (rest := []) (lenOf pd_11 rfl) rfl (by show 2 * 0 + _ ≤ _; exact Nat.le_of_eq rfl) (hb hby at_450) (fun _ _ => ⟨rfl, hE487, (by decide : 6 + 0 ≤ _), (by decide : 30 + 0 ≤ _)⟩)
        dsimp only [Pt.U, Pt.locs, Pt.cells, Pt.slots] at X488 l488 y488 z488 st488 hQ488
        rw [l488, y488, z488] at X488
        obtain ⟨rfl, Nq488, hE488⟩ := hQ488
        have N488 := Fr.app N487 Nq488
        refine Go.tr st488 ?_
        show Go p.tables e below Kx T488 (mkF m 453 #[.val (.int p0), .val (.int p1), .val (.long p2), .second, .val (.int zc), .val (.int mk), .val (.ref b125), .val (.int sel), .val (.int (7 : Int32)), .val (.ref b400), .val (.ref o484), .unset, .unset] [(.ref dC)])
        have f489 : Exa Z T484.heap dC "com/example/syndica/syndica/InterestBasis" := (f475.keep Kq484)
        obtain ⟨T490, X490, e490, st490⟩ := castY X488 hx hZ hown (hw _ (List.mem_of_getElem? (i := 99) rfl)) hE488 (Ins.self f489) (g := (mkF m 453 #[.val (.int p0), .val (.int p1), .val (.long p2), .second, .val (.int zc), .val (.int mk), .val (.ref b125), .val (.int sel), .val (.int (7 : Int32)), .val (.ref b400), .val (.ref o484), .unset, .unset] [(.ref dC)])) rfl rfl (hb hby at_453)
        refine Go.st st490 ?_
        show Go p.tables e below Kx T490 (mkF m 456 #[.val (.int p0), .val (.int p1), .val (.long p2), .second, .val (.int zc), .val (.int mk), .val (.ref b125), .val (.int sel), .val (.int (7 : Int32)), .val (.ref b400), .val (.ref o484), .unset, .unset] [(.ref dC)])
        refine s_goto (pc' := 460) X490.here hx (hb hby at_456) (by decide) (by decide) ?_
        refine s_astore (pc' := 462) (Ls' := #[.val (.int p0), .val (.int p1), .val (.long p2), .second, .val (.int zc), .val (.int mk), .val (.ref b125), .val (.int sel), .val (.int (7 : Int32)), .val (.ref b400), .val (.ref o484), .val (.ref dC), .unset]) X490.here hx (hb hby at_460) rfl rfl rfl ?_
        have f491 : Exa Z T484.heap dA "com/example/syndica/syndica/InterestBasis" := (f471.keep Kq484)
        have f492 : Fld Z T484.heap dA "com/example/syndica/syndica/InterestBasis" "value" "Ljava/lang/String;" (.ref tA) := (f472.keep Kq484 nin0)
        have f493 : Exa Z T484.heap dB "com/example/syndica/syndica/InterestBasis" := (f473.keep Kq484)
        have f494 : Fld Z T484.heap dB "com/example/syndica/syndica/InterestBasis" "value" "Ljava/lang/String;" (.ref tB) := (f474.keep Kq484 nin0)
        have f495 : Fld Z T484.heap dC "com/example/syndica/syndica/InterestBasis" "value" "Ljava/lang/String;" (.ref tC) := (f476.keep Kq484 nin0)
        have f496 : Arv Z T484.heap b125 k125 .char (8 : Int32) [(.int r127), (.int r131), (.int r135), (.int r139), (.int r143), (.int r147), (.int r151), (.int r155)] (.int (0 : Int32)) := (f477.keep Kq484 nin0)
        have lt497 : b125 < T484.heap.size := (Nat.lt_of_lt_of_le lt478 Kq484.1)
        have lt498 : dA < T484.heap.size := (Nat.lt_of_lt_of_le lt481 Kq484.1)
        have lt499 : dB < T484.heap.size := (Nat.lt_of_lt_of_le lt482 Kq484.1)
        have lt500 : dC < T484.heap.size := (Nat.lt_of_lt_of_le lt483 Kq484.1)
        (try clear st490); (try clear hE488); (try clear Nq488); (try clear st488); (try clear z488); (try clear y488); (try clear l488); (try clear hQ488); (try clear Lc488); (try clear X488); (try clear n488); (try clear k488)
        (try clear L488); (try clear T488); (try clear q488c); (try clear q488b); (try clear q488a); (try clear kq488); (try clear cq488); (try clear N487); (try clear hE487); (try clear Nq487); (try clear st487); (try clear z487)
        (try clear y487); (try clear l487); (try clear hQ487); (try clear Lc487); (try clear X487); (try clear n487); (try clear k487); (try clear L487); (try clear T487); (try clear q487c); (try clear q487b); (try clear q487a)
        (try clear kq487); (try clear cq487); (try clear sf486); (try clear N484); (try clear hw484); (try clear q2_484); (try clear q1_484); (try clear Kq484); (try clear Nq484); (try clear wv484); (try clear st484); (try clear z484)
        (try clear y484); (try clear l484); (try clear hQ484); (try clear Lc484); (try clear X484); (try clear n484); (try clear k484); (try clear L484); (try clear _); (try clear lt483); (try clear lt482); (try clear lt481)
        (try clear ne480); (try clear lt479); (try clear lt478); (try clear f477); (try clear f476); (try clear f475); (try clear f474); (try clear f473); (try clear f472); (try clear f471); (try clear St467); (try clear hk467)
        (try clear C467); (try clear H467); (try clear sf469); (try clear sf468); (try clear O467); (try clear K467); (try clear N467); (try clear q1_467); (try clear X467); (try clear T467); (try clear ge400); (try clear sz400)
        (try clear g400)
        show Go p.tables e below Kx T490 (mkF m 462 #[.val (.int p0), .val (.int p1), .val (.long p2), .second, .val (.int zc), .val (.int mk), .val (.ref b125), .val (.int sel), .val (.int (7 : Int32)), .val (.ref b400), .val (.ref o484), .val (.ref dC), .unset] [])
        refine s_aconst_null (pc' := 463) X490.here hx (hb hby at_462) rfl ?_
        refine s_astore (pc' := 465) (Ls' := #[.val (.int p0), .val (.int p1), .val (.long p2), .second, .val (.int zc), .val (.int mk), .val (.ref b125), .val (.int sel), .val (.int (7 : Int32)), .val (.ref b400), .val (.ref o484), .val (.ref dC), .val .null]) X490.here hx (hb hby at_463) rfl rfl rfl ?_
        refine s_iload (pc' := 467) X490.here hx (hb hby at_465) rfl rfl ?_
        refine s_iconst (pc' := 468) (v := (3 : Int32)) X490.here hx (hb hby at_467) rfl rfl ?_
        refine s_icmpY (pc' := 520) X490.here hx (hb hby at_468) (feq (by decide)).2 (by decide) (by decide) ?_
        refine s_iload (pc' := 522) X490.here hx (hb hby at_520) rfl rfl ?_
        refine s_bipush (pc' := 524) (v := (7 : Int32)) X490.here hx (hb hby at_522) rfl rfl ?_
        refine s_icmpN (pc' := 527) X490.here hx (hb hby at_524) rfl (teq (by decide)).2 ?_
        refine s_aload (pc' := 529) X490.here hx (hb hby at_527) rfl rfl rfl ?_
        refine s_iconst (pc' := 530) (v := (0 : Int32)) X490.here hx (hb hby at_529) rfl rfl ?_
        obtain ⟨cl501, Ar501, Aq501, As501, An501, Ah501, Ag501⟩ := id f496
        have in502 := inb_of (j := (0 : Int32)) As501 (by decide)
        have at502 : cl501.slots[((0 : Int32)).toNatClampNeg]? = some (.int r127) := Ah501.at in502 rfl
        refine Go.st (X490.caload hx (j := (0 : Int32)) (v := (.int r127)) (by rw [e490]; exact Ar501.1) (State.isArrayOf_alike hZ.alike Ar501.2.1) Ar501.2.2 in502 at502 (g := (mkF m 530 #[.val (.int p0), .val (.int p1), .val (.long p2), .second, .val (.int zc), .val (.int mk), .val (.ref b125), .val (.int sel), .val (.int (7 : Int32)), .val (.ref b400), .val (.ref o484), .val (.ref dC), .val .null] [(.int (0 : Int32)), (.ref b125)])) rfl rfl (hb hby at_530)) ?_
        show Go p.tables e below Kx T490 (mkF m 531 #[.val (.int p0), .val (.int p1), .val (.long p2), .second, .val (.int zc), .val (.int mk), .val (.ref b125), .val (.int sel), .val (.int (7 : Int32)), .val (.ref b400), .val (.ref o484), .val (.ref dC), .val .null] [(.int r127)])
        refine s_bipush (pc' := 533) (v := (51 : Int32)) X490.here hx (hb hby at_531) rfl rfl ?_
        refine s_icmpN (pc' := 536) X490.here hx (hb hby at_533) rfl (teq hz484_0).2 ?_
        refine s_aload (pc' := 538) X490.here hx (hb hby at_536) rfl rfl rfl ?_
        refine s_iconst (pc' := 539) (v := (1 : Int32)) X490.here hx (hb hby at_538) rfl rfl ?_
        obtain ⟨cl503, Ar503, Aq503, As503, An503, Ah503, Ag503⟩ := id f496
        have in504 := inb_of (j := (1 : Int32)) As503 (by decide)
        have at504 : cl503.slots[((1 : Int32)).toNatClampNeg]? = some (.int r131) := Ah503.at in504 rfl
        refine Go.st (X490.caload hx (j := (1 : Int32)) (v := (.int r131)) (by rw [e490]; exact Ar503.1) (State.isArrayOf_alike hZ.alike Ar503.2.1) Ar503.2.2 in504 at504 (g := (mkF m 539 #[.val (.int p0), .val (.int p1), .val (.long p2), .second, .val (.int zc), .val (.int mk), .val (.ref b125), .val (.int sel), .val (.int (7 : Int32)), .val (.ref b400), .val (.ref o484), .val (.ref dC), .val .null] [(.int (1 : Int32)), (.ref b125)])) rfl rfl (hb hby at_539)) ?_
        show Go p.tables e below Kx T490 (mkF m 540 #[.val (.int p0), .val (.int p1), .val (.long p2), .second, .val (.int zc), .val (.int mk), .val (.ref b125), .val (.int sel), .val (.int (7 : Int32)), .val (.ref b400), .val (.ref o484), .val (.ref dC), .val .null] [(.int r131)])
        refine s_bipush (pc' := 542) (v := (54 : Int32)) X490.here hx (hb hby at_540) rfl rfl ?_
        refine s_icmpN (pc' := 545) X490.here hx (hb hby at_542) rfl (teq hz484_1).2 ?_
        refine s_aload (pc' := 547) X490.here hx (hb hby at_545) rfl rfl rfl ?_
        refine s_iconst (pc' := 548) (v := (2 : Int32)) X490.here hx (hb hby at_547) rfl rfl ?_
        obtain ⟨cl505, Ar505, Aq505, As505, An505, Ah505, Ag505⟩ := id f496
        have in506 := inb_of (j := (2 : Int32)) As505 (by decide)
        have at506 : cl505.slots[((2 : Int32)).toNatClampNeg]? = some (.int r135) := Ah505.at in506 rfl
        refine Go.st (X490.caload hx (j := (2 : Int32)) (v := (.int r135)) (by rw [e490]; exact Ar505.1) (State.isArrayOf_alike hZ.alike Ar505.2.1) Ar505.2.2 in506 at506 (g := (mkF m 548 #[.val (.int p0), .val (.int p1), .val (.long p2), .second, .val (.int zc), .val (.int mk), .val (.ref b125), .val (.int sel), .val (.int (7 : Int32)), .val (.ref b400), .val (.ref o484), .val (.ref dC), .val .null] [(.int (2 : Int32)), (.ref b125)])) rfl rfl (hb hby at_548)) ?_
        show Go p.tables e below Kx T490 (mkF m 549 #[.val (.int p0), .val (.int p1), .val (.long p2), .second, .val (.int zc), .val (.int mk), .val (.ref b125), .val (.int sel), .val (.int (7 : Int32)), .val (.ref b400), .val (.ref o484), .val (.ref dC), .val .null] [(.int r135)])
        refine s_bipush (pc' := 551) (v := (53 : Int32)) X490.here hx (hb hby at_549) rfl rfl ?_
        refine s_icmpN (pc' := 554) X490.here hx (hb hby at_551) rfl (teq hz484_2).2 ?_
        refine s_aload (pc' := 556) X490.here hx (hb hby at_554) rfl rfl rfl ?_
        refine s_iconst (pc' := 557) (v := (3 : Int32)) X490.here hx (hb hby at_556) rfl rfl ?_
        obtain ⟨cl507, Ar507, Aq507, As507, An507, Ah507, Ag507⟩ := id f496
        have in508 := inb_of (j := (3 : Int32)) As507 (by decide)
        have at508 : cl507.slots[((3 : Int32)).toNatClampNeg]? = some (.int r139) := Ah507.at in508 rfl
        refine Go.st (X490.caload hx (j := (3 : Int32)) (v := (.int r139)) (by rw [e490]; exact Ar507.1) (State.isArrayOf_alike hZ.alike Ar507.2.1) Ar507.2.2 in508 at508 (g := (mkF m 557 #[.val (.int p0), .val (.int p1), .val (.long p2), .second, .val (.int zc), .val (.int mk), .val (.ref b125), .val (.int sel), .val (.int (7 : Int32)), .val (.ref b400), .val (.ref o484), .val (.ref dC), .val .null] [(.int (3 : Int32)), (.ref b125)])) rfl rfl (hb hby at_557)) ?_
        show Go p.tables e below Kx T490 (mkF m 558 #[.val (.int p0), .val (.int p1), .val (.long p2), .second, .val (.int zc), .val (.int mk), .val (.ref b125), .val (.int sel), .val (.int (7 : Int32)), .val (.ref b400), .val (.ref o484), .val (.ref dC), .val .null] [(.int r139)])
        refine s_bipush (pc' := 560) (v := (47 : Int32)) X490.here hx (hb hby at_558) rfl rfl ?_
        refine s_icmpN (pc' := 563) X490.here hx (hb hby at_560) rfl (teq hz484_3).2 ?_
        refine s_aload (pc' := 565) X490.here hx (hb hby at_563) rfl rfl rfl ?_
        refine s_iconst (pc' := 566) (v := (4 : Int32)) X490.here hx (hb hby at_565) rfl rfl ?_
        obtain ⟨cl509, Ar509, Aq509, As509, An509, Ah509, Ag509⟩ := id f496
        have in510 := inb_of (j := (4 : Int32)) As509 (by decide)
        have at510 : cl509.slots[((4 : Int32)).toNatClampNeg]? = some (.int r143) := Ah509.at in510 rfl
        refine Go.st (X490.caload hx (j := (4 : Int32)) (v := (.int r143)) (by rw [e490]; exact Ar509.1) (State.isArrayOf_alike hZ.alike Ar509.2.1) Ar509.2.2 in510 at510 (g := (mkF m 566 #[.val (.int p0), .val (.int p1), .val (.long p2), .second, .val (.int zc), .val (.int mk), .val (.ref b125), .val (.int sel), .val (.int (7 : Int32)), .val (.ref b400), .val (.ref o484), .val (.ref dC), .val .null] [(.int (4 : Int32)), (.ref b125)])) rfl rfl (hb hby at_566)) ?_
        show Go p.tables e below Kx T490 (mkF m 567 #[.val (.int p0), .val (.int p1), .val (.long p2), .second, .val (.int zc), .val (.int mk), .val (.ref b125), .val (.int sel), .val (.int (7 : Int32)), .val (.ref b400), .val (.ref o484), .val (.ref dC), .val .null] [(.int r143)])
        refine s_bipush (pc' := 569) (v := (51 : Int32)) X490.here hx (hb hby at_567) rfl rfl ?_
        refine s_icmpN (pc' := 572) X490.here hx (hb hby at_569) rfl (teq hz484_4).2 ?_
        refine s_aload (pc' := 574) X490.here hx (hb hby at_572) rfl rfl rfl ?_
        refine s_iconst (pc' := 575) (v := (5 : Int32)) X490.here hx (hb hby at_574) rfl rfl ?_
        obtain ⟨cl511, Ar511, Aq511, As511, An511, Ah511, Ag511⟩ := id f496
        have in512 := inb_of (j := (5 : Int32)) As511 (by decide)
        have at512 : cl511.slots[((5 : Int32)).toNatClampNeg]? = some (.int r147) := Ah511.at in512 rfl
        refine Go.st (X490.caload hx (j := (5 : Int32)) (v := (.int r147)) (by rw [e490]; exact Ar511.1) (State.isArrayOf_alike hZ.alike Ar511.2.1) Ar511.2.2 in512 at512 (g := (mkF m 575 #[.val (.int p0), .val (.int p1), .val (.long p2), .second, .val (.int zc), .val (.int mk), .val (.ref b125), .val (.int sel), .val (.int (7 : Int32)), .val (.ref b400), .val (.ref o484), .val (.ref dC), .val .null] [(.int (5 : Int32)), (.ref b125)])) rfl rfl (hb hby at_575)) ?_
        show Go p.tables e below Kx T490 (mkF m 576 #[.val (.int p0), .val (.int p1), .val (.long p2), .second, .val (.int zc), .val (.int mk), .val (.ref b125), .val (.int sel), .val (.int (7 : Int32)), .val (.ref b400), .val (.ref o484), .val (.ref dC), .val .null] [(.int r147)])
        refine s_bipush (pc' := 578) (v := (54 : Int32)) X490.here hx (hb hby at_576) rfl rfl ?_
        refine s_icmpN (pc' := 581) X490.here hx (hb hby at_578) rfl (teq hz484_5).2 ?_
        refine s_aload (pc' := 583) X490.here hx (hb hby at_581) rfl rfl rfl ?_
        refine s_bipush (pc' := 585) (v := (6 : Int32)) X490.here hx (hb hby at_583) rfl rfl ?_
        obtain ⟨cl513, Ar513, Aq513, As513, An513, Ah513, Ag513⟩ := id f496
        have in514 := inb_of (j := (6 : Int32)) As513 (by decide)
        have at514 : cl513.slots[((6 : Int32)).toNatClampNeg]? = some (.int r151) := Ah513.at in514 rfl
        refine Go.st (X490.caload hx (j := (6 : Int32)) (v := (.int r151)) (by rw [e490]; exact Ar513.1) (State.isArrayOf_alike hZ.alike Ar513.2.1) Ar513.2.2 in514 at514 (g := (mkF m 585 #[.val (.int p0), .val (.int p1), .val (.long p2), .second, .val (.int zc), .val (.int mk), .val (.ref b125), .val (.int sel), .val (.int (7 : Int32)), .val (.ref b400), .val (.ref o484), .val (.ref dC), .val .null] [(.int (6 : Int32)), (.ref b125)])) rfl rfl (hb hby at_585)) ?_
        show Go p.tables e below Kx T490 (mkF m 586 #[.val (.int p0), .val (.int p1), .val (.long p2), .second, .val (.int zc), .val (.int mk), .val (.ref b125), .val (.int sel), .val (.int (7 : Int32)), .val (.ref b400), .val (.ref o484), .val (.ref dC), .val .null] [(.int r151)])
        refine s_bipush (pc' := 588) (v := (54 : Int32)) X490.here hx (hb hby at_586) rfl rfl ?_
        refine s_icmpN (pc' := 591) X490.here hx (hb hby at_588) rfl (teq hz484_6).2 ?_
        obtain ⟨T515, X515, e515, st515⟩ := getS2 X490 hx hZ hown (host := "") (Or.inl (hw _ (List.mem_of_getElem? (i := 106) rfl))) Via.refl e490 (SdC.ext O484.2) (g := (mkF m 591 #[.val (.int p0), .val (.int p1), .val (.long p2), .second, .val (.int zc), .val (.int mk), .val (.ref b125), .val (.int sel), .val (.int (7 : Int32)), .val (.ref b400), .val (.ref o484), .val (.ref dC), .val .null] [])) rfl (hb hby at_591)
        refine Go.st st515 ?_
        show Go p.tables e below Kx T515 (mkF m 594 #[.val (.int p0), .val (.int p1), .val (.long p2), .second, .val (.int zc), .val (.int mk), .val (.ref b125), .val (.int sel), .val (.int (7 : Int32)), .val (.ref b400), .val (.ref o484), .val (.ref dC), .val .null] [(.ref dC)])
        refine s_astore (pc' := 596) (Ls' := #[.val (.int p0), .val (.int p1), .val (.long p2), .second, .val (.int zc), .val (.int mk), .val (.ref b125), .val (.int sel), .val (.int (7 : Int32)), .val (.ref b400), .val (.ref o484), .val (.ref dC), .val (.ref dC)]) X515.here hx (hb hby at_594) rfl rfl rfl ?_
        refine s_aload (pc' := 598) X515.here hx (hb hby at_596) rfl rfl rfl ?_
        refine s_aload (pc' := 600) X515.here hx (hb hby at_598) rfl rfl rfl ?_
        refine Go.st (fun _ r => Jvm.RoadKit.acmp (g := (mkF m 600 #[.val (.int p0), .val (.int p1), .val (.long p2), .second, .val (.int zc), .val (.int mk), .val (.ref b125), .val (.int sel), .val (.int (7 : Int32)), .val (.ref b400), .val (.ref o484), .val (.ref dC), .val (.ref dC)] [(.ref dC), (.ref dC)])) X515 hx rfl rfl rfl (pc0 := 600) (pc' := 603) (same := true) rfl (hb hby at_600) rfl (decide_eq_true rfl) (by decide) (by decide) r) ?_
        show Go p.tables e below Kx T515 (mkF m 603 #[.val (.int p0), .val (.int p1), .val (.long p2), .second, .val (.int zc), .val (.int mk), .val (.ref b125), .val (.int sel), .val (.int (7 : Int32)), .val (.ref b400), .val (.ref o484), .val (.ref dC), .val (.ref dC)] [])
        refine s_iconst (pc' := 604) (v := (1 : Int32)) X515.here hx (hb hby at_603) rfl rfl ?_
        refine s_goto (pc' := 608) X515.here hx (hb hby at_604) (by decide) (by decide) ?_
        obtain ⟨fs, hr, hrun, hended, hRW⟩ := X515.leaveW hS0 (by rw [e515]; exact hk484) (v := (some (.int (1 : Int32)))) (fun h => by rw [Bd.returns] at h; cases h)
        have hCx := C484.trans (CHv.at X515 hZ hEL H484)
        refine Go.fin (retN X515 hx (t := .boolean) Bd.returns (by simp) (hb hby at_608) hr) (hF _ _ hrun hended ⟨_, _, rfl, ?_, ?_, hRW.1, hRW.2.1, hRW.2.2.1, hRW.2.2.2.mono (by decide) (by decide)⟩)
        · show QL Z p0 p1 p2 va dA dB dC tA tB tC eo kv h0 n0 ((some (.int (1 : Int32))) : Option Value) T515.heap _
          rw [e515]
          exact ⟨rfl, N488⟩
        · show CHr Z consts_1 s.vm s.heap T515.vm T515.heap
          rw [e515, hh]; exact hCx
      · skip
        have N484 := Fr.app N467 Nq484
        have K484 : Keep h0 T484.heap [] := K467.trans Kq484 all0
        have O484 : Old Z n0 T484.heap := O467.keep Kq484 all0
        have sf516 : Safe Z consts_1 s.vm T484.heap b125 := (Safe.keep Kq484 sf0 H467 sf468)
        have sf517 : Safe Z consts_1 s.vm T484.heap b400 := (Safe.keep Kq484 sf0 H467 sf469)
        have H484 : CHv Z consts_1 s.vm T484.heap := H467.keep Kq484 sf0
        have C484 : CHr Z consts_1 s.vm h0 s.vm T484.heap := C467.trans (CHr.keep Kq484 sf0 H467)
        have hk484 := Nat.le_trans hk467 Kq484.1
        refine Go.st st484 ?_
        show Go p.tables e below Kx T484 (mkF m 438 #[.val (.int p0), .val (.int p1), .val (.long p2), .second, .val (.int zc), .val (.int mk), .val (.ref b125), .val (.int sel), .val (.int (7 : Int32)), .val (.ref b400), .unset, .unset, .unset] [(.ref o484)])
        refine s_astore (pc' := 440) (Ls' := #[.val (.int p0), .val (.int p1), .val (.long p2), .second, .val (.int zc), .val (.int mk), .val (.ref b125), .val (.int sel), .val (.int (7 : Int32)), .val (.ref b400), .val (.ref o484), .unset, .unset]) X484.here hx (hb hby at_438) rfl rfl rfl ?_
        refine s_aload (pc' := 442) X484.here hx (hb hby at_440) rfl rfl rfl ?_
        obtain ⟨cq518, kq518, q518a, q518b, q518c⟩ := isOf hZ rfl q1_484
        obtain ⟨_, _, ⟨T518, L518, k518, n518⟩, -, X518, ⟨Lc518, hQ518, l518, y518, z518⟩, st518⟩ := X484.virtualBack hx (y := (⟨"java/util/Optional", "isPresent", "()Z"⟩ : MethodName)) (z := (⟨"java/util/Optional", "isPresent", "()Z"⟩ : MethodName)) hown (mvT hZ (hw _ (List.mem_of_getElem? (i := 89) rfl))) (mvT hZ (hw _ (List.mem_of_getElem? (i := 90) rfl))) (notFace_of_selects (args := #[]) (mvT hZ (hw _ (List.mem_of_getElem? (i := 92) rfl)))) (mvT hZ (hw _ (List.mem_of_getElem? (i := 92) rfl))) (mvT hZ (hw _ (List.mem_of_getElem? (i := 91) rfl))) (by decide) (backOf (W := 0) (rmP0 l Z a0 hw [] o484 o484 T484.heap n0 O484 q2_484) hZ (hw _ (List.mem_of_getElem? (i := 93) rfl)) (hw _ (List.mem_of_getElem? (i := 40) rfl)) (by decide) (by decide)) q518a q518c (g := (mkF m 442 #[.val (.int p0), .val (.int p1), .val (.long p2), .second, .val (.int zc), .val (.int mk), .val (.ref b125), .val (.int sel), .val (.int (7 : Int32)), .val (.ref b400), .val (.ref o484), .unset, .unset] [(.ref o484)])) rfl (by rw [hml]; rfl) (Steps.refl _) (argsL := []) (rest := []) (lenOf pd_10 rfl) rfl (by show 2 * 0 + _ ≤ _; exact Nat.le_of_eq rfl) (hb hby at_442) (fun _ _ => ⟨rfl, rfl, (by decide : 6 + 0 ≤ _), (by decide : 30 + 0 ≤ _)⟩)
        dsimp only [Pt.U, Pt.locs, Pt.cells, Pt.slots] at X518 l518 y518 z518 st518 hQ518
        rw [l518, y518, z518] at X518
        obtain ⟨rfl, Nq518, hE518⟩ := hQ518
        have N518 := Fr.app N484 Nq518
        refine Go.tr st518 ?_
        show Go p.tables e below Kx T518 (mkF m 445 #[.val (.int p0), .val (.int p1), .val (.long p2), .second, .val (.int zc), .val (.int mk), .val (.ref b125), .val (.int sel), .val (.int (7 : Int32)), .val (.ref b400), .val (.ref o484), .unset, .unset] [(.int (0 : Int32))])
        refine s_ifY (pc' := 459) X518.here hx (hb hby at_445) ((if0 _ _).trans (teq (by decide)).1) (by decide) (by decide) ?_
        refine s_aconst_null (pc' := 460) X518.here hx (hb hby at_459) rfl ?_
        refine s_astore (pc' := 462) (Ls' := #[.val (.int p0), .val (.int p1), .val (.long p2), .second, .val (.int zc), .val (.int mk), .val (.ref b125), .val (.int sel), .val (.int (7 : Int32)), .val (.ref b400), .val (.ref o484), .val .null, .unset]) X518.here hx (hb hby at_460) rfl rfl rfl ?_
        have f519 : Exa Z T484.heap dA "com/example/syndica/syndica/InterestBasis" := (f471.keep Kq484)
        have f520 : Fld Z T484.heap dA "com/example/syndica/syndica/InterestBasis" "value" "Ljava/lang/String;" (.ref tA) := (f472.keep Kq484 nin0)
        have f521 : Exa Z T484.heap dB "com/example/syndica/syndica/InterestBasis" := (f473.keep Kq484)
        have f522 : Fld Z T484.heap dB "com/example/syndica/syndica/InterestBasis" "value" "Ljava/lang/String;" (.ref tB) := (f474.keep Kq484 nin0)
        have f523 : Exa Z T484.heap dC "com/example/syndica/syndica/InterestBasis" := (f475.keep Kq484)
        have f524 : Fld Z T484.heap dC "com/example/syndica/syndica/InterestBasis" "value" "Ljava/lang/String;" (.ref tC) := (f476.keep Kq484 nin0)
        have f525 : Arv Z T484.heap b125 k125 .char (8 : Int32) [(.int r127), (.int r131), (.int r135), (.int r139), (.int r143), (.int r147), (.int r151), (.int r155)] (.int (0 : Int32)) := (f477.keep Kq484 nin0)
        have lt526 : b125 < T484.heap.size := (Nat.lt_of_lt_of_le lt478 Kq484.1)
        have lt527 : dA < T484.heap.size := (Nat.lt_of_lt_of_le lt481 Kq484.1)
        have lt528 : dB < T484.heap.size := (Nat.lt_of_lt_of_le lt482 Kq484.1)
        have lt529 : dC < T484.heap.size := (Nat.lt_of_lt_of_le lt483 Kq484.1)
        (try clear Nq518); (try clear st518); (try clear z518); (try clear y518); (try clear l518); (try clear hQ518); (try clear Lc518); (try clear n518); (try clear k518); (try clear L518); (try clear q518c); (try clear q518b)
        (try clear q518a); (try clear kq518); (try clear cq518); (try clear sf517); (try clear N484); (try clear hw484); (try clear q2_484); (try clear q1_484); (try clear Kq484); (try clear Nq484); (try clear wv484); (try clear st484)
        (try clear z484); (try clear y484); (try clear l484); (try clear hQ484); (try clear Lc484); (try clear X484); (try clear n484); (try clear k484); (try clear L484); (try clear _); (try clear lt483); (try clear lt482)
        (try clear lt481); (try clear ne480); (try clear lt479); (try clear lt478); (try clear f477); (try clear f476); (try clear f475); (try clear f474); (try clear f473); (try clear f472); (try clear f471); (try clear St467)
        (try clear hk467); (try clear C467); (try clear H467); (try clear sf469); (try clear sf468); (try clear O467); (try clear K467); (try clear N467); (try clear q1_467); (try clear X467); (try clear T467); (try clear ge400)
        (try clear sz400); (try clear g400)
        show Go p.tables e below Kx T518 (mkF m 462 #[.val (.int p0), .val (.int p1), .val (.long p2), .second, .val (.int zc), .val (.int mk), .val (.ref b125), .val (.int sel), .val (.int (7 : Int32)), .val (.ref b400), .val (.ref o484), .val .null, .unset] [])
        refine s_aconst_null (pc' := 463) X518.here hx (hb hby at_462) rfl ?_
        refine s_astore (pc' := 465) (Ls' := #[.val (.int p0), .val (.int p1), .val (.long p2), .second, .val (.int zc), .val (.int mk), .val (.ref b125), .val (.int sel), .val (.int (7 : Int32)), .val (.ref b400), .val (.ref o484), .val .null, .val .null]) X518.here hx (hb hby at_463) rfl rfl rfl ?_
        refine s_iload (pc' := 467) X518.here hx (hb hby at_465) rfl rfl ?_
        refine s_iconst (pc' := 468) (v := (3 : Int32)) X518.here hx (hb hby at_467) rfl rfl ?_
        refine s_icmpY (pc' := 520) X518.here hx (hb hby at_468) (feq (by decide)).2 (by decide) (by decide) ?_
        refine s_iload (pc' := 522) X518.here hx (hb hby at_520) rfl rfl ?_
        refine s_bipush (pc' := 524) (v := (7 : Int32)) X518.here hx (hb hby at_522) rfl rfl ?_
        refine s_icmpN (pc' := 527) X518.here hx (hb hby at_524) rfl (teq (by decide)).2 ?_
        refine s_aload (pc' := 529) X518.here hx (hb hby at_527) rfl rfl rfl ?_
        refine s_iconst (pc' := 530) (v := (0 : Int32)) X518.here hx (hb hby at_529) rfl rfl ?_
        obtain ⟨cl530, Ar530, Aq530, As530, An530, Ah530, Ag530⟩ := id f525
        have in531 := inb_of (j := (0 : Int32)) As530 (by decide)
        have at531 : cl530.slots[((0 : Int32)).toNatClampNeg]? = some (.int r127) := Ah530.at in531 rfl
        refine Go.st (X518.caload hx (j := (0 : Int32)) (v := (.int r127)) (by rw [hE518]; exact Ar530.1) (State.isArrayOf_alike hZ.alike Ar530.2.1) Ar530.2.2 in531 at531 (g := (mkF m 530 #[.val (.int p0), .val (.int p1), .val (.long p2), .second, .val (.int zc), .val (.int mk), .val (.ref b125), .val (.int sel), .val (.int (7 : Int32)), .val (.ref b400), .val (.ref o484), .val .null, .val .null] [(.int (0 : Int32)), (.ref b125)])) rfl rfl (hb hby at_530)) ?_
        show Go p.tables e below Kx T518 (mkF m 531 #[.val (.int p0), .val (.int p1), .val (.long p2), .second, .val (.int zc), .val (.int mk), .val (.ref b125), .val (.int sel), .val (.int (7 : Int32)), .val (.ref b400), .val (.ref o484), .val .null, .val .null] [(.int r127)])
        refine s_bipush (pc' := 533) (v := (51 : Int32)) X518.here hx (hb hby at_531) rfl rfl ?_
        by_cases hc532 : r127 = (51 : Int32)
        · skip
          refine s_icmpN (pc' := 536) X518.here hx (hb hby at_533) rfl (teq hc532).2 ?_
          refine s_aload (pc' := 538) X518.here hx (hb hby at_536) rfl rfl rfl ?_
          refine s_iconst (pc' := 539) (v := (1 : Int32)) X518.here hx (hb hby at_538) rfl rfl ?_
          obtain ⟨cl533, Ar533, Aq533, As533, An533, Ah533, Ag533⟩ := id f525
          have in534 := inb_of (j := (1 : Int32)) As533 (by decide)
          have at534 : cl533.slots[((1 : Int32)).toNatClampNeg]? = some (.int r131) := Ah533.at in534 rfl
          refine Go.st (X518.caload hx (j := (1 : Int32)) (v := (.int r131)) (by rw [hE518]; exact Ar533.1) (State.isArrayOf_alike hZ.alike Ar533.2.1) Ar533.2.2 in534 at534 (g := (mkF m 539 #[.val (.int p0), .val (.int p1), .val (.long p2), .second, .val (.int zc), .val (.int mk), .val (.ref b125), .val (.int sel), .val (.int (7 : Int32)), .val (.ref b400), .val (.ref o484), .val .null, .val .null] [(.int (1 : Int32)), (.ref b125)])) rfl rfl (hb hby at_539)) ?_
          show Go p.tables e below Kx T518 (mkF m 540 #[.val (.int p0), .val (.int p1), .val (.long p2), .second, .val (.int zc), .val (.int mk), .val (.ref b125), .val (.int sel), .val (.int (7 : Int32)), .val (.ref b400), .val (.ref o484), .val .null, .val .null] [(.int r131)])
          refine s_bipush (pc' := 542) (v := (54 : Int32)) X518.here hx (hb hby at_540) rfl rfl ?_
          by_cases hc535 : r131 = (54 : Int32)
          · skip
            refine s_icmpN (pc' := 545) X518.here hx (hb hby at_542) rfl (teq hc535).2 ?_
            refine s_aload (pc' := 547) X518.here hx (hb hby at_545) rfl rfl rfl ?_
            refine s_iconst (pc' := 548) (v := (2 : Int32)) X518.here hx (hb hby at_547) rfl rfl ?_
            obtain ⟨cl536, Ar536, Aq536, As536, An536, Ah536, Ag536⟩ := id f525
            have in537 := inb_of (j := (2 : Int32)) As536 (by decide)
            have at537 : cl536.slots[((2 : Int32)).toNatClampNeg]? = some (.int r135) := Ah536.at in537 rfl
            refine Go.st (X518.caload hx (j := (2 : Int32)) (v := (.int r135)) (by rw [hE518]; exact Ar536.1) (State.isArrayOf_alike hZ.alike Ar536.2.1) Ar536.2.2 in537 at537 (g := (mkF m 548 #[.val (.int p0), .val (.int p1), .val (.long p2), .second, .val (.int zc), .val (.int mk), .val (.ref b125), .val (.int sel), .val (.int (7 : Int32)), .val (.ref b400), .val (.ref o484), .val .null, .val .null] [(.int (2 : Int32)), (.ref b125)])) rfl rfl (hb hby at_548)) ?_
            show Go p.tables e below Kx T518 (mkF m 549 #[.val (.int p0), .val (.int p1), .val (.long p2), .second, .val (.int zc), .val (.int mk), .val (.ref b125), .val (.int sel), .val (.int (7 : Int32)), .val (.ref b400), .val (.ref o484), .val .null, .val .null] [(.int r135)])
            refine s_bipush (pc' := 551) (v := (53 : Int32)) X518.here hx (hb hby at_549) rfl rfl ?_
            by_cases hc538 : r135 = (53 : Int32)
            · skip
              refine s_icmpN (pc' := 554) X518.here hx (hb hby at_551) rfl (teq hc538).2 ?_
              refine s_aload (pc' := 556) X518.here hx (hb hby at_554) rfl rfl rfl ?_
              refine s_iconst (pc' := 557) (v := (3 : Int32)) X518.here hx (hb hby at_556) rfl rfl ?_
              obtain ⟨cl539, Ar539, Aq539, As539, An539, Ah539, Ag539⟩ := id f525
              have in540 := inb_of (j := (3 : Int32)) As539 (by decide)
              have at540 : cl539.slots[((3 : Int32)).toNatClampNeg]? = some (.int r139) := Ah539.at in540 rfl
              refine Go.st (X518.caload hx (j := (3 : Int32)) (v := (.int r139)) (by rw [hE518]; exact Ar539.1) (State.isArrayOf_alike hZ.alike Ar539.2.1) Ar539.2.2 in540 at540 (g := (mkF m 557 #[.val (.int p0), .val (.int p1), .val (.long p2), .second, .val (.int zc), .val (.int mk), .val (.ref b125), .val (.int sel), .val (.int (7 : Int32)), .val (.ref b400), .val (.ref o484), .val .null, .val .null] [(.int (3 : Int32)), (.ref b125)])) rfl rfl (hb hby at_557)) ?_
              show Go p.tables e below Kx T518 (mkF m 558 #[.val (.int p0), .val (.int p1), .val (.long p2), .second, .val (.int zc), .val (.int mk), .val (.ref b125), .val (.int sel), .val (.int (7 : Int32)), .val (.ref b400), .val (.ref o484), .val .null, .val .null] [(.int r139)])
              refine s_bipush (pc' := 560) (v := (47 : Int32)) X518.here hx (hb hby at_558) rfl rfl ?_
              by_cases hc541 : r139 = (47 : Int32)
              · skip
                refine s_icmpN (pc' := 563) X518.here hx (hb hby at_560) rfl (teq hc541).2 ?_
                refine s_aload (pc' := 565) X518.here hx (hb hby at_563) rfl rfl rfl ?_
                refine s_iconst (pc' := 566) (v := (4 : Int32)) X518.here hx (hb hby at_565) rfl rfl ?_
                obtain ⟨cl542, Ar542, Aq542, As542, An542, Ah542, Ag542⟩ := id f525
                have in543 := inb_of (j := (4 : Int32)) As542 (by decide)
                have at543 : cl542.slots[((4 : Int32)).toNatClampNeg]? = some (.int r143) := Ah542.at in543 rfl
                refine Go.st (X518.caload hx (j := (4 : Int32)) (v := (.int r143)) (by rw [hE518]; exact Ar542.1) (State.isArrayOf_alike hZ.alike Ar542.2.1) Ar542.2.2 in543 at543 (g := (mkF m 566 #[.val (.int p0), .val (.int p1), .val (.long p2), .second, .val (.int zc), .val (.int mk), .val (.ref b125), .val (.int sel), .val (.int (7 : Int32)), .val (.ref b400), .val (.ref o484), .val .null, .val .null] [(.int (4 : Int32)), (.ref b125)])) rfl rfl (hb hby at_566)) ?_
                show Go p.tables e below Kx T518 (mkF m 567 #[.val (.int p0), .val (.int p1), .val (.long p2), .second, .val (.int zc), .val (.int mk), .val (.ref b125), .val (.int sel), .val (.int (7 : Int32)), .val (.ref b400), .val (.ref o484), .val .null, .val .null] [(.int r143)])
                refine s_bipush (pc' := 569) (v := (51 : Int32)) X518.here hx (hb hby at_567) rfl rfl ?_
                by_cases hc544 : r143 = (51 : Int32)
                · skip
                  refine s_icmpN (pc' := 572) X518.here hx (hb hby at_569) rfl (teq hc544).2 ?_
                  refine s_aload (pc' := 574) X518.here hx (hb hby at_572) rfl rfl rfl ?_
                  refine s_iconst (pc' := 575) (v := (5 : Int32)) X518.here hx (hb hby at_574) rfl rfl ?_
                  obtain ⟨cl545, Ar545, Aq545, As545, An545, Ah545, Ag545⟩ := id f525
                  have in546 := inb_of (j := (5 : Int32)) As545 (by decide)
                  have at546 : cl545.slots[((5 : Int32)).toNatClampNeg]? = some (.int r147) := Ah545.at in546 rfl
                  refine Go.st (X518.caload hx (j := (5 : Int32)) (v := (.int r147)) (by rw [hE518]; exact Ar545.1) (State.isArrayOf_alike hZ.alike Ar545.2.1) Ar545.2.2 in546 at546 (g := (mkF m 575 #[.val (.int p0), .val (.int p1), .val (.long p2), .second, .val (.int zc), .val (.int mk), .val (.ref b125), .val (.int sel), .val (.int (7 : Int32)), .val (.ref b400), .val (.ref o484), .val .null, .val .null] [(.int (5 : Int32)), (.ref b125)])) rfl rfl (hb hby at_575)) ?_
                  show Go p.tables e below Kx T518 (mkF m 576 #[.val (.int p0), .val (.int p1), .val (.long p2), .second, .val (.int zc), .val (.int mk), .val (.ref b125), .val (.int sel), .val (.int (7 : Int32)), .val (.ref b400), .val (.ref o484), .val .null, .val .null] [(.int r147)])
                  refine s_bipush (pc' := 578) (v := (54 : Int32)) X518.here hx (hb hby at_576) rfl rfl ?_
                  by_cases hc547 : r147 = (54 : Int32)
                  · skip
                    refine s_icmpN (pc' := 581) X518.here hx (hb hby at_578) rfl (teq hc547).2 ?_
                    refine s_aload (pc' := 583) X518.here hx (hb hby at_581) rfl rfl rfl ?_
                    refine s_bipush (pc' := 585) (v := (6 : Int32)) X518.here hx (hb hby at_583) rfl rfl ?_
                    obtain ⟨cl548, Ar548, Aq548, As548, An548, Ah548, Ag548⟩ := id f525
                    have in549 := inb_of (j := (6 : Int32)) As548 (by decide)
                    have at549 : cl548.slots[((6 : Int32)).toNatClampNeg]? = some (.int r151) := Ah548.at in549 rfl
                    refine Go.st (X518.caload hx (j := (6 : Int32)) (v := (.int r151)) (by rw [hE518]; exact Ar548.1) (State.isArrayOf_alike hZ.alike Ar548.2.1) Ar548.2.2 in549 at549 (g := (mkF m 585 #[.val (.int p0), .val (.int p1), .val (.long p2), .second, .val (.int zc), .val (.int mk), .val (.ref b125), .val (.int sel), .val (.int (7 : Int32)), .val (.ref b400), .val (.ref o484), .val .null, .val .null] [(.int (6 : Int32)), (.ref b125)])) rfl rfl (hb hby at_585)) ?_
                    show Go p.tables e below Kx T518 (mkF m 586 #[.val (.int p0), .val (.int p1), .val (.long p2), .second, .val (.int zc), .val (.int mk), .val (.ref b125), .val (.int sel), .val (.int (7 : Int32)), .val (.ref b400), .val (.ref o484), .val .null, .val .null] [(.int r151)])
                    refine s_bipush (pc' := 588) (v := (54 : Int32)) X518.here hx (hb hby at_586) rfl rfl ?_
                    by_cases hc550 : r151 = (54 : Int32)
                    · skip
                      refine s_icmpN (pc' := 591) X518.here hx (hb hby at_588) rfl (teq hc550).2 ?_
                      obtain ⟨T551, X551, e551, st551⟩ := getS2 X518 hx hZ hown (host := "") (Or.inl (hw _ (List.mem_of_getElem? (i := 106) rfl))) Via.refl hE518 (SdC.ext O484.2) (g := (mkF m 591 #[.val (.int p0), .val (.int p1), .val (.long p2), .second, .val (.int zc), .val (.int mk), .val (.ref b125), .val (.int sel), .val (.int (7 : Int32)), .val (.ref b400), .val (.ref o484), .val .null, .val .null] [])) rfl (hb hby at_591)
                      refine Go.st st551 ?_
                      show Go p.tables e below Kx T551 (mkF m 594 #[.val (.int p0), .val (.int p1), .val (.long p2), .second, .val (.int zc), .val (.int mk), .val (.ref b125), .val (.int sel), .val (.int (7 : Int32)), .val (.ref b400), .val (.ref o484), .val .null, .val .null] [(.ref dC)])
                      refine s_astore (pc' := 596) (Ls' := #[.val (.int p0), .val (.int p1), .val (.long p2), .second, .val (.int zc), .val (.int mk), .val (.ref b125), .val (.int sel), .val (.int (7 : Int32)), .val (.ref b400), .val (.ref o484), .val .null, .val (.ref dC)]) X551.here hx (hb hby at_594) rfl rfl rfl ?_
                      exact absurd (by rw [hc532, hc535, hc538, hc541, hc544, hc547, hc550]) hC484
                    · skip
                      refine s_icmpY (pc' := 596) X518.here hx (hb hby at_588) (feq hc550).2 (by decide) (by decide) ?_
                      refine s_aload (pc' := 598) X518.here hx (hb hby at_596) rfl rfl rfl ?_
                      refine s_aload (pc' := 600) X518.here hx (hb hby at_598) rfl rfl rfl ?_
                      refine Go.st (fun _ r => Jvm.RoadKit.acmp (g := (mkF m 600 #[.val (.int p0), .val (.int p1), .val (.long p2), .second, .val (.int zc), .val (.int mk), .val (.ref b125), .val (.int sel), .val (.int (7 : Int32)), .val (.ref b400), .val (.ref o484), .val .null, .val .null] [.null, .null])) X518 hx rfl rfl rfl (pc0 := 600) (pc' := 603) (same := true) rfl (hb hby at_600) rfl (decide_eq_true rfl) (by decide) (by decide) r) ?_
                      show Go p.tables e below Kx T518 (mkF m 603 #[.val (.int p0), .val (.int p1), .val (.long p2), .second, .val (.int zc), .val (.int mk), .val (.ref b125), .val (.int sel), .val (.int (7 : Int32)), .val (.ref b400), .val (.ref o484), .val .null, .val .null] [])
                      refine s_iconst (pc' := 604) (v := (1 : Int32)) X518.here hx (hb hby at_603) rfl rfl ?_
                      refine s_goto (pc' := 608) X518.here hx (hb hby at_604) (by decide) (by decide) ?_
                      obtain ⟨fs, hr, hrun, hended, hRW⟩ := X518.leaveW hS0 (by rw [hE518]; exact hk484) (v := (some (.int (1 : Int32)))) (fun h => by rw [Bd.returns] at h; cases h)
                      have hCx := C484.trans (CHv.at X518 hZ hEL H484)
                      refine Go.fin (retN X518 hx (t := .boolean) Bd.returns (by simp) (hb hby at_608) hr) (hF _ _ hrun hended ⟨_, _, rfl, ?_, ?_, hRW.1, hRW.2.1, hRW.2.2.1, hRW.2.2.2.mono (by decide) (by decide)⟩)
                      · show QL Z p0 p1 p2 va dA dB dC tA tB tC eo kv h0 n0 ((some (.int (1 : Int32))) : Option Value) T518.heap _
                        rw [hE518]
                        exact ⟨rfl, N518⟩
                      · show CHr Z consts_1 s.vm s.heap T518.vm T518.heap
                        rw [hE518, hh]; exact hCx
                  · skip
                    refine s_icmpY (pc' := 596) X518.here hx (hb hby at_578) (feq hc547).2 (by decide) (by decide) ?_
                    refine s_aload (pc' := 598) X518.here hx (hb hby at_596) rfl rfl rfl ?_
                    refine s_aload (pc' := 600) X518.here hx (hb hby at_598) rfl rfl rfl ?_
                    refine Go.st (fun _ r => Jvm.RoadKit.acmp (g := (mkF m 600 #[.val (.int p0), .val (.int p1), .val (.long p2), .second, .val (.int zc), .val (.int mk), .val (.ref b125), .val (.int sel), .val (.int (7 : Int32)), .val (.ref b400), .val (.ref o484), .val .null, .val .null] [.null, .null])) X518 hx rfl rfl rfl (pc0 := 600) (pc' := 603) (same := true) rfl (hb hby at_600) rfl (decide_eq_true rfl) (by decide) (by decide) r) ?_
                    show Go p.tables e below Kx T518 (mkF m 603 #[.val (.int p0), .val (.int p1), .val (.long p2), .second, .val (.int zc), .val (.int mk), .val (.ref b125), .val (.int sel), .val (.int (7 : Int32)), .val (.ref b400), .val (.ref o484), .val .null, .val .null] [])
                    refine s_iconst (pc' := 604) (v := (1 : Int32)) X518.here hx (hb hby at_603) rfl rfl ?_
                    refine s_goto (pc' := 608) X518.here hx (hb hby at_604) (by decide) (by decide) ?_
                    obtain ⟨fs, hr, hrun, hended, hRW⟩ := X518.leaveW hS0 (by rw [hE518]; exact hk484) (v := (some (.int (1 : Int32)))) (fun h => by rw [Bd.returns] at h; cases h)
                    have hCx := C484.trans (CHv.at X518 hZ hEL H484)
                    refine Go.fin (retN X518 hx (t := .boolean) Bd.returns (by simp) (hb hby at_608) hr) (hF _ _ hrun hended ⟨_, _, rfl, ?_, ?_, hRW.1, hRW.2.1, hRW.2.2.1, hRW.2.2.2.mono (by decide) (by decide)⟩)
                    · show QL Z p0 p1 p2 va dA dB dC tA tB tC eo kv h0 n0 ((some (.int (1 : Int32))) : Option Value) T518.heap _
                      rw [hE518]
                      exact ⟨rfl, N518⟩
                    · show CHr Z consts_1 s.vm s.heap T518.vm T518.heap
                      rw [hE518, hh]; exact hCx
                · skip
                  refine s_icmpY (pc' := 596) X518.here hx (hb hby at_569) (feq hc544).2 (by decide) (by decide) ?_
                  refine s_aload (pc' := 598) X518.here hx (hb hby at_596) rfl rfl rfl ?_
                  refine s_aload (pc' := 600) X518.here hx (hb hby at_598) rfl rfl rfl ?_
                  refine Go.st (fun _ r => Jvm.RoadKit.acmp (g := (mkF m 600 #[.val (.int p0), .val (.int p1), .val (.long p2), .second, .val (.int zc), .val (.int mk), .val (.ref b125), .val (.int sel), .val (.int (7 : Int32)), .val (.ref b400), .val (.ref o484), .val .null, .val .null] [.null, .null])) X518 hx rfl rfl rfl (pc0 := 600) (pc' := 603) (same := true) rfl (hb hby at_600) rfl (decide_eq_true rfl) (by decide) (by decide) r) ?_
                  show Go p.tables e below Kx T518 (mkF m 603 #[.val (.int p0), .val (.int p1), .val (.long p2), .second, .val (.int zc), .val (.int mk), .val (.ref b125), .val (.int sel), .val (.int (7 : Int32)), .val (.ref b400), .val (.ref o484), .val .null, .val .null] [])
                  refine s_iconst (pc' := 604) (v := (1 : Int32)) X518.here hx (hb hby at_603) rfl rfl ?_
                  refine s_goto (pc' := 608) X518.here hx (hb hby at_604) (by decide) (by decide) ?_
                  obtain ⟨fs, hr, hrun, hended, hRW⟩ := X518.leaveW hS0 (by rw [hE518]; exact hk484) (v := (some (.int (1 : Int32)))) (fun h => by rw [Bd.returns] at h; cases h)
                  have hCx := C484.trans (CHv.at X518 hZ hEL H484)
                  refine Go.fin (retN X518 hx (t := .boolean) Bd.returns (by simp) (hb hby at_608) hr) (hF _ _ hrun hended ⟨_, _, rfl, ?_, ?_, hRW.1, hRW.2.1, hRW.2.2.1, hRW.2.2.2.mono (by decide) (by decide)⟩)
                  · show QL Z p0 p1 p2 va dA dB dC tA tB tC eo kv h0 n0 ((some (.int (1 : Int32))) : Option Value) T518.heap _
                    rw [hE518]
                    exact ⟨rfl, N518⟩
                  · show CHr Z consts_1 s.vm s.heap T518.vm T518.heap
                    rw [hE518, hh]; exact hCx
              · skip
                refine s_icmpY (pc' := 596) X518.here hx (hb hby at_560) (feq hc541).2 (by decide) (by decide) ?_
                refine s_aload (pc' := 598) X518.here hx (hb hby at_596) rfl rfl rfl ?_
                refine s_aload (pc' := 600) X518.here hx (hb hby at_598) rfl rfl rfl ?_
                refine Go.st (fun _ r => Jvm.RoadKit.acmp (g := (mkF m 600 #[.val (.int p0), .val (.int p1), .val (.long p2), .second, .val (.int zc), .val (.int mk), .val (.ref b125), .val (.int sel), .val (.int (7 : Int32)), .val (.ref b400), .val (.ref o484), .val .null, .val .null] [.null, .null])) X518 hx rfl rfl rfl (pc0 := 600) (pc' := 603) (same := true) rfl (hb hby at_600) rfl (decide_eq_true rfl) (by decide) (by decide) r) ?_
                show Go p.tables e below Kx T518 (mkF m 603 #[.val (.int p0), .val (.int p1), .val (.long p2), .second, .val (.int zc), .val (.int mk), .val (.ref b125), .val (.int sel), .val (.int (7 : Int32)), .val (.ref b400), .val (.ref o484), .val .null, .val .null] [])
                refine s_iconst (pc' := 604) (v := (1 : Int32)) X518.here hx (hb hby at_603) rfl rfl ?_
                refine s_goto (pc' := 608) X518.here hx (hb hby at_604) (by decide) (by decide) ?_
                obtain ⟨fs, hr, hrun, hended, hRW⟩ := X518.leaveW hS0 (by rw [hE518]; exact hk484) (v := (some (.int (1 : Int32)))) (fun h => by rw [Bd.returns] at h; cases h)
                have hCx := C484.trans (CHv.at X518 hZ hEL H484)
                refine Go.fin (retN X518 hx (t := .boolean) Bd.returns (by simp) (hb hby at_608) hr) (hF _ _ hrun hended ⟨_, _, rfl, ?_, ?_, hRW.1, hRW.2.1, hRW.2.2.1, hRW.2.2.2.mono (by decide) (by decide)⟩)
                · show QL Z p0 p1 p2 va dA dB dC tA tB tC eo kv h0 n0 ((some (.int (1 : Int32))) : Option Value) T518.heap _
                  rw [hE518]
                  exact ⟨rfl, N518⟩
                · show CHr Z consts_1 s.vm s.heap T518.vm T518.heap
                  rw [hE518, hh]; exact hCx
            · skip
              refine s_icmpY (pc' := 596) X518.here hx (hb hby at_551) (feq hc538).2 (by decide) (by decide) ?_
              refine s_aload (pc' := 598) X518.here hx (hb hby at_596) rfl rfl rfl ?_
              refine s_aload (pc' := 600) X518.here hx (hb hby at_598) rfl rfl rfl ?_
              refine Go.st (fun _ r => Jvm.RoadKit.acmp (g := (mkF m 600 #[.val (.int p0), .val (.int p1), .val (.long p2), .second, .val (.int zc), .val (.int mk), .val (.ref b125), .val (.int sel), .val (.int (7 : Int32)), .val (.ref b400), .val (.ref o484), .val .null, .val .null] [.null, .null])) X518 hx rfl rfl rfl (pc0 := 600) (pc' := 603) (same := true) rfl (hb hby at_600) rfl (decide_eq_true rfl) (by decide) (by decide) r) ?_
              show Go p.tables e below Kx T518 (mkF m 603 #[.val (.int p0), .val (.int p1), .val (.long p2), .second, .val (.int zc), .val (.int mk), .val (.ref b125), .val (.int sel), .val (.int (7 : Int32)), .val (.ref b400), .val (.ref o484), .val .null, .val .null] [])
              refine s_iconst (pc' := 604) (v := (1 : Int32)) X518.here hx (hb hby at_603) rfl rfl ?_
              refine s_goto (pc' := 608) X518.here hx (hb hby at_604) (by decide) (by decide) ?_
              obtain ⟨fs, hr, hrun, hended, hRW⟩ := X518.leaveW hS0 (by rw [hE518]; exact hk484) (v := (some (.int (1 : Int32)))) (fun h => by rw [Bd.returns] at h; cases h)
              have hCx := C484.trans (CHv.at X518 hZ hEL H484)
              refine Go.fin (retN X518 hx (t := .boolean) Bd.returns (by simp) (hb hby at_608) hr) (hF _ _ hrun hended ⟨_, _, rfl, ?_, ?_, hRW.1, hRW.2.1, hRW.2.2.1, hRW.2.2.2.mono (by decide) (by decide)⟩)
              · show QL Z p0 p1 p2 va dA dB dC tA tB tC eo kv h0 n0 ((some (.int (1 : Int32))) : Option Value) T518.heap _
                rw [hE518]
                exact ⟨rfl, N518⟩
              · show CHr Z consts_1 s.vm s.heap T518.vm T518.heap
                rw [hE518, hh]; exact hCx
          · skip
            refine s_icmpY (pc' := 596) X518.here hx (hb hby at_542) (feq hc535).2 (by decide) (by decide) ?_
            refine s_aload (pc' := 598) X518.here hx (hb hby at_596) rfl rfl rfl ?_
            refine s_aload (pc' := 600) X518.here hx (hb hby at_598) rfl rfl rfl ?_
            refine Go.st (fun _ r => Jvm.RoadKit.acmp (g := (mkF m 600 #[.val (.int p0), .val (.int p1), .val (.long p2), .second, .val (.int zc), .val (.int mk), .val (.ref b125), .val (.int sel), .val (.int (7 : Int32)), .val (.ref b400), .val (.ref o484), .val .null, .val .null] [.null, .null])) X518 hx rfl rfl rfl (pc0 := 600) (pc' := 603) (same := true) rfl (hb hby at_600) rfl (decide_eq_true rfl) (by decide) (by decide) r) ?_
            show Go p.tables e below Kx T518 (mkF m 603 #[.val (.int p0), .val (.int p1), .val (.long p2), .second, .val (.int zc), .val (.int mk), .val (.ref b125), .val (.int sel), .val (.int (7 : Int32)), .val (.ref b400), .val (.ref o484), .val .null, .val .null] [])
            refine s_iconst (pc' := 604) (v := (1 : Int32)) X518.here hx (hb hby at_603) rfl rfl ?_
            refine s_goto (pc' := 608) X518.here hx (hb hby at_604) (by decide) (by decide) ?_
            obtain ⟨fs, hr, hrun, hended, hRW⟩ := X518.leaveW hS0 (by rw [hE518]; exact hk484) (v := (some (.int (1 : Int32)))) (fun h => by rw [Bd.returns] at h; cases h)
            have hCx := C484.trans (CHv.at X518 hZ hEL H484)
            refine Go.fin (retN X518 hx (t := .boolean) Bd.returns (by simp) (hb hby at_608) hr) (hF _ _ hrun hended ⟨_, _, rfl, ?_, ?_, hRW.1, hRW.2.1, hRW.2.2.1, hRW.2.2.2.mono (by decide) (by decide)⟩)
            · show QL Z p0 p1 p2 va dA dB dC tA tB tC eo kv h0 n0 ((some (.int (1 : Int32))) : Option Value) T518.heap _
              rw [hE518]
              exact ⟨rfl, N518⟩
            · show CHr Z consts_1 s.vm s.heap T518.vm T518.heap
              rw [hE518, hh]; exact hCx
        · skip
          refine s_icmpY (pc' := 596) X518.here hx (hb hby at_533) (feq hc532).2 (by decide) (by decide) ?_
          refine s_aload (pc' := 598) X518.here hx (hb hby at_596) rfl rfl rfl ?_
          refine s_aload (pc' := 600) X518.here hx (hb hby at_598) rfl rfl rfl ?_
          refine Go.st (fun _ r => Jvm.RoadKit.acmp (g := (mkF m 600 #[.val (.int p0), .val (.int p1), .val (.long p2), .second, .val (.int zc), .val (.int mk), .val (.ref b125), .val (.int sel), .val (.int (7 : Int32)), .val (.ref b400), .val (.ref o484), .val .null, .val .null] [.null, .null])) X518 hx rfl rfl rfl (pc0 := 600) (pc' := 603) (same := true) rfl (hb hby at_600) rfl (decide_eq_true rfl) (by decide) (by decide) r) ?_
          show Go p.tables e below Kx T518 (mkF m 603 #[.val (.int p0), .val (.int p1), .val (.long p2), .second, .val (.int zc), .val (.int mk), .val (.ref b125), .val (.int sel), .val (.int (7 : Int32)), .val (.ref b400), .val (.ref o484), .val .null, .val .null] [])
          refine s_iconst (pc' := 604) (v := (1 : Int32)) X518.here hx (hb hby at_603) rfl rfl ?_
          refine s_goto (pc' := 608) X518.here hx (hb hby at_604) (by decide) (by decide) ?_
          obtain ⟨fs, hr, hrun, hended, hRW⟩ := X518.leaveW hS0 (by rw [hE518]; exact hk484) (v := (some (.int (1 : Int32)))) (fun h => by rw [Bd.returns] at h; cases h)
          have hCx := C484.trans (CHv.at X518 hZ hEL H484)
          refine Go.fin (retN X518 hx (t := .boolean) Bd.returns (by simp) (hb hby at_608) hr) (hF _ _ hrun hended ⟨_, _, rfl, ?_, ?_, hRW.1, hRW.2.1, hRW.2.2.1, hRW.2.2.2.mono (by decide) (by decide)⟩)
          · show QL Z p0 p1 p2 va dA dB dC tA tB tC eo kv h0 n0 ((some (.int (1 : Int32))) : Option Value) T518.heap _
            rw [hE518]
            exact ⟨rfl, N518⟩
          · show CHr Z consts_1 s.vm s.heap T518.vm T518.heap
            rw [hE518, hh]; exact hCx
  · skip
    refine s_icmpN (pc' := 162) X157.here hx (hb hby at_159) rfl (flt hc169).2.2.1 ?_
    refine s_iconst (pc' := 163) (v := (3 : Int32)) X157.here hx (hb hby at_162) rfl rfl ?_
    refine s_istore (pc' := 165) (Ls' := #[.val (.int p0), .val (.int p1), .val (.long p2), .second, .val (.int zc), .val (.int mk), .val (.ref b125), .val (.int sel), .val (.int (3 : Int32)), .unset, .unset, .unset, .unset]) X157.here hx (hb hby at_163) rfl  rfl ?_
    obtain ⟨T552, h552, X552, e552, E552, A552, D552, -, st552⟩ := newO X157 hx hZ hown (hw _ (List.mem_of_getElem? (i := 5) rfl)) (hw _ (List.mem_of_getElem? (i := 6) rfl)) (hw _ (List.mem_of_getElem? (i := 7) rfl)) e157 (g := (mkF m 165 #[.val (.int p0), .val (.int p1), .val (.long p2), .second, .val (.int zc), .val (.int mk), .val (.ref b125), .val (.int sel), .val (.int (3 : Int32)), .unset, .unset, .unset, .unset] [])) rfl (hb hby at_165) (by decide) (by decide)
    obtain ⟨b552, g552⟩ : ∃ z, z = h157.size := ⟨_, rfl⟩
    rw [← g552] at A552 D552 st552
    have sz552 : h0.size ≤ b552 := Nat.le_trans K157.1 (Nat.le_of_eq g552.symm)
    have ge552 : n0 ≤ b552 := Nat.le_trans (O157.1 ▸ O157.2.1) (Nat.le_of_eq g552.symm)
    have sn552 : Safe Z consts_1 s.vm h157 b552 := Safe.new (Nat.le_of_eq g552.symm)
    have K552 : Keep h0 h552 [] := K157.ext E552
    have O552 : Old Z n0 h552 := O157.ext E552
    have sf553 : Safe Z consts_1 s.vm h552 b125 := (Safe.ext E552 H157 sf158)
    have sf554 : Safe Z consts_1 s.vm h552 b552 := (Safe.ext E552 H157 sn552)
    have H552 : CHv Z consts_1 s.vm h552 := H157.ext E552
    have C552 : CHr Z consts_1 s.vm h0 s.vm h552 := C157.trans (CHr.ext E552 H157)
    have hk552 := Nat.le_trans hk157 E552.1
    have F552_coder : Fld Z h552 b552 "java/lang/String" "coder" "B" (.int (0 : Int32)) := D552 (Or.inr (hw _ (List.mem_of_getElem? (i := 31) rfl))) (ty := .byte) (by decide)
    have F552_value : Fld Z h552 b552 "java/lang/String" "value" "[B" .null := D552 (Or.inr (hw _ (List.mem_of_getElem? (i := 33) rfl))) (ty := (.array .byte)) (by decide)
    refine Go.st st552 ?_
    show Go p.tables e below Kx T552 (mkF m 168 #[.val (.int p0), .val (.int p1), .val (.long p2), .second, .val (.int zc), .val (.int mk), .val (.ref b125), .val (.int sel), .val (.int (3 : Int32)), .unset, .unset, .unset, .unset] [(.ref b552)])
    refine s_dup (pc' := 169) X552.here hx (hb hby at_168) rfl rfl ?_
    refine s_iconst (pc' := 170) (v := (3 : Int32)) X552.here hx (hb hby at_169) rfl rfl ?_
    obtain ⟨T555, h555, k555, X555, e555, E555, A555, st555⟩ := newP X552 hx hZ (hw _ (List.mem_of_getElem? (i := 0) rfl)) e552 (g := (mkF m 170 #[.val (.int p0), .val (.int p1), .val (.long p2), .second, .val (.int zc), .val (.int mk), .val (.ref b125), .val (.int sel), .val (.int (3 : Int32)), .unset, .unset, .unset, .unset] [(.int (3 : Int32)), (.ref b552), (.ref b552)])) rfl (hb hby at_170) rfl (by decide) (cap := 3) (by decide) (by decide) (by decide) (by decide)
    obtain ⟨b555, g555⟩ : ∃ z, z = h552.size := ⟨_, rfl⟩
    rw [← g555] at A555 st555
    have sz555 : h0.size ≤ b555 := Nat.le_trans K552.1 (Nat.le_of_eq g555.symm)
    have ge555 : n0 ≤ b555 := Nat.le_trans (O552.1 ▸ O552.2.1) (Nat.le_of_eq g555.symm)
    have sn555 : Safe Z consts_1 s.vm h552 b555 := Safe.new (Nat.le_of_eq g555.symm)
    have K555 : Keep h0 h555 [] := K552.ext E555
    have O555 : Old Z n0 h555 := O552.ext E555
    have sf556 : Safe Z consts_1 s.vm h555 b125 := (Safe.ext E555 H552 sf553)
    have sf557 : Safe Z consts_1 s.vm h555 b552 := (Safe.ext E555 H552 sf554)
    have sf558 : Safe Z consts_1 s.vm h555 b555 := (Safe.ext E555 H552 sn555)
    have H555 : CHv Z consts_1 s.vm h555 := H552.ext E555
    have C555 : CHr Z consts_1 s.vm h0 s.vm h555 := C552.trans (CHr.ext E555 H552)
    have hk555 := Nat.le_trans hk552 E555.1
    have V555 : Arv Z h555 b555 k555 .char (3 : Int32) [(.int (0 : Int32)), (.int (0 : Int32)), (.int (0 : Int32))] (.int (0 : Int32)) := (Arv.new A555 (by decide)).pad (pad_rep [] (.int (0 : Int32)) 3)
    refine Go.st st555 ?_
    show Go p.tables e below Kx T555 (mkF m 172 #[.val (.int p0), .val (.int p1), .val (.long p2), .second, .val (.int zc), .val (.int mk), .val (.ref b125), .val (.int sel), .val (.int (3 : Int32)), .unset, .unset, .unset, .unset] [(.ref b555), (.ref b552), (.ref b552)])
    refine s_dup (pc' := 173) X555.here hx (hb hby at_172) rfl rfl ?_
    refine s_iconst (pc' := 174) (v := (0 : Int32)) X555.here hx (hb hby at_173) rfl rfl ?_
    refine s_aload (pc' := 176) X555.here hx (hb hby at_174) rfl rfl rfl ?_
    refine s_iconst (pc' := 177) (v := (0 : Int32)) X555.here hx (hb hby at_176) rfl rfl ?_
    have f559 : Arv Z h555 b125 k125 .char (8 : Int32) [(.int r127), (.int r131), (.int r135), (.int r139), (.int r143), (.int r147), (.int r151), (.int r155)] (.int (0 : Int32)) := ((V157.ext E552).ext E555)
    obtain ⟨cl560, Ar560, Aq560, As560, An560, Ah560, Ag560⟩ := id f559
    have in561 := inb_of (j := (0 : Int32)) As560 (by decide)
    have at561 : cl560.slots[((0 : Int32)).toNatClampNeg]? = some (.int r127) := Ah560.at in561 rfl
    refine Go.st (X555.caload hx (j := (0 : Int32)) (v := (.int r127)) (by rw [e555]; exact Ar560.1) (State.isArrayOf_alike hZ.alike Ar560.2.1) Ar560.2.2 in561 at561 (g := (mkF m 177 #[.val (.int p0), .val (.int p1), .val (.long p2), .second, .val (.int zc), .val (.int mk), .val (.ref b125), .val (.int sel), .val (.int (3 : Int32)), .unset, .unset, .unset, .unset] [(.int (0 : Int32)), (.ref b125), (.int (0 : Int32)), (.ref b555), (.ref b555), (.ref b552), (.ref b552)])) rfl rfl (hb hby at_177)) ?_
    show Go p.tables e below Kx T555 (mkF m 178 #[.val (.int p0), .val (.int p1), .val (.long p2), .second, .val (.int zc), .val (.int mk), .val (.ref b125), .val (.int sel), .val (.int (3 : Int32)), .unset, .unset, .unset, .unset] [(.int r127), (.int (0 : Int32)), (.ref b555), (.ref b555), (.ref b552), (.ref b552)])
    obtain ⟨cl562, Ar562, Aq562, As562, An562, Ah562, Ag562⟩ := id V555
    have in563 := inb_of (j := (0 : Int32)) As562 (by decide)
    obtain ⟨T563, h563, X563, e563, W563, st563⟩ := stC X555 hx hZ e555 Ar562 (j := (0 : Int32)) in563 (g := (mkF m 178 #[.val (.int p0), .val (.int p1), .val (.long p2), .second, .val (.int zc), .val (.int mk), .val (.ref b125), .val (.int sel), .val (.int (3 : Int32)), .unset, .unset, .unset, .unset] [(.int r127), (.int (0 : Int32)), (.ref b555), (.ref b555), (.ref b552), (.ref b552)])) rfl rfl (hb hby at_178)
    have V563 : Arv Z h563 b555 k555 .char (3 : Int32) [(.int r127), (.int (0 : Int32)), (.int (0 : Int32))] (.int (0 : Int32)) := by
      have q := Arv.set Ar562 Aq562 As562 An562 Ah562 Ag562 (fits_nar_char _) W563 0 rfl (Nat.le_of_ble_eq_true rfl)
      rw [chr_nar hr127] at q; exact q
    have K563 : Keep h0 h563 [] := K555.wr W563 (Or.inr sz555)
    have O563 : Old Z n0 h563 := O555.wr W563 ge555
    have sf564 : Safe Z consts_1 s.vm h563 b125 := (Safe.wr W563 sf558 H555 sf556)
    have sf565 : Safe Z consts_1 s.vm h563 b552 := (Safe.wr W563 sf558 H555 sf557)
    have sf566 : Safe Z consts_1 s.vm h563 b555 := (Safe.wr W563 sf558 H555 sf558)
    have H563 : CHv Z consts_1 s.vm h563 := H555.wr W563 sf558
    have C563 : CHr Z consts_1 s.vm h0 s.vm h563 := C555.trans (CHr.wr W563 sf558 H555)
    have hk563 := Nat.le_trans hk555 (Nat.le_of_eq W563.size.symm)
    have N563 := Fr.snoc X563 N157 ge555
    refine Go.st st563 ?_
    show Go p.tables e below Kx T563 (mkF m 179 #[.val (.int p0), .val (.int p1), .val (.long p2), .second, .val (.int zc), .val (.int mk), .val (.ref b125), .val (.int sel), .val (.int (3 : Int32)), .unset, .unset, .unset, .unset] [(.ref b555), (.ref b552), (.ref b552)])
    refine s_dup (pc' := 180) X563.here hx (hb hby at_179) rfl rfl ?_
    refine s_iconst (pc' := 181) (v := (1 : Int32)) X563.here hx (hb hby at_180) rfl rfl ?_
    refine s_aload (pc' := 183) X563.here hx (hb hby at_181) rfl rfl rfl ?_
    refine s_iconst (pc' := 184) (v := (1 : Int32)) X563.here hx (hb hby at_183) rfl rfl ?_
    have f567 : Arv Z h563 b125 k125 .char (8 : Int32) [(.int r127), (.int r131), (.int r135), (.int r139), (.int r143), (.int r147), (.int r151), (.int r155)] (.int (0 : Int32)) := (f559.other W563 (Nat.ne_of_lt (Nat.lt_of_lt_of_le (Nat.lt_of_lt_of_le lt165 E552.1) (Nat.le_of_eq g555.symm))))
    obtain ⟨cl568, Ar568, Aq568, As568, An568, Ah568, Ag568⟩ := id f567
    have in569 := inb_of (j := (1 : Int32)) As568 (by decide)
    have at569 : cl568.slots[((1 : Int32)).toNatClampNeg]? = some (.int r131) := Ah568.at in569 rfl
    refine Go.st (X563.caload hx (j := (1 : Int32)) (v := (.int r131)) (by rw [e563]; exact Ar568.1) (State.isArrayOf_alike hZ.alike Ar568.2.1) Ar568.2.2 in569 at569 (g := (mkF m 184 #[.val (.int p0), .val (.int p1), .val (.long p2), .second, .val (.int zc), .val (.int mk), .val (.ref b125), .val (.int sel), .val (.int (3 : Int32)), .unset, .unset, .unset, .unset] [(.int (1 : Int32)), (.ref b125), (.int (1 : Int32)), (.ref b555), (.ref b555), (.ref b552), (.ref b552)])) rfl rfl (hb hby at_184)) ?_
    show Go p.tables e below Kx T563 (mkF m 185 #[.val (.int p0), .val (.int p1), .val (.long p2), .second, .val (.int zc), .val (.int mk), .val (.ref b125), .val (.int sel), .val (.int (3 : Int32)), .unset, .unset, .unset, .unset] [(.int r131), (.int (1 : Int32)), (.ref b555), (.ref b555), (.ref b552), (.ref b552)])
    obtain ⟨cl570, Ar570, Aq570, As570, An570, Ah570, Ag570⟩ := id V563
    have in571 := inb_of (j := (1 : Int32)) As570 (by decide)
    obtain ⟨T571, h571, X571, e571, W571, st571⟩ := stC X563 hx hZ e563 Ar570 (j := (1 : Int32)) in571 (g := (mkF m 185 #[.val (.int p0), .val (.int p1), .val (.long p2), .second, .val (.int zc), .val (.int mk), .val (.ref b125), .val (.int sel), .val (.int (3 : Int32)), .unset, .unset, .unset, .unset] [(.int r131), (.int (1 : Int32)), (.ref b555), (.ref b555), (.ref b552), (.ref b552)])) rfl rfl (hb hby at_185)
    have V571 : Arv Z h571 b555 k555 .char (3 : Int32) [(.int r127), (.int r131), (.int (0 : Int32))] (.int (0 : Int32)) := by
      have q := Arv.set Ar570 Aq570 As570 An570 Ah570 Ag570 (fits_nar_char _) W571 1 rfl (Nat.le_of_ble_eq_true rfl)
      rw [chr_nar hr131] at q; exact q
    have K571 : Keep h0 h571 [] := K563.wr W571 (Or.inr sz555)
    have O571 : Old Z n0 h571 := O563.wr W571 ge555
    have sf572 : Safe Z consts_1 s.vm h571 b125 := (Safe.wr W571 sf566 H563 sf564)
    have sf573 : Safe Z consts_1 s.vm h571 b552 := (Safe.wr W571 sf566 H563 sf565)
    have sf574 : Safe Z consts_1 s.vm h571 b555 := (Safe.wr W571 sf566 H563 sf566)
    have H571 : CHv Z consts_1 s.vm h571 := H563.wr W571 sf566
    have C571 : CHr Z consts_1 s.vm h0 s.vm h571 := C563.trans (CHr.wr W571 sf566 H563)
    have hk571 := Nat.le_trans hk563 (Nat.le_of_eq W571.size.symm)
    have N571 := Fr.snoc X571 N563 ge555
    refine Go.st st571 ?_
    show Go p.tables e below Kx T571 (mkF m 186 #[.val (.int p0), .val (.int p1), .val (.long p2), .second, .val (.int zc), .val (.int mk), .val (.ref b125), .val (.int sel), .val (.int (3 : Int32)), .unset, .unset, .unset, .unset] [(.ref b555), (.ref b552), (.ref b552)])
    refine s_dup (pc' := 187) X571.here hx (hb hby at_186) rfl rfl ?_
    refine s_iconst (pc' := 188) (v := (2 : Int32)) X571.here hx (hb hby at_187) rfl rfl ?_
    refine s_aload (pc' := 190) X571.here hx (hb hby at_188) rfl rfl rfl ?_
    refine s_iconst (pc' := 191) (v := (2 : Int32)) X571.here hx (hb hby at_190) rfl rfl ?_
    have f575 : Arv Z h571 b125 k125 .char (8 : Int32) [(.int r127), (.int r131), (.int r135), (.int r139), (.int r143), (.int r147), (.int r151), (.int r155)] (.int (0 : Int32)) := (f567.other W571 (Nat.ne_of_lt (Nat.lt_of_lt_of_le (Nat.lt_of_lt_of_le lt165 E552.1) (Nat.le_of_eq g555.symm))))
    obtain ⟨cl576, Ar576, Aq576, As576, An576, Ah576, Ag576⟩ := id f575
    have in577 := inb_of (j := (2 : Int32)) As576 (by decide)
    have at577 : cl576.slots[((2 : Int32)).toNatClampNeg]? = some (.int r135) := Ah576.at in577 rfl
    refine Go.st (X571.caload hx (j := (2 : Int32)) (v := (.int r135)) (by rw [e571]; exact Ar576.1) (State.isArrayOf_alike hZ.alike Ar576.2.1) Ar576.2.2 in577 at577 (g := (mkF m 191 #[.val (.int p0), .val (.int p1), .val (.long p2), .second, .val (.int zc), .val (.int mk), .val (.ref b125), .val (.int sel), .val (.int (3 : Int32)), .unset, .unset, .unset, .unset] [(.int (2 : Int32)), (.ref b125), (.int (2 : Int32)), (.ref b555), (.ref b555), (.ref b552), (.ref b552)])) rfl rfl (hb hby at_191)) ?_
    show Go p.tables e below Kx T571 (mkF m 192 #[.val (.int p0), .val (.int p1), .val (.long p2), .second, .val (.int zc), .val (.int mk), .val (.ref b125), .val (.int sel), .val (.int (3 : Int32)), .unset, .unset, .unset, .unset] [(.int r135), (.int (2 : Int32)), (.ref b555), (.ref b555), (.ref b552), (.ref b552)])
    obtain ⟨cl578, Ar578, Aq578, As578, An578, Ah578, Ag578⟩ := id V571
    have in579 := inb_of (j := (2 : Int32)) As578 (by decide)
    obtain ⟨T579, h579, X579, e579, W579, st579⟩ := stC X571 hx hZ e571 Ar578 (j := (2 : Int32)) in579 (g := (mkF m 192 #[.val (.int p0), .val (.int p1), .val (.long p2), .second, .val (.int zc), .val (.int mk), .val (.ref b125), .val (.int sel), .val (.int (3 : Int32)), .unset, .unset, .unset, .unset] [(.int r135), (.int (2 : Int32)), (.ref b555), (.ref b555), (.ref b552), (.ref b552)])) rfl rfl (hb hby at_192)
    have V579 : Arv Z h579 b555 k555 .char (3 : Int32) [(.int r127), (.int r131), (.int r135)] (.int (0 : Int32)) := by
      have q := Arv.set Ar578 Aq578 As578 An578 Ah578 Ag578 (fits_nar_char _) W579 2 rfl (Nat.le_of_ble_eq_true rfl)
      rw [chr_nar hr135] at q; exact q
    have K579 : Keep h0 h579 [] := K571.wr W579 (Or.inr sz555)
    have O579 : Old Z n0 h579 := O571.wr W579 ge555
    have sf580 : Safe Z consts_1 s.vm h579 b125 := (Safe.wr W579 sf574 H571 sf572)
    have sf581 : Safe Z consts_1 s.vm h579 b552 := (Safe.wr W579 sf574 H571 sf573)
    have sf582 : Safe Z consts_1 s.vm h579 b555 := (Safe.wr W579 sf574 H571 sf574)
    have H579 : CHv Z consts_1 s.vm h579 := H571.wr W579 sf574
    have C579 : CHr Z consts_1 s.vm h0 s.vm h579 := C571.trans (CHr.wr W579 sf574 H571)
    have hk579 := Nat.le_trans hk571 (Nat.le_of_eq W579.size.symm)
    have N579 := Fr.snoc X579 N571 ge555
    refine Go.st st579 ?_
    show Go p.tables e below Kx T579 (mkF m 193 #[.val (.int p0), .val (.int p1), .val (.long p2), .second, .val (.int zc), .val (.int mk), .val (.ref b125), .val (.int sel), .val (.int (3 : Int32)), .unset, .unset, .unset, .unset] [(.ref b555), (.ref b552), (.ref b552)])
    have f583 : Exa Z h579 b552 "java/lang/String" := ((((A552.ext E555).wr W563).wr W571).wr W579)
    have f584 : Fld Z h579 b552 "java/lang/String" "value" "[B" .null := ((((F552_value.ext E555).other W563 (Or.inl (Nat.ne_of_lt (Nat.lt_of_lt_of_le A552.lt (Nat.le_of_eq g555.symm))))).other W571 (Or.inl (Nat.ne_of_lt (Nat.lt_of_lt_of_le A552.lt (Nat.le_of_eq g555.symm))))).other W579 (Or.inl (Nat.ne_of_lt (Nat.lt_of_lt_of_le A552.lt (Nat.le_of_eq g555.symm)))))
    have f585 : Fld Z h579 b552 "java/lang/String" "coder" "B" (.int (0 : Int32)) := ((((F552_coder.ext E555).other W563 (Or.inl (Nat.ne_of_lt (Nat.lt_of_lt_of_le A552.lt (Nat.le_of_eq g555.symm))))).other W571 (Or.inl (Nat.ne_of_lt (Nat.lt_of_lt_of_le A552.lt (Nat.le_of_eq g555.symm))))).other W579 (Or.inl (Nat.ne_of_lt (Nat.lt_of_lt_of_le A552.lt (Nat.le_of_eq g555.symm)))))
    have hp586 : ∀ c ∈ ([r127, r131, r135] : List Int32), ¬ c < 0 ∧ ¬ (255 : Int32) < c := by
      intro c hc
      simp only [List.mem_cons, List.not_mem_nil, or_false] at hc
      rcases hc with rfl | rfl | rfl
      · exact hr127
      · exact hr131
      · exact hr135
    obtain ⟨_, _, ⟨T587, L587, k587, n587⟩, -, X587, ⟨Lc587, hQ587, l587, y587, z587⟩, st587⟩ := X579.specialBack hx (y := (⟨"java/lang/String", "<init>", "([C)V"⟩ : MethodName)) rfl hown (mvT hZ (hw _ (List.mem_of_getElem? (i := 8) rfl))) (mvT hZ (hw _ (List.mem_of_getElem? (i := 9) rfl))) (mvT hZ (hw _ (List.mem_of_getElem? (i := 10) rfl))) (by decide) (StrChars.Road.backV (W := 1) hZ (hwsV Z a0 hw) (kI := 4) (hw _ (List.mem_of_getElem? (i := 6) rfl)) (cs := [r127, r131, r135]) (bs := ([r127, r131, r135] : List Int32).map (fun c => c.toInt8.toInt32)) (n := 3) ge552 (O579.1 ▸ O579.2.1) f583 f584 f585 V579 (S1.ext O579.2) P1 rfl rfl (by decide) (by decide) hp586 rfl (by decide) (by decide)) (g := (mkF m 193 #[.val (.int p0), .val (.int p1), .val (.long p2), .second, .val (.int zc), .val (.int mk), .val (.ref b125), .val (.int sel), .val (.int (3 : Int32)), .unset, .unset, .unset, .unset] [(.ref b555), (.ref b552), (.ref b552)])) rfl (by rw [hml]; rfl) (Steps.refl _) (a := b552) (argsL := [(.ref b555)]) (rest := [(.ref b552)]) (lenOf pd_8 rfl) rfl (by show 2 * 0 + _ ≤ _; exact Nat.le_of_eq rfl) (hb hby at_193) (fun _ _ => ⟨rfl, e579, (by decide : 3 + 1 ≤ _), (by decide : 15 + 3 ≤ _)⟩)
    dsimp only [Pt.U, Pt.locs, Pt.cells, Pt.slots] at X587 l587 y587 z587 st587 hQ587
    rw [l587, y587, z587] at X587
    obtain ⟨rfl, Nq587, Kq587, q1_587, q2_587, t587, kt587, -, -, -, q3_587, q4_587⟩ := hQ587
    have N587 := Fr.app N579 Nq587
    have K587 : Keep h0 T587.heap [] := K579.trans Kq587 (allS (P := fun zz => zz ∈ [] ∨ h0.size ≤ zz) (Or.inr sz552) all0)
    have O587 : Old Z n0 T587.heap := O579.keep Kq587 (allS ge552 all0)
    have sf588 : Safe Z consts_1 s.vm T587.heap b125 := (Safe.keep Kq587 (sfS sf581 sf0) H579 sf580)
    have sf589 : Safe Z consts_1 s.vm T587.heap b552 := (Safe.keep Kq587 (sfS sf581 sf0) H579 sf581)
    have sf590 : Safe Z consts_1 s.vm T587.heap b555 := (Safe.keep Kq587 (sfS sf581 sf0) H579 sf582)
    have H587 : CHv Z consts_1 s.vm T587.heap := H579.keep Kq587 (sfS sf581 sf0)
    have C587 : CHr Z consts_1 s.vm h0 s.vm T587.heap := C579.trans (CHr.keep Kq587 (sfS sf581 sf0) H579)
    have hk587 := Nat.le_trans hk579 Kq587.1
    refine Go.tr st587 ?_
    show Go p.tables e below Kx T587 (mkF m 196 #[.val (.int p0), .val (.int p1), .val (.long p2), .second, .val (.int zc), .val (.int mk), .val (.ref b125), .val (.int sel), .val (.int (3 : Int32)), .unset, .unset, .unset, .unset] [(.ref b552)])
    have St587 : Str Z T587.heap T587.heap.size b552 [r127, r131, r135] := Str.of q1_587 q2_587 q3_587 q4_587 rfl rfl hp586 (Nat.le_of_ble_eq_true rfl)
    refine s_astore (pc' := 198) (Ls' := #[.val (.int p0), .val (.int p1), .val (.long p2), .second, .val (.int zc), .val (.int mk), .val (.ref b125), .val (.int sel), .val (.int (3 : Int32)), .val (.ref b552), .unset, .unset, .unset]) X587.here hx (hb hby at_196) rfl rfl rfl ?_
    refine s_goto (pc' := 433) X587.here hx (hb hby at_198) (by decide) (by decide) ?_
    have f591 : Exa Z T587.heap dA "com/example/syndica/syndica/InterestBasis" := ((((((f159.ext E552).ext E555).wr W563).wr W571).wr W579).keep Kq587)
    have f592 : Fld Z T587.heap dA "com/example/syndica/syndica/InterestBasis" "value" "Ljava/lang/String;" (.ref tA) := ((((((f160.ext E552).ext E555).other W563 (Or.inl (Nat.ne_of_lt (Nat.lt_of_lt_of_le (Nat.lt_of_lt_of_le lt166 E552.1) (Nat.le_of_eq g555.symm))))).other W571 (Or.inl (Nat.ne_of_lt (Nat.lt_of_lt_of_le (Nat.lt_of_lt_of_le lt166 E552.1) (Nat.le_of_eq g555.symm))))).other W579 (Or.inl (Nat.ne_of_lt (Nat.lt_of_lt_of_le (Nat.lt_of_lt_of_le lt166 E552.1) (Nat.le_of_eq g555.symm))))).keep Kq587 (ninS (Nat.ne_of_lt (Nat.lt_of_lt_of_le lt166 (Nat.le_of_eq g552.symm))) nin0))
    have f593 : Exa Z T587.heap dB "com/example/syndica/syndica/InterestBasis" := ((((((f161.ext E552).ext E555).wr W563).wr W571).wr W579).keep Kq587)
    have f594 : Fld Z T587.heap dB "com/example/syndica/syndica/InterestBasis" "value" "Ljava/lang/String;" (.ref tB) := ((((((f162.ext E552).ext E555).other W563 (Or.inl (Nat.ne_of_lt (Nat.lt_of_lt_of_le (Nat.lt_of_lt_of_le lt167 E552.1) (Nat.le_of_eq g555.symm))))).other W571 (Or.inl (Nat.ne_of_lt (Nat.lt_of_lt_of_le (Nat.lt_of_lt_of_le lt167 E552.1) (Nat.le_of_eq g555.symm))))).other W579 (Or.inl (Nat.ne_of_lt (Nat.lt_of_lt_of_le (Nat.lt_of_lt_of_le lt167 E552.1) (Nat.le_of_eq g555.symm))))).keep Kq587 (ninS (Nat.ne_of_lt (Nat.lt_of_lt_of_le lt167 (Nat.le_of_eq g552.symm))) nin0))
    have f595 : Exa Z T587.heap dC "com/example/syndica/syndica/InterestBasis" := ((((((f163.ext E552).ext E555).wr W563).wr W571).wr W579).keep Kq587)
    have f596 : Fld Z T587.heap dC "com/example/syndica/syndica/InterestBasis" "value" "Ljava/lang/String;" (.ref tC) := ((((((f164.ext E552).ext E555).other W563 (Or.inl (Nat.ne_of_lt (Nat.lt_of_lt_of_le (Nat.lt_of_lt_of_le lt168 E552.1) (Nat.le_of_eq g555.symm))))).other W571 (Or.inl (Nat.ne_of_lt (Nat.lt_of_lt_of_le (Nat.lt_of_lt_of_le lt168 E552.1) (Nat.le_of_eq g555.symm))))).other W579 (Or.inl (Nat.ne_of_lt (Nat.lt_of_lt_of_le (Nat.lt_of_lt_of_le lt168 E552.1) (Nat.le_of_eq g555.symm))))).keep Kq587 (ninS (Nat.ne_of_lt (Nat.lt_of_lt_of_le lt168 (Nat.le_of_eq g552.symm))) nin0))
    have f597 : Arv Z T587.heap b125 k125 .char (8 : Int32) [(.int r127), (.int r131), (.int r135), (.int r139), (.int r143), (.int r147), (.int r151), (.int r155)] (.int (0 : Int32)) := ((f575.other W579 (Nat.ne_of_lt (Nat.lt_of_lt_of_le (Nat.lt_of_lt_of_le lt165 E552.1) (Nat.le_of_eq g555.symm)))).keep Kq587 (ninS (Nat.ne_of_lt (Nat.lt_of_lt_of_le lt165 (Nat.le_of_eq g552.symm))) nin0))
    have lt598 : b125 < T587.heap.size := (Nat.lt_of_lt_of_le lt165 (Nat.le_trans (Nat.le_trans (Nat.le_trans (Nat.le_trans (Nat.le_trans E552.1 E555.1) (Nat.le_of_eq W563.size.symm)) (Nat.le_of_eq W571.size.symm)) (Nat.le_of_eq W579.size.symm)) Kq587.1))
    have lt599 : b552 < T587.heap.size := (Nat.lt_of_lt_of_le A552.lt (Nat.le_trans (Nat.le_trans (Nat.le_trans (Nat.le_trans E555.1 (Nat.le_of_eq W563.size.symm)) (Nat.le_of_eq W571.size.symm)) (Nat.le_of_eq W579.size.symm)) Kq587.1))
    have ne600 : b125 ≠ b552 := (Nat.ne_of_lt (Nat.lt_of_lt_of_le lt165 (Nat.le_of_eq g552.symm)))
    have lt601 : dA < T587.heap.size := (Nat.lt_of_lt_of_le lt166 (Nat.le_trans (Nat.le_trans (Nat.le_trans (Nat.le_trans (Nat.le_trans E552.1 E555.1) (Nat.le_of_eq W563.size.symm)) (Nat.le_of_eq W571.size.symm)) (Nat.le_of_eq W579.size.symm)) Kq587.1))
    have lt602 : dB < T587.heap.size := (Nat.lt_of_lt_of_le lt167 (Nat.le_trans (Nat.le_trans (Nat.le_trans (Nat.le_trans (Nat.le_trans E552.1 E555.1) (Nat.le_of_eq W563.size.symm)) (Nat.le_of_eq W571.size.symm)) (Nat.le_of_eq W579.size.symm)) Kq587.1))
    have lt603 : dC < T587.heap.size := (Nat.lt_of_lt_of_le lt168 (Nat.le_trans (Nat.le_trans (Nat.le_trans (Nat.le_trans (Nat.le_trans E552.1 E555.1) (Nat.le_of_eq W563.size.symm)) (Nat.le_of_eq W571.size.symm)) (Nat.le_of_eq W579.size.symm)) Kq587.1))
    (try clear sf590); (try clear q4_587); (try clear q3_587); (try clear kt587); (try clear t587); (try clear q2_587); (try clear Kq587); (try clear Nq587); (try clear st587); (try clear z587); (try clear y587); (try clear l587)
    (try clear hQ587); (try clear Lc587); (try clear n587); (try clear k587); (try clear L587); (try clear _); (try clear hp586); (try clear f585); (try clear f584); (try clear f583); (try clear N579); (try clear hk579)
    (try clear C579); (try clear H579); (try clear sf582); (try clear sf581); (try clear sf580); (try clear O579); (try clear K579); (try clear V579); (try clear st579); (try clear W579); (try clear e579); (try clear X579)
    (try clear h579); (try clear T579); (try clear in579); (try clear Ag578); (try clear Ah578); (try clear An578); (try clear As578); (try clear Aq578); (try clear Ar578); (try clear cl578); (try clear at577); (try clear in577)
    (try clear Ag576); (try clear Ah576); (try clear An576); (try clear As576); (try clear Aq576); (try clear Ar576); (try clear cl576); (try clear f575); (try clear N571); (try clear hk571); (try clear C571); (try clear H571)
    (try clear sf574); (try clear sf573); (try clear sf572); (try clear O571); (try clear K571); (try clear V571); (try clear st571); (try clear W571); (try clear e571); (try clear X571); (try clear h571); (try clear T571)
    (try clear in571); (try clear Ag570); (try clear Ah570); (try clear An570); (try clear As570); (try clear Aq570); (try clear Ar570); (try clear cl570); (try clear at569); (try clear in569); (try clear Ag568); (try clear Ah568)
    (try clear An568); (try clear As568); (try clear Aq568); (try clear Ar568); (try clear cl568); (try clear f567); (try clear N563); (try clear hk563); (try clear C563); (try clear H563); (try clear sf566); (try clear sf565)
    (try clear sf564); (try clear O563); (try clear K563); (try clear q); (try clear V563); (try clear st563); (try clear W563); (try clear e563); (try clear X563); (try clear h563); (try clear T563); (try clear in563)
    (try clear Ag562); (try clear Ah562); (try clear An562); (try clear As562); (try clear Aq562); (try clear Ar562); (try clear cl562); (try clear at561); (try clear in561); (try clear Ag560); (try clear Ah560); (try clear An560)
    (try clear As560); (try clear Aq560); (try clear Ar560); (try clear cl560); (try clear f559); (try clear V555); (try clear hk555); (try clear C555); (try clear H555); (try clear sf558); (try clear sf557); (try clear sf556)
    (try clear O555); (try clear K555); (try clear sn555); (try clear ge555); (try clear sz555); (try clear g555); (try clear b555); (try clear st555); (try clear A555); (try clear E555); (try clear e555); (try clear X555)
    (try clear k555); (try clear h555); (try clear T555); (try clear F552_value); (try clear F552_coder); (try clear hk552); (try clear C552); (try clear H552); (try clear sf554); (try clear sf553); (try clear O552); (try clear K552)
    (try clear sn552); (try clear st552); (try clear D552); (try clear A552); (try clear E552); (try clear e552); (try clear X552); (try clear h552); (try clear T552); (try clear lt168); (try clear lt167); (try clear lt166)
    (try clear lt165); (try clear f164); (try clear f163); (try clear f162); (try clear f161); (try clear f160); (try clear f159); (try clear N157); (try clear hk157); (try clear C157); (try clear H157); (try clear sf158)
    (try clear O157); (try clear K157); (try clear V157); (try clear e157); (try clear X157); (try clear h157); (try clear T157)
    show Go p.tables e below Kx T587 (mkF m 433 #[.val (.int p0), .val (.int p1), .val (.long p2), .second, .val (.int zc), .val (.int mk), .val (.ref b125), .val (.int sel), .val (.int (3 : Int32)), .val (.ref b552), .unset, .unset, .unset] [])
    refine s_aload (pc' := 435) X587.here hx (hb hby at_433) rfl rfl rfl ?_
    obtain ⟨_, _, ⟨T604, L604, k604, n604⟩, -, X604, ⟨Lc604, hQ604, l604, y604, z604⟩, st604⟩ := Jvm.LawKit.callS X587 hx (y := (⟨"com/example/syndica/syndica/InterestBasis", "of", "(Ljava/lang/String;)Ljava/util/Optional;"⟩ : MethodName)) hown (mvT hZ (hw _ (List.mem_of_getElem? (i := 34) rfl))) (mvT hZ (hw _ (List.mem_of_getElem? (i := 35) rfl))) (mvT hZ (hw _ (List.mem_of_getElem? (i := 36) rfl))) (mvT hZ (hw _ (List.mem_of_getElem? (i := 37) rfl))) (by decide) (backOf (W := 0) (rmF l Z a0 hw [] va dA dB dC tA tB tC eo kv b552 _ [r127, r131, r135] T587.heap n0 O587 EN G1 S1 P1 St587) hZ (hw _ (List.mem_of_getElem? (i := 37) rfl)) (hw _ (List.mem_of_getElem? (i := 36) rfl)) (by decide) (by decide)) (g := (mkF m 435 #[.val (.int p0), .val (.int p1), .val (.long p2), .second, .val (.int zc), .val (.int mk), .val (.ref b125), .val (.int sel), .val (.int (3 : Int32)), .val (.ref b552), .unset, .unset, .unset] [(.ref b552)])) rfl (by rw [hml]; rfl) (argsL := [(.ref b552)]) (rest := []) (lenOf pd_9 rfl) rfl (by show 2 * 0 + _ ≤ _; exact Nat.le_of_eq rfl) (hb hby at_435) (fun _ _ => ⟨rfl, rfl, (by decide : 4 + 2 ≤ _), (by decide : 18 + 4 ≤ _)⟩)
    dsimp only [Pt.U, Pt.locs, Pt.cells, Pt.slots] at X604 l604 y604 z604 st604 hQ604
    rw [l604, y604, z604] at X604
    obtain ⟨o604, wv604, rfl, Nq604, Kq604, q1_604, q2_604, hw604⟩ := hQ604
    rcases hw604 with ⟨rfl, hs604⟩ | ⟨rfl, hs604⟩ | ⟨rfl, hs604⟩ | ⟨rfl, hA604, hB604, hC604⟩
    · skip
      have hz604_0 : r127 = (51 : Int32) := (List.cons.inj hs604).1.symm
      have hz604_1 : r131 = (54 : Int32) := (List.cons.inj (List.cons.inj hs604).2).1.symm
      have hz604_2 : r135 = (48 : Int32) := (List.cons.inj (List.cons.inj (List.cons.inj hs604).2).2).1.symm
      have N604 := Fr.app N587 Nq604
      have K604 : Keep h0 T604.heap [] := K587.trans Kq604 all0
      have O604 : Old Z n0 T604.heap := O587.keep Kq604 all0
      have sf605 : Safe Z consts_1 s.vm T604.heap b125 := (Safe.keep Kq604 sf0 H587 sf588)
      have sf606 : Safe Z consts_1 s.vm T604.heap b552 := (Safe.keep Kq604 sf0 H587 sf589)
      have H604 : CHv Z consts_1 s.vm T604.heap := H587.keep Kq604 sf0
      have C604 : CHr Z consts_1 s.vm h0 s.vm T604.heap := C587.trans (CHr.keep Kq604 sf0 H587)
      have hk604 := Nat.le_trans hk587 Kq604.1
      refine Go.st st604 ?_
      show Go p.tables e below Kx T604 (mkF m 438 #[.val (.int p0), .val (.int p1), .val (.long p2), .second, .val (.int zc), .val (.int mk), .val (.ref b125), .val (.int sel), .val (.int (3 : Int32)), .val (.ref b552), .unset, .unset, .unset] [(.ref o604)])
      refine s_astore (pc' := 440) (Ls' := #[.val (.int p0), .val (.int p1), .val (.long p2), .second, .val (.int zc), .val (.int mk), .val (.ref b125), .val (.int sel), .val (.int (3 : Int32)), .val (.ref b552), .val (.ref o604), .unset, .unset]) X604.here hx (hb hby at_438) rfl rfl rfl ?_
      refine s_aload (pc' := 442) X604.here hx (hb hby at_440) rfl rfl rfl ?_
      obtain ⟨cq607, kq607, q607a, q607b, q607c⟩ := isOf hZ rfl q1_604
      obtain ⟨_, _, ⟨T607, L607, k607, n607⟩, -, X607, ⟨Lc607, hQ607, l607, y607, z607⟩, st607⟩ := X604.virtualBack hx (y := (⟨"java/util/Optional", "isPresent", "()Z"⟩ : MethodName)) (z := (⟨"java/util/Optional", "isPresent", "()Z"⟩ : MethodName)) hown (mvT hZ (hw _ (List.mem_of_getElem? (i := 89) rfl))) (mvT hZ (hw _ (List.mem_of_getElem? (i := 90) rfl))) (notFace_of_selects (args := #[]) (mvT hZ (hw _ (List.mem_of_getElem? (i := 92) rfl)))) (mvT hZ (hw _ (List.mem_of_getElem? (i := 92) rfl))) (mvT hZ (hw _ (List.mem_of_getElem? (i := 91) rfl))) (by decide) (backOf (W := 0) (rmP1 l Z a0 hw [] o604 dA T604.heap n0 O604 q2_604) hZ (hw _ (List.mem_of_getElem? (i := 93) rfl)) (hw _ (List.mem_of_getElem? (i := 40) rfl)) (by decide) (by decide)) q607a q607c (g := (mkF m 442 #[.val (.int p0), .val (.int p1), .val (.long p2), .second, .val (.int zc), .val (.int mk), .val (.ref b125), .val (.int sel), .val (.int (3 : Int32)), .val (.ref b552), .val (.ref o604), .unset, .unset] [(.ref o604)])) rfl (by rw [hml]; rfl) (Steps.refl _) (argsL := []) (rest := []) (lenOf pd_10 rfl) rfl (by show 2 * 0 + _ ≤ _; exact Nat.le_of_eq rfl) (hb hby at_442) (fun _ _ => ⟨rfl, rfl, (by decide : 6 + 0 ≤ _), (by decide : 22 + 0 ≤ _)⟩)
      dsimp only [Pt.U, Pt.locs, Pt.cells, Pt.slots] at X607 l607 y607 z607 st607 hQ607
      rw [l607, y607, z607] at X607
      obtain ⟨rfl, Nq607, hE607⟩ := hQ607
      have N607 := Fr.app N604 Nq607
      refine Go.tr st607 ?_
      show Go p.tables e below Kx T607 (mkF m 445 #[.val (.int p0), .val (.int p1), .val (.long p2), .second, .val (.int zc), .val (.int mk), .val (.ref b125), .val (.int sel), .val (.int (3 : Int32)), .val (.ref b552), .val (.ref o604), .unset, .unset] [(.int (1 : Int32))])
      refine s_ifN (pc' := 448) X607.here hx (hb hby at_445) rfl ((if0 _ _).trans (feq (by decide)).1) ?_
      refine s_aload (pc' := 450) X607.here hx (hb hby at_448) rfl rfl rfl ?_
      obtain ⟨cq608, kq608, q608a, q608b, q608c⟩ := isOf hZ hE607 q1_604
      obtain ⟨_, _, ⟨T608, L608, k608, n608⟩, -, X608, ⟨Lc608, hQ608, l608, y608, z608⟩, st608⟩ := X607.virtualBack hx (y := (⟨"java/util/Optional", "get", "()Ljava/lang/Object;"⟩ : MethodName)) (z := (⟨"java/util/Optional", "get", "()Ljava/lang/Object;"⟩ : MethodName)) hown (mvT hZ (hw _ (List.mem_of_getElem? (i := 94) rfl))) (mvT hZ (hw _ (List.mem_of_getElem? (i := 95) rfl))) (notFace_of_selects (args := #[]) (mvT hZ (hw _ (List.mem_of_getElem? (i := 97) rfl)))) (mvT hZ (hw _ (List.mem_of_getElem? (i := 97) rfl))) (mvT hZ (hw _ (List.mem_of_getElem? (i := 96) rfl))) (by decide) (backOf (W := 0) (rmG l Z a0 hw [] o604 dA T604.heap n0 O604 q2_604) hZ (hw _ (List.mem_of_getElem? (i := 98) rfl)) (hw _ (List.mem_of_getElem? (i := 40) rfl)) (by decide) (by decide)) q608a q608c (g := (mkF m 450 #[.val (.int p0), .val (.int p1), .val (.long p2), .second, .val (.int zc), .val (.int mk), .val (.ref b125), .val (.int sel), .val (.int (3 : Int32)), .val (.ref b552), .val (.ref o604), .unset, .unset] [(.ref o604)])) rfl (by rw [hml]; rfl) (Steps.refl _) (argsL := []) (rest := []) (lenOf pd_11 rfl) rfl (by show 2 * 0 + _ ≤ _; exact Nat.le_of_eq rfl) (hb hby at_450) (fun _ _ => ⟨rfl, hE607, (by decide : 6 + 0 ≤ _), (by decide : 22 + 0 ≤ _)⟩)
      dsimp only [Pt.U, Pt.locs, Pt.cells, Pt.slots] at X608 l608 y608 z608 st608 hQ608
      rw [l608, y608, z608] at X608
      obtain ⟨rfl, Nq608, hE608⟩ := hQ608
      have N608 := Fr.app N607 Nq608
      refine Go.tr st608 ?_
      show Go p.tables e below Kx T608 (mkF m 453 #[.val (.int p0), .val (.int p1), .val (.long p2), .second, .val (.int zc), .val (.int mk), .val (.ref b125), .val (.int sel), .val (.int (3 : Int32)), .val (.ref b552), .val (.ref o604), .unset, .unset] [(.ref dA)])
      have f609 : Exa Z T604.heap dA "com/example/syndica/syndica/InterestBasis" := (f591.keep Kq604)
      obtain ⟨T610, X610, e610, st610⟩ := castY X608 hx hZ hown (hw _ (List.mem_of_getElem? (i := 99) rfl)) hE608 (Ins.self f609) (g := (mkF m 453 #[.val (.int p0), .val (.int p1), .val (.long p2), .second, .val (.int zc), .val (.int mk), .val (.ref b125), .val (.int sel), .val (.int (3 : Int32)), .val (.ref b552), .val (.ref o604), .unset, .unset] [(.ref dA)])) rfl rfl (hb hby at_453)
      refine Go.st st610 ?_
      show Go p.tables e below Kx T610 (mkF m 456 #[.val (.int p0), .val (.int p1), .val (.long p2), .second, .val (.int zc), .val (.int mk), .val (.ref b125), .val (.int sel), .val (.int (3 : Int32)), .val (.ref b552), .val (.ref o604), .unset, .unset] [(.ref dA)])
      refine s_goto (pc' := 460) X610.here hx (hb hby at_456) (by decide) (by decide) ?_
      refine s_astore (pc' := 462) (Ls' := #[.val (.int p0), .val (.int p1), .val (.long p2), .second, .val (.int zc), .val (.int mk), .val (.ref b125), .val (.int sel), .val (.int (3 : Int32)), .val (.ref b552), .val (.ref o604), .val (.ref dA), .unset]) X610.here hx (hb hby at_460) rfl rfl rfl ?_
      have f611 : Fld Z T604.heap dA "com/example/syndica/syndica/InterestBasis" "value" "Ljava/lang/String;" (.ref tA) := (f592.keep Kq604 nin0)
      have f612 : Exa Z T604.heap dB "com/example/syndica/syndica/InterestBasis" := (f593.keep Kq604)
      have f613 : Fld Z T604.heap dB "com/example/syndica/syndica/InterestBasis" "value" "Ljava/lang/String;" (.ref tB) := (f594.keep Kq604 nin0)
      have f614 : Exa Z T604.heap dC "com/example/syndica/syndica/InterestBasis" := (f595.keep Kq604)
      have f615 : Fld Z T604.heap dC "com/example/syndica/syndica/InterestBasis" "value" "Ljava/lang/String;" (.ref tC) := (f596.keep Kq604 nin0)
      have f616 : Arv Z T604.heap b125 k125 .char (8 : Int32) [(.int r127), (.int r131), (.int r135), (.int r139), (.int r143), (.int r147), (.int r151), (.int r155)] (.int (0 : Int32)) := (f597.keep Kq604 nin0)
      have lt617 : b125 < T604.heap.size := (Nat.lt_of_lt_of_le lt598 Kq604.1)
      have lt618 : dA < T604.heap.size := (Nat.lt_of_lt_of_le lt601 Kq604.1)
      have lt619 : dB < T604.heap.size := (Nat.lt_of_lt_of_le lt602 Kq604.1)
      have lt620 : dC < T604.heap.size := (Nat.lt_of_lt_of_le lt603 Kq604.1)
      (try clear st610); (try clear hE608); (try clear Nq608); (try clear st608); (try clear z608); (try clear y608); (try clear l608); (try clear hQ608); (try clear Lc608); (try clear X608); (try clear n608); (try clear k608)
      (try clear L608); (try clear T608); (try clear q608c); (try clear q608b); (try clear q608a); (try clear kq608); (try clear cq608); (try clear N607); (try clear hE607); (try clear Nq607); (try clear st607); (try clear z607)
      (try clear y607); (try clear l607); (try clear hQ607); (try clear Lc607); (try clear X607); (try clear n607); (try clear k607); (try clear L607); (try clear T607); (try clear q607c); (try clear q607b); (try clear q607a)
      (try clear kq607); (try clear cq607); (try clear sf606); (try clear N604); (try clear hw604); (try clear q2_604); (try clear q1_604); (try clear Kq604); (try clear Nq604); (try clear wv604); (try clear st604); (try clear z604)
      (try clear y604); (try clear l604); (try clear hQ604); (try clear Lc604); (try clear X604); (try clear n604); (try clear k604); (try clear L604); (try clear _); (try clear lt603); (try clear lt602); (try clear lt601)
      (try clear ne600); (try clear lt599); (try clear lt598); (try clear f597); (try clear f596); (try clear f595); (try clear f594); (try clear f593); (try clear f592); (try clear f591); (try clear St587); (try clear hk587)
      (try clear C587); (try clear H587); (try clear sf589); (try clear sf588); (try clear O587); (try clear K587); (try clear N587); (try clear q1_587); (try clear X587); (try clear T587); (try clear ge552); (try clear sz552)
      (try clear g552)
      show Go p.tables e below Kx T610 (mkF m 462 #[.val (.int p0), .val (.int p1), .val (.long p2), .second, .val (.int zc), .val (.int mk), .val (.ref b125), .val (.int sel), .val (.int (3 : Int32)), .val (.ref b552), .val (.ref o604), .val (.ref dA), .unset] [])
      refine s_aconst_null (pc' := 463) X610.here hx (hb hby at_462) rfl ?_
      refine s_astore (pc' := 465) (Ls' := #[.val (.int p0), .val (.int p1), .val (.long p2), .second, .val (.int zc), .val (.int mk), .val (.ref b125), .val (.int sel), .val (.int (3 : Int32)), .val (.ref b552), .val (.ref o604), .val (.ref dA), .val .null]) X610.here hx (hb hby at_463) rfl rfl rfl ?_
      refine s_iload (pc' := 467) X610.here hx (hb hby at_465) rfl rfl ?_
      refine s_iconst (pc' := 468) (v := (3 : Int32)) X610.here hx (hb hby at_467) rfl rfl ?_
      refine s_icmpN (pc' := 471) X610.here hx (hb hby at_468) rfl (teq (by decide)).2 ?_
      refine s_aload (pc' := 473) X610.here hx (hb hby at_471) rfl rfl rfl ?_
      refine s_iconst (pc' := 474) (v := (0 : Int32)) X610.here hx (hb hby at_473) rfl rfl ?_
      obtain ⟨cl621, Ar621, Aq621, As621, An621, Ah621, Ag621⟩ := id f616
      have in622 := inb_of (j := (0 : Int32)) As621 (by decide)
      have at622 : cl621.slots[((0 : Int32)).toNatClampNeg]? = some (.int r127) := Ah621.at in622 rfl
      refine Go.st (X610.caload hx (j := (0 : Int32)) (v := (.int r127)) (by rw [e610]; exact Ar621.1) (State.isArrayOf_alike hZ.alike Ar621.2.1) Ar621.2.2 in622 at622 (g := (mkF m 474 #[.val (.int p0), .val (.int p1), .val (.long p2), .second, .val (.int zc), .val (.int mk), .val (.ref b125), .val (.int sel), .val (.int (3 : Int32)), .val (.ref b552), .val (.ref o604), .val (.ref dA), .val .null] [(.int (0 : Int32)), (.ref b125)])) rfl rfl (hb hby at_474)) ?_
      show Go p.tables e below Kx T610 (mkF m 475 #[.val (.int p0), .val (.int p1), .val (.long p2), .second, .val (.int zc), .val (.int mk), .val (.ref b125), .val (.int sel), .val (.int (3 : Int32)), .val (.ref b552), .val (.ref o604), .val (.ref dA), .val .null] [(.int r127)])
      refine s_bipush (pc' := 477) (v := (51 : Int32)) X610.here hx (hb hby at_475) rfl rfl ?_
      refine s_icmpN (pc' := 480) X610.here hx (hb hby at_477) rfl (teq hz604_0).2 ?_
      refine s_aload (pc' := 482) X610.here hx (hb hby at_480) rfl rfl rfl ?_
      refine s_iconst (pc' := 483) (v := (1 : Int32)) X610.here hx (hb hby at_482) rfl rfl ?_
      obtain ⟨cl623, Ar623, Aq623, As623, An623, Ah623, Ag623⟩ := id f616
      have in624 := inb_of (j := (1 : Int32)) As623 (by decide)
      have at624 : cl623.slots[((1 : Int32)).toNatClampNeg]? = some (.int r131) := Ah623.at in624 rfl
      refine Go.st (X610.caload hx (j := (1 : Int32)) (v := (.int r131)) (by rw [e610]; exact Ar623.1) (State.isArrayOf_alike hZ.alike Ar623.2.1) Ar623.2.2 in624 at624 (g := (mkF m 483 #[.val (.int p0), .val (.int p1), .val (.long p2), .second, .val (.int zc), .val (.int mk), .val (.ref b125), .val (.int sel), .val (.int (3 : Int32)), .val (.ref b552), .val (.ref o604), .val (.ref dA), .val .null] [(.int (1 : Int32)), (.ref b125)])) rfl rfl (hb hby at_483)) ?_
      show Go p.tables e below Kx T610 (mkF m 484 #[.val (.int p0), .val (.int p1), .val (.long p2), .second, .val (.int zc), .val (.int mk), .val (.ref b125), .val (.int sel), .val (.int (3 : Int32)), .val (.ref b552), .val (.ref o604), .val (.ref dA), .val .null] [(.int r131)])
      refine s_bipush (pc' := 486) (v := (54 : Int32)) X610.here hx (hb hby at_484) rfl rfl ?_
      refine s_icmpN (pc' := 489) X610.here hx (hb hby at_486) rfl (teq hz604_1).2 ?_
      refine s_aload (pc' := 491) X610.here hx (hb hby at_489) rfl rfl rfl ?_
      refine s_iconst (pc' := 492) (v := (2 : Int32)) X610.here hx (hb hby at_491) rfl rfl ?_
      obtain ⟨cl625, Ar625, Aq625, As625, An625, Ah625, Ag625⟩ := id f616
      have in626 := inb_of (j := (2 : Int32)) As625 (by decide)
      have at626 : cl625.slots[((2 : Int32)).toNatClampNeg]? = some (.int r135) := Ah625.at in626 rfl
      refine Go.st (X610.caload hx (j := (2 : Int32)) (v := (.int r135)) (by rw [e610]; exact Ar625.1) (State.isArrayOf_alike hZ.alike Ar625.2.1) Ar625.2.2 in626 at626 (g := (mkF m 492 #[.val (.int p0), .val (.int p1), .val (.long p2), .second, .val (.int zc), .val (.int mk), .val (.ref b125), .val (.int sel), .val (.int (3 : Int32)), .val (.ref b552), .val (.ref o604), .val (.ref dA), .val .null] [(.int (2 : Int32)), (.ref b125)])) rfl rfl (hb hby at_492)) ?_
      show Go p.tables e below Kx T610 (mkF m 493 #[.val (.int p0), .val (.int p1), .val (.long p2), .second, .val (.int zc), .val (.int mk), .val (.ref b125), .val (.int sel), .val (.int (3 : Int32)), .val (.ref b552), .val (.ref o604), .val (.ref dA), .val .null] [(.int r135)])
      refine s_bipush (pc' := 495) (v := (48 : Int32)) X610.here hx (hb hby at_493) rfl rfl ?_
      refine s_icmpN (pc' := 498) X610.here hx (hb hby at_495) rfl (teq hz604_2).2 ?_
      obtain ⟨T627, X627, e627, st627⟩ := getS2 X610 hx hZ hown (host := "") (Or.inl (hw _ (List.mem_of_getElem? (i := 101) rfl))) Via.refl e610 (SdA.ext O604.2) (g := (mkF m 498 #[.val (.int p0), .val (.int p1), .val (.long p2), .second, .val (.int zc), .val (.int mk), .val (.ref b125), .val (.int sel), .val (.int (3 : Int32)), .val (.ref b552), .val (.ref o604), .val (.ref dA), .val .null] [])) rfl (hb hby at_498)
      refine Go.st st627 ?_
      show Go p.tables e below Kx T627 (mkF m 501 #[.val (.int p0), .val (.int p1), .val (.long p2), .second, .val (.int zc), .val (.int mk), .val (.ref b125), .val (.int sel), .val (.int (3 : Int32)), .val (.ref b552), .val (.ref o604), .val (.ref dA), .val .null] [(.ref dA)])
      refine s_astore (pc' := 503) (Ls' := #[.val (.int p0), .val (.int p1), .val (.long p2), .second, .val (.int zc), .val (.int mk), .val (.ref b125), .val (.int sel), .val (.int (3 : Int32)), .val (.ref b552), .val (.ref o604), .val (.ref dA), .val (.ref dA)]) X627.here hx (hb hby at_501) rfl rfl rfl ?_
      refine s_goto (pc' := 520) X627.here hx (hb hby at_503) (by decide) (by decide) ?_
      refine s_iload (pc' := 522) X627.here hx (hb hby at_520) rfl rfl ?_
      refine s_bipush (pc' := 524) (v := (7 : Int32)) X627.here hx (hb hby at_522) rfl rfl ?_
      refine s_icmpY (pc' := 596) X627.here hx (hb hby at_524) (feq (by decide)).2 (by decide) (by decide) ?_
      refine s_aload (pc' := 598) X627.here hx (hb hby at_596) rfl rfl rfl ?_
      refine s_aload (pc' := 600) X627.here hx (hb hby at_598) rfl rfl rfl ?_
      refine Go.st (fun _ r => Jvm.RoadKit.acmp (g := (mkF m 600 #[.val (.int p0), .val (.int p1), .val (.long p2), .second, .val (.int zc), .val (.int mk), .val (.ref b125), .val (.int sel), .val (.int (3 : Int32)), .val (.ref b552), .val (.ref o604), .val (.ref dA), .val (.ref dA)] [(.ref dA), (.ref dA)])) X627 hx rfl rfl rfl (pc0 := 600) (pc' := 603) (same := true) rfl (hb hby at_600) rfl (decide_eq_true rfl) (by decide) (by decide) r) ?_
      show Go p.tables e below Kx T627 (mkF m 603 #[.val (.int p0), .val (.int p1), .val (.long p2), .second, .val (.int zc), .val (.int mk), .val (.ref b125), .val (.int sel), .val (.int (3 : Int32)), .val (.ref b552), .val (.ref o604), .val (.ref dA), .val (.ref dA)] [])
      refine s_iconst (pc' := 604) (v := (1 : Int32)) X627.here hx (hb hby at_603) rfl rfl ?_
      refine s_goto (pc' := 608) X627.here hx (hb hby at_604) (by decide) (by decide) ?_
      obtain ⟨fs, hr, hrun, hended, hRW⟩ := X627.leaveW hS0 (by rw [e627]; exact hk604) (v := (some (.int (1 : Int32)))) (fun h => by rw [Bd.returns] at h; cases h)
      have hCx := C604.trans (CHv.at X627 hZ hEL H604)
      refine Go.fin (retN X627 hx (t := .boolean) Bd.returns (by simp) (hb hby at_608) hr) (hF _ _ hrun hended ⟨_, _, rfl, ?_, ?_, hRW.1, hRW.2.1, hRW.2.2.1, hRW.2.2.2.mono (by decide) (by decide)⟩)
      · show QL Z p0 p1 p2 va dA dB dC tA tB tC eo kv h0 n0 ((some (.int (1 : Int32))) : Option Value) T627.heap _
        rw [e627]
        exact ⟨rfl, N608⟩
      · show CHr Z consts_1 s.vm s.heap T627.vm T627.heap
        rw [e627, hh]; exact hCx
    · skip
      have hz604_0 : r127 = (51 : Int32) := (List.cons.inj hs604).1.symm
      have hz604_1 : r131 = (54 : Int32) := (List.cons.inj (List.cons.inj hs604).2).1.symm
      have hz604_2 : r135 = (53 : Int32) := (List.cons.inj (List.cons.inj (List.cons.inj hs604).2).2).1.symm
      have N604 := Fr.app N587 Nq604
      have K604 : Keep h0 T604.heap [] := K587.trans Kq604 all0
      have O604 : Old Z n0 T604.heap := O587.keep Kq604 all0
      have sf628 : Safe Z consts_1 s.vm T604.heap b125 := (Safe.keep Kq604 sf0 H587 sf588)
      have sf629 : Safe Z consts_1 s.vm T604.heap b552 := (Safe.keep Kq604 sf0 H587 sf589)
      have H604 : CHv Z consts_1 s.vm T604.heap := H587.keep Kq604 sf0
      have C604 : CHr Z consts_1 s.vm h0 s.vm T604.heap := C587.trans (CHr.keep Kq604 sf0 H587)
      have hk604 := Nat.le_trans hk587 Kq604.1
      refine Go.st st604 ?_
      show Go p.tables e below Kx T604 (mkF m 438 #[.val (.int p0), .val (.int p1), .val (.long p2), .second, .val (.int zc), .val (.int mk), .val (.ref b125), .val (.int sel), .val (.int (3 : Int32)), .val (.ref b552), .unset, .unset, .unset] [(.ref o604)])
      refine s_astore (pc' := 440) (Ls' := #[.val (.int p0), .val (.int p1), .val (.long p2), .second, .val (.int zc), .val (.int mk), .val (.ref b125), .val (.int sel), .val (.int (3 : Int32)), .val (.ref b552), .val (.ref o604), .unset, .unset]) X604.here hx (hb hby at_438) rfl rfl rfl ?_
      refine s_aload (pc' := 442) X604.here hx (hb hby at_440) rfl rfl rfl ?_
      obtain ⟨cq630, kq630, q630a, q630b, q630c⟩ := isOf hZ rfl q1_604
      obtain ⟨_, _, ⟨T630, L630, k630, n630⟩, -, X630, ⟨Lc630, hQ630, l630, y630, z630⟩, st630⟩ := X604.virtualBack hx (y := (⟨"java/util/Optional", "isPresent", "()Z"⟩ : MethodName)) (z := (⟨"java/util/Optional", "isPresent", "()Z"⟩ : MethodName)) hown (mvT hZ (hw _ (List.mem_of_getElem? (i := 89) rfl))) (mvT hZ (hw _ (List.mem_of_getElem? (i := 90) rfl))) (notFace_of_selects (args := #[]) (mvT hZ (hw _ (List.mem_of_getElem? (i := 92) rfl)))) (mvT hZ (hw _ (List.mem_of_getElem? (i := 92) rfl))) (mvT hZ (hw _ (List.mem_of_getElem? (i := 91) rfl))) (by decide) (backOf (W := 0) (rmP1 l Z a0 hw [] o604 dB T604.heap n0 O604 q2_604) hZ (hw _ (List.mem_of_getElem? (i := 93) rfl)) (hw _ (List.mem_of_getElem? (i := 40) rfl)) (by decide) (by decide)) q630a q630c (g := (mkF m 442 #[.val (.int p0), .val (.int p1), .val (.long p2), .second, .val (.int zc), .val (.int mk), .val (.ref b125), .val (.int sel), .val (.int (3 : Int32)), .val (.ref b552), .val (.ref o604), .unset, .unset] [(.ref o604)])) rfl (by rw [hml]; rfl) (Steps.refl _) (argsL := []) (rest := []) (lenOf pd_10 rfl) rfl (by show 2 * 0 + _ ≤ _; exact Nat.le_of_eq rfl) (hb hby at_442) (fun _ _ => ⟨rfl, rfl, (by decide : 6 + 0 ≤ _), (by decide : 22 + 0 ≤ _)⟩)
      dsimp only [Pt.U, Pt.locs, Pt.cells, Pt.slots] at X630 l630 y630 z630 st630 hQ630
      rw [l630, y630, z630] at X630
      obtain ⟨rfl, Nq630, hE630⟩ := hQ630
      have N630 := Fr.app N604 Nq630
      refine Go.tr st630 ?_
      show Go p.tables e below Kx T630 (mkF m 445 #[.val (.int p0), .val (.int p1), .val (.long p2), .second, .val (.int zc), .val (.int mk), .val (.ref b125), .val (.int sel), .val (.int (3 : Int32)), .val (.ref b552), .val (.ref o604), .unset, .unset] [(.int (1 : Int32))])
      refine s_ifN (pc' := 448) X630.here hx (hb hby at_445) rfl ((if0 _ _).trans (feq (by decide)).1) ?_
      refine s_aload (pc' := 450) X630.here hx (hb hby at_448) rfl rfl rfl ?_
      obtain ⟨cq631, kq631, q631a, q631b, q631c⟩ := isOf hZ hE630 q1_604
      obtain ⟨_, _, ⟨T631, L631, k631, n631⟩, -, X631, ⟨Lc631, hQ631, l631, y631, z631⟩, st631⟩ := X630.virtualBack hx (y := (⟨"java/util/Optional", "get", "()Ljava/lang/Object;"⟩ : MethodName)) (z := (⟨"java/util/Optional", "get", "()Ljava/lang/Object;"⟩ : MethodName)) hown (mvT hZ (hw _ (List.mem_of_getElem? (i := 94) rfl))) (mvT hZ (hw _ (List.mem_of_getElem? (i := 95) rfl))) (notFace_of_selects (args := #[]) (mvT hZ (hw _ (List.mem_of_getElem? (i := 97) rfl)))) (mvT hZ (hw _ (List.mem_of_getElem? (i := 97) rfl))) (mvT hZ (hw _ (List.mem_of_getElem? (i := 96) rfl))) (by decide) (backOf (W := 0) (rmG l Z a0 hw [] o604 dB T604.heap n0 O604 q2_604) hZ (hw _ (List.mem_of_getElem? (i := 98) rfl)) (hw _ (List.mem_of_getElem? (i := 40) rfl)) (by decide) (by decide)) q631a q631c (g := (mkF m 450 #[.val (.int p0), .val (.int p1), .val (.long p2), .second, .val (.int zc), .val (.int mk), .val (.ref b125), .val (.int sel), .val (.int (3 : Int32)), .val (.ref b552), .val (.ref o604), .unset, .unset] [(.ref o604)])) rfl (by rw [hml]; rfl) (Steps.refl _) (argsL := []) (rest := []) (lenOf pd_11 rfl) rfl (by show 2 * 0 + _ ≤ _; exact Nat.le_of_eq rfl) (hb hby at_450) (fun _ _ => ⟨rfl, hE630, (by decide : 6 + 0 ≤ _), (by decide : 22 + 0 ≤ _)⟩)
      dsimp only [Pt.U, Pt.locs, Pt.cells, Pt.slots] at X631 l631 y631 z631 st631 hQ631
      rw [l631, y631, z631] at X631
      obtain ⟨rfl, Nq631, hE631⟩ := hQ631
      have N631 := Fr.app N630 Nq631
      refine Go.tr st631 ?_
      show Go p.tables e below Kx T631 (mkF m 453 #[.val (.int p0), .val (.int p1), .val (.long p2), .second, .val (.int zc), .val (.int mk), .val (.ref b125), .val (.int sel), .val (.int (3 : Int32)), .val (.ref b552), .val (.ref o604), .unset, .unset] [(.ref dB)])
      have f632 : Exa Z T604.heap dB "com/example/syndica/syndica/InterestBasis" := (f593.keep Kq604)
      obtain ⟨T633, X633, e633, st633⟩ := castY X631 hx hZ hown (hw _ (List.mem_of_getElem? (i := 99) rfl)) hE631 (Ins.self f632) (g := (mkF m 453 #[.val (.int p0), .val (.int p1), .val (.long p2), .second, .val (.int zc), .val (.int mk), .val (.ref b125), .val (.int sel), .val (.int (3 : Int32)), .val (.ref b552), .val (.ref o604), .unset, .unset] [(.ref dB)])) rfl rfl (hb hby at_453)
      refine Go.st st633 ?_
      show Go p.tables e below Kx T633 (mkF m 456 #[.val (.int p0), .val (.int p1), .val (.long p2), .second, .val (.int zc), .val (.int mk), .val (.ref b125), .val (.int sel), .val (.int (3 : Int32)), .val (.ref b552), .val (.ref o604), .unset, .unset] [(.ref dB)])
      refine s_goto (pc' := 460) X633.here hx (hb hby at_456) (by decide) (by decide) ?_
      refine s_astore (pc' := 462) (Ls' := #[.val (.int p0), .val (.int p1), .val (.long p2), .second, .val (.int zc), .val (.int mk), .val (.ref b125), .val (.int sel), .val (.int (3 : Int32)), .val (.ref b552), .val (.ref o604), .val (.ref dB), .unset]) X633.here hx (hb hby at_460) rfl rfl rfl ?_
      have f634 : Exa Z T604.heap dA "com/example/syndica/syndica/InterestBasis" := (f591.keep Kq604)
      have f635 : Fld Z T604.heap dA "com/example/syndica/syndica/InterestBasis" "value" "Ljava/lang/String;" (.ref tA) := (f592.keep Kq604 nin0)
      have f636 : Fld Z T604.heap dB "com/example/syndica/syndica/InterestBasis" "value" "Ljava/lang/String;" (.ref tB) := (f594.keep Kq604 nin0)
      have f637 : Exa Z T604.heap dC "com/example/syndica/syndica/InterestBasis" := (f595.keep Kq604)
      have f638 : Fld Z T604.heap dC "com/example/syndica/syndica/InterestBasis" "value" "Ljava/lang/String;" (.ref tC) := (f596.keep Kq604 nin0)
      have f639 : Arv Z T604.heap b125 k125 .char (8 : Int32) [(.int r127), (.int r131), (.int r135), (.int r139), (.int r143), (.int r147), (.int r151), (.int r155)] (.int (0 : Int32)) := (f597.keep Kq604 nin0)
      have lt640 : b125 < T604.heap.size := (Nat.lt_of_lt_of_le lt598 Kq604.1)
      have lt641 : dA < T604.heap.size := (Nat.lt_of_lt_of_le lt601 Kq604.1)
      have lt642 : dB < T604.heap.size := (Nat.lt_of_lt_of_le lt602 Kq604.1)
      have lt643 : dC < T604.heap.size := (Nat.lt_of_lt_of_le lt603 Kq604.1)
      (try clear st633); (try clear hE631); (try clear Nq631); (try clear st631); (try clear z631); (try clear y631); (try clear l631); (try clear hQ631); (try clear Lc631); (try clear X631); (try clear n631); (try clear k631)
      (try clear L631); (try clear T631); (try clear q631c); (try clear q631b); (try clear q631a); (try clear kq631); (try clear cq631); (try clear N630); (try clear hE630); (try clear Nq630); (try clear st630); (try clear z630)
      (try clear y630); (try clear l630); (try clear hQ630); (try clear Lc630); (try clear X630); (try clear n630); (try clear k630); (try clear L630); (try clear T630); (try clear q630c); (try clear q630b); (try clear q630a)
      (try clear kq630); (try clear cq630); (try clear sf629); (try clear N604); (try clear hw604); (try clear q2_604); (try clear q1_604); (try clear Kq604); (try clear Nq604); (try clear wv604); (try clear st604); (try clear z604)
      (try clear y604); (try clear l604); (try clear hQ604); (try clear Lc604); (try clear X604); (try clear n604); (try clear k604); (try clear L604); (try clear _); (try clear lt603); (try clear lt602); (try clear lt601)
      (try clear ne600); (try clear lt599); (try clear lt598); (try clear f597); (try clear f596); (try clear f595); (try clear f594); (try clear f593); (try clear f592); (try clear f591); (try clear St587); (try clear hk587)
      (try clear C587); (try clear H587); (try clear sf589); (try clear sf588); (try clear O587); (try clear K587); (try clear N587); (try clear q1_587); (try clear X587); (try clear T587); (try clear ge552); (try clear sz552)
      (try clear g552)
      show Go p.tables e below Kx T633 (mkF m 462 #[.val (.int p0), .val (.int p1), .val (.long p2), .second, .val (.int zc), .val (.int mk), .val (.ref b125), .val (.int sel), .val (.int (3 : Int32)), .val (.ref b552), .val (.ref o604), .val (.ref dB), .unset] [])
      refine s_aconst_null (pc' := 463) X633.here hx (hb hby at_462) rfl ?_
      refine s_astore (pc' := 465) (Ls' := #[.val (.int p0), .val (.int p1), .val (.long p2), .second, .val (.int zc), .val (.int mk), .val (.ref b125), .val (.int sel), .val (.int (3 : Int32)), .val (.ref b552), .val (.ref o604), .val (.ref dB), .val .null]) X633.here hx (hb hby at_463) rfl rfl rfl ?_
      refine s_iload (pc' := 467) X633.here hx (hb hby at_465) rfl rfl ?_
      refine s_iconst (pc' := 468) (v := (3 : Int32)) X633.here hx (hb hby at_467) rfl rfl ?_
      refine s_icmpN (pc' := 471) X633.here hx (hb hby at_468) rfl (teq (by decide)).2 ?_
      refine s_aload (pc' := 473) X633.here hx (hb hby at_471) rfl rfl rfl ?_
      refine s_iconst (pc' := 474) (v := (0 : Int32)) X633.here hx (hb hby at_473) rfl rfl ?_
      obtain ⟨cl644, Ar644, Aq644, As644, An644, Ah644, Ag644⟩ := id f639
      have in645 := inb_of (j := (0 : Int32)) As644 (by decide)
      have at645 : cl644.slots[((0 : Int32)).toNatClampNeg]? = some (.int r127) := Ah644.at in645 rfl
      refine Go.st (X633.caload hx (j := (0 : Int32)) (v := (.int r127)) (by rw [e633]; exact Ar644.1) (State.isArrayOf_alike hZ.alike Ar644.2.1) Ar644.2.2 in645 at645 (g := (mkF m 474 #[.val (.int p0), .val (.int p1), .val (.long p2), .second, .val (.int zc), .val (.int mk), .val (.ref b125), .val (.int sel), .val (.int (3 : Int32)), .val (.ref b552), .val (.ref o604), .val (.ref dB), .val .null] [(.int (0 : Int32)), (.ref b125)])) rfl rfl (hb hby at_474)) ?_
      show Go p.tables e below Kx T633 (mkF m 475 #[.val (.int p0), .val (.int p1), .val (.long p2), .second, .val (.int zc), .val (.int mk), .val (.ref b125), .val (.int sel), .val (.int (3 : Int32)), .val (.ref b552), .val (.ref o604), .val (.ref dB), .val .null] [(.int r127)])
      refine s_bipush (pc' := 477) (v := (51 : Int32)) X633.here hx (hb hby at_475) rfl rfl ?_
      refine s_icmpN (pc' := 480) X633.here hx (hb hby at_477) rfl (teq hz604_0).2 ?_
      refine s_aload (pc' := 482) X633.here hx (hb hby at_480) rfl rfl rfl ?_
      refine s_iconst (pc' := 483) (v := (1 : Int32)) X633.here hx (hb hby at_482) rfl rfl ?_
      obtain ⟨cl646, Ar646, Aq646, As646, An646, Ah646, Ag646⟩ := id f639
      have in647 := inb_of (j := (1 : Int32)) As646 (by decide)
      have at647 : cl646.slots[((1 : Int32)).toNatClampNeg]? = some (.int r131) := Ah646.at in647 rfl
      refine Go.st (X633.caload hx (j := (1 : Int32)) (v := (.int r131)) (by rw [e633]; exact Ar646.1) (State.isArrayOf_alike hZ.alike Ar646.2.1) Ar646.2.2 in647 at647 (g := (mkF m 483 #[.val (.int p0), .val (.int p1), .val (.long p2), .second, .val (.int zc), .val (.int mk), .val (.ref b125), .val (.int sel), .val (.int (3 : Int32)), .val (.ref b552), .val (.ref o604), .val (.ref dB), .val .null] [(.int (1 : Int32)), (.ref b125)])) rfl rfl (hb hby at_483)) ?_
      show Go p.tables e below Kx T633 (mkF m 484 #[.val (.int p0), .val (.int p1), .val (.long p2), .second, .val (.int zc), .val (.int mk), .val (.ref b125), .val (.int sel), .val (.int (3 : Int32)), .val (.ref b552), .val (.ref o604), .val (.ref dB), .val .null] [(.int r131)])
      refine s_bipush (pc' := 486) (v := (54 : Int32)) X633.here hx (hb hby at_484) rfl rfl ?_
      refine s_icmpN (pc' := 489) X633.here hx (hb hby at_486) rfl (teq hz604_1).2 ?_
      refine s_aload (pc' := 491) X633.here hx (hb hby at_489) rfl rfl rfl ?_
      refine s_iconst (pc' := 492) (v := (2 : Int32)) X633.here hx (hb hby at_491) rfl rfl ?_
      obtain ⟨cl648, Ar648, Aq648, As648, An648, Ah648, Ag648⟩ := id f639
      have in649 := inb_of (j := (2 : Int32)) As648 (by decide)
      have at649 : cl648.slots[((2 : Int32)).toNatClampNeg]? = some (.int r135) := Ah648.at in649 rfl
      refine Go.st (X633.caload hx (j := (2 : Int32)) (v := (.int r135)) (by rw [e633]; exact Ar648.1) (State.isArrayOf_alike hZ.alike Ar648.2.1) Ar648.2.2 in649 at649 (g := (mkF m 492 #[.val (.int p0), .val (.int p1), .val (.long p2), .second, .val (.int zc), .val (.int mk), .val (.ref b125), .val (.int sel), .val (.int (3 : Int32)), .val (.ref b552), .val (.ref o604), .val (.ref dB), .val .null] [(.int (2 : Int32)), (.ref b125)])) rfl rfl (hb hby at_492)) ?_
      show Go p.tables e below Kx T633 (mkF m 493 #[.val (.int p0), .val (.int p1), .val (.long p2), .second, .val (.int zc), .val (.int mk), .val (.ref b125), .val (.int sel), .val (.int (3 : Int32)), .val (.ref b552), .val (.ref o604), .val (.ref dB), .val .null] [(.int r135)])
      refine s_bipush (pc' := 495) (v := (48 : Int32)) X633.here hx (hb hby at_493) rfl rfl ?_
      refine s_icmpY (pc' := 506) X633.here hx (hb hby at_495) (feq (fun z => absurd (z.symm.trans hz604_2) (by decide))).2 (by decide) (by decide) ?_
      refine s_aload (pc' := 508) X633.here hx (hb hby at_506) rfl rfl rfl ?_
      refine s_iconst (pc' := 509) (v := (2 : Int32)) X633.here hx (hb hby at_508) rfl rfl ?_
      obtain ⟨cl650, Ar650, Aq650, As650, An650, Ah650, Ag650⟩ := id f639
      have in651 := inb_of (j := (2 : Int32)) As650 (by decide)
      have at651 : cl650.slots[((2 : Int32)).toNatClampNeg]? = some (.int r135) := Ah650.at in651 rfl
      refine Go.st (X633.caload hx (j := (2 : Int32)) (v := (.int r135)) (by rw [e633]; exact Ar650.1) (State.isArrayOf_alike hZ.alike Ar650.2.1) Ar650.2.2 in651 at651 (g := (mkF m 509 #[.val (.int p0), .val (.int p1), .val (.long p2), .second, .val (.int zc), .val (.int mk), .val (.ref b125), .val (.int sel), .val (.int (3 : Int32)), .val (.ref b552), .val (.ref o604), .val (.ref dB), .val .null] [(.int (2 : Int32)), (.ref b125)])) rfl rfl (hb hby at_509)) ?_
      show Go p.tables e below Kx T633 (mkF m 510 #[.val (.int p0), .val (.int p1), .val (.long p2), .second, .val (.int zc), .val (.int mk), .val (.ref b125), .val (.int sel), .val (.int (3 : Int32)), .val (.ref b552), .val (.ref o604), .val (.ref dB), .val .null] [(.int r135)])
      refine s_bipush (pc' := 512) (v := (53 : Int32)) X633.here hx (hb hby at_510) rfl rfl ?_
      refine s_icmpN (pc' := 515) X633.here hx (hb hby at_512) rfl (teq hz604_2).2 ?_
      obtain ⟨T652, X652, e652, st652⟩ := getS2 X633 hx hZ hown (host := "") (Or.inl (hw _ (List.mem_of_getElem? (i := 107) rfl))) Via.refl e633 (SdB.ext O604.2) (g := (mkF m 515 #[.val (.int p0), .val (.int p1), .val (.long p2), .second, .val (.int zc), .val (.int mk), .val (.ref b125), .val (.int sel), .val (.int (3 : Int32)), .val (.ref b552), .val (.ref o604), .val (.ref dB), .val .null] [])) rfl (hb hby at_515)
      refine Go.st st652 ?_
      show Go p.tables e below Kx T652 (mkF m 518 #[.val (.int p0), .val (.int p1), .val (.long p2), .second, .val (.int zc), .val (.int mk), .val (.ref b125), .val (.int sel), .val (.int (3 : Int32)), .val (.ref b552), .val (.ref o604), .val (.ref dB), .val .null] [(.ref dB)])
      refine s_astore (pc' := 520) (Ls' := #[.val (.int p0), .val (.int p1), .val (.long p2), .second, .val (.int zc), .val (.int mk), .val (.ref b125), .val (.int sel), .val (.int (3 : Int32)), .val (.ref b552), .val (.ref o604), .val (.ref dB), .val (.ref dB)]) X652.here hx (hb hby at_518) rfl rfl rfl ?_
      refine s_iload (pc' := 522) X652.here hx (hb hby at_520) rfl rfl ?_
      refine s_bipush (pc' := 524) (v := (7 : Int32)) X652.here hx (hb hby at_522) rfl rfl ?_
      refine s_icmpY (pc' := 596) X652.here hx (hb hby at_524) (feq (by decide)).2 (by decide) (by decide) ?_
      refine s_aload (pc' := 598) X652.here hx (hb hby at_596) rfl rfl rfl ?_
      refine s_aload (pc' := 600) X652.here hx (hb hby at_598) rfl rfl rfl ?_
      refine Go.st (fun _ r => Jvm.RoadKit.acmp (g := (mkF m 600 #[.val (.int p0), .val (.int p1), .val (.long p2), .second, .val (.int zc), .val (.int mk), .val (.ref b125), .val (.int sel), .val (.int (3 : Int32)), .val (.ref b552), .val (.ref o604), .val (.ref dB), .val (.ref dB)] [(.ref dB), (.ref dB)])) X652 hx rfl rfl rfl (pc0 := 600) (pc' := 603) (same := true) rfl (hb hby at_600) rfl (decide_eq_true rfl) (by decide) (by decide) r) ?_
      show Go p.tables e below Kx T652 (mkF m 603 #[.val (.int p0), .val (.int p1), .val (.long p2), .second, .val (.int zc), .val (.int mk), .val (.ref b125), .val (.int sel), .val (.int (3 : Int32)), .val (.ref b552), .val (.ref o604), .val (.ref dB), .val (.ref dB)] [])
      refine s_iconst (pc' := 604) (v := (1 : Int32)) X652.here hx (hb hby at_603) rfl rfl ?_
      refine s_goto (pc' := 608) X652.here hx (hb hby at_604) (by decide) (by decide) ?_
      obtain ⟨fs, hr, hrun, hended, hRW⟩ := X652.leaveW hS0 (by rw [e652]; exact hk604) (v := (some (.int (1 : Int32)))) (fun h => by rw [Bd.returns] at h; cases h)
      have hCx := C604.trans (CHv.at X652 hZ hEL H604)
      refine Go.fin (retN X652 hx (t := .boolean) Bd.returns (by simp) (hb hby at_608) hr) (hF _ _ hrun hended ⟨_, _, rfl, ?_, ?_, hRW.1, hRW.2.1, hRW.2.2.1, hRW.2.2.2.mono (by decide) (by decide)⟩)
      · show QL Z p0 p1 p2 va dA dB dC tA tB tC eo kv h0 n0 ((some (.int (1 : Int32))) : Option Value) T652.heap _
        rw [e652]
        exact ⟨rfl, N631⟩
      · show CHr Z consts_1 s.vm s.heap T652.vm T652.heap
        rw [e652, hh]; exact hCx
    · skip
      exact absurd (congrArg List.length hs604) (show ¬ (7 = 3) by decide)
    · skip
      have N604 := Fr.app N587 Nq604
      have K604 : Keep h0 T604.heap [] := K587.trans Kq604 all0
      have O604 : Old Z n0 T604.heap := O587.keep Kq604 all0
      have sf653 : Safe Z consts_1 s.vm T604.heap b125 := (Safe.keep Kq604 sf0 H587 sf588)
      have sf654 : Safe Z consts_1 s.vm T604.heap b552 := (Safe.keep Kq604 sf0 H587 sf589)
      have H604 : CHv Z consts_1 s.vm T604.heap := H587.keep Kq604 sf0
      have C604 : CHr Z consts_1 s.vm h0 s.vm T604.heap := C587.trans (CHr.keep Kq604 sf0 H587)
      have hk604 := Nat.le_trans hk587 Kq604.1
      refine Go.st st604 ?_
      show Go p.tables e below Kx T604 (mkF m 438 #[.val (.int p0), .val (.int p1), .val (.long p2), .second, .val (.int zc), .val (.int mk), .val (.ref b125), .val (.int sel), .val (.int (3 : Int32)), .val (.ref b552), .unset, .unset, .unset] [(.ref o604)])
      refine s_astore (pc' := 440) (Ls' := #[.val (.int p0), .val (.int p1), .val (.long p2), .second, .val (.int zc), .val (.int mk), .val (.ref b125), .val (.int sel), .val (.int (3 : Int32)), .val (.ref b552), .val (.ref o604), .unset, .unset]) X604.here hx (hb hby at_438) rfl rfl rfl ?_
      refine s_aload (pc' := 442) X604.here hx (hb hby at_440) rfl rfl rfl ?_
      obtain ⟨cq655, kq655, q655a, q655b, q655c⟩ := isOf hZ rfl q1_604
      obtain ⟨_, _, ⟨T655, L655, k655, n655⟩, -, X655, ⟨Lc655, hQ655, l655, y655, z655⟩, st655⟩ := X604.virtualBack hx (y := (⟨"java/util/Optional", "isPresent", "()Z"⟩ : MethodName)) (z := (⟨"java/util/Optional", "isPresent", "()Z"⟩ : MethodName)) hown (mvT hZ (hw _ (List.mem_of_getElem? (i := 89) rfl))) (mvT hZ (hw _ (List.mem_of_getElem? (i := 90) rfl))) (notFace_of_selects (args := #[]) (mvT hZ (hw _ (List.mem_of_getElem? (i := 92) rfl)))) (mvT hZ (hw _ (List.mem_of_getElem? (i := 92) rfl))) (mvT hZ (hw _ (List.mem_of_getElem? (i := 91) rfl))) (by decide) (backOf (W := 0) (rmP0 l Z a0 hw [] o604 o604 T604.heap n0 O604 q2_604) hZ (hw _ (List.mem_of_getElem? (i := 93) rfl)) (hw _ (List.mem_of_getElem? (i := 40) rfl)) (by decide) (by decide)) q655a q655c (g := (mkF m 442 #[.val (.int p0), .val (.int p1), .val (.long p2), .second, .val (.int zc), .val (.int mk), .val (.ref b125), .val (.int sel), .val (.int (3 : Int32)), .val (.ref b552), .val (.ref o604), .unset, .unset] [(.ref o604)])) rfl (by rw [hml]; rfl) (Steps.refl _) (argsL := []) (rest := []) (lenOf pd_10 rfl) rfl (by show 2 * 0 + _ ≤ _; exact Nat.le_of_eq rfl) (hb hby at_442) (fun _ _ => ⟨rfl, rfl, (by decide : 6 + 0 ≤ _), (by decide : 22 + 0 ≤ _)⟩)
      dsimp only [Pt.U, Pt.locs, Pt.cells, Pt.slots] at X655 l655 y655 z655 st655 hQ655
      rw [l655, y655, z655] at X655
      obtain ⟨rfl, Nq655, hE655⟩ := hQ655
      have N655 := Fr.app N604 Nq655
      refine Go.tr st655 ?_
      show Go p.tables e below Kx T655 (mkF m 445 #[.val (.int p0), .val (.int p1), .val (.long p2), .second, .val (.int zc), .val (.int mk), .val (.ref b125), .val (.int sel), .val (.int (3 : Int32)), .val (.ref b552), .val (.ref o604), .unset, .unset] [(.int (0 : Int32))])
      refine s_ifY (pc' := 459) X655.here hx (hb hby at_445) ((if0 _ _).trans (teq (by decide)).1) (by decide) (by decide) ?_
      refine s_aconst_null (pc' := 460) X655.here hx (hb hby at_459) rfl ?_
      refine s_astore (pc' := 462) (Ls' := #[.val (.int p0), .val (.int p1), .val (.long p2), .second, .val (.int zc), .val (.int mk), .val (.ref b125), .val (.int sel), .val (.int (3 : Int32)), .val (.ref b552), .val (.ref o604), .val .null, .unset]) X655.here hx (hb hby at_460) rfl rfl rfl ?_
      have f656 : Exa Z T604.heap dA "com/example/syndica/syndica/InterestBasis" := (f591.keep Kq604)
      have f657 : Fld Z T604.heap dA "com/example/syndica/syndica/InterestBasis" "value" "Ljava/lang/String;" (.ref tA) := (f592.keep Kq604 nin0)
      have f658 : Exa Z T604.heap dB "com/example/syndica/syndica/InterestBasis" := (f593.keep Kq604)
      have f659 : Fld Z T604.heap dB "com/example/syndica/syndica/InterestBasis" "value" "Ljava/lang/String;" (.ref tB) := (f594.keep Kq604 nin0)
      have f660 : Exa Z T604.heap dC "com/example/syndica/syndica/InterestBasis" := (f595.keep Kq604)
      have f661 : Fld Z T604.heap dC "com/example/syndica/syndica/InterestBasis" "value" "Ljava/lang/String;" (.ref tC) := (f596.keep Kq604 nin0)
      have f662 : Arv Z T604.heap b125 k125 .char (8 : Int32) [(.int r127), (.int r131), (.int r135), (.int r139), (.int r143), (.int r147), (.int r151), (.int r155)] (.int (0 : Int32)) := (f597.keep Kq604 nin0)
      have lt663 : b125 < T604.heap.size := (Nat.lt_of_lt_of_le lt598 Kq604.1)
      have lt664 : dA < T604.heap.size := (Nat.lt_of_lt_of_le lt601 Kq604.1)
      have lt665 : dB < T604.heap.size := (Nat.lt_of_lt_of_le lt602 Kq604.1)
      have lt666 : dC < T604.heap.size := (Nat.lt_of_lt_of_le lt603 Kq604.1)
      (try clear Nq655); (try clear st655); (try clear z655); (try clear y655); (try clear l655); (try clear hQ655); (try clear Lc655); (try clear n655); (try clear k655); (try clear L655); (try clear q655c); (try clear q655b)
      (try clear q655a); (try clear kq655); (try clear cq655); (try clear sf654); (try clear N604); (try clear hw604); (try clear q2_604); (try clear q1_604); (try clear Kq604); (try clear Nq604); (try clear wv604); (try clear st604)
      (try clear z604); (try clear y604); (try clear l604); (try clear hQ604); (try clear Lc604); (try clear X604); (try clear n604); (try clear k604); (try clear L604); (try clear _); (try clear lt603); (try clear lt602)
      (try clear lt601); (try clear ne600); (try clear lt599); (try clear lt598); (try clear f597); (try clear f596); (try clear f595); (try clear f594); (try clear f593); (try clear f592); (try clear f591); (try clear St587)
      (try clear hk587); (try clear C587); (try clear H587); (try clear sf589); (try clear sf588); (try clear O587); (try clear K587); (try clear N587); (try clear q1_587); (try clear X587); (try clear T587); (try clear ge552)
      (try clear sz552); (try clear g552)
      show Go p.tables e below Kx T655 (mkF m 462 #[.val (.int p0), .val (.int p1), .val (.long p2), .second, .val (.int zc), .val (.int mk), .val (.ref b125), .val (.int sel), .val (.int (3 : Int32)), .val (.ref b552), .val (.ref o604), .val .null, .unset] [])
      refine s_aconst_null (pc' := 463) X655.here hx (hb hby at_462) rfl ?_
      refine s_astore (pc' := 465) (Ls' := #[.val (.int p0), .val (.int p1), .val (.long p2), .second, .val (.int zc), .val (.int mk), .val (.ref b125), .val (.int sel), .val (.int (3 : Int32)), .val (.ref b552), .val (.ref o604), .val .null, .val .null]) X655.here hx (hb hby at_463) rfl rfl rfl ?_
      refine s_iload (pc' := 467) X655.here hx (hb hby at_465) rfl rfl ?_
      refine s_iconst (pc' := 468) (v := (3 : Int32)) X655.here hx (hb hby at_467) rfl rfl ?_
      refine s_icmpN (pc' := 471) X655.here hx (hb hby at_468) rfl (teq (by decide)).2 ?_
      refine s_aload (pc' := 473) X655.here hx (hb hby at_471) rfl rfl rfl ?_
      refine s_iconst (pc' := 474) (v := (0 : Int32)) X655.here hx (hb hby at_473) rfl rfl ?_
      obtain ⟨cl667, Ar667, Aq667, As667, An667, Ah667, Ag667⟩ := id f662
      have in668 := inb_of (j := (0 : Int32)) As667 (by decide)
      have at668 : cl667.slots[((0 : Int32)).toNatClampNeg]? = some (.int r127) := Ah667.at in668 rfl
      refine Go.st (X655.caload hx (j := (0 : Int32)) (v := (.int r127)) (by rw [hE655]; exact Ar667.1) (State.isArrayOf_alike hZ.alike Ar667.2.1) Ar667.2.2 in668 at668 (g := (mkF m 474 #[.val (.int p0), .val (.int p1), .val (.long p2), .second, .val (.int zc), .val (.int mk), .val (.ref b125), .val (.int sel), .val (.int (3 : Int32)), .val (.ref b552), .val (.ref o604), .val .null, .val .null] [(.int (0 : Int32)), (.ref b125)])) rfl rfl (hb hby at_474)) ?_
      show Go p.tables e below Kx T655 (mkF m 475 #[.val (.int p0), .val (.int p1), .val (.long p2), .second, .val (.int zc), .val (.int mk), .val (.ref b125), .val (.int sel), .val (.int (3 : Int32)), .val (.ref b552), .val (.ref o604), .val .null, .val .null] [(.int r127)])
      refine s_bipush (pc' := 477) (v := (51 : Int32)) X655.here hx (hb hby at_475) rfl rfl ?_
      by_cases hc669 : r127 = (51 : Int32)
      · skip
        refine s_icmpN (pc' := 480) X655.here hx (hb hby at_477) rfl (teq hc669).2 ?_
        refine s_aload (pc' := 482) X655.here hx (hb hby at_480) rfl rfl rfl ?_
        refine s_iconst (pc' := 483) (v := (1 : Int32)) X655.here hx (hb hby at_482) rfl rfl ?_
        obtain ⟨cl670, Ar670, Aq670, As670, An670, Ah670, Ag670⟩ := id f662
        have in671 := inb_of (j := (1 : Int32)) As670 (by decide)
        have at671 : cl670.slots[((1 : Int32)).toNatClampNeg]? = some (.int r131) := Ah670.at in671 rfl
        refine Go.st (X655.caload hx (j := (1 : Int32)) (v := (.int r131)) (by rw [hE655]; exact Ar670.1) (State.isArrayOf_alike hZ.alike Ar670.2.1) Ar670.2.2 in671 at671 (g := (mkF m 483 #[.val (.int p0), .val (.int p1), .val (.long p2), .second, .val (.int zc), .val (.int mk), .val (.ref b125), .val (.int sel), .val (.int (3 : Int32)), .val (.ref b552), .val (.ref o604), .val .null, .val .null] [(.int (1 : Int32)), (.ref b125)])) rfl rfl (hb hby at_483)) ?_
        show Go p.tables e below Kx T655 (mkF m 484 #[.val (.int p0), .val (.int p1), .val (.long p2), .second, .val (.int zc), .val (.int mk), .val (.ref b125), .val (.int sel), .val (.int (3 : Int32)), .val (.ref b552), .val (.ref o604), .val .null, .val .null] [(.int r131)])
        refine s_bipush (pc' := 486) (v := (54 : Int32)) X655.here hx (hb hby at_484) rfl rfl ?_
        by_cases hc672 : r131 = (54 : Int32)
        · skip
          refine s_icmpN (pc' := 489) X655.here hx (hb hby at_486) rfl (teq hc672).2 ?_
          refine s_aload (pc' := 491) X655.here hx (hb hby at_489) rfl rfl rfl ?_
          refine s_iconst (pc' := 492) (v := (2 : Int32)) X655.here hx (hb hby at_491) rfl rfl ?_
          obtain ⟨cl673, Ar673, Aq673, As673, An673, Ah673, Ag673⟩ := id f662
          have in674 := inb_of (j := (2 : Int32)) As673 (by decide)
          have at674 : cl673.slots[((2 : Int32)).toNatClampNeg]? = some (.int r135) := Ah673.at in674 rfl
          refine Go.st (X655.caload hx (j := (2 : Int32)) (v := (.int r135)) (by rw [hE655]; exact Ar673.1) (State.isArrayOf_alike hZ.alike Ar673.2.1) Ar673.2.2 in674 at674 (g := (mkF m 492 #[.val (.int p0), .val (.int p1), .val (.long p2), .second, .val (.int zc), .val (.int mk), .val (.ref b125), .val (.int sel), .val (.int (3 : Int32)), .val (.ref b552), .val (.ref o604), .val .null, .val .null] [(.int (2 : Int32)), (.ref b125)])) rfl rfl (hb hby at_492)) ?_
          show Go p.tables e below Kx T655 (mkF m 493 #[.val (.int p0), .val (.int p1), .val (.long p2), .second, .val (.int zc), .val (.int mk), .val (.ref b125), .val (.int sel), .val (.int (3 : Int32)), .val (.ref b552), .val (.ref o604), .val .null, .val .null] [(.int r135)])
          refine s_bipush (pc' := 495) (v := (48 : Int32)) X655.here hx (hb hby at_493) rfl rfl ?_
          by_cases hc675 : r135 = (48 : Int32)
          · skip
            refine s_icmpN (pc' := 498) X655.here hx (hb hby at_495) rfl (teq hc675).2 ?_
            obtain ⟨T676, X676, e676, st676⟩ := getS2 X655 hx hZ hown (host := "") (Or.inl (hw _ (List.mem_of_getElem? (i := 101) rfl))) Via.refl hE655 (SdA.ext O604.2) (g := (mkF m 498 #[.val (.int p0), .val (.int p1), .val (.long p2), .second, .val (.int zc), .val (.int mk), .val (.ref b125), .val (.int sel), .val (.int (3 : Int32)), .val (.ref b552), .val (.ref o604), .val .null, .val .null] [])) rfl (hb hby at_498)
            refine Go.st st676 ?_
            show Go p.tables e below Kx T676 (mkF m 501 #[.val (.int p0), .val (.int p1), .val (.long p2), .second, .val (.int zc), .val (.int mk), .val (.ref b125), .val (.int sel), .val (.int (3 : Int32)), .val (.ref b552), .val (.ref o604), .val .null, .val .null] [(.ref dA)])
            refine s_astore (pc' := 503) (Ls' := #[.val (.int p0), .val (.int p1), .val (.long p2), .second, .val (.int zc), .val (.int mk), .val (.ref b125), .val (.int sel), .val (.int (3 : Int32)), .val (.ref b552), .val (.ref o604), .val .null, .val (.ref dA)]) X676.here hx (hb hby at_501) rfl rfl rfl ?_
            refine s_goto (pc' := 520) X676.here hx (hb hby at_503) (by decide) (by decide) ?_
            refine s_iload (pc' := 522) X676.here hx (hb hby at_520) rfl rfl ?_
            refine s_bipush (pc' := 524) (v := (7 : Int32)) X676.here hx (hb hby at_522) rfl rfl ?_
            refine s_icmpY (pc' := 596) X676.here hx (hb hby at_524) (feq (by decide)).2 (by decide) (by decide) ?_
            exact absurd (by rw [hc669, hc672, hc675]) hA604
          · skip
            refine s_icmpY (pc' := 506) X655.here hx (hb hby at_495) (feq hc675).2 (by decide) (by decide) ?_
            refine s_aload (pc' := 508) X655.here hx (hb hby at_506) rfl rfl rfl ?_
            refine s_iconst (pc' := 509) (v := (2 : Int32)) X655.here hx (hb hby at_508) rfl rfl ?_
            obtain ⟨cl677, Ar677, Aq677, As677, An677, Ah677, Ag677⟩ := id f662
            have in678 := inb_of (j := (2 : Int32)) As677 (by decide)
            have at678 : cl677.slots[((2 : Int32)).toNatClampNeg]? = some (.int r135) := Ah677.at in678 rfl
            refine Go.st (X655.caload hx (j := (2 : Int32)) (v := (.int r135)) (by rw [hE655]; exact Ar677.1) (State.isArrayOf_alike hZ.alike Ar677.2.1) Ar677.2.2 in678 at678 (g := (mkF m 509 #[.val (.int p0), .val (.int p1), .val (.long p2), .second, .val (.int zc), .val (.int mk), .val (.ref b125), .val (.int sel), .val (.int (3 : Int32)), .val (.ref b552), .val (.ref o604), .val .null, .val .null] [(.int (2 : Int32)), (.ref b125)])) rfl rfl (hb hby at_509)) ?_
            show Go p.tables e below Kx T655 (mkF m 510 #[.val (.int p0), .val (.int p1), .val (.long p2), .second, .val (.int zc), .val (.int mk), .val (.ref b125), .val (.int sel), .val (.int (3 : Int32)), .val (.ref b552), .val (.ref o604), .val .null, .val .null] [(.int r135)])
            refine s_bipush (pc' := 512) (v := (53 : Int32)) X655.here hx (hb hby at_510) rfl rfl ?_
            by_cases hc679 : r135 = (53 : Int32)
            · skip
              refine s_icmpN (pc' := 515) X655.here hx (hb hby at_512) rfl (teq hc679).2 ?_
              obtain ⟨T680, X680, e680, st680⟩ := getS2 X655 hx hZ hown (host := "") (Or.inl (hw _ (List.mem_of_getElem? (i := 107) rfl))) Via.refl hE655 (SdB.ext O604.2) (g := (mkF m 515 #[.val (.int p0), .val (.int p1), .val (.long p2), .second, .val (.int zc), .val (.int mk), .val (.ref b125), .val (.int sel), .val (.int (3 : Int32)), .val (.ref b552), .val (.ref o604), .val .null, .val .null] [])) rfl (hb hby at_515)
              refine Go.st st680 ?_
              show Go p.tables e below Kx T680 (mkF m 518 #[.val (.int p0), .val (.int p1), .val (.long p2), .second, .val (.int zc), .val (.int mk), .val (.ref b125), .val (.int sel), .val (.int (3 : Int32)), .val (.ref b552), .val (.ref o604), .val .null, .val .null] [(.ref dB)])
              refine s_astore (pc' := 520) (Ls' := #[.val (.int p0), .val (.int p1), .val (.long p2), .second, .val (.int zc), .val (.int mk), .val (.ref b125), .val (.int sel), .val (.int (3 : Int32)), .val (.ref b552), .val (.ref o604), .val .null, .val (.ref dB)]) X680.here hx (hb hby at_518) rfl rfl rfl ?_
              refine s_iload (pc' := 522) X680.here hx (hb hby at_520) rfl rfl ?_
              refine s_bipush (pc' := 524) (v := (7 : Int32)) X680.here hx (hb hby at_522) rfl rfl ?_
              refine s_icmpY (pc' := 596) X680.here hx (hb hby at_524) (feq (by decide)).2 (by decide) (by decide) ?_
              exact absurd (by rw [hc669, hc672, hc679]) hB604
            · skip
              refine s_icmpY (pc' := 520) X655.here hx (hb hby at_512) (feq hc679).2 (by decide) (by decide) ?_
              refine s_iload (pc' := 522) X655.here hx (hb hby at_520) rfl rfl ?_
              refine s_bipush (pc' := 524) (v := (7 : Int32)) X655.here hx (hb hby at_522) rfl rfl ?_
              refine s_icmpY (pc' := 596) X655.here hx (hb hby at_524) (feq (by decide)).2 (by decide) (by decide) ?_
              refine s_aload (pc' := 598) X655.here hx (hb hby at_596) rfl rfl rfl ?_
              refine s_aload (pc' := 600) X655.here hx (hb hby at_598) rfl rfl rfl ?_
              refine Go.st (fun _ r => Jvm.RoadKit.acmp (g := (mkF m 600 #[.val (.int p0), .val (.int p1), .val (.long p2), .second, .val (.int zc), .val (.int mk), .val (.ref b125), .val (.int sel), .val (.int (3 : Int32)), .val (.ref b552), .val (.ref o604), .val .null, .val .null] [.null, .null])) X655 hx rfl rfl rfl (pc0 := 600) (pc' := 603) (same := true) rfl (hb hby at_600) rfl (decide_eq_true rfl) (by decide) (by decide) r) ?_
              show Go p.tables e below Kx T655 (mkF m 603 #[.val (.int p0), .val (.int p1), .val (.long p2), .second, .val (.int zc), .val (.int mk), .val (.ref b125), .val (.int sel), .val (.int (3 : Int32)), .val (.ref b552), .val (.ref o604), .val .null, .val .null] [])
              refine s_iconst (pc' := 604) (v := (1 : Int32)) X655.here hx (hb hby at_603) rfl rfl ?_
              refine s_goto (pc' := 608) X655.here hx (hb hby at_604) (by decide) (by decide) ?_
              obtain ⟨fs, hr, hrun, hended, hRW⟩ := X655.leaveW hS0 (by rw [hE655]; exact hk604) (v := (some (.int (1 : Int32)))) (fun h => by rw [Bd.returns] at h; cases h)
              have hCx := C604.trans (CHv.at X655 hZ hEL H604)
              refine Go.fin (retN X655 hx (t := .boolean) Bd.returns (by simp) (hb hby at_608) hr) (hF _ _ hrun hended ⟨_, _, rfl, ?_, ?_, hRW.1, hRW.2.1, hRW.2.2.1, hRW.2.2.2.mono (by decide) (by decide)⟩)
              · show QL Z p0 p1 p2 va dA dB dC tA tB tC eo kv h0 n0 ((some (.int (1 : Int32))) : Option Value) T655.heap _
                rw [hE655]
                exact ⟨rfl, N655⟩
              · show CHr Z consts_1 s.vm s.heap T655.vm T655.heap
                rw [hE655, hh]; exact hCx
        · skip
          refine s_icmpY (pc' := 520) X655.here hx (hb hby at_486) (feq hc672).2 (by decide) (by decide) ?_
          refine s_iload (pc' := 522) X655.here hx (hb hby at_520) rfl rfl ?_
          refine s_bipush (pc' := 524) (v := (7 : Int32)) X655.here hx (hb hby at_522) rfl rfl ?_
          refine s_icmpY (pc' := 596) X655.here hx (hb hby at_524) (feq (by decide)).2 (by decide) (by decide) ?_
          refine s_aload (pc' := 598) X655.here hx (hb hby at_596) rfl rfl rfl ?_
          refine s_aload (pc' := 600) X655.here hx (hb hby at_598) rfl rfl rfl ?_
          refine Go.st (fun _ r => Jvm.RoadKit.acmp (g := (mkF m 600 #[.val (.int p0), .val (.int p1), .val (.long p2), .second, .val (.int zc), .val (.int mk), .val (.ref b125), .val (.int sel), .val (.int (3 : Int32)), .val (.ref b552), .val (.ref o604), .val .null, .val .null] [.null, .null])) X655 hx rfl rfl rfl (pc0 := 600) (pc' := 603) (same := true) rfl (hb hby at_600) rfl (decide_eq_true rfl) (by decide) (by decide) r) ?_
          show Go p.tables e below Kx T655 (mkF m 603 #[.val (.int p0), .val (.int p1), .val (.long p2), .second, .val (.int zc), .val (.int mk), .val (.ref b125), .val (.int sel), .val (.int (3 : Int32)), .val (.ref b552), .val (.ref o604), .val .null, .val .null] [])
          refine s_iconst (pc' := 604) (v := (1 : Int32)) X655.here hx (hb hby at_603) rfl rfl ?_
          refine s_goto (pc' := 608) X655.here hx (hb hby at_604) (by decide) (by decide) ?_
          obtain ⟨fs, hr, hrun, hended, hRW⟩ := X655.leaveW hS0 (by rw [hE655]; exact hk604) (v := (some (.int (1 : Int32)))) (fun h => by rw [Bd.returns] at h; cases h)
          have hCx := C604.trans (CHv.at X655 hZ hEL H604)
          refine Go.fin (retN X655 hx (t := .boolean) Bd.returns (by simp) (hb hby at_608) hr) (hF _ _ hrun hended ⟨_, _, rfl, ?_, ?_, hRW.1, hRW.2.1, hRW.2.2.1, hRW.2.2.2.mono (by decide) (by decide)⟩)
          · show QL Z p0 p1 p2 va dA dB dC tA tB tC eo kv h0 n0 ((some (.int (1 : Int32))) : Option Value) T655.heap _
            rw [hE655]
            exact ⟨rfl, N655⟩
          · show CHr Z consts_1 s.vm s.heap T655.vm T655.heap
            rw [hE655, hh]; exact hCx
      · skip
        refine s_icmpY (pc' := 520) X655.here hx (hb hby at_477) (feq hc669).2 (by decide) (by decide) ?_
        refine s_iload (pc' := 522) X655.here hx (hb hby at_520) rfl rfl ?_
        refine s_bipush (pc' := 524) (v := (7 : Int32)) X655.here hx (hb hby at_522) rfl rfl ?_
        refine s_icmpY (pc' := 596) X655.here hx (hb hby at_524) (feq (by decide)).2 (by decide) (by decide) ?_
        refine s_aload (pc' := 598) X655.here hx (hb hby at_596) rfl rfl rfl ?_
        refine s_aload (pc' := 600) X655.here hx (hb hby at_598) rfl rfl rfl ?_
        refine Go.st (fun _ r => Jvm.RoadKit.acmp (g := (mkF m 600 #[.val (.int p0), .val (.int p1), .val (.long p2), .second, .val (.int zc), .val (.int mk), .val (.ref b125), .val (.int sel), .val (.int (3 : Int32)), .val (.ref b552), .val (.ref o604), .val .null, .val .null] [.null, .null])) X655 hx rfl rfl rfl (pc0 := 600) (pc' := 603) (same := true) rfl (hb hby at_600) rfl (decide_eq_true rfl) (by decide) (by decide) r) ?_
        show Go p.tables e below Kx T655 (mkF m 603 #[.val (.int p0), .val (.int p1), .val (.long p2), .second, .val (.int zc), .val (.int mk), .val (.ref b125), .val (.int sel), .val (.int (3 : Int32)), .val (.ref b552), .val (.ref o604), .val .null, .val .null] [])
        refine s_iconst (pc' := 604) (v := (1 : Int32)) X655.here hx (hb hby at_603) rfl rfl ?_
        refine s_goto (pc' := 608) X655.here hx (hb hby at_604) (by decide) (by decide) ?_
        obtain ⟨fs, hr, hrun, hended, hRW⟩ := X655.leaveW hS0 (by rw [hE655]; exact hk604) (v := (some (.int (1 : Int32)))) (fun h => by rw [Bd.returns] at h; cases h)
        have hCx := C604.trans (CHv.at X655 hZ hEL H604)
        refine Go.fin (retN X655 hx (t := .boolean) Bd.returns (by simp) (hb hby at_608) hr) (hF _ _ hrun hended ⟨_, _, rfl, ?_, ?_, hRW.1, hRW.2.1, hRW.2.2.1, hRW.2.2.2.mono (by decide) (by decide)⟩)
        · show QL Z p0 p1 p2 va dA dB dC tA tB tC eo kv h0 n0 ((some (.int (1 : Int32))) : Option Value) T655.heap _
          rw [hE655]
          exact ⟨rfl, N655⟩
        · show CHr Z consts_1 s.vm s.heap T655.vm T655.heap
          rw [hE655, hh]; exact hCx
section Start
variable {args : Array Value} {s : State} {t u : Term}
theorem eqI_v {k : Int32} (h : (Cond.eq t (.int k)).value args s none s [] = some true) : t.eval args s none [] s = some (.int k) := by
  obtain ⟨x, y, e1, e2, k1, -⟩ := cmp_v (Or.inl h)
  cases (Term.int_eval k).symm.trans e2
  cases ht : t.eval args s none [] s with
  | none => rw [ht] at e1; cases e1
  | some z => cases z <;> simp [Cond.value, ht, Term.eval] at h ⊢ <;> exact h
theorem eqR_v {y : Addr} (hu : u.eval args s none [] s = some (.ref y)) (h : (Cond.eq t u).value args s none s [] = some true) : t.eval args s none [] s = some (.ref y) := by
  cases ht : t.eval args s none [] s with
  | none => simp [Cond.value, ht] at h
  | some z => cases z <;> simp [Cond.value, ht, hu] at h ⊢ <;> exact h
theorem arr_s {x : Addr} {ty : FieldType} {z : Int32} (ht : t.eval args s none [] s = some (.ref x)) (ha : (Cond.arrayOf t ty).value args s none s [] = some true) (hl : (Cond.eq (.length t) (.int z)).value args s none s [] = some true) :
    ∃ cl : Cell, Arr s s.heap x cl ty ∧ cl.slots.size < 2 ^ 31 ∧ cl.slots.size.toInt32 = z := by
  obtain ⟨cl, A⟩ := Arr.start ht ha
  refine ⟨cl, A, ?_⟩
  have e := eqI_v hl
  have q := A.fin (Vm.Alike.refl _)
  by_cases hb : cl.slots.size < 2 ^ 31
  · exact ⟨hb, by rw [len_f ht q hb] at e; exact Value.int.inj (Option.some.inj e)⟩
  · exfalso; simp [Term.eval, ht, q] at e; exact hb (by omega)
theorem el_s {x : Addr} {cl : Cell} {ty : FieldType} {v : Value} (j : Int32) (i : Nat) (hi : j.toNatClampNeg = i) (ht : t.eval args s none [] s = some (.ref x)) (A : Arr s s.heap x cl ty) (h : (Term.elem t (.int j)).eval args s none [] s = some v) : cl.slots[i]? = some v := by
  subst hi; exact (elem_in h ht (Term.int_eval j) A.1).2
end Start
set_option maxRecDepth 65536 in
set_option maxHeartbeats 40000000 in
theorem comes_1 {Post : Tables → Env → Array Value → State → Outcome → State → Prop} (hpost : ∀ tb e args s v u, (limb_1_1.after args s (.returned v) u = true ∧ limb_1_2.after args s (.returned v) u = true ∧ True) → ReturnedEndW s (.returned v) u (Jvm.fieldLocs frame_1_writes args s ++ Jvm.arrayLocs frame_1_arrays args s ++ Jvm.staticLocs frame_1_statics s) 24 1216 → Post tb e args s (.returned v) u) :
    ArmFor flags0 classFile x code maxLocals ret World_1 tables_1 room_1 Calls_1 rest_1 Pre_1 Post := by
  intro l hfl _ _ p e ha hc hk s m args below hf hA hF happ hP
  obtain ⟨hcalls, hrest, hpre⟩ := hP
  obtain ⟨-, -, -, hnamed, -, -, -, hat⟩ := (Spec.applies_iff hf).mp happ
  obtain ⟨hg, hn⟩ := and_e (Cond.before_iff.mp (show (Jvm.Cond.and given_1 narrow_1).before args s = true from hpre))
  obtain ⟨hcount, hgs⟩ := and_e hg
  obtain ⟨hi0, hgs'⟩ := and_e hgs
  obtain ⟨hi1, hgs''⟩ := and_e hgs'
  have hi2 := hgs''
  obtain ⟨w0, w1, w2, rfl⟩ : ∃ w0 w1 w2 : Value, args = #[w0, w1, w2] := by
    have hs : args.size = 3 := by simpa [Cond.value, given_1] using hcount
    obtain ⟨L⟩ := args
    match L, hs with
    | [w0, w1, w2], _ => exact ⟨w0, w1, w2, rfl⟩
  have hw := fun d (hd : d ∈ tables_1) => atoms_spec (ws := Jvm.Cond.code x code maxLocals ret :: tables_1) hat d (List.mem_cons_of_mem _ hd)
  have hfit : Fit s := fun {y c} hc i hi => by
    obtain ⟨ha, rfl⟩ := Array.getElem?_eq_some_iff.mp hc
    have q := List.all_eq_true.mp ((Array.all_eq_true_iff_forall_mem.mp hF) _ (Array.getElem_mem ha)) i (List.mem_range.mpr hi)
    simpa [Array.getElem?_eq_getElem hi] using q
  obtain ⟨hsets, hown0⟩ := atoms_of _ (rest_1_c_eq ▸ (show rest_1_c.before _ s = true from hrest))
  obtain ⟨i0, ei0⟩ := is_v hi0
  obtain rfl : w0 = (.int i0) := Option.some.inj ei0
  obtain ⟨i1, ei1⟩ := is_v hi1
  obtain rfl : w1 = (.int i1) := Option.some.inj ei1
  obtain ⟨i2, ei2⟩ := isL_v hi2
  obtain rfl : w2 = (.long i2) := Option.some.inj ei2
  obtain ⟨G1, eG1⟩ := is_v (Cond.before_iff.mp (hsets _ (List.mem_of_getElem? (i := 1) rfl)))
  have S1 : Sta s s.heap "java/lang/String" "COMPACT_STRINGS" "Z" (.int G1) := Sta.start eG1 (Or.inl (hsets _ (List.mem_of_getElem? (i := 0) rfl)))
  have P1 : ¬ (G1 = (0 : Int32)) := gotF (Cond.eq_ints eG1 (Term.int_eval (0))) (not_v (Cond.before_iff.mp (hsets _ (List.mem_of_getElem? (i := 2) rfl))))
  have wS : ∀ a ∈ Bundle.stringAtoms, a.before #[(.int i0), (.int i1), (.long i2)] s = true := fun d hd => hw d ((by decide +kernel : ∀ d ∈ Bundle.stringAtoms, d ∈ tables_1) d hd)
  have hEL : EW s #[(.int i0), (.int i1), (.long i2)] consts_1 := (EW.cons (hw _ (List.mem_of_getElem? (i := 102) rfl)) (by decide) EW.nil)
  have hCH : CHv s consts_1 s.vm s.heap := CHv.start hEL hcalls.1 (hsets _ (List.mem_of_getElem? (i := 2) rfl)) (wS _ (by simp [Bundle.stringAtoms])) (wS _ (by simp [Bundle.stringAtoms, Bundle.sN]))
  have c0 := (and_e hn).1
  replace hn := (and_e hn).2
  have c1 := (and_e hn).1
  replace hn := (and_e hn).2
  have c2 := (and_e hn).1
  replace hn := (and_e hn).2
  have c3 := (and_e hn).1
  replace hn := (and_e hn).2
  have c4 := (and_e hn).1
  replace hn := (and_e hn).2
  have c5 := (and_e hn).1
  replace hn := (and_e hn).2
  have c6 := (and_e hn).1
  replace hn := (and_e hn).2
  have c7 := (and_e hn).1
  replace hn := (and_e hn).2
  have c8 := (and_e hn).1
  replace hn := (and_e hn).2
  have c9 := (and_e hn).1
  replace hn := (and_e hn).2
  have c10 := (and_e hn).1
  replace hn := (and_e hn).2
  have c11 := (and_e hn).1
  replace hn := (and_e hn).2
  have c12 := (and_e hn).1
  replace hn := (and_e hn).2
  have c13 := (and_e hn).1
  replace hn := (and_e hn).2
  have c14 := (and_e hn).1
  replace hn := (and_e hn).2
  have c15 := (and_e hn).1
  replace hn := (and_e hn).2
  have c16 := (and_e hn).1
  replace hn := (and_e hn).2
  have c17 := (and_e hn).1
  replace hn := (and_e hn).2
  have c18 := (and_e hn).1
  replace hn := (and_e hn).2
  have c19 := (and_e hn).1
  replace hn := (and_e hn).2
  have c20 := (and_e hn).1
  replace hn := (and_e hn).2
  have c21 := (and_e hn).1
  replace hn := (and_e hn).2
  have c22 := (and_e hn).1
  replace hn := (and_e hn).2
  have c23 := (and_e hn).1
  replace hn := (and_e hn).2
  have c24 := (and_e hn).1
  replace hn := (and_e hn).2
  have c25 := (and_e hn).1
  replace hn := (and_e hn).2
  have c26 := (and_e hn).1
  replace hn := (and_e hn).2
  have c27 := (and_e hn).1
  replace hn := (and_e hn).2
  have c28 := (and_e hn).1
  replace hn := (and_e hn).2
  have c29 := (and_e hn).1
  replace hn := (and_e hn).2
  have c30 := (and_e hn).1
  replace hn := (and_e hn).2
  have c31 := (and_e hn).1
  replace hn := (and_e hn).2
  have c32 := (and_e hn).1
  replace hn := (and_e hn).2
  have c33 := hn
  obtain ⟨va, ev⟩ := arr_v c0
  obtain ⟨clv, Av, bv, lv⟩ := arr_s ev c0 c2
  have SV := Sta.start ev (Or.inr ⟨(hw _ (List.mem_of_getElem? (i := 36) rfl)), (hw _ (List.mem_of_getElem? (i := 47) rfl))⟩)
  obtain ⟨dA, ed0⟩ := exa_v c3
  have Ed0 := Exa.start ed0 c3
  have Sd0 := Sta.start ed0 (Or.inr ⟨(hw _ (List.mem_of_getElem? (i := 36) rfl)), (hw _ (List.mem_of_getElem? (i := 55) rfl))⟩)
  have el0 := el_s (0 : Int32) 0 (by decide) ev Av (eqR_v ed0 c4)
  obtain ⟨dB, ed1⟩ := exa_v c5
  have Ed1 := Exa.start ed1 c5
  have Sd1 := Sta.start ed1 (Or.inr ⟨(hw _ (List.mem_of_getElem? (i := 36) rfl)), (hw _ (List.mem_of_getElem? (i := 56) rfl))⟩)
  have el1 := el_s (1 : Int32) 1 (by decide) ev Av (eqR_v ed1 c6)
  obtain ⟨dC, ed2⟩ := exa_v c7
  have Ed2 := Exa.start ed2 c7
  have Sd2 := Sta.start ed2 (Or.inr ⟨(hw _ (List.mem_of_getElem? (i := 36) rfl)), (hw _ (List.mem_of_getElem? (i := 57) rfl))⟩)
  have el2 := el_s (2 : Int32) 2 (by decide) ev Av (eqR_v ed2 c8)
  have AV := Arv.start (dv := .null) hfit Av bv lv (by decide) (vs := [.ref dA, .ref dB, .ref dC]) rfl ⟨el0, el1, el2, trivial⟩
  have EV := Exa.start ev c1
  obtain ⟨tA, et0⟩ := exa_v c9
  have Et0 := Exa.start et0 c9
  have Ft0 := Fld.start ((fld_at ed0).symm.trans et0)
  have Ct0 := Fld.start ((fld_at et0).symm.trans (eqI_v c10))
  obtain ⟨bt0, eb0⟩ := arr_v c11
  obtain ⟨cl0, Ab0, bb0, lb0⟩ := arr_s eb0 c11 c12
  have Fb0 := Fld.start ((fld_at et0).symm.trans eb0)
  have x0_0 := el_s (0 : Int32) 0 (by decide) eb0 Ab0 (eqI_v c13)
  have x0_1 := el_s (1 : Int32) 1 (by decide) eb0 Ab0 (eqI_v c14)
  have x0_2 := el_s (2 : Int32) 2 (by decide) eb0 Ab0 (eqI_v c15)
  have Tt0 : Str s s.heap s.heap.size tA [(51 : Int32), (54 : Int32), (48 : Int32)] := Str.of Et0 Ct0 Fb0 (Arv.start (dv := .int 0) hfit Ab0 bb0 lb0 (by decide) (vs := ([(51 : Int32), (54 : Int32), (48 : Int32)] : List Int32).map Value.int) (by decide) ⟨x0_0, x0_1, x0_2, trivial⟩) rfl (by decide) (by decide) (by decide)
  obtain ⟨tB, et1⟩ := exa_v c16
  have Et1 := Exa.start et1 c16
  have Ft1 := Fld.start ((fld_at ed1).symm.trans et1)
  have Ct1 := Fld.start ((fld_at et1).symm.trans (eqI_v c17))
  obtain ⟨bt1, eb1⟩ := arr_v c18
  obtain ⟨cl1, Ab1, bb1, lb1⟩ := arr_s eb1 c18 c19
  have Fb1 := Fld.start ((fld_at et1).symm.trans eb1)
  have x1_0 := el_s (0 : Int32) 0 (by decide) eb1 Ab1 (eqI_v c20)
  have x1_1 := el_s (1 : Int32) 1 (by decide) eb1 Ab1 (eqI_v c21)
  have x1_2 := el_s (2 : Int32) 2 (by decide) eb1 Ab1 (eqI_v c22)
  have Tt1 : Str s s.heap s.heap.size tB [(51 : Int32), (54 : Int32), (53 : Int32)] := Str.of Et1 Ct1 Fb1 (Arv.start (dv := .int 0) hfit Ab1 bb1 lb1 (by decide) (vs := ([(51 : Int32), (54 : Int32), (53 : Int32)] : List Int32).map Value.int) (by decide) ⟨x1_0, x1_1, x1_2, trivial⟩) rfl (by decide) (by decide) (by decide)
  obtain ⟨tC, et2⟩ := exa_v c23
  have Et2 := Exa.start et2 c23
  have Ft2 := Fld.start ((fld_at ed2).symm.trans et2)
  have Ct2 := Fld.start ((fld_at et2).symm.trans (eqI_v c24))
  obtain ⟨bt2, eb2⟩ := arr_v c25
  obtain ⟨cl2, Ab2, bb2, lb2⟩ := arr_s eb2 c25 c26
  have Fb2 := Fld.start ((fld_at et2).symm.trans eb2)
  have x2_0 := el_s (0 : Int32) 0 (by decide) eb2 Ab2 (eqI_v c27)
  have x2_1 := el_s (1 : Int32) 1 (by decide) eb2 Ab2 (eqI_v c28)
  have x2_2 := el_s (2 : Int32) 2 (by decide) eb2 Ab2 (eqI_v c29)
  have x2_3 := el_s (3 : Int32) 3 (by decide) eb2 Ab2 (eqI_v c30)
  have x2_4 := el_s (4 : Int32) 4 (by decide) eb2 Ab2 (eqI_v c31)
  have x2_5 := el_s (5 : Int32) 5 (by decide) eb2 Ab2 (eqI_v c32)
  have x2_6 := el_s (6 : Int32) 6 (by decide) eb2 Ab2 (eqI_v c33)
  have Tt2 : Str s s.heap s.heap.size tC [(51 : Int32), (54 : Int32), (53 : Int32), (47 : Int32), (51 : Int32), (54 : Int32), (54 : Int32)] := Str.of Et2 Ct2 Fb2 (Arv.start (dv := .int 0) hfit Ab2 bb2 lb2 (by decide) (vs := ([(51 : Int32), (54 : Int32), (53 : Int32), (47 : Int32), (51 : Int32), (54 : Int32), (54 : Int32)] : List Int32).map Value.int) (by decide) ⟨x2_0, x2_1, x2_2, x2_3, x2_4, x2_5, x2_6, trivial⟩) rfl (by decide) (by decide) (by decide)
  obtain ⟨eo, eE⟩ := exa_v (Cond.before_iff.mp (hsets _ (List.mem_of_getElem? (i := 11) rfl)))
  have EO := Exa.start eE (Cond.before_iff.mp (hsets _ (List.mem_of_getElem? (i := 11) rfl)))
  have SO := Sta.start eE (Or.inl (hsets _ (List.mem_of_getElem? (i := 10) rfl)))
  have FO := Fld.start ((fld_at eE).symm.trans (null_v (Cond.before_iff.mp (hsets _ (List.mem_of_getElem? (i := 12) rfl)))))
  have EN : En s va dA dB dC tA tB tC eo clv.cls := ⟨SV, AV, EV, Sd0, Ed0, Ft0, Tt0, Sd1, Ed1, Ft1, Tt1, Sd2, Ed2, Ft2, Tt2, SO, EO, FO⟩
  obtain ⟨n, o, h1, h2, h3, _, L, rfl, ⟨rfl, N⟩, hq⟩ := rmL l s _ hw tables_1 i0 i1 i2 va dA dB dC tA tB tC eo clv.cls s.heap s.heap.size (Old.start s) hEL wS EN G1 S1 P1 p e ha hc hk s m _ below hf ((Spec.applies_iff_loose hf).mp happ).1 ⟨rfl, State.Warmed39.refl s, rfl, hCH⟩ trivial
  refine ⟨n, _, h1, h2, h3, hpost _ _ _ _ _ _ ⟨Cond.after_iff.mpr rfl, Cond.after_iff.mpr (eq_i res_at (Term.int_eval (1)) rfl), trivial⟩ ⟨hq.2.1, hq.2.2.1, hq.2.2.2.1, (hq.2.2.2.2.sift fun y hy => Or.inr (N y hy)).mono (by decide) (by decide)⟩⟩
theorem main_1_1 : Claimed_1_1 := comes_1 fun _ _ _ _ _ _ h hF => ⟨h.1, hF⟩
theorem main_1_2 : Claimed_1_2 := comes_1 fun _ _ _ _ _ _ h hF => ⟨h.2.1, hF⟩
end Jvm.Pilot.@@N@@
namespace Jvm.Pilot.@@N@@
open Jvm Jvm.ClassFile Sem Op Lib Jvm.Free Jvm.Stand Jvm.Pilot.@@N@@.Jvm.D
/-! MADE BY PROGRAM (witnessworld.py) out of the Statement's table words and the real class files: 24 classes; the members and pool entries that the words name. The judged class is class 1, her method 2. -/
namespace start1
open Jvm.ClassFile
def u (s : String) : CpInfo := .utf8 (stringToUtf16 s)
/-- a pool by its gaps: so many unusable entries, then the entry; so many at the end -/
def gap : Nat → List CpInfo → List CpInfo
  | 0, r => r
  | n + 1, r => .unusable :: gap n r
def poolList (es : List (Nat × CpInfo)) (last : Nat) : List CpInfo := es.foldr (fun e r => gap e.1 (e.2 :: r)) (gap last [])
def pool (es : List (Nat × CpInfo)) (last : Nat) : Array CpInfo := ⟨poolList es last⟩
def fileOf (pool : Array CpInfo) (this : Nat) (attrs : Array Attribute := #[]) (ms : Array MethodInfo := #[]) (fl : Nat := 33) (sup : Nat := 0) (ifs : Array Nat := #[]) (fds : Array FieldInfo := #[]) : ClassFile where
  minorVersion := 0
  majorVersion := 65
  constantPool := pool
  accessFlags := fl
  thisClass := this
  superClass := sup
  interfaces := ifs
  fields := fds
  methods := ms
  attributes := attrs
def plain (name : String) (sup : Option ClassId) : Class where
  name := name
  kind := .ordinary
  loader := none
  accessFlags := 33
  super := sup
  interfaces := #[]
  cf := none
  fields := #[]
  methods := #[]
  instanceTypes := #[]
  staticTypes := #[]
  resolved := #[]
  callSites := []
  init := .initialized
  statics := none
  mirror := none

def pool0 : Array CpInfo := pool [(5, u "<init>"), (0, u "()V"), (1, .class_ 10), (1, u "java/lang/Object"), (85, u "clone"), (0, u "()Ljava/lang/Object;")] 26

def k0c0 : Code := { maxStack := 0, maxLocals := 1, code := object_method_1_code, exceptionTable := #[], attributes := #[] }
def k0m0 : Method := { name := "<init>", desc := "()V", sig := { parameters := [], returnType := none }, accessFlags := 1, code := some k0c0 }
def k0m1 : Method := { name := "clone", desc := "()Ljava/lang/Object;", sig := { parameters := [], returnType := some (.object "java/lang/Object") }, accessFlags := 260, code := none }
/-- java/lang/Object -/
def k0 : Class := { plain "java/lang/Object" none with
  accessFlags := 33
  interfaces := #[]
  cf := some (fileOf pool0 8 #[] #[{ accessFlags := 1, nameIndex := 5, descriptorIndex := 6, attributes := #[] }, { accessFlags := 260, nameIndex := 96, descriptorIndex := 97, attributes := #[] }] 33 0 #[] #[])
  fields := #[]
  methods := #[k0m0, k0m1]
  instanceTypes := #[]
  staticTypes := #[]
  resolved := Array.replicate 124 none
  statics := none }

def pool1 : Array CpInfo := pool [(2, .class_ 4), (1, u "java/lang/Object"), (0, u "<init>"), (0, u "()V"), (0, .long 255), (1, .methodref 10 11), (0, .class_ 12), (0, .nameAndType 13 14), (0, u "com/example/syndica/syndica/InterestBasisOfPinLaw"), (0, u "ch"), (0, u "(IIJC)C"), (0, .class_ 16), (0, u "java/lang/String"), (0, .methodref 15 18), (0, .nameAndType 5 19), (0, u "([C)V"), (0, .methodref 21 22), (0, .class_ 23), (0, .nameAndType 24 25), (0, u "com/example/syndica/syndica/InterestBasis"), (0, u "of"), (0, u "(Ljava/lang/String;)Ljava/util/Optional;"), (0, .methodref 27 28), (0, .class_ 29), (0, .nameAndType 30 31), (0, u "java/util/Optional"), (0, u "isPresent"), (0, u "()Z"), (0, .methodref 27 33), (0, .nameAndType 34 35), (0, u "get"), (0, u "()Ljava/lang/Object;"), (0, .fieldref 21 37), (0, .nameAndType 38 39), (0, u "DAYS_360"), (0, u "Lcom/example/syndica/syndica/InterestBasis;"), (0, .fieldref 21 41), (0, .nameAndType 42 39), (0, u "DAYS_365"), (0, .fieldref 21 44), (0, .nameAndType 45 39), (0, u "ACTUAL"), (3, u "law"), (0, u "(IIJ)Z")] 4

def k1m0 : Method := { name := "<init>", desc := "()V", sig := { parameters := [], returnType := none }, accessFlags := 1, code := none }
def k1c1 : Code := { maxStack := 4, maxLocals := 5, code := method_2_code, exceptionTable := #[], attributes := #[] }
def k1m1 : Method := { name := "ch", desc := "(IIJC)C", sig := { parameters := [.int, .int, .long, .char], returnType := some .char }, accessFlags := 10, code := some k1c1 }
def k1c2 : Code := { maxStack := 7, maxLocals := 13, code := code, exceptionTable := #[], attributes := #[] }
def k1m2 : Method := { name := "law", desc := "(IIJ)Z", sig := { parameters := [.int, .int, .long], returnType := some .boolean }, accessFlags := 9, code := some k1c2 }
/-- com/example/syndica/syndica/InterestBasisOfPinLaw -/
def k1 : Class := { plain "com/example/syndica/syndica/InterestBasisOfPinLaw" (some 0) with
  accessFlags := 49
  interfaces := #[]
  cf := some (fileOf pool1 10 #[] #[{ accessFlags := 1, nameIndex := 5, descriptorIndex := 6, attributes := #[] }, { accessFlags := 10, nameIndex := 13, descriptorIndex := 14, attributes := #[] }, { accessFlags := 9, nameIndex := 49, descriptorIndex := 50, attributes := #[] }] 49 2 #[] #[])
  fields := #[]
  methods := #[k1m0, k1m1, k1m2]
  instanceTypes := #[]
  staticTypes := #[]
  resolved := Array.replicate 55 none
  statics := none }

def pool2 : Array CpInfo := pool [(1, .class_ 2), (0, u "java/io/Serializable"), (0, .class_ 4), (0, u "java/lang/Object")] 2

/-- java/io/Serializable -/
def k2 : Class := { plain "java/io/Serializable" (some 0) with
  accessFlags := 1537
  interfaces := #[]
  cf := some (fileOf pool2 1 #[] #[] 1537 3 #[] #[])
  fields := #[]
  methods := #[]
  instanceTypes := #[]
  staticTypes := #[]
  resolved := Array.replicate 7 none
  statics := none }

def pool3 : Array CpInfo := pool [(1, .class_ 2), (0, u "java/lang/Comparable"), (0, .class_ 4), (0, u "java/lang/Object")] 7

/-- java/lang/Comparable -/
def k3 : Class := { plain "java/lang/Comparable" (some 0) with
  accessFlags := 1537
  interfaces := #[]
  cf := some (fileOf pool3 1 #[] #[] 1537 3 #[] #[])
  fields := #[]
  methods := #[]
  instanceTypes := #[]
  staticTypes := #[]
  resolved := Array.replicate 12 none
  statics := none }

def pool4 : Array CpInfo := pool [(2, .class_ 4), (1, u "java/lang/CharSequence"), (42, .class_ 48), (0, u "java/lang/CharSequence$1CodePointIterator"), (10, .class_ 60), (0, u "java/lang/CharSequence$1CharIterator"), (5, .class_ 67), (0, u "java/lang/Object")] 63

/-- java/lang/CharSequence -/
def k4 : Class := { plain "java/lang/CharSequence" (some 0) with
  accessFlags := 1537
  interfaces := #[]
  cf := some (fileOf pool4 2 #[.nestMembers #[47, 59]] #[] 1537 66 #[] #[])
  fields := #[]
  methods := #[]
  instanceTypes := #[]
  staticTypes := #[]
  resolved := Array.replicate 131 none
  statics := none }

def pool5 : Array CpInfo := pool [(1, .class_ 2), (0, u "java/lang/constant/Constable"), (0, .class_ 4), (0, u "java/lang/Object")] 6

/-- java/lang/constant/Constable -/
def k5 : Class := { plain "java/lang/constant/Constable" (some 0) with
  accessFlags := 1537
  interfaces := #[]
  cf := some (fileOf pool5 1 #[] #[] 1537 3 #[] #[])
  fields := #[]
  methods := #[]
  instanceTypes := #[]
  staticTypes := #[]
  resolved := Array.replicate 11 none
  statics := none }

def pool6 : Array CpInfo := pool [(1, .class_ 2), (0, u "java/lang/constant/ConstantDesc"), (0, .class_ 4), (0, u "java/lang/Object")] 32

/-- java/lang/constant/ConstantDesc -/
def k6 : Class := { plain "java/lang/constant/ConstantDesc" (some 0) with
  accessFlags := 1537
  interfaces := #[]
  cf := some (fileOf pool6 1 #[] #[] 1537 3 #[] #[])
  fields := #[]
  methods := #[]
  instanceTypes := #[]
  staticTypes := #[]
  resolved := Array.replicate 37 none
  statics := none }

def pool7 : Array CpInfo := pool [(1, .methodref 2 3), (0, .class_ 4), (0, .nameAndType 5 6), (0, u "java/lang/Object"), (0, u "<init>"), (0, u "()V"), (0, .string 8), (0, u ""), (0, .fieldref 10 11), (0, .class_ 12), (0, .nameAndType 13 14), (0, u "java/lang/String"), (0, u "value"), (0, u "[B"), (0, .fieldref 10 16), (0, .nameAndType 17 18), (0, u "coder"), (0, u "B"), (2, u "hash"), (0, u "I"), (2, u "hashIsZero"), (0, u "Z"), (0, .methodref 10 28), (0, .nameAndType 5 29), (0, u "([CIILjava/lang/Void;)V"), (8, .fieldref 10 39), (0, .nameAndType 40 26), (0, u "COMPACT_STRINGS"), (1, .class_ 44), (1, u "java/lang/StringUTF16"), (0, u "compress"), (1, .methodref 42 48), (0, .nameAndType 49 50), (0, u "coderFromArrayLen"), (0, u "([BI)B"), (56, .class_ 109), (1, u "java/lang/StringLatin1"), (67, .methodref 42 178), (0, .nameAndType 45 179), (0, u "([CII)[B"), (361, .methodref 107 542), (0, .nameAndType 543 544), (0, u "equals"), (0, u "([B[B)Z"), (28, u "(Ljava/lang/Object;)Z"), (1, .class_ 576), (0, u "java/lang/CharSequence"), (22, u "CASE_INSENSITIVE_ORDER"), (0, u "Ljava/util/Comparator;"), (409, u "([C)V"), (90, u "serialPersistentFields"), (0, u "[Ljava/io/ObjectStreamField;"), (0, .class_ 1104), (0, u "java/lang/String$CaseInsensitiveComparator"), (1, .class_ 1107), (0, u "java/io/Serializable"), (0, .class_ 1109), (0, u "java/lang/Comparable"), (0, .class_ 1111), (0, u "java/lang/constant/Constable"), (0, .class_ 1113), (0, u "java/lang/constant/ConstantDesc"), (2, u "serialVersionUID"), (0, u "J"), (3, u "REPL"), (0, u "C"), (2, u "LATIN1"), (1, u "UTF16")] 323

def k7m0 : Method := { name := "<init>", desc := "()V", sig := { parameters := [], returnType := none }, accessFlags := 1, code := none }
def k7c1 : Code := { maxStack := 5, maxLocals := 2, code := jdk_42_method_3_code, exceptionTable := #[], attributes := #[] }
def k7m1 : Method := { name := "<init>", desc := "([C)V", sig := { parameters := [(.array .char)], returnType := none }, accessFlags := 1, code := some k7c1 }
def k7c2 : Code := { maxStack := 2, maxLocals := 3, code := jdk_42_method_66_code, exceptionTable := #[], attributes := #[] }
def k7m2 : Method := { name := "equals", desc := "(Ljava/lang/Object;)Z", sig := { parameters := [(.object "java/lang/Object")], returnType := some .boolean }, accessFlags := 1, code := some k7c2 }
def k7c3 : Code := { maxStack := 4, maxLocals := 6, code := jdk_42_method_149_code, exceptionTable := #[], attributes := #[] }
def k7m3 : Method := { name := "<init>", desc := "([CIILjava/lang/Void;)V", sig := { parameters := [(.array .char), .int, .int, (.object "java/lang/Void")], returnType := none }, accessFlags := 2, code := some k7c3 }
/-- java/lang/String -/
def k7 : Class := { plain "java/lang/String" (some 0) with
  accessFlags := 49
  interfaces := #[2, 3, 4, 5, 6]
  cf := some (fileOf pool7 10 #[.nestMembers #[1103]] #[{ accessFlags := 1, nameIndex := 5, descriptorIndex := 6, attributes := #[] }, { accessFlags := 1, nameIndex := 5, descriptorIndex := 1010, attributes := #[] }, { accessFlags := 1, nameIndex := 543, descriptorIndex := 573, attributes := #[] }, { accessFlags := 2, nameIndex := 5, descriptorIndex := 29, attributes := #[] }] 49 2 #[1106, 1108, 575, 1110, 1112] #[{ accessFlags := 18, nameIndex := 13, descriptorIndex := 14, attributes := #[] }, { accessFlags := 18, nameIndex := 17, descriptorIndex := 18, attributes := #[] }, { accessFlags := 2, nameIndex := 21, descriptorIndex := 22, attributes := #[] }, { accessFlags := 2, nameIndex := 25, descriptorIndex := 26, attributes := #[] }, { accessFlags := 26, nameIndex := 1116, descriptorIndex := 1117, attributes := #[] }, { accessFlags := 24, nameIndex := 40, descriptorIndex := 26, attributes := #[] }, { accessFlags := 26, nameIndex := 1101, descriptorIndex := 1102, attributes := #[] }, { accessFlags := 26, nameIndex := 1121, descriptorIndex := 1122, attributes := #[] }, { accessFlags := 25, nameIndex := 599, descriptorIndex := 600, attributes := #[] }, { accessFlags := 24, nameIndex := 1125, descriptorIndex := 18, attributes := #[] }, { accessFlags := 24, nameIndex := 1127, descriptorIndex := 18, attributes := #[] }])
  fields := #[{ name := "value", type := (.array .byte), accessFlags := 18, slot := 0, constantValue := 0 }, { name := "coder", type := .byte, accessFlags := 18, slot := 1, constantValue := 0 }, { name := "hash", type := .int, accessFlags := 2, slot := 2, constantValue := 0 }, { name := "hashIsZero", type := .boolean, accessFlags := 2, slot := 3, constantValue := 0 }, { name := "serialVersionUID", type := .long, accessFlags := 26, slot := 0, constantValue := 0 }, { name := "COMPACT_STRINGS", type := .boolean, accessFlags := 24, slot := 1, constantValue := 0 }, { name := "serialPersistentFields", type := (.array (.object "java/io/ObjectStreamField")), accessFlags := 26, slot := 2, constantValue := 0 }, { name := "REPL", type := .char, accessFlags := 26, slot := 3, constantValue := 0 }, { name := "CASE_INSENSITIVE_ORDER", type := (.object "java/util/Comparator"), accessFlags := 25, slot := 4, constantValue := 0 }, { name := "LATIN1", type := .byte, accessFlags := 24, slot := 5, constantValue := 0 }, { name := "UTF16", type := .byte, accessFlags := 24, slot := 6, constantValue := 0 }]
  methods := #[k7m0, k7m1, k7m2, k7m3]
  instanceTypes := #[(.array .byte), .byte, .int, .boolean]
  staticTypes := #[.long, .boolean, (.array (.object "java/io/ObjectStreamField")), .char, (.object "java/util/Comparator"), .byte, .byte]
  resolved := Array.replicate 1451 none
  statics := some 0 }

def pool8 : Array CpInfo := pool [(6, .class_ 8), (1, u "java/lang/Object"), (0, u "<init>"), (0, u "()V"), (1, .class_ 14), (1, u "java/lang/StringUTF16"), (31, u "$assertionsDisabled"), (0, u "Z"), (13, u "HI_BYTE_SHIFT"), (0, u "I"), (2, u "LO_BYTE_SHIFT"), (49, .methodref 12 116), (0, .nameAndType 117 118), (0, u "compress"), (0, u "([CI[BII)I"), (3, u "([CII)[B"), (138, u "coderFromArrayLen"), (0, u "([BI)B"), (106, .class_ 371), (1, u "java/lang/StringUTF16$LinesSpliterator"), (58, u "MAX_LENGTH"), (196, .class_ 628), (0, u "java/lang/StringUTF16$CodePointsSpliterator"), (0, .class_ 630), (0, u "java/lang/StringUTF16$CharsSpliterator")] 4

def k8m0 : Method := { name := "<init>", desc := "()V", sig := { parameters := [], returnType := none }, accessFlags := 0, code := none }
def k8c1 : Code := { maxStack := 2, maxLocals := 2, code := jdk_52_method_15_code, exceptionTable := #[], attributes := #[] }
def k8m1 : Method := { name := "coderFromArrayLen", desc := "([BI)B", sig := { parameters := [(.array .byte), .int], returnType := some .byte }, accessFlags := 8, code := some k8c1 }
def k8c2 : Code := { maxStack := 5, maxLocals := 6, code := jdk_52_method_16_code, exceptionTable := #[], attributes := #[] }
def k8m2 : Method := { name := "compress", desc := "([CII)[B", sig := { parameters := [(.array .char), .int, .int], returnType := some (.array .byte) }, accessFlags := 9, code := some k8c2 }
def k8c3 : Code := { maxStack := 3, maxLocals := 7, code := jdk_52_method_21_code, exceptionTable := #[], attributes := #[] }
def k8m3 : Method := { name := "compress", desc := "([CI[BII)I", sig := { parameters := [(.array .char), .int, (.array .byte), .int, .int], returnType := some .int }, accessFlags := 9, code := some k8c3 }
/-- java/lang/StringUTF16 -/
def k8 : Class := { plain "java/lang/StringUTF16" (some 0) with
  accessFlags := 48
  interfaces := #[]
  cf := some (fileOf pool8 12 #[.nestMembers #[627, 629, 369]] #[{ accessFlags := 0, nameIndex := 9, descriptorIndex := 10, attributes := #[] }, { accessFlags := 8, nameIndex := 261, descriptorIndex := 262, attributes := #[] }, { accessFlags := 9, nameIndex := 117, descriptorIndex := 122, attributes := #[] }, { accessFlags := 9, nameIndex := 117, descriptorIndex := 118, attributes := #[] }] 48 6 #[] #[{ accessFlags := 26, nameIndex := 61, descriptorIndex := 62, attributes := #[] }, { accessFlags := 26, nameIndex := 65, descriptorIndex := 62, attributes := #[] }, { accessFlags := 24, nameIndex := 430, descriptorIndex := 62, attributes := #[] }, { accessFlags := 4120, nameIndex := 46, descriptorIndex := 47, attributes := #[] }])
  fields := #[{ name := "HI_BYTE_SHIFT", type := .int, accessFlags := 26, slot := 0, constantValue := 0 }, { name := "LO_BYTE_SHIFT", type := .int, accessFlags := 26, slot := 1, constantValue := 0 }, { name := "MAX_LENGTH", type := .int, accessFlags := 24, slot := 2, constantValue := 0 }, { name := "$assertionsDisabled", type := .boolean, accessFlags := 4120, slot := 3, constantValue := 0 }]
  methods := #[k8m0, k8m1, k8m2, k8m3]
  instanceTypes := #[]
  staticTypes := #[.int, .int, .int, .boolean]
  resolved := Array.replicate 635 none
  statics := none }

def pool9 : Array CpInfo := pool [(2, .class_ 4), (1, u "java/lang/Enum"), (0, u "name"), (0, u "Ljava/lang/String;"), (2, u "ordinal"), (0, u "I"), (1, .class_ 14), (1, u "java/lang/Object"), (4, u "hash"), (86, .class_ 108), (1, u "java/lang/Enum$EnumDesc"), (2, .class_ 112), (0, u "java/lang/constant/Constable"), (0, .class_ 114), (0, u "java/lang/Comparable"), (0, .class_ 116), (0, u "java/io/Serializable")] 87

/-- java/lang/Enum -/
def k9 : Class := { plain "java/lang/Enum" (some 0) with
  accessFlags := 1057
  interfaces := #[5, 3, 2]
  cf := some (fileOf pool9 2 #[.nestMembers #[106]] #[] 1057 12 #[111, 113, 115] #[{ accessFlags := 18, nameIndex := 5, descriptorIndex := 6, attributes := #[] }, { accessFlags := 18, nameIndex := 9, descriptorIndex := 10, attributes := #[] }, { accessFlags := 2, nameIndex := 19, descriptorIndex := 10, attributes := #[] }])
  fields := #[{ name := "name", type := (.object "java/lang/String"), accessFlags := 18, slot := 0, constantValue := 0 }, { name := "ordinal", type := .int, accessFlags := 18, slot := 1, constantValue := 0 }, { name := "hash", type := .int, accessFlags := 2, slot := 2, constantValue := 0 }]
  methods := #[]
  instanceTypes := #[(.object "java/lang/String"), .int, .int]
  staticTypes := #[]
  resolved := Array.replicate 204 none
  statics := none }

def pool10 : Array CpInfo := pool [(1, .class_ 2), (0, u "com/example/syndica/syndica/InterestBasis"), (2, u "DAYS_360"), (0, u "Lcom/example/syndica/syndica/InterestBasis;"), (2, u "DAYS_365"), (2, u "ACTUAL"), (0, .fieldref 1 14), (0, .nameAndType 15 16), (0, u "$VALUES"), (0, u "[Lcom/example/syndica/syndica/InterestBasis;"), (0, .methodref 18 19), (0, .class_ 16), (0, .nameAndType 20 21), (0, u "clone"), (0, u "()Ljava/lang/Object;"), (1, .class_ 25), (1, u "java/lang/Enum"), (6, .fieldref 1 33), (0, .nameAndType 34 35), (0, u "value"), (0, u "Ljava/lang/String;"), (2, u "year"), (0, u "Ljava/util/function/ToIntFunction;"), (0, .methodref 41 42), (0, .class_ 43), (0, .nameAndType 44 45), (0, u "java/util/Optional"), (0, u "empty"), (0, u "()Ljava/util/Optional;"), (0, .methodref 1 47), (0, .nameAndType 48 49), (0, u "values"), (0, u "()[Lcom/example/syndica/syndica/InterestBasis;"), (0, .methodref 51 52), (0, .class_ 53), (0, .nameAndType 54 55), (0, u "java/lang/String"), (0, u "equals"), (0, u "(Ljava/lang/Object;)Z"), (0, .methodref 41 57), (0, .nameAndType 58 59), (0, u "of"), (0, u "(Ljava/lang/Object;)Ljava/util/Optional;"), (75, u "COMMON"), (0, u "J"), (8, u "(Ljava/lang/String;)Ljava/util/Optional;")] 39

def k10c0 : Code := { maxStack := 1, maxLocals := 0, code := prog_38_method_1_code, exceptionTable := #[], attributes := #[] }
def k10m0 : Method := { name := "values", desc := "()[Lcom/example/syndica/syndica/InterestBasis;", sig := { parameters := [], returnType := some (.array (.object "com/example/syndica/syndica/InterestBasis")) }, accessFlags := 9, code := some k10c0 }
def k10c1 : Code := { maxStack := 2, maxLocals := 6, code := prog_38_method_4_code, exceptionTable := #[], attributes := #[] }
def k10m1 : Method := { name := "of", desc := "(Ljava/lang/String;)Ljava/util/Optional;", sig := { parameters := [(.object "java/lang/String")], returnType := some (.object "java/util/Optional") }, accessFlags := 8, code := some k10c1 }
/-- com/example/syndica/syndica/InterestBasis -/
def k10 : Class := { plain "com/example/syndica/syndica/InterestBasis" (some 9) with
  accessFlags := 16432
  interfaces := #[]
  cf := some (fileOf pool10 1 #[] #[{ accessFlags := 9, nameIndex := 48, descriptorIndex := 49, attributes := #[] }, { accessFlags := 8, nameIndex := 58, descriptorIndex := 145, attributes := #[] }] 16432 23 #[] #[{ accessFlags := 16409, nameIndex := 5, descriptorIndex := 6, attributes := #[] }, { accessFlags := 16409, nameIndex := 9, descriptorIndex := 6, attributes := #[] }, { accessFlags := 16409, nameIndex := 12, descriptorIndex := 6, attributes := #[] }, { accessFlags := 26, nameIndex := 135, descriptorIndex := 136, attributes := #[] }, { accessFlags := 18, nameIndex := 34, descriptorIndex := 35, attributes := #[] }, { accessFlags := 18, nameIndex := 38, descriptorIndex := 39, attributes := #[] }, { accessFlags := 4122, nameIndex := 15, descriptorIndex := 16, attributes := #[] }])
  fields := #[{ name := "DAYS_360", type := (.object "com/example/syndica/syndica/InterestBasis"), accessFlags := 16409, slot := 0, constantValue := 0 }, { name := "DAYS_365", type := (.object "com/example/syndica/syndica/InterestBasis"), accessFlags := 16409, slot := 1, constantValue := 0 }, { name := "ACTUAL", type := (.object "com/example/syndica/syndica/InterestBasis"), accessFlags := 16409, slot := 2, constantValue := 0 }, { name := "COMMON", type := .long, accessFlags := 26, slot := 3, constantValue := 0 }, { name := "value", type := (.object "java/lang/String"), accessFlags := 18, slot := 3, constantValue := 0 }, { name := "year", type := (.object "java/util/function/ToIntFunction"), accessFlags := 18, slot := 4, constantValue := 0 }, { name := "$VALUES", type := (.array (.object "com/example/syndica/syndica/InterestBasis")), accessFlags := 4122, slot := 4, constantValue := 0 }]
  methods := #[k10m0, k10m1]
  instanceTypes := #[(.object "java/lang/String"), .int, .int, (.object "java/lang/String"), (.object "java/util/function/ToIntFunction")]
  staticTypes := #[(.object "com/example/syndica/syndica/InterestBasis"), (.object "com/example/syndica/syndica/InterestBasis"), (.object "com/example/syndica/syndica/InterestBasis"), .long, (.array (.object "com/example/syndica/syndica/InterestBasis"))]
  resolved := Array.replicate 185 none
  statics := some 1 }

def pool11 : Array CpInfo := pool [(1, .fieldref 2 3), (0, .class_ 4), (0, .nameAndType 5 6), (0, u "java/util/Optional"), (0, u "EMPTY"), (0, u "Ljava/util/Optional;"), (0, .methodref 8 9), (0, .class_ 10), (0, .nameAndType 11 12), (0, u "java/lang/Object"), (0, u "<init>"), (0, u "()V"), (0, .fieldref 2 14), (0, .nameAndType 15 16), (0, u "value"), (0, u "Ljava/lang/Object;"), (0, .methodref 18 19), (0, .class_ 20), (0, .nameAndType 21 22), (0, u "java/util/Objects"), (0, u "requireNonNull"), (0, u "(Ljava/lang/Object;)Ljava/lang/Object;"), (0, .methodref 2 24), (0, .nameAndType 11 25), (0, u "(Ljava/lang/Object;)V"), (20, u "()Z"), (8, u "empty"), (0, u "()Ljava/util/Optional;"), (8, u "(Ljava/lang/Object;)Ljava/util/Optional;"), (2, u "isPresent"), (4, u "get"), (0, u "()Ljava/lang/Object;"), (7, u "of")] 104

def k11c0 : Code := { maxStack := 1, maxLocals := 1, code := jdk_32_method_1_code, exceptionTable := #[], attributes := #[] }
def k11m0 : Method := { name := "empty", desc := "()Ljava/util/Optional;", sig := { parameters := [], returnType := some (.object "java/util/Optional") }, accessFlags := 9, code := some k11c0 }
def k11c1 : Code := { maxStack := 2, maxLocals := 2, code := jdk_32_method_2_code, exceptionTable := #[], attributes := #[] }
def k11m1 : Method := { name := "<init>", desc := "(Ljava/lang/Object;)V", sig := { parameters := [(.object "java/lang/Object")], returnType := none }, accessFlags := 2, code := some k11c1 }
def k11c2 : Code := { maxStack := 3, maxLocals := 1, code := jdk_32_method_3_code, exceptionTable := #[], attributes := #[] }
def k11m2 : Method := { name := "of", desc := "(Ljava/lang/Object;)Ljava/util/Optional;", sig := { parameters := [(.object "java/lang/Object")], returnType := some (.object "java/util/Optional") }, accessFlags := 9, code := some k11c2 }
def k11c3 : Code := { maxStack := 3, maxLocals := 1, code := jdk_32_method_5_code, exceptionTable := #[], attributes := #[] }
def k11m3 : Method := { name := "get", desc := "()Ljava/lang/Object;", sig := { parameters := [], returnType := some (.object "java/lang/Object") }, accessFlags := 1, code := some k11c3 }
def k11c4 : Code := { maxStack := 1, maxLocals := 1, code := jdk_32_method_6_code, exceptionTable := #[], attributes := #[] }
def k11m4 : Method := { name := "isPresent", desc := "()Z", sig := { parameters := [], returnType := some .boolean }, accessFlags := 1, code := some k11c4 }
/-- java/util/Optional -/
def k11 : Class := { plain "java/util/Optional" (some 0) with
  accessFlags := 49
  interfaces := #[]
  cf := some (fileOf pool11 2 #[] #[{ accessFlags := 9, nameIndex := 55, descriptorIndex := 56, attributes := #[] }, { accessFlags := 2, nameIndex := 11, descriptorIndex := 25, attributes := #[] }, { accessFlags := 9, nameIndex := 82, descriptorIndex := 65, attributes := #[] }, { accessFlags := 1, nameIndex := 73, descriptorIndex := 74, attributes := #[] }, { accessFlags := 1, nameIndex := 68, descriptorIndex := 46, attributes := #[] }] 49 8 #[] #[{ accessFlags := 26, nameIndex := 5, descriptorIndex := 6, attributes := #[] }, { accessFlags := 18, nameIndex := 15, descriptorIndex := 16, attributes := #[] }])
  fields := #[{ name := "EMPTY", type := (.object "java/util/Optional"), accessFlags := 26, slot := 0, constantValue := 0 }, { name := "value", type := (.object "java/lang/Object"), accessFlags := 18, slot := 0, constantValue := 0 }]
  methods := #[k11m0, k11m1, k11m2, k11m3, k11m4]
  instanceTypes := #[(.object "java/lang/Object")]
  staticTypes := #[(.object "java/util/Optional")]
  resolved := Array.replicate 187 none
  statics := some 2 }

def pool12 : Array CpInfo := pool [(1, .class_ 2), (0, u "java/lang/Cloneable"), (0, .class_ 4), (0, u "java/lang/Object")] 2

/-- java/lang/Cloneable -/
def k12 : Class := { plain "java/lang/Cloneable" (some 0) with
  accessFlags := 1537
  interfaces := #[]
  cf := some (fileOf pool12 1 #[] #[] 1537 3 #[] #[])
  fields := #[]
  methods := #[]
  instanceTypes := #[]
  staticTypes := #[]
  resolved := Array.replicate 7 none
  statics := none }

def pool13 : Array CpInfo := pool [(4, .class_ 6), (1, u "java/lang/Object"), (0, u "<init>"), (0, u "()V"), (5, .class_ 16), (1, u "java/lang/StringLatin1"), (104, u "$assertionsDisabled"), (0, u "Z"), (98, .class_ 223), (1, u "java/lang/StringLatin1$LinesSpliterator"), (57, u "equals"), (0, u "([B[B)Z"), (107, .class_ 391), (0, u "java/lang/StringLatin1$CharsSpliterator")] 3

def k13m0 : Method := { name := "<init>", desc := "()V", sig := { parameters := [], returnType := none }, accessFlags := 0, code := none }
def k13c1 : Code := { maxStack := 3, maxLocals := 3, code := jdk_43_method_13_code, exceptionTable := #[], attributes := #[] }
def k13m1 : Method := { name := "equals", desc := "([B[B)Z", sig := { parameters := [(.array .byte), (.array .byte)], returnType := some .boolean }, accessFlags := 9, code := some k13c1 }
/-- java/lang/StringLatin1 -/
def k13 : Class := { plain "java/lang/StringLatin1" (some 0) with
  accessFlags := 48
  interfaces := #[]
  cf := some (fileOf pool13 14 #[.nestMembers #[390, 221]] #[{ accessFlags := 0, nameIndex := 7, descriptorIndex := 8, attributes := #[] }, { accessFlags := 9, nameIndex := 281, descriptorIndex := 282, attributes := #[] }] 48 4 #[] #[{ accessFlags := 4120, nameIndex := 121, descriptorIndex := 122, attributes := #[] }])
  fields := #[{ name := "$assertionsDisabled", type := .boolean, accessFlags := 4120, slot := 0, constantValue := 0 }]
  methods := #[k13m0, k13m1]
  instanceTypes := #[]
  staticTypes := #[.boolean]
  resolved := Array.replicate 395 none
  statics := none }

def pool14 : Array CpInfo := pool [(2, .class_ 4), (1, u "java/lang/Object"), (0, u "<init>"), (0, u "()V"), (35, .class_ 44), (1, u "java/util/Objects"), (0, u "requireNonNull"), (0, u "(Ljava/lang/Object;)Ljava/lang/Object;")] 137

def k14m0 : Method := { name := "<init>", desc := "()V", sig := { parameters := [], returnType := none }, accessFlags := 2, code := none }
def k14c1 : Code := { maxStack := 2, maxLocals := 1, code := jdk_31_method_10_code, exceptionTable := #[], attributes := #[] }
def k14m1 : Method := { name := "requireNonNull", desc := "(Ljava/lang/Object;)Ljava/lang/Object;", sig := { parameters := [(.object "java/lang/Object")], returnType := some (.object "java/lang/Object") }, accessFlags := 9, code := some k14c1 }
/-- java/util/Objects -/
def k14 : Class := { plain "java/util/Objects" (some 0) with
  accessFlags := 49
  interfaces := #[]
  cf := some (fileOf pool14 42 #[] #[{ accessFlags := 2, nameIndex := 5, descriptorIndex := 6, attributes := #[] }, { accessFlags := 9, nameIndex := 45, descriptorIndex := 46, attributes := #[] }] 49 2 #[] #[])
  fields := #[]
  methods := #[k14m0, k14m1]
  instanceTypes := #[]
  staticTypes := #[]
  resolved := Array.replicate 184 none
  statics := none }

def pool15 : Array CpInfo := pool [(2, .class_ 4), (1, u "java/lang/Object"), (0, u "<init>"), (0, u "()V"), (17, .class_ 26), (1, u "jdk/internal/util/Preconditions"), (28, .class_ 56), (0, u "jdk/internal/util/Preconditions$4"), (57, .class_ 115), (0, u "jdk/internal/util/Preconditions$1"), (7, u "SIOOBE_FORMATTER"), (0, u "Ljava/util/function/BiFunction;"), (0, .class_ 126), (0, u "jdk/internal/util/Preconditions$2"), (3, u "AIOOBE_FORMATTER"), (0, .class_ 132), (0, u "jdk/internal/util/Preconditions$3"), (3, u "IOOBE_FORMATTER")] 57

def k15m0 : Method := { name := "<init>", desc := "()V", sig := { parameters := [], returnType := none }, accessFlags := 1, code := none }
/-- jdk/internal/util/Preconditions -/
def k15 : Class := { plain "jdk/internal/util/Preconditions" (some 0) with
  accessFlags := 33
  interfaces := #[]
  cf := some (fileOf pool15 24 #[.nestMembers #[55, 131, 125, 114]] #[{ accessFlags := 1, nameIndex := 5, descriptorIndex := 6, attributes := #[] }] 33 2 #[] #[{ accessFlags := 25, nameIndex := 123, descriptorIndex := 124, attributes := #[] }, { accessFlags := 25, nameIndex := 130, descriptorIndex := 124, attributes := #[] }, { accessFlags := 25, nameIndex := 136, descriptorIndex := 124, attributes := #[] }])
  fields := #[{ name := "SIOOBE_FORMATTER", type := (.object "java/util/function/BiFunction"), accessFlags := 25, slot := 0, constantValue := 0 }, { name := "AIOOBE_FORMATTER", type := (.object "java/util/function/BiFunction"), accessFlags := 25, slot := 1, constantValue := 0 }, { name := "IOOBE_FORMATTER", type := (.object "java/util/function/BiFunction"), accessFlags := 25, slot := 2, constantValue := 0 }]
  methods := #[k15m0]
  instanceTypes := #[]
  staticTypes := #[(.object "java/util/function/BiFunction"), (.object "java/util/function/BiFunction"), (.object "java/util/function/BiFunction")]
  resolved := Array.replicate 194 none
  statics := some 3 }

def pool16 : Array CpInfo := pool [(9, u "<init>"), (6, .class_ 18), (1, u "java/lang/Object"), (0, u "()V"), (1, .class_ 23), (1, u "jdk/internal/util/ArraysSupport"), (0, u "LOG2_ARRAY_LONG_INDEX_SCALE"), (0, u "I"), (2, u "U"), (0, u "Ljdk/internal/misc/Unsafe;"), (8, u "BIG_ENDIAN"), (0, u "Z"), (8, u "LOG2_BYTE_BIT_SIZE"), (4, u "LOG2_ARRAY_INT_INDEX_SCALE"), (54, u "JLA"), (0, u "Ljdk/internal/access/JavaLangAccess;"), (11, u "LOG2_ARRAY_BOOLEAN_INDEX_SCALE"), (9, u "LOG2_ARRAY_BYTE_INDEX_SCALE"), (5, u "LOG2_ARRAY_CHAR_INDEX_SCALE"), (5, u "LOG2_ARRAY_SHORT_INDEX_SCALE"), (18, u "LOG2_ARRAY_FLOAT_INDEX_SCALE"), (24, u "LOG2_ARRAY_DOUBLE_INDEX_SCALE"), (89, u "T_BOOLEAN"), (2, u "T_CHAR"), (1, u "T_FLOAT"), (1, u "T_DOUBLE"), (1, u "T_BYTE"), (1, u "T_SHORT"), (1, u "T_INT"), (1, u "T_LONG"), (1, u "SOFT_MAX_ARRAY_LENGTH")] 83

def k16m0 : Method := { name := "<init>", desc := "()V", sig := { parameters := [], returnType := none }, accessFlags := 2, code := none }
/-- jdk/internal/util/ArraysSupport -/
def k16 : Class := { plain "jdk/internal/util/ArraysSupport" (some 0) with
  accessFlags := 33
  interfaces := #[]
  cf := some (fileOf pool16 21 #[] #[{ accessFlags := 2, nameIndex := 9, descriptorIndex := 19, attributes := #[] }] 33 16 #[] #[{ accessFlags := 24, nameIndex := 28, descriptorIndex := 29, attributes := #[] }, { accessFlags := 26, nameIndex := 38, descriptorIndex := 39, attributes := #[] }, { accessFlags := 25, nameIndex := 121, descriptorIndex := 25, attributes := #[] }, { accessFlags := 25, nameIndex := 131, descriptorIndex := 25, attributes := #[] }, { accessFlags := 25, nameIndex := 137, descriptorIndex := 25, attributes := #[] }, { accessFlags := 25, nameIndex := 143, descriptorIndex := 25, attributes := #[] }, { accessFlags := 25, nameIndex := 53, descriptorIndex := 25, attributes := #[] }, { accessFlags := 25, nameIndex := 24, descriptorIndex := 25, attributes := #[] }, { accessFlags := 25, nameIndex := 162, descriptorIndex := 25, attributes := #[] }, { accessFlags := 25, nameIndex := 187, descriptorIndex := 25, attributes := #[] }, { accessFlags := 26, nameIndex := 48, descriptorIndex := 25, attributes := #[] }, { accessFlags := 25, nameIndex := 277, descriptorIndex := 25, attributes := #[] }, { accessFlags := 25, nameIndex := 280, descriptorIndex := 25, attributes := #[] }, { accessFlags := 25, nameIndex := 282, descriptorIndex := 25, attributes := #[] }, { accessFlags := 25, nameIndex := 284, descriptorIndex := 25, attributes := #[] }, { accessFlags := 25, nameIndex := 286, descriptorIndex := 25, attributes := #[] }, { accessFlags := 25, nameIndex := 288, descriptorIndex := 25, attributes := #[] }, { accessFlags := 25, nameIndex := 290, descriptorIndex := 25, attributes := #[] }, { accessFlags := 25, nameIndex := 292, descriptorIndex := 25, attributes := #[] }, { accessFlags := 26, nameIndex := 108, descriptorIndex := 109, attributes := #[] }, { accessFlags := 25, nameIndex := 294, descriptorIndex := 25, attributes := #[] }])
  fields := #[{ name := "U", type := (.object "jdk/internal/misc/Unsafe"), accessFlags := 24, slot := 0, constantValue := 0 }, { name := "BIG_ENDIAN", type := .boolean, accessFlags := 26, slot := 1, constantValue := 0 }, { name := "LOG2_ARRAY_BOOLEAN_INDEX_SCALE", type := .int, accessFlags := 25, slot := 2, constantValue := 0 }, { name := "LOG2_ARRAY_BYTE_INDEX_SCALE", type := .int, accessFlags := 25, slot := 3, constantValue := 0 }, { name := "LOG2_ARRAY_CHAR_INDEX_SCALE", type := .int, accessFlags := 25, slot := 4, constantValue := 0 }, { name := "LOG2_ARRAY_SHORT_INDEX_SCALE", type := .int, accessFlags := 25, slot := 5, constantValue := 0 }, { name := "LOG2_ARRAY_INT_INDEX_SCALE", type := .int, accessFlags := 25, slot := 6, constantValue := 0 }, { name := "LOG2_ARRAY_LONG_INDEX_SCALE", type := .int, accessFlags := 25, slot := 7, constantValue := 0 }, { name := "LOG2_ARRAY_FLOAT_INDEX_SCALE", type := .int, accessFlags := 25, slot := 8, constantValue := 0 }, { name := "LOG2_ARRAY_DOUBLE_INDEX_SCALE", type := .int, accessFlags := 25, slot := 9, constantValue := 0 }, { name := "LOG2_BYTE_BIT_SIZE", type := .int, accessFlags := 26, slot := 10, constantValue := 0 }, { name := "T_BOOLEAN", type := .int, accessFlags := 25, slot := 11, constantValue := 0 }, { name := "T_CHAR", type := .int, accessFlags := 25, slot := 12, constantValue := 0 }, { name := "T_FLOAT", type := .int, accessFlags := 25, slot := 13, constantValue := 0 }, { name := "T_DOUBLE", type := .int, accessFlags := 25, slot := 14, constantValue := 0 }, { name := "T_BYTE", type := .int, accessFlags := 25, slot := 15, constantValue := 0 }, { name := "T_SHORT", type := .int, accessFlags := 25, slot := 16, constantValue := 0 }, { name := "T_INT", type := .int, accessFlags := 25, slot := 17, constantValue := 0 }, { name := "T_LONG", type := .int, accessFlags := 25, slot := 18, constantValue := 0 }, { name := "JLA", type := (.object "jdk/internal/access/JavaLangAccess"), accessFlags := 26, slot := 19, constantValue := 0 }, { name := "SOFT_MAX_ARRAY_LENGTH", type := .int, accessFlags := 25, slot := 20, constantValue := 0 }]
  methods := #[k16m0]
  instanceTypes := #[]
  staticTypes := #[(.object "jdk/internal/misc/Unsafe"), .boolean, .int, .int, .int, .int, .int, .int, .int, .int, .int, .int, .int, .int, .int, .int, .int, .int, .int, (.object "jdk/internal/access/JavaLangAccess"), .int]
  resolved := Array.replicate 378 none
  statics := none }

/-- the primitive byte -/
def k17 : Class := { plain "byte" none with kind := .primitive 'B', accessFlags := 0x411 }
/-- [B -/
def k18 : Class := { plain "[B" (some 0) with kind := .array 17 .byte, interfaces := #[12, 2], accessFlags := 1041 }

/-- the primitive char -/
def k19 : Class := { plain "char" none with kind := .primitive 'C', accessFlags := 0x411 }
/-- [C -/
def k20 : Class := { plain "[C" (some 0) with kind := .array 19 .char, interfaces := #[12, 2], accessFlags := 1041 }

/-- the primitive int -/
def k21 : Class := { plain "int" none with kind := .primitive 'I', accessFlags := 0x411 }
/-- [I -/
def k22 : Class := { plain "[I" (some 0) with kind := .array 21 .int, interfaces := #[12, 2], accessFlags := 1041 }

/-- [Lcom/example/syndica/syndica/InterestBasis; -/
def k23 : Class := { plain "[Lcom/example/syndica/syndica/InterestBasis;" (some 0) with kind := .array 10 (.object "com/example/syndica/syndica/InterestBasis"), interfaces := #[12, 2], accessFlags := 1041 }

def heap : Heap := #[{ cls := 7, slots := #[.long 0, .int 1, .null, .int 0, .null, .int 0, .int 0], vm := .statics 7 },
  { cls := 10, slots := #[.ref 5, .ref 6, .ref 7, .long 0, .ref 4], vm := .statics 10 },
  { cls := 11, slots := #[.ref 14], vm := .statics 11 },
  { cls := 15, slots := #[.null, .null, .null], vm := .statics 15 },
  { cls := 23, slots := #[.ref 5, .ref 6, .ref 7], vm := .none },
  { cls := 10, slots := #[.null, .int 0, .int 0, .ref 8, .null], vm := .none },
  { cls := 10, slots := #[.null, .int 1, .int 0, .ref 9, .null], vm := .none },
  { cls := 10, slots := #[.null, .int 2, .int 0, .ref 10, .null], vm := .none },
  { cls := 7, slots := #[.ref 11, .int 0, .int 0, .int 0], vm := .none },
  { cls := 7, slots := #[.ref 12, .int 0, .int 0, .int 0], vm := .none },
  { cls := 7, slots := #[.ref 13, .int 0, .int 0, .int 0], vm := .none },
  { cls := 18, slots := #[.int 51, .int 54, .int 48], vm := .none },
  { cls := 18, slots := #[.int 51, .int 54, .int 53], vm := .none },
  { cls := 18, slots := #[.int 51, .int 54, .int 53, .int 47, .int 51, .int 54, .int 54], vm := .none },
  { cls := 11, slots := #[.null], vm := .none }]
def classes : Array Class := #[k0, k1, k2, k3, k4, k5, k6, k7, k8, k9, k10, k11, k12, k13, k14, k15, k16, k17, k18, k19, k20, k21, k22, k23]
def interned : List (Array UInt16 × Addr) := []
def slotsUsed : Nat := 60
def theMethod : MethodId := ⟨1, 2⟩
def args0 : Array Value := #[.int 5, .int 7, .long 3]
def aboutOver (below : List Frame) : State where
  vm := { classes := classes, interned := interned.toArray }
  heap := heap
  slotsUsed := slotsUsed
  threads := #[{ frames := .invoking theMethod args0 :: below }]
def below0 : List Frame := [.native { method := ⟨0, 0⟩, args := #[] }]
def about1 : State := aboutOver below0
def p0 : Program := .bare "" "" ""
def e0 : Env := launch0.env 0 0 0
theorem w_frames : about1.frames = Frame.invoking theMethod args0 :: below0 := rfl
set_option maxRecDepth 65536 in
theorem w_args : argsFit about1.vm theMethod args0 = true := by decide +kernel
set_option maxRecDepth 65536 in
theorem w_heap : heapFits about1 = true := by decide +kernel
set_option maxRecDepth 65536 in
theorem w_runnable : about1.curStatus? = some .runnable := by decide +kernel
set_option maxRecDepth 65536 in
theorem w_alone : about1.alone = true := by decide +kernel
set_option maxRecDepth 65536 in
theorem w_named : about1.methodNamed? x = some theMethod := by decide +kernel
set_option maxRecDepth 65536 in
theorem w_hears : about1.hears theMethod below0 = true := by decide +kernel
set_option maxRecDepth 65536 in
theorem w_ripe : about1.ripe theMethod args0 below0 = true := by decide +kernel
theorem w_running : about1.status = .running := rfl
set_option maxRecDepth 65536 in
theorem w_room : about1.hasRoom e0.platform room_1 = true :=
  launch0.hasRoom_least _ room_1 (by decide +kernel) (by decide +kernel) (by decide +kernel) (by decide +kernel) (by decide +kernel) (by decide +kernel)
theorem allAtoms_all (ts : List Jvm.Cond) (a : Array Jvm.Value) (st : Jvm.State) : (allAtoms ts).before a st = ts.all (fun c => c.before a st) := by
  induction ts with
  | nil => rfl
  | cons c t ih =>
    show (Jvm.Cond.and c (allAtoms t)).before a st = _
    rw [Jvm.Cond.before_and, ih, List.all_cons]
def words1 : List Jvm.Cond := Jvm.Cond.code x code maxLocals ret :: tables_1
/-- a 'code' word, met by the world's own term for the bytes: nothing is compared byte by byte -/
theorem code_word {y : MethodName} {bytes : ByteArray} {mx : Nat} {rt : Option FieldType} {a : Array Value} {s : State} {m : MethodId} {meth : Method} {c : Code} (h1 : s.methodNamed? y = some m) (h2 : s.vm.method? m = some meth) (h3 : meth.code = some c) (h4 : c.code = bytes)
    (h5 : (c.maxLocals == mx && c.exceptionTable.isEmpty && decide (c.maxStack ≤ mostOperands) && decide (meth.sig.returnType = rt) && !meth.locks && decide (parseMethodDescriptor y.desc = some meth.sig)) = true) : (Jvm.Cond.code y bytes mx rt).before a s = true := by
  simp only [Bool.and_eq_true, beq_iff_eq, Bool.not_eq_true', decide_eq_true_eq] at h5
  obtain ⟨⟨⟨⟨⟨g1, g2⟩, g3⟩, g4⟩, g5⟩, g6⟩ := h5
  simp [Cond.before, Cond.holds, Cond.value, h1, h2, h3, h4, g1, g2, g3, g4, g5, g6]
def isCode : Jvm.Cond → Bool
  | .code _ _ _ _ => true
  | _ => false
theorem all_split {L : List Jvm.Cond} {P : Jvm.Cond → Bool} (h1 : L.all (fun c => isCode c || P c) = true) (h2 : ∀ c ∈ L.filter isCode, P c = true) : L.all P = true := by
  refine List.all_eq_true.mpr fun c hc => ?_
  have h := List.all_eq_true.mp h1 c hc
  rcases Bool.eq_false_or_eq_true (isCode c) with hi | hi
  · exact h2 c (List.mem_filter.mpr ⟨hc, hi⟩)
  · simpa [hi] using h
set_option maxRecDepth 65536 in
theorem w_c0 : (Jvm.Cond.code x code maxLocals ret).before args0 about1 = true := code_word (m := ⟨1, 2⟩) (meth := k1m2) (c := k1c2) (by decide +kernel) rfl rfl rfl (by decide +kernel)
set_option maxRecDepth 65536 in
theorem w_c1 : (Jvm.Cond.code ({ cls := "com/example/syndica/syndica/InterestBasisOfPinLaw", name := "ch", desc := "(IIJC)C" } : Jvm.MethodName) method_2_code (5 : Nat) (Option.some Jvm.ClassFile.FieldType.char)).before args0 about1 = true := code_word (m := ⟨1, 1⟩) (meth := k1m1) (c := k1c1) (by decide +kernel) rfl rfl rfl (by decide +kernel)
set_option maxRecDepth 65536 in
theorem w_c2 : (Jvm.Cond.code ({ cls := "java/lang/String", name := "<init>", desc := "([C)V" } : Jvm.MethodName) jdk_42_method_3_code (2 : Nat) (Option.none : Option Jvm.ClassFile.FieldType)).before args0 about1 = true := code_word (m := ⟨7, 1⟩) (meth := k7m1) (c := k7c1) (by decide +kernel) rfl rfl rfl (by decide +kernel)
set_option maxRecDepth 65536 in
theorem w_c3 : (Jvm.Cond.code ({ cls := "java/lang/String", name := "<init>", desc := "([CIILjava/lang/Void;)V" } : Jvm.MethodName) jdk_42_method_149_code (6 : Nat) (Option.none : Option Jvm.ClassFile.FieldType)).before args0 about1 = true := code_word (m := ⟨7, 3⟩) (meth := k7m3) (c := k7c3) (by decide +kernel) rfl rfl rfl (by decide +kernel)
set_option maxRecDepth 65536 in
theorem w_c4 : (Jvm.Cond.code ({ cls := "java/lang/Object", name := "<init>", desc := "()V" } : Jvm.MethodName) object_method_1_code (1 : Nat) (Option.none : Option Jvm.ClassFile.FieldType)).before args0 about1 = true := code_word (m := ⟨0, 0⟩) (meth := k0m0) (c := k0c0) (by decide +kernel) rfl rfl rfl (by decide +kernel)
set_option maxRecDepth 65536 in
theorem w_c5 : (Jvm.Cond.code ({ cls := "java/lang/StringUTF16", name := "compress", desc := "([CII)[B" } : Jvm.MethodName) jdk_52_method_16_code (6 : Nat) (Option.some (Jvm.ClassFile.FieldType.array Jvm.ClassFile.FieldType.byte))).before args0 about1 = true := code_word (m := ⟨8, 2⟩) (meth := k8m2) (c := k8c2) (by decide +kernel) rfl rfl rfl (by decide +kernel)
set_option maxRecDepth 65536 in
theorem w_c6 : (Jvm.Cond.code ({ cls := "java/lang/StringUTF16", name := "compress", desc := "([CI[BII)I" } : Jvm.MethodName) jdk_52_method_21_code (7 : Nat) (Option.some Jvm.ClassFile.FieldType.int)).before args0 about1 = true := code_word (m := ⟨8, 3⟩) (meth := k8m3) (c := k8c3) (by decide +kernel) rfl rfl rfl (by decide +kernel)
set_option maxRecDepth 65536 in
theorem w_c7 : (Jvm.Cond.code ({ cls := "java/lang/StringUTF16", name := "coderFromArrayLen", desc := "([BI)B" } : Jvm.MethodName) jdk_52_method_15_code (2 : Nat) (Option.some Jvm.ClassFile.FieldType.byte)).before args0 about1 = true := code_word (m := ⟨8, 1⟩) (meth := k8m1) (c := k8c1) (by decide +kernel) rfl rfl rfl (by decide +kernel)
set_option maxRecDepth 65536 in
theorem w_c8 : (Jvm.Cond.code ({ cls := "com/example/syndica/syndica/InterestBasis", name := "of", desc := "(Ljava/lang/String;)Ljava/util/Optional;" } : Jvm.MethodName) prog_38_method_4_code (6 : Nat) (Option.some (Jvm.ClassFile.FieldType.object "java/util/Optional"))).before args0 about1 = true := code_word (m := ⟨10, 1⟩) (meth := k10m1) (c := k10c1) (by decide +kernel) rfl rfl rfl (by decide +kernel)
set_option maxRecDepth 65536 in
theorem w_c9 : (Jvm.Cond.code ({ cls := "java/util/Optional", name := "empty", desc := "()Ljava/util/Optional;" } : Jvm.MethodName) jdk_32_method_1_code (1 : Nat) (Option.some (Jvm.ClassFile.FieldType.object "java/util/Optional"))).before args0 about1 = true := code_word (m := ⟨11, 0⟩) (meth := k11m0) (c := k11c0) (by decide +kernel) rfl rfl rfl (by decide +kernel)
set_option maxRecDepth 65536 in
theorem w_c10 : (Jvm.Cond.code ({ cls := "com/example/syndica/syndica/InterestBasis", name := "values", desc := "()[Lcom/example/syndica/syndica/InterestBasis;" } : Jvm.MethodName) prog_38_method_1_code (0 : Nat) (Option.some (Jvm.ClassFile.FieldType.array (Jvm.ClassFile.FieldType.object "com/example/syndica/syndica/InterestBasis")))).before args0 about1 = true := code_word (m := ⟨10, 0⟩) (meth := k10m0) (c := k10c0) (by decide +kernel) rfl rfl rfl (by decide +kernel)
set_option maxRecDepth 65536 in
theorem w_c11 : (Jvm.Cond.code ({ cls := "java/lang/String", name := "equals", desc := "(Ljava/lang/Object;)Z" } : Jvm.MethodName) jdk_42_method_66_code (3 : Nat) (Option.some Jvm.ClassFile.FieldType.boolean)).before args0 about1 = true := code_word (m := ⟨7, 2⟩) (meth := k7m2) (c := k7c2) (by decide +kernel) rfl rfl rfl (by decide +kernel)
set_option maxRecDepth 65536 in
theorem w_c12 : (Jvm.Cond.code ({ cls := "java/lang/StringLatin1", name := "equals", desc := "([B[B)Z" } : Jvm.MethodName) jdk_43_method_13_code (3 : Nat) (Option.some Jvm.ClassFile.FieldType.boolean)).before args0 about1 = true := code_word (m := ⟨13, 1⟩) (meth := k13m1) (c := k13c1) (by decide +kernel) rfl rfl rfl (by decide +kernel)
set_option maxRecDepth 65536 in
theorem w_c13 : (Jvm.Cond.code ({ cls := "java/util/Optional", name := "of", desc := "(Ljava/lang/Object;)Ljava/util/Optional;" } : Jvm.MethodName) jdk_32_method_3_code (1 : Nat) (Option.some (Jvm.ClassFile.FieldType.object "java/util/Optional"))).before args0 about1 = true := code_word (m := ⟨11, 2⟩) (meth := k11m2) (c := k11c2) (by decide +kernel) rfl rfl rfl (by decide +kernel)
set_option maxRecDepth 65536 in
theorem w_c14 : (Jvm.Cond.code ({ cls := "java/util/Objects", name := "requireNonNull", desc := "(Ljava/lang/Object;)Ljava/lang/Object;" } : Jvm.MethodName) jdk_31_method_10_code (1 : Nat) (Option.some (Jvm.ClassFile.FieldType.object "java/lang/Object"))).before args0 about1 = true := code_word (m := ⟨14, 1⟩) (meth := k14m1) (c := k14c1) (by decide +kernel) rfl rfl rfl (by decide +kernel)
set_option maxRecDepth 65536 in
theorem w_c15 : (Jvm.Cond.code ({ cls := "java/util/Optional", name := "<init>", desc := "(Ljava/lang/Object;)V" } : Jvm.MethodName) jdk_32_method_2_code (2 : Nat) (Option.none : Option Jvm.ClassFile.FieldType)).before args0 about1 = true := code_word (m := ⟨11, 1⟩) (meth := k11m1) (c := k11c1) (by decide +kernel) rfl rfl rfl (by decide +kernel)
set_option maxRecDepth 65536 in
theorem w_c16 : (Jvm.Cond.code ({ cls := "java/util/Optional", name := "isPresent", desc := "()Z" } : Jvm.MethodName) jdk_32_method_6_code (1 : Nat) (Option.some Jvm.ClassFile.FieldType.boolean)).before args0 about1 = true := code_word (m := ⟨11, 4⟩) (meth := k11m4) (c := k11c4) (by decide +kernel) rfl rfl rfl (by decide +kernel)
set_option maxRecDepth 65536 in
theorem w_c17 : (Jvm.Cond.code ({ cls := "java/util/Optional", name := "get", desc := "()Ljava/lang/Object;" } : Jvm.MethodName) jdk_32_method_5_code (1 : Nat) (Option.some (Jvm.ClassFile.FieldType.object "java/lang/Object"))).before args0 about1 = true := code_word (m := ⟨11, 3⟩) (meth := k11m3) (c := k11c3) (by decide +kernel) rfl rfl rfl (by decide +kernel)
def codes1 : List Jvm.Cond := [Jvm.Cond.code x code maxLocals ret, Jvm.Cond.code ({ cls := "com/example/syndica/syndica/InterestBasisOfPinLaw", name := "ch", desc := "(IIJC)C" } : Jvm.MethodName) method_2_code (5 : Nat) (Option.some Jvm.ClassFile.FieldType.char), Jvm.Cond.code ({ cls := "java/lang/String", name := "<init>", desc := "([C)V" } : Jvm.MethodName) jdk_42_method_3_code (2 : Nat) (Option.none : Option Jvm.ClassFile.FieldType), Jvm.Cond.code ({ cls := "java/lang/String", name := "<init>", desc := "([CIILjava/lang/Void;)V" } : Jvm.MethodName) jdk_42_method_149_code (6 : Nat) (Option.none : Option Jvm.ClassFile.FieldType), Jvm.Cond.code ({ cls := "java/lang/Object", name := "<init>", desc := "()V" } : Jvm.MethodName) object_method_1_code (1 : Nat) (Option.none : Option Jvm.ClassFile.FieldType), Jvm.Cond.code ({ cls := "java/lang/StringUTF16", name := "compress", desc := "([CII)[B" } : Jvm.MethodName) jdk_52_method_16_code (6 : Nat) (Option.some (Jvm.ClassFile.FieldType.array Jvm.ClassFile.FieldType.byte)), Jvm.Cond.code ({ cls := "java/lang/StringUTF16", name := "compress", desc := "([CI[BII)I" } : Jvm.MethodName) jdk_52_method_21_code (7 : Nat) (Option.some Jvm.ClassFile.FieldType.int), Jvm.Cond.code ({ cls := "java/lang/StringUTF16", name := "coderFromArrayLen", desc := "([BI)B" } : Jvm.MethodName) jdk_52_method_15_code (2 : Nat) (Option.some Jvm.ClassFile.FieldType.byte), Jvm.Cond.code ({ cls := "com/example/syndica/syndica/InterestBasis", name := "of", desc := "(Ljava/lang/String;)Ljava/util/Optional;" } : Jvm.MethodName) prog_38_method_4_code (6 : Nat) (Option.some (Jvm.ClassFile.FieldType.object "java/util/Optional")), Jvm.Cond.code ({ cls := "java/util/Optional", name := "empty", desc := "()Ljava/util/Optional;" } : Jvm.MethodName) jdk_32_method_1_code (1 : Nat) (Option.some (Jvm.ClassFile.FieldType.object "java/util/Optional")), Jvm.Cond.code ({ cls := "com/example/syndica/syndica/InterestBasis", name := "values", desc := "()[Lcom/example/syndica/syndica/InterestBasis;" } : Jvm.MethodName) prog_38_method_1_code (0 : Nat) (Option.some (Jvm.ClassFile.FieldType.array (Jvm.ClassFile.FieldType.object "com/example/syndica/syndica/InterestBasis"))), Jvm.Cond.code ({ cls := "java/lang/String", name := "equals", desc := "(Ljava/lang/Object;)Z" } : Jvm.MethodName) jdk_42_method_66_code (3 : Nat) (Option.some Jvm.ClassFile.FieldType.boolean), Jvm.Cond.code ({ cls := "java/lang/StringLatin1", name := "equals", desc := "([B[B)Z" } : Jvm.MethodName) jdk_43_method_13_code (3 : Nat) (Option.some Jvm.ClassFile.FieldType.boolean), Jvm.Cond.code ({ cls := "java/util/Optional", name := "of", desc := "(Ljava/lang/Object;)Ljava/util/Optional;" } : Jvm.MethodName) jdk_32_method_3_code (1 : Nat) (Option.some (Jvm.ClassFile.FieldType.object "java/util/Optional")), Jvm.Cond.code ({ cls := "java/util/Objects", name := "requireNonNull", desc := "(Ljava/lang/Object;)Ljava/lang/Object;" } : Jvm.MethodName) jdk_31_method_10_code (1 : Nat) (Option.some (Jvm.ClassFile.FieldType.object "java/lang/Object")), Jvm.Cond.code ({ cls := "java/util/Optional", name := "<init>", desc := "(Ljava/lang/Object;)V" } : Jvm.MethodName) jdk_32_method_2_code (2 : Nat) (Option.none : Option Jvm.ClassFile.FieldType), Jvm.Cond.code ({ cls := "java/util/Optional", name := "isPresent", desc := "()Z" } : Jvm.MethodName) jdk_32_method_6_code (1 : Nat) (Option.some Jvm.ClassFile.FieldType.boolean), Jvm.Cond.code ({ cls := "java/util/Optional", name := "get", desc := "()Ljava/lang/Object;" } : Jvm.MethodName) jdk_32_method_5_code (1 : Nat) (Option.some (Jvm.ClassFile.FieldType.object "java/lang/Object"))]
set_option maxRecDepth 65536 in
theorem codes_eq : words1.filter isCode = codes1 := rfl
theorem w_codes : ∀ c ∈ words1.filter isCode, c.before args0 about1 = true := by
  rw [codes_eq]
  intro c hc
  simp only [codes1, List.mem_cons, List.not_mem_nil, or_false] at hc
  rcases hc with rfl | rfl | rfl | rfl | rfl | rfl | rfl | rfl | rfl | rfl | rfl | rfl | rfl | rfl | rfl | rfl | rfl | rfl
  · exact w_c0
  · exact w_c1
  · exact w_c2
  · exact w_c3
  · exact w_c4
  · exact w_c5
  · exact w_c6
  · exact w_c7
  · exact w_c8
  · exact w_c9
  · exact w_c10
  · exact w_c11
  · exact w_c12
  · exact w_c13
  · exact w_c14
  · exact w_c15
  · exact w_c16
  · exact w_c17
set_option maxRecDepth 65536 in
theorem w_t1 : (words1.take 24).all (fun c => isCode c || c.before args0 about1) = true := by decide +kernel
set_option maxRecDepth 65536 in
theorem w_t2 : ((words1.drop 24).take 24).all (fun c => isCode c || c.before args0 about1) = true := by decide +kernel
set_option maxRecDepth 65536 in
theorem w_t3 : (((words1.drop 24).drop 24).take 24).all (fun c => isCode c || c.before args0 about1) = true := by decide +kernel
set_option maxRecDepth 65536 in
theorem w_t4 : ((((words1.drop 24).drop 24).drop 24).take 24).all (fun c => isCode c || c.before args0 about1) = true := by decide +kernel
set_option maxRecDepth 65536 in
theorem w_t5 : ((((words1.drop 24).drop 24).drop 24).drop 24).all (fun c => isCode c || c.before args0 about1) = true := by decide +kernel
theorem w_tables : (allAtoms (Jvm.Cond.code x code maxLocals ret :: tables_1)).before args0 about1 = true := by
  rw [allAtoms_all]
  show words1.all (fun c => c.before args0 about1) = true
  refine all_split ?_ w_codes
  rw [← List.take_append_drop 24 words1, List.all_append, w_t1, ← List.take_append_drop 24 (words1.drop 24), List.all_append, w_t2, ← List.take_append_drop 24 ((words1.drop 24).drop 24), List.all_append, w_t3, ← List.take_append_drop 24 (((words1.drop 24).drop 24).drop 24), List.all_append, w_t4, w_t5]
  rfl
set_option maxRecDepth 65536 in
theorem w_rest : rest_1_c.before args0 about1 = true := by decide +kernel
set_option maxRecDepth 65536 in
theorem w_case : (Jvm.Cond.and given_1 narrow_1).before args0 about1 = true := by decide +kernel
set_option maxRecDepth 65536 in
theorem w_consts : constsHeld consts_1 about1 := Jvm.Lit.constsHeldB_iff.mp (by decide +kernel)
theorem w_applies : (headSpec (Jvm.Cond.code x code maxLocals ret :: tables_1) room_1).applies x e0.platform about1 = true :=
  (Spec.applies_iff w_frames).mpr ⟨w_running, w_runnable, w_alone, w_named, w_hears, w_ripe, w_room, w_tables⟩
theorem atStart : AtStart classFile x code maxLocals ret World_1 tables_1 room_1 Calls_1 rest_1 Pre_1 launch0 p0 e0 about1 theMethod args0 below0 :=
  ⟨lists_1, trivial, launch0.admits_env _ _ _, launch0.least_env, fairChoices_fair.cas, fairChoices_fair.clock, w_frames, w_args, w_heap, w_applies, ⟨w_consts, trivial⟩, w_rest, w_case⟩
end start1
theorem witness_1 : WitnessClaimed_1 := ⟨start1.p0, start1.e0, start1.about1, start1.theMethod, start1.args0, start1.below0, start1.atStart⟩
end Jvm.Pilot.@@N@@

import JvmDerived
import JvmDerived.Pilot.@@N@@Statement
import JvmDerived.Pilot.@@N@@Code
set_option linter.unusedVariables false
set_option linter.unusedSimpArgs false
namespace Jvm.RoadKit
open Sem ClassFile Op Lib Jvm.Stand Jvm.Free Jvm.LawKit
section New
variable {p : Program} {l : Launch} {e : Env} {R : Room} {s : State} {m : MethodId} {args : Array Value} {below : List Frame} {meth : Method} {c : Code} {T : State} {locs : List Loc} {cells slots : Nat}
theorem retI (X : Stand p l e R s m args below meth c T locs cells slots) (hx : p.tables.exec = Jvm.exec) {pc : Nat} {Ls : Array Slot} {z : Int32} {rest : List Value} (hret : meth.sig.returnType = some .int) (hd : decode c.code pc = .ok (.ireturn, 1)) {fs : List Frame}
    (hl : ∀ (f : JFrame) (acts : List Action), f.method = m → f.locked = none → f.entered = [] → (doReturn e (T.setTop f) acts (some (.int z))).1 = T.setFrames fs) : Steps p.tables e below (T.setTop (mkF m pc Ls (.int z :: rest))) (T.setFrames fs) :=
  retOut X hx hret rfl (Or.inl ⟨rfl, Or.inl rfl, _, rfl⟩) hd hl
end New
end Jvm.RoadKit
namespace Jvm.Own
open Sem ClassFile Op Lib Jvm.Stand Jvm.Free Jvm.LawKit Jvm.RoadKit
/-- from here the run comes to a state that meets F -/
def Go (tb : Tables) (e : Env) (below : List Frame) (F : State → Prop) (T : State) (g : JFrame) : Prop := ∃ t, Steps tb e below (T.setTop g) t ∧ F t
section Steps0
variable {tb : Tables} {e : Env} {below : List Frame} {F : State → Prop} {T T' : State} {g g' : JFrame}
theorem Go.st (q : ∀ t, Steps tb e below (T'.setTop g') t → Steps tb e below (T.setTop g) t) (k : Go tb e below F T' g') : Go tb e below F T g := by
  obtain ⟨t, h1, h2⟩ := k
  exact ⟨t, q t h1, h2⟩
theorem Go.tr (q : Steps tb e below (T.setTop g) (T'.setTop g')) (k : Go tb e below F T' g') : Go tb e below F T g := by
  obtain ⟨t, h1, h2⟩ := k
  exact ⟨t, q.trans h1, h2⟩
end Steps0
section Steps
variable {tb : Tables} [Ours tb] {e : Env} {below : List Frame} {F : State → Prop} {T T' : State} {m : MethodId} {c : Code} {pc pc' : Nat} {Ls Ls' : Array Slot} {sk : List Value}
theorem s_iload (h : At T m c below) (hx : tb.exec = Jvm.exec) {k : Nat} {v : Int32} (hd : decode c.code pc = .ok (.iload k, 2)) (hp : pc + 2 = pc') (hl : Ls[k]? = some (.val (.int v)))  (q : Go tb e below F T (mkF m pc' Ls ((.int v) :: sk))) : Go tb e below F T (mkF m pc Ls (sk)) := by
  subst hp; exact Go.st (fun _ r => XS.iload (g := mkF m pc Ls (sk)) h hx rfl hd hl  r) q
theorem s_iloadN (h : At T m c below) (hx : tb.exec = Jvm.exec) {k : Fin 4} {v : Int32} (hd : decode c.code pc = .ok (.iload_n k, 1)) (hp : pc + 1 = pc') (hl : Ls[k.val]? = some (.val (.int v)))  (q : Go tb e below F T (mkF m pc' Ls ((.int v) :: sk))) : Go tb e below F T (mkF m pc Ls (sk)) := by
  subst hp; exact Go.st (fun _ r => XS.iloadN (g := mkF m pc Ls (sk)) h hx rfl hd hl  r) q
theorem s_istore (h : At T m c below) (hx : tb.exec = Jvm.exec) {k : Nat} {v : Int32} (hd : decode c.code pc = .ok (.istore k, 2)) (hp : pc + 2 = pc')  (hl : storeLocals Ls k (.int v) = some Ls') (q : Go tb e below F T (mkF m pc' Ls' (sk))) : Go tb e below F T (mkF m pc Ls ((.int v) :: sk)) := by
  subst hp; exact Go.st (fun _ r => XS.istore (g := mkF m pc Ls ((.int v) :: sk)) h hx rfl hd rfl  hl r) q
theorem s_istoreN (h : At T m c below) (hx : tb.exec = Jvm.exec) {k : Fin 4} {v : Int32} (hd : decode c.code pc = .ok (.istore_n k, 1)) (hp : pc + 1 = pc')  (hl : storeLocals Ls k.val (.int v) = some Ls') (q : Go tb e below F T (mkF m pc' Ls' (sk))) : Go tb e below F T (mkF m pc Ls ((.int v) :: sk)) := by
  subst hp; exact Go.st (fun _ r => XS.istoreN (g := mkF m pc Ls ((.int v) :: sk)) h hx rfl hd rfl  hl r) q
theorem s_lload (h : At T m c below) (hx : tb.exec = Jvm.exec) {k : Nat} {v : Int64} (hd : decode c.code pc = .ok (.lload k, 2)) (hp : pc + 2 = pc') (hl : Ls[k]? = some (.val (.long v)))  (q : Go tb e below F T (mkF m pc' Ls ((.long v) :: sk))) : Go tb e below F T (mkF m pc Ls (sk)) := by
  subst hp; exact Go.st (fun _ r => XS.lload (g := mkF m pc Ls (sk)) h hx rfl hd hl  r) q
theorem s_lloadN (h : At T m c below) (hx : tb.exec = Jvm.exec) {k : Fin 4} {v : Int64} (hd : decode c.code pc = .ok (.lload_n k, 1)) (hp : pc + 1 = pc') (hl : Ls[k.val]? = some (.val (.long v)))  (q : Go tb e below F T (mkF m pc' Ls ((.long v) :: sk))) : Go tb e below F T (mkF m pc Ls (sk)) := by
  subst hp; exact Go.st (fun _ r => XS.lloadN (g := mkF m pc Ls (sk)) h hx rfl hd hl  r) q
theorem s_lstore (h : At T m c below) (hx : tb.exec = Jvm.exec) {k : Nat} {v : Int64} (hd : decode c.code pc = .ok (.lstore k, 2)) (hp : pc + 2 = pc')  (hl : storeLocals Ls k (.long v) = some Ls') (q : Go tb e below F T (mkF m pc' Ls' (sk))) : Go tb e below F T (mkF m pc Ls ((.long v) :: sk)) := by
  subst hp; exact Go.st (fun _ r => XS.lstore (g := mkF m pc Ls ((.long v) :: sk)) h hx rfl hd rfl  hl r) q
theorem s_lstoreN (h : At T m c below) (hx : tb.exec = Jvm.exec) {k : Fin 4} {v : Int64} (hd : decode c.code pc = .ok (.lstore_n k, 1)) (hp : pc + 1 = pc')  (hl : storeLocals Ls k.val (.long v) = some Ls') (q : Go tb e below F T (mkF m pc' Ls' (sk))) : Go tb e below F T (mkF m pc Ls ((.long v) :: sk)) := by
  subst hp; exact Go.st (fun _ r => XS.lstoreN (g := mkF m pc Ls ((.long v) :: sk)) h hx rfl hd rfl  hl r) q
theorem s_dload (h : At T m c below) (hx : tb.exec = Jvm.exec) {k : Nat} {v : UInt64} (hd : decode c.code pc = .ok (.dload k, 2)) (hp : pc + 2 = pc') (hl : Ls[k]? = some (.val (.double v)))  (q : Go tb e below F T (mkF m pc' Ls ((.double v) :: sk))) : Go tb e below F T (mkF m pc Ls (sk)) := by
  subst hp; exact Go.st (fun _ r => XS.dload (g := mkF m pc Ls (sk)) h hx rfl hd hl  r) q
theorem s_dloadN (h : At T m c below) (hx : tb.exec = Jvm.exec) {k : Fin 4} {v : UInt64} (hd : decode c.code pc = .ok (.dload_n k, 1)) (hp : pc + 1 = pc') (hl : Ls[k.val]? = some (.val (.double v)))  (q : Go tb e below F T (mkF m pc' Ls ((.double v) :: sk))) : Go tb e below F T (mkF m pc Ls (sk)) := by
  subst hp; exact Go.st (fun _ r => XS.dloadN (g := mkF m pc Ls (sk)) h hx rfl hd hl  r) q
theorem s_dstore (h : At T m c below) (hx : tb.exec = Jvm.exec) {k : Nat} {v : UInt64} (hd : decode c.code pc = .ok (.dstore k, 2)) (hp : pc + 2 = pc')  (hl : storeLocals Ls k (.double v) = some Ls') (q : Go tb e below F T (mkF m pc' Ls' (sk))) : Go tb e below F T (mkF m pc Ls ((.double v) :: sk)) := by
  subst hp; exact Go.st (fun _ r => XS.dstore (g := mkF m pc Ls ((.double v) :: sk)) h hx rfl hd rfl  hl r) q
theorem s_dstoreN (h : At T m c below) (hx : tb.exec = Jvm.exec) {k : Fin 4} {v : UInt64} (hd : decode c.code pc = .ok (.dstore_n k, 1)) (hp : pc + 1 = pc')  (hl : storeLocals Ls k.val (.double v) = some Ls') (q : Go tb e below F T (mkF m pc' Ls' (sk))) : Go tb e below F T (mkF m pc Ls ((.double v) :: sk)) := by
  subst hp; exact Go.st (fun _ r => XS.dstoreN (g := mkF m pc Ls ((.double v) :: sk)) h hx rfl hd rfl  hl r) q
theorem s_aload (h : At T m c below) (hx : tb.exec = Jvm.exec) {k : Nat} {v : Value} (hd : decode c.code pc = .ok (.aload k, 2)) (hp : pc + 2 = pc') (hl : Ls[k]? = some (.val (v))) (hv : v.isRef = true) (q : Go tb e below F T (mkF m pc' Ls ((v) :: sk))) : Go tb e below F T (mkF m pc Ls (sk)) := by
  subst hp; exact Go.st (fun _ r => XS.aload (g := mkF m pc Ls (sk)) h hx rfl hd hl hv r) q
theorem s_aloadN (h : At T m c below) (hx : tb.exec = Jvm.exec) {k : Fin 4} {v : Value} (hd : decode c.code pc = .ok (.aload_n k, 1)) (hp : pc + 1 = pc') (hl : Ls[k.val]? = some (.val (v))) (hv : v.isRef = true) (q : Go tb e below F T (mkF m pc' Ls ((v) :: sk))) : Go tb e below F T (mkF m pc Ls (sk)) := by
  subst hp; exact Go.st (fun _ r => XS.aloadN (g := mkF m pc Ls (sk)) h hx rfl hd hl hv r) q
theorem s_astore (h : At T m c below) (hx : tb.exec = Jvm.exec) {k : Nat} {v : Value} (hd : decode c.code pc = .ok (.astore k, 2)) (hp : pc + 2 = pc') (hv : v.isRef = true) (hl : storeLocals Ls k (v) = some Ls') (q : Go tb e below F T (mkF m pc' Ls' (sk))) : Go tb e below F T (mkF m pc Ls ((v) :: sk)) := by
  subst hp; exact Go.st (fun _ r => XS.astore (g := mkF m pc Ls ((v) :: sk)) h hx rfl hd rfl hv hl r) q
theorem s_astoreN (h : At T m c below) (hx : tb.exec = Jvm.exec) {k : Fin 4} {v : Value} (hd : decode c.code pc = .ok (.astore_n k, 1)) (hp : pc + 1 = pc') (hv : v.isRef = true) (hl : storeLocals Ls k.val (v) = some Ls') (q : Go tb e below F T (mkF m pc' Ls' (sk))) : Go tb e below F T (mkF m pc Ls ((v) :: sk)) := by
  subst hp; exact Go.st (fun _ r => XS.astoreN (g := mkF m pc Ls ((v) :: sk)) h hx rfl hd rfl hv hl r) q
theorem s_iconst (h : At T m c below) (hx : tb.exec = Jvm.exec) {i : Int} {v : Int32} (hd : decode c.code pc = .ok (.iconst i, 1)) (hp : pc + 1 = pc') (hv : Int32.ofInt i = v) (q : Go tb e below F T (mkF m pc' Ls ((.int v) :: sk))) : Go tb e below F T (mkF m pc Ls sk) := by
  subst hp hv; exact Go.st (fun _ r => XS.iconst (g := mkF m pc Ls sk) h hx rfl hd r) q
theorem s_bipush (h : At T m c below) (hx : tb.exec = Jvm.exec) {i : Int} {v : Int32} (hd : decode c.code pc = .ok (.bipush i, 2)) (hp : pc + 2 = pc') (hv : (Int8.ofInt i).toInt32 = v) (q : Go tb e below F T (mkF m pc' Ls ((.int v) :: sk))) : Go tb e below F T (mkF m pc Ls sk) := by
  subst hp hv; exact Go.st (fun _ r => XS.bipush (g := mkF m pc Ls sk) h hx rfl hd r) q
theorem s_sipush (h : At T m c below) (hx : tb.exec = Jvm.exec) {i : Int} {v : Int32} (hd : decode c.code pc = .ok (.sipush i, 3)) (hp : pc + 3 = pc') (hv : (Int16.ofInt i).toInt32 = v) (q : Go tb e below F T (mkF m pc' Ls ((.int v) :: sk))) : Go tb e below F T (mkF m pc Ls sk) := by
  subst hp hv; exact Go.st (fun _ r => XS.sipush (g := mkF m pc Ls sk) h hx rfl hd r) q
theorem s_aconst_null (h : At T m c below) (hx : tb.exec = Jvm.exec) (hd : decode c.code pc = .ok (.aconst_null, 1)) (hp : pc + 1 = pc') (q : Go tb e below F T (mkF m pc' Ls (.null :: sk))) : Go tb e below F T (mkF m pc Ls sk) := by
  subst hp; exact Go.st (fun _ r => XS.aconstNull (g := mkF m pc Ls sk) h hx rfl hd r) q
theorem s_iadd (h : At T m c below) (hx : tb.exec = Jvm.exec) {x y z : Int32} (hd : decode c.code pc = .ok (.iadd, 1)) (hp : pc + 1 = pc') (hv : x + y = z) (q : Go tb e below F T (mkF m pc' Ls (.int z :: sk))) : Go tb e below F T (mkF m pc Ls (.int y :: .int x :: sk)) := by
  subst hp hv; exact Go.st (fun _ r => XS.iadd (g := mkF m pc Ls (.int y :: .int x :: sk)) h hx rfl hd rfl r) q
theorem s_isub (h : At T m c below) (hx : tb.exec = Jvm.exec) {x y z : Int32} (hd : decode c.code pc = .ok (.isub, 1)) (hp : pc + 1 = pc') (hv : x - y = z) (q : Go tb e below F T (mkF m pc' Ls (.int z :: sk))) : Go tb e below F T (mkF m pc Ls (.int y :: .int x :: sk)) := by
  subst hp hv; exact Go.st (fun _ r => XS.isub (g := mkF m pc Ls (.int y :: .int x :: sk)) h hx rfl hd rfl r) q
theorem s_imul (h : At T m c below) (hx : tb.exec = Jvm.exec) {x y z : Int32} (hd : decode c.code pc = .ok (.imul, 1)) (hp : pc + 1 = pc') (hv : x * y = z) (q : Go tb e below F T (mkF m pc' Ls (.int z :: sk))) : Go tb e below F T (mkF m pc Ls (.int y :: .int x :: sk)) := by
  subst hp hv; exact Go.st (fun _ r => XS.imul (g := mkF m pc Ls (.int y :: .int x :: sk)) h hx rfl hd rfl r) q
theorem s_iand (h : At T m c below) (hx : tb.exec = Jvm.exec) {x y z : Int32} (hd : decode c.code pc = .ok (.iand, 1)) (hp : pc + 1 = pc') (hv : x &&& y = z) (q : Go tb e below F T (mkF m pc' Ls (.int z :: sk))) : Go tb e below F T (mkF m pc Ls (.int y :: .int x :: sk)) := by
  subst hp hv; exact Go.st (fun _ r => XS.iand (g := mkF m pc Ls (.int y :: .int x :: sk)) h hx rfl hd rfl r) q
theorem s_ior (h : At T m c below) (hx : tb.exec = Jvm.exec) {x y z : Int32} (hd : decode c.code pc = .ok (.ior, 1)) (hp : pc + 1 = pc') (hv : x ||| y = z) (q : Go tb e below F T (mkF m pc' Ls (.int z :: sk))) : Go tb e below F T (mkF m pc Ls (.int y :: .int x :: sk)) := by
  subst hp hv; exact Go.st (fun _ r => XS.ior (g := mkF m pc Ls (.int y :: .int x :: sk)) h hx rfl hd rfl r) q
theorem s_ixor (h : At T m c below) (hx : tb.exec = Jvm.exec) {x y z : Int32} (hd : decode c.code pc = .ok (.ixor, 1)) (hp : pc + 1 = pc') (hv : x ^^^ y = z) (q : Go tb e below F T (mkF m pc' Ls (.int z :: sk))) : Go tb e below F T (mkF m pc Ls (.int y :: .int x :: sk)) := by
  subst hp hv; exact Go.st (fun _ r => XS.ixor (g := mkF m pc Ls (.int y :: .int x :: sk)) h hx rfl hd rfl r) q
theorem s_ishl (h : At T m c below) (hx : tb.exec = Jvm.exec) {x y z : Int32} (hd : decode c.code pc = .ok (.ishl, 1)) (hp : pc + 1 = pc') (hv : x <<< (y &&& 31) = z) (q : Go tb e below F T (mkF m pc' Ls (.int z :: sk))) : Go tb e below F T (mkF m pc Ls (.int y :: .int x :: sk)) := by
  subst hp hv; exact Go.st (fun _ r => XS.ishl (g := mkF m pc Ls (.int y :: .int x :: sk)) h hx rfl hd rfl r) q
theorem s_ishr (h : At T m c below) (hx : tb.exec = Jvm.exec) {x y z : Int32} (hd : decode c.code pc = .ok (.ishr, 1)) (hp : pc + 1 = pc') (hv : x >>> (y &&& 31) = z) (q : Go tb e below F T (mkF m pc' Ls (.int z :: sk))) : Go tb e below F T (mkF m pc Ls (.int y :: .int x :: sk)) := by
  subst hp hv; exact Go.st (fun _ r => XS.ishr (g := mkF m pc Ls (.int y :: .int x :: sk)) h hx rfl hd rfl r) q
theorem s_iushr (h : At T m c below) (hx : tb.exec = Jvm.exec) {x y z : Int32} (hd : decode c.code pc = .ok (.iushr, 1)) (hp : pc + 1 = pc') (hv : (x.toUInt32 >>> (y &&& 31).toUInt32).toInt32 = z) (q : Go tb e below F T (mkF m pc' Ls (.int z :: sk))) : Go tb e below F T (mkF m pc Ls (.int y :: .int x :: sk)) := by
  subst hp hv; exact Go.st (fun _ r => XS.iushr (g := mkF m pc Ls (.int y :: .int x :: sk)) h hx rfl hd rfl r) q
theorem s_ladd (h : At T m c below) (hx : tb.exec = Jvm.exec) {x y z : Int64} (hd : decode c.code pc = .ok (.ladd, 1)) (hp : pc + 1 = pc') (hv : x + y = z) (q : Go tb e below F T (mkF m pc' Ls (.long z :: sk))) : Go tb e below F T (mkF m pc Ls (.long y :: .long x :: sk)) := by
  subst hp hv; exact Go.st (fun _ r => XS.ladd (g := mkF m pc Ls (.long y :: .long x :: sk)) h hx rfl hd rfl r) q
theorem s_lsub (h : At T m c below) (hx : tb.exec = Jvm.exec) {x y z : Int64} (hd : decode c.code pc = .ok (.lsub, 1)) (hp : pc + 1 = pc') (hv : x - y = z) (q : Go tb e below F T (mkF m pc' Ls (.long z :: sk))) : Go tb e below F T (mkF m pc Ls (.long y :: .long x :: sk)) := by
  subst hp hv; exact Go.st (fun _ r => XS.lsub (g := mkF m pc Ls (.long y :: .long x :: sk)) h hx rfl hd rfl r) q
theorem s_lmul (h : At T m c below) (hx : tb.exec = Jvm.exec) {x y z : Int64} (hd : decode c.code pc = .ok (.lmul, 1)) (hp : pc + 1 = pc') (hv : x * y = z) (q : Go tb e below F T (mkF m pc' Ls (.long z :: sk))) : Go tb e below F T (mkF m pc Ls (.long y :: .long x :: sk)) := by
  subst hp hv; exact Go.st (fun _ r => XS.lmul (g := mkF m pc Ls (.long y :: .long x :: sk)) h hx rfl hd rfl r) q
theorem s_land (h : At T m c below) (hx : tb.exec = Jvm.exec) {x y z : Int64} (hd : decode c.code pc = .ok (.land, 1)) (hp : pc + 1 = pc') (hv : x &&& y = z) (q : Go tb e below F T (mkF m pc' Ls (.long z :: sk))) : Go tb e below F T (mkF m pc Ls (.long y :: .long x :: sk)) := by
  subst hp hv; exact Go.st (fun _ r => XS.land (g := mkF m pc Ls (.long y :: .long x :: sk)) h hx rfl hd rfl r) q
theorem s_lor (h : At T m c below) (hx : tb.exec = Jvm.exec) {x y z : Int64} (hd : decode c.code pc = .ok (.lor, 1)) (hp : pc + 1 = pc') (hv : x ||| y = z) (q : Go tb e below F T (mkF m pc' Ls (.long z :: sk))) : Go tb e below F T (mkF m pc Ls (.long y :: .long x :: sk)) := by
  subst hp hv; exact Go.st (fun _ r => XS.lor (g := mkF m pc Ls (.long y :: .long x :: sk)) h hx rfl hd rfl r) q
theorem s_lxor (h : At T m c below) (hx : tb.exec = Jvm.exec) {x y z : Int64} (hd : decode c.code pc = .ok (.lxor, 1)) (hp : pc + 1 = pc') (hv : x ^^^ y = z) (q : Go tb e below F T (mkF m pc' Ls (.long z :: sk))) : Go tb e below F T (mkF m pc Ls (.long y :: .long x :: sk)) := by
  subst hp hv; exact Go.st (fun _ r => XS.lxor (g := mkF m pc Ls (.long y :: .long x :: sk)) h hx rfl hd rfl r) q
theorem s_lshl (h : At T m c below) (hx : tb.exec = Jvm.exec) {x z : Int64} {y : Int32} (hd : decode c.code pc = .ok (.lshl, 1)) (hp : pc + 1 = pc') (hv : x <<< (y &&& 0x3f).toInt64 = z) (q : Go tb e below F T (mkF m pc' Ls (.long z :: sk))) : Go tb e below F T (mkF m pc Ls (.int y :: .long x :: sk)) := by
  subst hp hv; exact Go.st (fun _ r => XS.lshl (g := mkF m pc Ls (.int y :: .long x :: sk)) h hx rfl hd rfl r) q
theorem s_lshr (h : At T m c below) (hx : tb.exec = Jvm.exec) {x z : Int64} {y : Int32} (hd : decode c.code pc = .ok (.lshr, 1)) (hp : pc + 1 = pc') (hv : x >>> (y &&& 0x3f).toInt64 = z) (q : Go tb e below F T (mkF m pc' Ls (.long z :: sk))) : Go tb e below F T (mkF m pc Ls (.int y :: .long x :: sk)) := by
  subst hp hv; exact Go.st (fun _ r => XS.lshr (g := mkF m pc Ls (.int y :: .long x :: sk)) h hx rfl hd rfl r) q
theorem s_lushr (h : At T m c below) (hx : tb.exec = Jvm.exec) {x z : Int64} {y : Int32} (hd : decode c.code pc = .ok (.lushr, 1)) (hp : pc + 1 = pc') (hv : (x.toUInt64 >>> (y &&& 0x3f).toInt64.toUInt64).toInt64 = z) (q : Go tb e below F T (mkF m pc' Ls (.long z :: sk))) : Go tb e below F T (mkF m pc Ls (.int y :: .long x :: sk)) := by
  subst hp hv; exact Go.st (fun _ r => XS.lushr (g := mkF m pc Ls (.int y :: .long x :: sk)) h hx rfl hd rfl r) q
theorem s_ineg (h : At T m c below) (hx : tb.exec = Jvm.exec) {x : Int32} {z : Int32} (hd : decode c.code pc = .ok (.ineg, 1)) (hp : pc + 1 = pc') (hv : -x = z) (q : Go tb e below F T (mkF m pc' Ls (.int z :: sk))) : Go tb e below F T (mkF m pc Ls (.int x :: sk)) := by
  subst hp hv; exact Go.st (fun _ r => XS.ineg (g := mkF m pc Ls (.int x :: sk)) h hx rfl hd rfl r) q
theorem s_lneg (h : At T m c below) (hx : tb.exec = Jvm.exec) {x : Int64} {z : Int64} (hd : decode c.code pc = .ok (.lneg, 1)) (hp : pc + 1 = pc') (hv : -x = z) (q : Go tb e below F T (mkF m pc' Ls (.long z :: sk))) : Go tb e below F T (mkF m pc Ls (.long x :: sk)) := by
  subst hp hv; exact Go.st (fun _ r => XS.lneg (g := mkF m pc Ls (.long x :: sk)) h hx rfl hd rfl r) q
theorem s_i2l (h : At T m c below) (hx : tb.exec = Jvm.exec) {x : Int32} {z : Int64} (hd : decode c.code pc = .ok (.i2l, 1)) (hp : pc + 1 = pc') (hv : x.toInt64 = z) (q : Go tb e below F T (mkF m pc' Ls (.long z :: sk))) : Go tb e below F T (mkF m pc Ls (.int x :: sk)) := by
  subst hp hv; exact Go.st (fun _ r => XS.i2l (g := mkF m pc Ls (.int x :: sk)) h hx rfl hd rfl r) q
theorem s_l2i (h : At T m c below) (hx : tb.exec = Jvm.exec) {x : Int64} {z : Int32} (hd : decode c.code pc = .ok (.l2i, 1)) (hp : pc + 1 = pc') (hv : x.toInt32 = z) (q : Go tb e below F T (mkF m pc' Ls (.int z :: sk))) : Go tb e below F T (mkF m pc Ls (.long x :: sk)) := by
  subst hp hv; exact Go.st (fun _ r => XS.l2i (g := mkF m pc Ls (.long x :: sk)) h hx rfl hd rfl r) q
theorem s_i2b (h : At T m c below) (hx : tb.exec = Jvm.exec) {x : Int32} {z : Int32} (hd : decode c.code pc = .ok (.i2b, 1)) (hp : pc + 1 = pc') (hv : x.toInt8.toInt32 = z) (q : Go tb e below F T (mkF m pc' Ls (.int z :: sk))) : Go tb e below F T (mkF m pc Ls (.int x :: sk)) := by
  subst hp hv; exact Go.st (fun _ r => XS.i2b (g := mkF m pc Ls (.int x :: sk)) h hx rfl hd rfl r) q
theorem s_i2s (h : At T m c below) (hx : tb.exec = Jvm.exec) {x : Int32} {z : Int32} (hd : decode c.code pc = .ok (.i2s, 1)) (hp : pc + 1 = pc') (hv : x.toInt16.toInt32 = z) (q : Go tb e below F T (mkF m pc' Ls (.int z :: sk))) : Go tb e below F T (mkF m pc Ls (.int x :: sk)) := by
  subst hp hv; exact Go.st (fun _ r => XS.i2s (g := mkF m pc Ls (.int x :: sk)) h hx rfl hd rfl r) q
theorem s_i2c (h : At T m c below) (hx : tb.exec = Jvm.exec) {x : Int32} {z : Int32} (hd : decode c.code pc = .ok (.i2c, 1)) (hp : pc + 1 = pc') (hv : x.toUInt32.toUInt16.toUInt32.toInt32 = z) (q : Go tb e below F T (mkF m pc' Ls (.int z :: sk))) : Go tb e below F T (mkF m pc Ls (.int x :: sk)) := by
  subst hp hv; exact Go.st (fun _ r => XS.i2c (g := mkF m pc Ls (.int x :: sk)) h hx rfl hd rfl r) q
theorem s_lcmp (h : At T m c below) (hx : tb.exec = Jvm.exec) {x y : Int64} {z : Int32} (hd : decode c.code pc = .ok (.lcmp, 1)) (hp : pc + 1 = pc') (hv : lcmpW x y = z) (q : Go tb e below F T (mkF m pc' Ls (.int z :: sk))) : Go tb e below F T (mkF m pc Ls (.long y :: .long x :: sk)) := by
  subst hp hv; exact Go.st (fun _ r => XS.lcmp (g := mkF m pc Ls (.long y :: .long x :: sk)) h hx rfl hd rfl r) q
theorem s_idiv (h : At T m c below) (hx : tb.exec = Jvm.exec) {x y z : Int32} (hd : decode c.code pc = .ok (.idiv, 1)) (hp : pc + 1 = pc') (hy : ¬ y = 0) (hv : x / y = z) (q : Go tb e below F T (mkF m pc' Ls (.int z :: sk))) : Go tb e below F T (mkF m pc Ls (.int y :: .int x :: sk)) := by
  subst hp hv; exact Go.st (fun _ r => XS.idiv (g := mkF m pc Ls (.int y :: .int x :: sk)) h hx rfl hd rfl hy r) q
theorem s_irem (h : At T m c below) (hx : tb.exec = Jvm.exec) {x y z : Int32} (hd : decode c.code pc = .ok (.irem, 1)) (hp : pc + 1 = pc') (hy : ¬ y = 0) (hv : x % y = z) (q : Go tb e below F T (mkF m pc' Ls (.int z :: sk))) : Go tb e below F T (mkF m pc Ls (.int y :: .int x :: sk)) := by
  subst hp; rw [← irem_eq_mod x y] at hv; subst hv; exact Go.st (fun _ r => XS.irem (g := mkF m pc Ls (.int y :: .int x :: sk)) h hx rfl hd rfl hy r) q
theorem s_ldiv (h : At T m c below) (hx : tb.exec = Jvm.exec) {x y z : Int64} (hd : decode c.code pc = .ok (.ldiv, 1)) (hp : pc + 1 = pc') (hy : ¬ y = 0) (hv : x / y = z) (q : Go tb e below F T (mkF m pc' Ls (.long z :: sk))) : Go tb e below F T (mkF m pc Ls (.long y :: .long x :: sk)) := by
  subst hp hv; exact Go.st (fun _ r => XS.ldiv (g := mkF m pc Ls (.long y :: .long x :: sk)) h hx rfl hd rfl hy r) q
theorem s_lrem (h : At T m c below) (hx : tb.exec = Jvm.exec) {x y z : Int64} (hd : decode c.code pc = .ok (.lrem, 1)) (hp : pc + 1 = pc') (hy : ¬ y = 0) (hv : x % y = z) (q : Go tb e below F T (mkF m pc' Ls (.long z :: sk))) : Go tb e below F T (mkF m pc Ls (.long y :: .long x :: sk)) := by
  subst hp; rw [← lrem_mod x y] at hv; subst hv; exact Go.st (fun _ r => XS.lrem (g := mkF m pc Ls (.long y :: .long x :: sk)) h hx rfl hd rfl hy r) q
theorem s_dup (h : At T m c below) (hx : tb.exec = Jvm.exec) {v : Value} (hd : decode c.code pc = .ok (.dup, 1)) (hp : pc + 1 = pc') (hc : v.category = 1) (q : Go tb e below F T (mkF m pc' Ls (v :: v :: sk))) : Go tb e below F T (mkF m pc Ls (v :: sk)) := by
  subst hp; exact Go.st (fun _ r => XS.dup (g := mkF m pc Ls (v :: sk)) h hx rfl hd rfl hc r) q
theorem s_pop (h : At T m c below) (hx : tb.exec = Jvm.exec) {v : Value} (hd : decode c.code pc = .ok (.pop, 1)) (hp : pc + 1 = pc') (hc : v.category = 1) (q : Go tb e below F T (mkF m pc' Ls (sk))) : Go tb e below F T (mkF m pc Ls (v :: sk)) := by
  subst hp; exact Go.st (fun _ r => XS.pop (g := mkF m pc Ls (v :: sk)) h hx rfl hd rfl hc r) q
theorem s_dup_x1 (h : At T m c below) (hx : tb.exec = Jvm.exec) {v w : Value} (hd : decode c.code pc = .ok (.dup_x1, 1)) (hp : pc + 1 = pc') (hc : v.category = 1) (hc' : w.category = 1) (q : Go tb e below F T (mkF m pc' Ls (v :: w :: v :: sk))) : Go tb e below F T (mkF m pc Ls (v :: w :: sk)) := by
  subst hp; exact Go.st (fun _ r => XS.dupX1 (g := mkF m pc Ls (v :: w :: sk)) h hx rfl hd rfl hc hc' r) q
theorem s_iinc (h : At T m c below) (hx : tb.exec = Jvm.exec) {k : Nat} {i : Int} (hd : decode c.code pc = .ok (.iinc k i, 3)) (hp : pc + 3 = pc') {x z : Int32} (hl : Ls[k]? = some (.val (.int x))) (hv : x + Int32.ofInt i = z) (hs : storeLocals Ls k (.int z) = some Ls') (q : Go tb e below F T (mkF m pc' Ls' (sk))) : Go tb e below F T (mkF m pc Ls (sk)) := by
  subst hp hv; exact Go.st (fun _ r => XS.iinc (g := mkF m pc Ls (sk)) h hx rfl hd hl hs r) q
theorem s_lconst (h : At T m c below) (hx : tb.exec = Jvm.exec) {i : Fin 2} {v : Int64} (hd : decode c.code pc = .ok (.lconst i, 1)) (hp : pc + 1 = pc') (hv : Int64.ofNat i = v) (q : Go tb e below F T (mkF m pc' Ls (.long v :: sk))) : Go tb e below F T (mkF m pc Ls (sk)) := by
  subst hp hv; exact Go.st (fun _ r => XS.lconst (g := mkF m pc Ls (sk)) h hx rfl hd  r) q
theorem s_i2d (h : At T m c below) (hx : tb.exec = Jvm.exec) {x : Int32} {z : UInt64} (hd : decode c.code pc = .ok (.i2d, 1)) (hp : pc + 1 = pc') (hv : FP.i2d x = z) (q : Go tb e below F T (mkF m pc' Ls (.double z :: sk))) : Go tb e below F T (mkF m pc Ls (.int x :: sk)) := by
  subst hp; exact Go.st (fun _ r => XS.i2dS (g := mkF m pc Ls (.int x :: sk)) h hx rfl hd rfl hv r) q
theorem s_l2d (h : At T m c below) (hx : tb.exec = Jvm.exec) {x : Int64} {z : UInt64} (hd : decode c.code pc = .ok (.l2d, 1)) (hp : pc + 1 = pc') (hv : FP.l2d x = z) (q : Go tb e below F T (mkF m pc' Ls (.double z :: sk))) : Go tb e below F T (mkF m pc Ls (.long x :: sk)) := by
  subst hp; exact Go.st (fun _ r => XS.l2dS (g := mkF m pc Ls (.long x :: sk)) h hx rfl hd rfl hv r) q
theorem s_d2i (h : At T m c below) (hx : tb.exec = Jvm.exec) {x : UInt64} {z : Int32} (hd : decode c.code pc = .ok (.d2i, 1)) (hp : pc + 1 = pc') (hv : FP.d2i x = z) (q : Go tb e below F T (mkF m pc' Ls (.int z :: sk))) : Go tb e below F T (mkF m pc Ls (.double x :: sk)) := by
  subst hp; exact Go.st (fun _ r => XS.d2iS (g := mkF m pc Ls (.double x :: sk)) h hx rfl hd rfl hv r) q
theorem s_d2l (h : At T m c below) (hx : tb.exec = Jvm.exec) {x : UInt64} {z : Int64} (hd : decode c.code pc = .ok (.d2l, 1)) (hp : pc + 1 = pc') (hv : FP.d2l x = z) (q : Go tb e below F T (mkF m pc' Ls (.long z :: sk))) : Go tb e below F T (mkF m pc Ls (.double x :: sk)) := by
  subst hp; exact Go.st (fun _ r => XS.d2lS (g := mkF m pc Ls (.double x :: sk)) h hx rfl hd rfl hv r) q
theorem s_dneg (h : At T m c below) (hx : tb.exec = Jvm.exec) {x z : UInt64} (hd : decode c.code pc = .ok (.dneg, 1)) (hp : pc + 1 = pc') (hv : FP.dneg x = z) (q : Go tb e below F T (mkF m pc' Ls (.double z :: sk))) : Go tb e below F T (mkF m pc Ls (.double x :: sk)) := by
  subst hp; exact Go.st (fun _ r => XS.dnegS (g := mkF m pc Ls (.double x :: sk)) h hx rfl hd rfl hv r) q
theorem s_dcmpl (h : At T m c below) (hx : tb.exec = Jvm.exec) {x y : UInt64} {z : Int32} (hd : decode c.code pc = .ok (.dcmp .l, 1)) (hp : pc + 1 = pc') (hv : cmpValue (FP.dcmp x y) .l = z) (q : Go tb e below F T (mkF m pc' Ls (.int z :: sk))) : Go tb e below F T (mkF m pc Ls (.double y :: .double x :: sk)) := by
  subst hp; exact Go.st (fun _ r => XS.dcmpS (g := mkF m pc Ls (.double y :: .double x :: sk)) h hx rfl hd rfl hv r) q
theorem s_dcmpg (h : At T m c below) (hx : tb.exec = Jvm.exec) {x y : UInt64} {z : Int32} (hd : decode c.code pc = .ok (.dcmp .g, 1)) (hp : pc + 1 = pc') (hv : cmpValue (FP.dcmp x y) .g = z) (q : Go tb e below F T (mkF m pc' Ls (.int z :: sk))) : Go tb e below F T (mkF m pc Ls (.double y :: .double x :: sk)) := by
  subst hp; exact Go.st (fun _ r => XS.dcmpS (g := mkF m pc Ls (.double y :: .double x :: sk)) h hx rfl hd rfl hv r) q
theorem s_dadd (h : At T m c below) (hx : tb.exec = Jvm.exec) {x y z : UInt64} (hd : decode c.code pc = .ok (.dadd, 1)) (hp : pc + 1 = pc') (hn : Jvm.Free.Fl.NoNaN64 (FP.dadd x y)) (hv : FP.dadd x y = z) (q : Go tb e below F T (mkF m pc' Ls (.double z :: sk))) : Go tb e below F T (mkF m pc Ls (.double y :: .double x :: sk)) := by
  subst hp; exact Go.st (fun _ r => XS.daddS (g := mkF m pc Ls (.double y :: .double x :: sk)) h hx rfl hd rfl hn hv r) q
theorem s_dsub (h : At T m c below) (hx : tb.exec = Jvm.exec) {x y z : UInt64} (hd : decode c.code pc = .ok (.dsub, 1)) (hp : pc + 1 = pc') (hn : Jvm.Free.Fl.NoNaN64 (FP.dsub x y)) (hv : FP.dsub x y = z) (q : Go tb e below F T (mkF m pc' Ls (.double z :: sk))) : Go tb e below F T (mkF m pc Ls (.double y :: .double x :: sk)) := by
  subst hp; exact Go.st (fun _ r => XS.dsubS (g := mkF m pc Ls (.double y :: .double x :: sk)) h hx rfl hd rfl hn hv r) q
theorem s_dmul (h : At T m c below) (hx : tb.exec = Jvm.exec) {x y z : UInt64} (hd : decode c.code pc = .ok (.dmul, 1)) (hp : pc + 1 = pc') (hn : Jvm.Free.Fl.NoNaN64 (FP.dmul x y)) (hv : FP.dmul x y = z) (q : Go tb e below F T (mkF m pc' Ls (.double z :: sk))) : Go tb e below F T (mkF m pc Ls (.double y :: .double x :: sk)) := by
  subst hp; exact Go.st (fun _ r => XS.dmulS (g := mkF m pc Ls (.double y :: .double x :: sk)) h hx rfl hd rfl hn hv r) q
theorem s_ddiv (h : At T m c below) (hx : tb.exec = Jvm.exec) {x y z : UInt64} (hd : decode c.code pc = .ok (.ddiv, 1)) (hp : pc + 1 = pc') (hn : Jvm.Free.Fl.NoNaN64 (FP.ddiv x y)) (hv : FP.ddiv x y = z) (q : Go tb e below F T (mkF m pc' Ls (.double z :: sk))) : Go tb e below F T (mkF m pc Ls (.double y :: .double x :: sk)) := by
  subst hp; exact Go.st (fun _ r => XS.ddivS (g := mkF m pc Ls (.double y :: .double x :: sk)) h hx rfl hd rfl hn hv r) q
theorem s_dconst0 (h : At T m c below) (hx : tb.exec = Jvm.exec) {v : UInt64} (hd : decode c.code pc = .ok (.dconst 0, 1)) (hp : pc + 1 = pc') (hv : FP.dconst0 = v) (q : Go tb e below F T (mkF m pc' Ls (.double v :: sk))) : Go tb e below F T (mkF m pc Ls (sk)) := by
  subst hp; exact Go.st (fun _ r => XS.dconst0 (g := mkF m pc Ls (sk)) h hx rfl hd hv r) q
theorem s_dconst1 (h : At T m c below) (hx : tb.exec = Jvm.exec) {v : UInt64} (hd : decode c.code pc = .ok (.dconst 1, 1)) (hp : pc + 1 = pc') (hv : FP.dconst1 = v) (q : Go tb e below F T (mkF m pc' Ls (.double v :: sk))) : Go tb e below F T (mkF m pc Ls (sk)) := by
  subst hp; exact Go.st (fun _ r => XS.dconst1 (g := mkF m pc Ls (sk)) h hx rfl hd hv r) q
theorem s_goto (h : At T m c below) (hx : tb.exec = Jvm.exec) {o : Int} (hd : decode c.code pc = .ok (.goto o, 3)) (ho : 0 ≤ (pc : Int) + o) (hp : ((pc : Int) + o).toNat = pc') (q : Go tb e below F T (mkF m pc' Ls sk)) : Go tb e below F T (mkF m pc Ls sk) :=
  Go.st (fun _ r => XS.goto (g := mkF m pc Ls sk) h hx rfl (pc0 := pc) (pc' := pc') rfl hd ho hp r) q
theorem s_ifY (h : At T m c below) (hx : tb.exec = Jvm.exec) {cd : ClassFile.Cond} {o : Int} {x : Int32} (hd : decode c.code pc = .ok (.ifCond cd o, 3)) (hc : ifCond.holds cd x = true) (ho : 0 ≤ (pc : Int) + o) (hp : ((pc : Int) + o).toNat = pc') (q : Go tb e below F T (mkF m pc' Ls sk)) : Go tb e below F T (mkF m pc Ls (.int x :: sk)) :=
  Go.st (fun _ r => XS.ifYes (g := mkF m pc Ls (.int x :: sk)) h hx rfl (pc0 := pc) (pc' := pc') rfl hd rfl hc ho hp r) q
theorem s_ifN (h : At T m c below) (hx : tb.exec = Jvm.exec) {cd : ClassFile.Cond} {o : Int} {x : Int32} (hd : decode c.code pc = .ok (.ifCond cd o, 3)) (hp : pc + 3 = pc') (hc : ifCond.holds cd x = false) (q : Go tb e below F T (mkF m pc' Ls sk)) : Go tb e below F T (mkF m pc Ls (.int x :: sk)) := by
  subst hp; exact Go.st (fun _ r => XS.ifNo (g := mkF m pc Ls (.int x :: sk)) h hx rfl hd rfl hc r) q
theorem s_icmpY (h : At T m c below) (hx : tb.exec = Jvm.exec) {cd : ClassFile.Cond} {o : Int} {x y : Int32} (hd : decode c.code pc = .ok (.if_icmp cd o, 3)) (hc : if_icmp.holds cd x y = true) (ho : 0 ≤ (pc : Int) + o) (hp : ((pc : Int) + o).toNat = pc') (q : Go tb e below F T (mkF m pc' Ls sk)) : Go tb e below F T (mkF m pc Ls (.int y :: .int x :: sk)) :=
  Go.st (fun _ r => XS.icmpYes (g := mkF m pc Ls (.int y :: .int x :: sk)) h hx rfl (pc0 := pc) (pc' := pc') rfl hd rfl hc ho hp r) q
theorem s_icmpN (h : At T m c below) (hx : tb.exec = Jvm.exec) {cd : ClassFile.Cond} {o : Int} {x y : Int32} (hd : decode c.code pc = .ok (.if_icmp cd o, 3)) (hp : pc + 3 = pc') (hc : if_icmp.holds cd x y = false) (q : Go tb e below F T (mkF m pc' Ls sk)) : Go tb e below F T (mkF m pc Ls (.int y :: .int x :: sk)) := by
  subst hp; exact Go.st (fun _ r => XS.icmpNo (g := mkF m pc Ls (.int y :: .int x :: sk)) h hx rfl hd rfl hc r) q
theorem s_ifnullY (h : At T m c below) (hx : tb.exec = Jvm.exec) {o : Int} (hd : decode c.code pc = .ok (.ifnull o, 3)) (ho : 0 ≤ (pc : Int) + o) (hp : ((pc : Int) + o).toNat = pc') (q : Go tb e below F T (mkF m pc' Ls sk)) : Go tb e below F T (mkF m pc Ls (.null :: sk)) :=
  Go.st (fun _ r => XS.ifnullYes (g := mkF m pc Ls (.null :: sk)) h hx rfl (pc0 := pc) (pc' := pc') rfl hd rfl ho hp r) q
theorem s_ifnullN (h : At T m c below) (hx : tb.exec = Jvm.exec) {o : Int} {b : Addr} (hd : decode c.code pc = .ok (.ifnull o, 3)) (hp : pc + 3 = pc') (q : Go tb e below F T (mkF m pc' Ls sk)) : Go tb e below F T (mkF m pc Ls ((.ref b) :: sk)) := by
  subst hp; exact Go.st (fun _ r => XS.ifnullNo (g := mkF m pc Ls ((.ref b) :: sk)) h hx rfl hd rfl r) q
theorem s_ifnonnullY (h : At T m c below) (hx : tb.exec = Jvm.exec) {o : Int} {b : Addr} (hd : decode c.code pc = .ok (.ifnonnull o, 3)) (ho : 0 ≤ (pc : Int) + o) (hp : ((pc : Int) + o).toNat = pc') (q : Go tb e below F T (mkF m pc' Ls sk)) : Go tb e below F T (mkF m pc Ls ((.ref b) :: sk)) :=
  Go.st (fun _ r => XS.ifnonnullYes (g := mkF m pc Ls ((.ref b) :: sk)) h hx rfl (pc0 := pc) (pc' := pc') rfl hd rfl ho hp r) q
theorem s_ifnonnullN (h : At T m c below) (hx : tb.exec = Jvm.exec) {o : Int} (hd : decode c.code pc = .ok (.ifnonnull o, 3)) (hp : pc + 3 = pc') (q : Go tb e below F T (mkF m pc' Ls sk)) : Go tb e below F T (mkF m pc Ls (.null :: sk)) := by
  subst hp; exact Go.st (fun _ r => XS.ifnonnullNo (g := mkF m pc Ls (.null :: sk)) h hx rfl hd rfl r) q
end Steps
end Jvm.Own
namespace Jvm.Own
open Sem ClassFile Op Lib Bundle Jvm.Stand Jvm.Free Jvm.LawKit Jvm.RoadKit
section Ends
variable {tb : Tables} {e : Env} {below : List Frame} {F : State → Prop} {T t : State} {g : JFrame}
theorem Go.fin (h : Steps tb e below (T.setTop g) t) (k : F t) : Go tb e below F T g := ⟨t, h, k⟩
theorem fin_of {P : State → Outcome → Prop} (k : ∀ F : State → Prop, (∀ t o, t.status = .running → Ended t below o → P t o → F t) → Go tb e below F T g) : ∃ s₂ o, Steps tb e below (T.setTop g) s₂ ∧ s₂.status = .running ∧ Ended s₂ below o ∧ P s₂ o := by
  obtain ⟨t, h1, o, h2, h3, h4⟩ := k (fun t => ∃ o, t.status = .running ∧ Ended t below o ∧ P t o) fun t o h2 h3 h4 => ⟨o, h2, h3, h4⟩
  exact ⟨t, o, h1, h2, h3, h4⟩
end Ends
theorem cat_of_ref {v : Value} (h : v.isRef = true) : v.category = 1 := by rcases ref_cases h with rfl | ⟨a, rfl⟩ <;> rfl
theorem own_fits_ref {v : Value} {t : FieldType} (ht : t.isReference = true) (h : v.isRef = true) : fits t v = true := by rcases ref_cases h with rfl | ⟨a, rfl⟩ <;> cases t <;> first | rfl | (cases ht)
theorem own_narrow_ref {v : Value} {t : FieldType} (h : v.isRef = true) : narrow t v = v := by rcases ref_cases h with rfl | ⟨a, rfl⟩ <;> cases t <;> rfl
theorem wideOn {Z s : State} {vm0 vm1 : Vm} {n : Nat} {own : String} {k : ClassId} (hZ : Z.Warmed39 vm0) (hS : (s.setVm vm0).Since vm1 n) (hown : vm0.findClass own = some k) : Z.Warmed39 vm1 ∧ vm1.findClass own = some k :=
  ⟨State.Warmed39.trans (t := s.setVm vm0) hZ hS.1, by rw [hS.1.alike.findClass]; exact hown⟩
section BackX
variable {p : Program} {l : Launch} {e : Env} {R : Room} {s : State} {args : Array Value} {below : List Frame} {Z : State} {a0 : Array Value} {EL : List (String × Nat)} {h : Heap} {vm0 : Vm}
/-- what pays a call of a body that may load literals, whose objects xs are no literal's -/
theorem backX {y : MethodName} {bytes : ByteArray} {maxL : Nat} {ret : Option FieldType} {rm : Room} {len W : Nat} {as' : Array Value} {Q : Option Value → Heap → List Loc → Prop} {xs : List Addr}
    (hM : MetFree l y (head1 [Cond.code y bytes maxL ret] rm) (fun a U => a = as' ∧ Z.Warmed39 U.vm ∧ U.heap = h ∧ CHv Z EL U.vm h ∧ ∀ x ∈ xs, Safe Z EL U.vm h x) (fun _ _ _ _ _ => True) (fun _ U o U' => ∃ v L, o = .returned v ∧ Q v U'.heap L ∧ CHr Z EL U.vm U.heap U'.vm U'.heap ∧ ReturnedEndW U o U' L rm.cells rm.slots))
    (hZ : Z.Warmed39 vm0) (wc : (Cond.code y bytes maxL ret).before a0 Z = true) (wz : (Cond.initialized y.cls).before a0 Z = true) (hf : rm.frames + 1 ≤ R.frames) (hl : W + (maxL + 11) + rm.locals ≤ R.locals) (hEL : EW Z a0 EL) (H : CHv Z EL vm0 h) (hs : ∀ x ∈ xs, x < h.size ∧ Safe Z EL vm0 h x) :
    BackS l R p e below (s.setVm vm0) args y len W (fun A a => a = as' ∧ A.U.heap = h ∧ A.cells + rm.cells ≤ R.cells ∧ A.slots + rm.slots ≤ R.slots)
      (fun A _ v B => ∃ L, Q v B.U.heap L ∧ B.locs = A.locs ++ L ∧ B.cells = A.cells + rm.cells ∧ B.slots = A.slots + rm.slots ∧ CHr Z EL vm0 h B.U.vm B.U.heap) := by
  refine BackS.of_freeW (bytes := bytes) (maxL := maxL) (ret := ret) (E := fun _ first o t L k n => k = rm.cells ∧ n = rm.slots ∧ (∃ v, o = .returned v ∧ Q v t.heap L) ∧ CHr Z EL first.vm first.heap t.vm t.heap) hM hf hl ?_ ?_ (fun _ _ _ _ _ _ _ _ _ => trivial) ?_ ?_
  · intro m meth c A a Y hp
    have hU : Z.Warmed39 A.U.vm := wtrans (s := s.setVm vm0) hZ Y.warmed
    exact ⟨by show (Cond.and _ .tt).before a A.U = true; rw [Cond.before_and, mv hU wc]; rfl, mv hU wc, mv hU wz, hp.2.2.1, hp.2.2.2⟩
  · intro m meth c A a g mk Y hp
    have K := CHv.at Y hZ hEL H
    exact ⟨hp.1, wtrans (s := s.setVm vm0) hZ Y.warmed, hp.2.1, K.1, fun x hx => K.safe (hs x hx).1 (hs x hx).2⟩
  · intro _ _ _ _ ⟨v, L, h1, h2, h3, h4⟩
    exact ⟨L, _, _, h4, rfl, rfl, ⟨v, h1, h2⟩, h3⟩
  · intro m meth c A a g mk v t L k n Y hp _ _ ⟨e1, e2, ⟨v', e3, e4⟩, e5⟩
    cases e3; subst e1 e2
    refine ⟨L, e4, rfl, rfl, rfl, (CHv.at Y hZ hEL H).trans ?_⟩
    rw [← hp.2.1]; exact e5
end BackX
/-! small numbers -/
theorem eq32 {a b : Int32} (h : a.toInt = b.toInt) : a = b := Int32.toInt_inj.mp h
theorem chr_nar {c : Int32} (h : ¬ c < 0 ∧ ¬ (255 : Int32) < c) : nar .char c = c := by
  have q := c_i2c c
  have e1 : (255 : Int32).toInt = 255 := rfl
  have e0 : (0 : Int32).toInt = 0 := rfl
  have h1 := h.1; have h2 := h.2
  rw [Int32.lt_iff_toInt_lt] at h1 h2
  exact eq32 (by show c.toUInt32.toUInt16.toUInt32.toInt32.toInt = _; omega)
theorem chr_i2c {c : Int32} (h : ¬ c < 0 ∧ ¬ (255 : Int32) < c) : c.toUInt32.toUInt16.toUInt32.toInt32 = c := chr_nar h
theorem chr_mask (x : Int32) : ¬ (x &&& 255) < 0 ∧ ¬ (255 : Int32) < (x &&& 255) := by
  have q := c_mask x 255 8 (by decide) (by decide)
  have e1 : (255 : Int32).toInt = 255 := rfl
  have e0 : (0 : Int32).toInt = 0 := rfl
  rw [Int32.lt_iff_toInt_lt, Int32.lt_iff_toInt_lt]
  omega
theorem chr_lit {k : Nat} (h : k < 256) : ¬ (Int32.ofNat k) < 0 ∧ ¬ (255 : Int32) < (Int32.ofNat k) := by
  have q : (Int32.ofNat k).toInt = k := Int32.toInt_ofNat_small (by omega)
  have e1 : (255 : Int32).toInt = 255 := rfl
  have e0 : (0 : Int32).toInt = 0 := rfl
  rw [Int32.lt_iff_toInt_lt, Int32.lt_iff_toInt_lt]
  omega
theorem chr_up {cs : List Int32} (h : ∀ c ∈ cs, ¬ c < 0 ∧ ¬ (255 : Int32) < c) : ∀ c ∈ cs, ¬ c < 0 ∧ ¬ (65535 : Int32) < c := fun c hc => ⟨(h c hc).1, fun q => (h c hc).2 (by rw [Int32.lt_iff_toInt_lt] at q ⊢; have e1 : (65535 : Int32).toInt = 65535 := rfl; have e2 : (255 : Int32).toInt = 255 := rfl; omega)⟩
theorem bit01 (P : Prop) [Decidable P] : (if P then (0 : Int32) else 1) = 0 ∨ (if P then (0 : Int32) else 1) = 1 := by by_cases h : P <;> simp [h]
theorem nar_b {x : Int32} (h : x = 0 ∨ x = 1) : nar .boolean x = x := by rcases h with rfl | rfl <;> decide
theorem narZ {k : Int32} (h : k = 0 ∨ k = 1) : narrow .boolean (.int k) = .int k := by rcases h with rfl | rfl <;> decide
theorem fitZ {k : Int32} (h : k = 0 ∨ k = 1) : fits .boolean (.int k) = true := by rcases h with rfl | rfl <;> decide
end Jvm.Own
/- laws to paste: Road.backV, Road.codOf (cut by pick.py; bodies as the Statement names them) -/
namespace Jvm.Pilot.@@N@@
namespace StrChars
open Jvm Sem ClassFile Op Lib Jvm.Stand Jvm.Free.XT Jvm.Free.ALB Jvm.Free.JM Jvm.Free
open Jvm.Lib.Cold (StaticIs)
/-- a char array whose places are chars -/
def Ch (a : Addr) (A : Cell) (U : State) : Prop := Arr .char a A U ∧ Typed .char A
theorem Ch.mv {a : Addr} {A : Cell} {U U' : State} (h : Ch a A U) (hal : U.vm.Alike U'.vm) (hh : U'.heap = U.heap) : Ch a A U' := ⟨h.1.mv hal hh, h.2⟩
theorem Ch.keep {a : Addr} {A : Cell} {U U' : State} (h : Ch a A U) (hal : U.vm.Alike U'.vm) (hk : U'.heap[a]? = some A) : Ch a A U' := ⟨h.1.keep hal hk, h.2⟩
/-- what place i of a char[]'s cell holds -/
def cv (A : Cell) (i : Nat) : Int32 := match A.slots[i]? with | some (.int x) => x | _ => 0
theorem Ch.get {a : Addr} {A : Cell} {U : State} (h : Ch a A U) {i : Nat} (hi : i < A.slots.size) : A.slots[i]? = some (.int (cv A i)) := by
  have e := Array.getElem?_eq_getElem hi
  have f := h.2 i _ e
  unfold cv; rw [e]
  generalize A.slots[i] = v at f
  cases v <;> simp [fits] at f ⊢
/-- the byte that i2b leaves of a char -/
def lo8 (x : Int32) : Int32 := x.toInt8.toInt32
theorem fits_lo8 (y : Int32) : fits .byte (.int (lo8 y)) = true := by
  have h1 := y.toInt8.le_toInt
  have h2 := y.toInt8.toInt_lt
  simp only [lo8, fits, Bool.and_eq_true, decide_eq_true_eq, Int32.le_iff_toInt_le, Int8.toInt_toInt32, show (-128 : Int32).toInt = -128 from by decide, show (127 : Int32).toInt = 127 from by decide]
  omega
/-- A' is A but that each place j of lo .. hi - 1 holds f j -/
def Laid (A A' : Cell) (lo hi : Nat) (f : Nat → Value) : Prop := A'.cls = A.cls ∧ A'.vm = A.vm ∧ A'.slots.size = A.slots.size ∧ ∀ i, A'.slots[i]? = if lo ≤ i ∧ i < hi then some (f i) else A.slots[i]?
theorem Laid.zero (A : Cell) (lo : Nat) (f : Nat → Value) : Laid A A lo (lo + 0) f := ⟨rfl, rfl, rfl, fun i => by rw [if_neg (by omega)]⟩
theorem Laid.step {A Ak : Cell} {lo k : Nat} {f : Nat → Value} {v : Value} (h : Laid A Ak lo k f) (hlo : lo ≤ k) (hk : k < Ak.slots.size) (hv : v = f k) : Laid A (Ak.setSlot k v) lo (k + 1) f := by
  refine ⟨h.1, h.2.1, by simpa [Cell.setSlot] using h.2.2.1, fun i => ?_⟩
  by_cases e : k = i
  · subst e; rw [Cell.slots_setSlot_self v hk, if_pos (by omega), hv]
  · rw [Cell.slots_setSlot_ne v e, h.2.2.2 i]
    by_cases q : lo ≤ i ∧ i < k
    · rw [if_pos q, if_pos (by omega)]
    · rw [if_neg q, if_neg (by omega)]
def U16 : String := "java/lang/StringUTF16"
namespace Cmp5
def yN : MethodName := ⟨"java/lang/StringUTF16", "compress", "([CI[BII)I"⟩
abbrev yB : ByteArray := jdk_52_method_21_code
theorem d0 : decode yB 0 = .ok (.iconst 0, 1) := by decide +kernel
theorem d1 : decode yB 1 = .ok (.istore 5, 2) := by decide +kernel
theorem d3 : decode yB 3 = .ok (.iload 5, 2) := by decide +kernel
theorem d5 : decode yB 5 = .ok (.iload 4, 2) := by decide +kernel
theorem d7 : decode yB 7 = .ok (.if_icmp (.ge) 37, 3) := by decide +kernel
theorem d10 : decode yB 10 = .ok (.aload_n 0, 1) := by decide +kernel
theorem d11 : decode yB 11 = .ok (.iload_n 1, 1) := by decide +kernel
theorem d12 : decode yB 12 = .ok (.caload, 1) := by decide +kernel
theorem d13 : decode yB 13 = .ok (.istore 6, 2) := by decide +kernel
theorem d15 : decode yB 15 = .ok (.iload 6, 2) := by decide +kernel
theorem d17 : decode yB 17 = .ok (.sipush 255, 3) := by decide +kernel
theorem d20 : decode yB 20 = .ok (.if_icmp (.le) 6, 3) := by decide +kernel
theorem d26 : decode yB 26 = .ok (.aload_n 2, 1) := by decide +kernel
theorem d27 : decode yB 27 = .ok (.iload_n 3, 1) := by decide +kernel
theorem d28 : decode yB 28 = .ok (.iload 6, 2) := by decide +kernel
theorem d30 : decode yB 30 = .ok (.i2b, 1) := by decide +kernel
theorem d31 : decode yB 31 = .ok (.bastore, 1) := by decide +kernel
theorem d32 : decode yB 32 = .ok (.iinc 1 1, 3) := by decide +kernel
theorem d35 : decode yB 35 = .ok (.iinc 3 1, 3) := by decide +kernel
theorem d38 : decode yB 38 = .ok (.iinc 5 1, 3) := by decide +kernel
theorem d41 : decode yB 41 = .ok (.goto (-38), 3) := by decide +kernel
theorem d44 : decode yB 44 = .ok (.iload 4, 2) := by decide +kernel
theorem d46 : decode yB 46 = .ok (.ireturn, 1) := by decide +kernel
def site : List Cond := []
def tab : Cond := tabOf yN yB 7 (some .int) site
def P (b : Addr) (A : Cell) (d : Addr) (B : Cell) (o q len : Nat) (args : Array Value) (s : State) : Prop := args = #[.ref b, .int (Int32.ofNat o), .ref d, .int (Int32.ofNat q), .int (Int32.ofNat len)] ∧ Ch b A s ∧ Arr .byte d B s ∧ b ≠ d ∧ o + len ≤ A.slots.size ∧ q + len ≤ B.slots.size ∧ ∀ i, i < len → ¬ 255 < cv A (o + i)
def E (b : Addr) (A : Cell) (d : Addr) (B : Cell) (o q len : Nat) (r : Option Value) (s u : State) : Prop := r = some (.int (Int32.ofNat len)) ∧ ∃ B', Put d B' s u ∧ Laid B B' q (q + len) (fun j => Value.int (lo8 (cv A (o + (j - q)))))
/-- no char of the range above 255: len; the places written hold each char's low byte -/
theorem law (l : Launch) (b : Addr) (A : Cell) (d : Addr) (B : Cell) (o q len : Nat) : Law l yN 5 5 0 0 yB 7 (some .int) site (P b A d B o q len) (E b A d B o q len) (copyLocs d q len) 0 0 := by
  refine Law.of_walk (plainFor_of_name (by decide +kernel)) (by decide +kernel) (by decide +kernel) (by decide) (fun _ _ h => by rw [h.1]; rfl) (fun _ U U' hal hh h => ⟨h.1, h.2.1.mv hal hh, h.2.2.1.mv hal hh, h.2.2.2⟩) (fun r U U' V V' h1 hal h2 h => ⟨h.1, h.2.elim fun B' q => ⟨B', q.1.mv h1 h2, q.2⟩⟩) ?_
  intro p e s m args below meth c s₁ X0 hexec hbytes hml hret hlk hnm hown hh0 W hP
  obtain ⟨rfl, hA, hB, hne, l1, l2, hp⟩ := hP
  have c1 : Steps p.tables e below (s₁.setTop (entryFrame m #[.ref b, .int (Int32.ofNat o), .ref d, .int (Int32.ofNat q), .int (Int32.ofNat len)] 7)) (s₁.setTop (mkF m 0 #[.val (.ref b), .val (.int (Int32.ofNat o)), .val (.ref d), .val (.int (Int32.ofNat q)), .val (.int (Int32.ofNat len)), .unset, .unset] [])) := entry rfl
  have hA0 := hA.1.mv X0.warmed.alike hh0
  have hB0 := hB.mv X0.warmed.alike hh0
  have a31 := hA.1.2.2.2
  have c2 : Steps p.tables e below (s₁.setTop (entryFrame m #[.ref b, .int (Int32.ofNat o), .ref d, .int (Int32.ofNat q), .int (Int32.ofNat len)] 7)) (s₁.setTop (mkF m 3 #[.val (.ref b), .val (.int (Int32.ofNat o)), .val (.ref d), .val (.int (Int32.ofNat q)), .val (.int (Int32.ofNat len)), .val (.int 0), .unset] [])) := c1.trans (by
    refine iconstV X0.here hexec rfl 0 (hb hbytes d0) (by decide) ?_
    refine XS.istore X0.here hexec rfl (hb hbytes d1) rfl rfl ?_
    exact Steps.refl _)
  have loop : ∀ (r i : Nat), i + r = len → ∀ (z : Slot), (z = .unset ∨ ∃ w, z = .val w ∧ w.category = 1) → ∀ (Tl : State) (Bk : Cell), Stand p l e { frames := 0, locals := 0, cells := 0, slots := 0 } s m #[.ref b, .int (Int32.ofNat o), .ref d, .int (Int32.ofNat q), .int (Int32.ofNat len)] below meth c Tl ([] ++ copyLocs d q i) 0 0 → Put d Bk s₁ Tl → Laid B Bk q (q + i) (fun j => Value.int (lo8 (cv A (o + (j - q))))) →
      Steps p.tables e below (s₁.setTop (entryFrame m #[.ref b, .int (Int32.ofNat o), .ref d, .int (Int32.ofNat q), .int (Int32.ofNat len)] 7)) (Tl.setTop (mkF m 3 #[.val (.ref b), .val (.int (Int32.ofNat (o + i))), .val (.ref d), .val (.int (Int32.ofNat (q + i))), .val (.int (Int32.ofNat len)), .val (.int (Int32.ofNat i)), z] [])) → ∃ (T' : State) (B' : Cell) (z' : Slot), Stand p l e { frames := 0, locals := 0, cells := 0, slots := 0 } s m #[.ref b, .int (Int32.ofNat o), .ref d, .int (Int32.ofNat q), .int (Int32.ofNat len)] below meth c T' ([] ++ copyLocs d q len) 0 0 ∧ Put d B' s₁ T' ∧ Laid B B' q (q + len) (fun j => Value.int (lo8 (cv A (o + (j - q))))) ∧
      Steps p.tables e below (s₁.setTop (entryFrame m #[.ref b, .int (Int32.ofNat o), .ref d, .int (Int32.ofNat q), .int (Int32.ofNat len)] 7)) (T'.setTop (mkF m 3 #[.val (.ref b), .val (.int (Int32.ofNat (o + len))), .val (.ref d), .val (.int (Int32.ofNat (q + len))), .val (.int (Int32.ofNat len)), .val (.int (Int32.ofNat len)), z'] [])) := by
    intro r
    induction r with
    | zero =>
      intro i hi z hz Tl Bk Xl pl fl cl
      have hil : i = len := by omega
      rw [hil] at Xl fl cl
      exact ⟨Tl, Bk, z, Xl, pl, fl, cl⟩
    | succ r ih =>
      intro i hi z hz Tl Bk Xl pl fl cl
      have all := X0.warmed.alike.symm.trans Xl.warmed.alike
      have hAl := hA0.keep all (pl.other hne hA0.1)
      have hBk := hB0.like all pl.1 fl.1 fl.2.1 fl.2.2.1
      have hlt : q + i < Bk.slots.size := by rw [fl.2.2.1]; omega
      have c3 : Steps p.tables e below (s₁.setTop (entryFrame m #[.ref b, .int (Int32.ofNat o), .ref d, .int (Int32.ofNat q), .int (Int32.ofNat len)] 7)) (Tl.setTop (mkF m 12 #[.val (.ref b), .val (.int (Int32.ofNat (o + i))), .val (.ref d), .val (.int (Int32.ofNat (q + i))), .val (.int (Int32.ofNat len)), .val (.int (Int32.ofNat i)), z] [.int (Int32.ofNat (o + i)), .ref b])) := cl.trans (by
        refine XS.iload Xl.here hexec rfl (hb hbytes d3) rfl ?_
        refine XS.iload Xl.here hexec rfl (hb hbytes d5) rfl ?_
        refine XS.icmpNo Xl.here hexec rfl (hb hbytes d7) rfl (ii_ge_f (lt32 (by omega) (by omega))) ?_
        refine XS.aloadN Xl.here hexec rfl (hb hbytes d10) rfl rfl ?_
        refine XS.iloadN Xl.here hexec rfl (hb hbytes d11) rfl ?_
        exact Steps.refl _)
      have c4 : Steps p.tables e below (s₁.setTop (entryFrame m #[.ref b, .int (Int32.ofNat o), .ref d, .int (Int32.ofNat q), .int (Int32.ofNat len)] 7)) (Tl.setTop (mkF m 13 #[.val (.ref b), .val (.int (Int32.ofNat (o + i))), .val (.ref d), .val (.int (Int32.ofNat (q + i))), .val (.int (Int32.ofNat len)), .val (.int (Int32.ofNat i)), z] [.int (cv A (o + i))])) := c3.trans (by
        refine Xl.aget hexec hAl rfl (hA.get (i := o + i) (by omega)) rfl rfl (hb hbytes d12) ?_
        exact Steps.refl _)
      have c5 : Steps p.tables e below (s₁.setTop (entryFrame m #[.ref b, .int (Int32.ofNat o), .ref d, .int (Int32.ofNat q), .int (Int32.ofNat len)] 7)) (Tl.setTop (mkF m 15 #[.val (.ref b), .val (.int (Int32.ofNat (o + i))), .val (.ref d), .val (.int (Int32.ofNat (q + i))), .val (.int (Int32.ofNat len)), .val (.int (Int32.ofNat i)), .val (.int (cv A (o + i)))] [])) := c4.trans (by
        refine XS.istoreS Xl.here hexec rfl (hb hbytes d13) rfl rfl hz ?_
        exact Steps.refl _)
      have c6 : Steps p.tables e below (s₁.setTop (entryFrame m #[.ref b, .int (Int32.ofNat o), .ref d, .int (Int32.ofNat q), .int (Int32.ofNat len)] 7)) (Tl.setTop (mkF m 31 #[.val (.ref b), .val (.int (Int32.ofNat (o + i))), .val (.ref d), .val (.int (Int32.ofNat (q + i))), .val (.int (Int32.ofNat len)), .val (.int (Int32.ofNat i)), .val (.int (cv A (o + i)))] [.int (lo8 (cv A (o + i))), .int (Int32.ofNat (q + i)), .ref d])) := c5.trans (by
        refine XS.iload Xl.here hexec rfl (hb hbytes d15) rfl ?_
        refine sipushV Xl.here hexec rfl 255 (hb hbytes d17) (by decide) ?_
        refine XS.icmpYes Xl.here hexec rfl (pc0 := 20) rfl (hb hbytes d20) rfl (ii_le_t (hp i (by omega))) (by decide) rfl ?_
        refine XS.aloadN Xl.here hexec rfl (hb hbytes d26) rfl rfl ?_
        refine XS.iloadN Xl.here hexec rfl (hb hbytes d27) rfl ?_
        refine XS.iload Xl.here hexec rfl (hb hbytes d28) rfl ?_
        refine i2b Xl.here hexec rfl (hb hbytes d30) rfl ?_
        exact Steps.refl _)
      obtain ⟨T7, X7, p7, st7⟩ := Xl.aput hexec hBk rfl hlt rfl (fits_lo8 (cv A (o + i))) (g := (mkF m 31 #[.val (.ref b), .val (.int (Int32.ofNat (o + i))), .val (.ref d), .val (.int (Int32.ofNat (q + i))), .val (.int (Int32.ofNat len)), .val (.int (Int32.ofNat i)), .val (.int (cv A (o + i)))] [.int (lo8 (cv A (o + i))), .int (Int32.ofNat (q + i)), .ref d])) rfl (rest := []) rfl (hb hbytes d31)
      have c8 : Steps p.tables e below (s₁.setTop (entryFrame m #[.ref b, .int (Int32.ofNat o), .ref d, .int (Int32.ofNat q), .int (Int32.ofNat len)] 7)) (T7.setTop (mkF m 32 #[.val (.ref b), .val (.int (Int32.ofNat (o + i))), .val (.ref d), .val (.int (Int32.ofNat (q + i))), .val (.int (Int32.ofNat len)), .val (.int (Int32.ofNat i)), .val (.int (cv A (o + i)))] [])) := c6.trans (st7 _ (Steps.refl _))
      have c9 : Steps p.tables e below (s₁.setTop (entryFrame m #[.ref b, .int (Int32.ofNat o), .ref d, .int (Int32.ofNat q), .int (Int32.ofNat len)] 7)) (T7.setTop (mkF m 3 #[.val (.ref b), .val (.int (Int32.ofNat (o + i) + 1)), .val (.ref d), .val (.int (Int32.ofNat (q + i) + 1)), .val (.int (Int32.ofNat len)), .val (.int (Int32.ofNat i + 1)), .val (.int (cv A (o + i)))] [])) := c8.trans (by
        refine iincV X7.here hexec rfl 1 (hb hbytes d32) (by decide) rfl rfl ?_
        refine iincV X7.here hexec rfl 1 (hb hbytes d35) (by decide) rfl rfl ?_
        refine iincV X7.here hexec rfl 1 (hb hbytes d38) (by decide) rfl rfl ?_
        refine XS.goto X7.here hexec rfl (pc0 := 41) rfl (hb hbytes d41) (by decide) rfl ?_
        exact Steps.refl _)
      have c10 : Steps p.tables e below (s₁.setTop (entryFrame m #[.ref b, .int (Int32.ofNat o), .ref d, .int (Int32.ofNat q), .int (Int32.ofNat len)] 7)) (T7.setTop (mkF m 3 #[.val (.ref b), .val (.int (Int32.ofNat (o + (i + 1)))), .val (.ref d), .val (.int (Int32.ofNat (q + (i + 1)))), .val (.int (Int32.ofNat len)), .val (.int (Int32.ofNat (i + 1))), .val (.int (cv A (o + i)))] [])) := by
        have := c9
        rw [succ32, succ32, succ32] at this
        exact this
      exact ih (i + 1) (by omega) _ (Or.inr ⟨_, rfl, rfl⟩) T7 _ (by rw [copyLocs_step, ← List.append_assoc]; exact X7) (pl.trans p7) (fl.step (by omega) hlt (by simp)) c10
  obtain ⟨T9, B9, z9, X9, p9, f9, g9⟩ := loop len 0 (by omega) .unset (Or.inl rfl) s₁ B (by simpa [copyLocs] using X0) ⟨hB0.1, fun _ _ => rfl, rfl⟩ (Laid.zero _ _ _) c2
  have c11 : Steps p.tables e below (s₁.setTop (entryFrame m #[.ref b, .int (Int32.ofNat o), .ref d, .int (Int32.ofNat q), .int (Int32.ofNat len)] 7)) (T9.setTop (mkF m 46 #[.val (.ref b), .val (.int (Int32.ofNat (o + len))), .val (.ref d), .val (.int (Int32.ofNat (q + len))), .val (.int (Int32.ofNat len)), .val (.int (Int32.ofNat len)), z9] [.int (Int32.ofNat len)])) := g9.trans (by
    refine XS.iload X9.here hexec rfl (hb hbytes d3) rfl ?_
    refine XS.iload X9.here hexec rfl (hb hbytes d5) rfl ?_
    refine XS.icmpYes X9.here hexec rfl (pc0 := 7) rfl (hb hbytes d7) rfl (ii_ge_t (nlt32 (by omega) (Nat.le_refl _))) (by decide) rfl ?_
    refine XS.iload X9.here hexec rfl (hb hbytes d44) rfl ?_
    exact Steps.refl _)
  exact ⟨T9, some (.int (Int32.ofNat len)), _, _, _, X9, by simp, rfl, rfl, (fun h => by cases h), ⟨rfl, B9, p9.from hh0, f9⟩, fun fs hl => c11.trans (X9.ireturnOut hexec hret rfl (Or.inl rfl) (hb hbytes d46) hl)⟩
end Cmp5
namespace Cmp3
def yN : MethodName := ⟨"java/lang/StringUTF16", "compress", "([CII)[B"⟩
abbrev yB : ByteArray := jdk_52_method_16_code
theorem d0 : decode yB 0 = .ok (.iload_n 2, 1) := by decide +kernel
theorem d1 : decode yB 1 = .ok (.newarray .byte, 2) := by decide +kernel
theorem d3 : decode yB 3 = .ok (.astore_n 3, 1) := by decide +kernel
theorem d4 : decode yB 4 = .ok (.aload_n 0, 1) := by decide +kernel
theorem d5 : decode yB 5 = .ok (.iload_n 1, 1) := by decide +kernel
theorem d6 : decode yB 6 = .ok (.aload_n 3, 1) := by decide +kernel
theorem d7 : decode yB 7 = .ok (.iconst 0, 1) := by decide +kernel
theorem d8 : decode yB 8 = .ok (.iload_n 2, 1) := by decide +kernel
theorem d9 : decode yB 9 = .ok (.invokestatic 115, 3) := by decide +kernel
theorem d12 : decode yB 12 = .ok (.istore 4, 2) := by decide +kernel
theorem d14 : decode yB 14 = .ok (.iload 4, 2) := by decide +kernel
theorem d16 : decode yB 16 = .ok (.iload_n 2, 1) := by decide +kernel
theorem d17 : decode yB 17 = .ok (.if_icmp (.eq) 40, 3) := by decide +kernel
theorem d57 : decode yB 57 = .ok (.aload_n 3, 1) := by decide +kernel
theorem d58 : decode yB 58 = .ok (.areturn, 1) := by decide +kernel
def site : List Cond := [.arrayClass .byte, Cmp5.tab] ++ staticW U16 115 Cmp5.yN
def tab : Cond := tabOf yN yB 6 (some (.array .byte)) site
def P (b : Addr) (A : Cell) (o len : Nat) (args : Array Value) (s : State) : Prop := args = #[.ref b, .int (Int32.ofNat o), .int (Int32.ofNat len)] ∧ Ch b A s ∧ o + len ≤ A.slots.size ∧ len ≤ 536870912 ∧ ∀ i, i < len → ¬ 255 < cv A (o + i)
def E (b : Addr) (A : Cell) (o len : Nat) (r : Option Value) (s u : State) : Prop := NewArr .byte "[B" len (fun j => .int (lo8 (cv A (o + j)))) r s u ∧ u.heap.size = s.heap.size + 1
/-- no char of the range above 255: a new byte[] of their low bytes -/
theorem law (l : Launch) (b : Addr) (A : Cell) (o len : Nat) : Law l yN 3 3 1 18 yB 6 (some (.array .byte)) site (P b A o len) (E b A o len) [] 1 len := by
  refine Law.of_walk (plainFor_of_name (by decide +kernel)) (by decide +kernel) (by decide +kernel) (by decide) (fun _ _ h => by rw [h.1]; rfl) (fun _ U U' hal hh h => ⟨h.1, h.2.1.mv hal hh, h.2.2⟩) (fun r U U' V V' h1 hal h2 h => ⟨NewArr.mv r U U' V V' h1 hal h2 h.1, by rw [h1, h2]; exact h.2⟩) ?_
  intro p e s m args below meth c s₁ X0 hexec hbytes hml hret hlk hnm hown hh0 W hP
  obtain ⟨rfl, hA, l1, l2, hp⟩ := hP
  have a31 := hA.1.2.2.2
  have c1 : Steps p.tables e below (s₁.setTop (entryFrame m #[.ref b, .int (Int32.ofNat o), .int (Int32.ofNat len)] 6)) (s₁.setTop (mkF m 0 #[.val (.ref b), .val (.int (Int32.ofNat o)), .val (.int (Int32.ofNat len)), .unset, .unset, .unset] [])) := entry rfl
  have c2 : Steps p.tables e below (s₁.setTop (entryFrame m #[.ref b, .int (Int32.ofNat o), .int (Int32.ofNat len)] 6)) (s₁.setTop (mkF m 1 #[.val (.ref b), .val (.int (Int32.ofNat o)), .val (.int (Int32.ofNat len)), .unset, .unset, .unset] [.int (Int32.ofNat len)])) := c1.trans (by
    refine XS.iloadN X0.here hexec rfl (hb hbytes d0) rfl ?_
    exact Steps.refl _)
  obtain ⟨T3, B3, X3, ba3, bs3, bv3, bh3, bf3, st3⟩ := X0.anew hexec (atype := .byte) (wk W (.arrayClass .byte)) rfl (by show len * 1 ≤ _; omega) (by omega) (g := (mkF m 1 #[.val (.ref b), .val (.int (Int32.ofNat o)), .val (.int (Int32.ofNat len)), .unset, .unset, .unset] [.int (Int32.ofNat len)])) rfl (hb hbytes d1) (rest := []) rfl (Nat.le_refl _) (by show 0 + len ≤ len; omega)
  rw [hh0] at ba3 st3
  have kp3 : XT.Kept s T3 := (XT.Kept.of_eq hh0).push bh3
  have hA3 := hA.keep X3.warmed.alike (kp3 _ _ hA.1.1)
  have hne : b ≠ s.heap.size := hA.1.ne
  have c4 : Steps p.tables e below (s₁.setTop (entryFrame m #[.ref b, .int (Int32.ofNat o), .int (Int32.ofNat len)] 6)) (T3.setTop (mkF m 3 #[.val (.ref b), .val (.int (Int32.ofNat o)), .val (.int (Int32.ofNat len)), .unset, .unset, .unset] [.ref s.heap.size])) := c2.trans (st3 _ (Steps.refl _))
  have c5 : Steps p.tables e below (s₁.setTop (entryFrame m #[.ref b, .int (Int32.ofNat o), .int (Int32.ofNat len)] 6)) (T3.setTop (mkF m 9 #[.val (.ref b), .val (.int (Int32.ofNat o)), .val (.int (Int32.ofNat len)), .val (.ref s.heap.size), .unset, .unset] [.int (Int32.ofNat len), .int 0, .ref s.heap.size, .int (Int32.ofNat o), .ref b])) := c4.trans (by
    refine XS.astoreN X3.here hexec rfl (hb hbytes d3) rfl rfl rfl ?_
    refine XS.aloadN X3.here hexec rfl (hb hbytes d4) rfl rfl ?_
    refine XS.iloadN X3.here hexec rfl (hb hbytes d5) rfl ?_
    refine XS.aloadN X3.here hexec rfl (hb hbytes d6) rfl rfl ?_
    refine iconstV X3.here hexec rfl 0 (hb hbytes d7) (by decide) ?_
    refine XS.iloadN X3.here hexec rfl (hb hbytes d8) rfl ?_
    exact Steps.refl _)
  obtain ⟨v6, T6, X6, E6, g6⟩ := X3.callS hexec (Cmp5.law l b A s.heap.size B3 o 0 len) hown (wks W (staticW U16 115 Cmp5.yN)) (wk W Cmp5.tab) (W := 0) (Nat.le_of_ble_eq_true rfl) (Nat.le_of_ble_eq_true rfl) (Nat.le_refl _) (by show 0 + len + 0 ≤ len; omega) (g := (mkF m 9 #[.val (.ref b), .val (.int (Int32.ofNat o)), .val (.int (Int32.ofNat len)), .val (.ref s.heap.size), .unset, .unset] [.int (Int32.ofNat len), .int (Int32.ofNat 0), .ref s.heap.size, .int (Int32.ofNat o), .ref b])) rfl (by rw [hml]; rfl) c5 (argsL := [.ref b, .int (Int32.ofNat o), .ref s.heap.size, .int (Int32.ofNat 0), .int (Int32.ofNat len)]) (rest := []) rfl rfl (by show 2 * 0 + 0 ≤ _; decide) (hb hbytes d9) (⟨rfl, hA3, ba3, hne, l1, by rw [bs3]; simp, hp⟩)
  obtain ⟨rfl, B6, p6, f6⟩ := E6
  have c7 : Steps p.tables e below (s₁.setTop (entryFrame m #[.ref b, .int (Int32.ofNat o), .int (Int32.ofNat len)] 6)) (T6.setTop (mkF m 12 #[.val (.ref b), .val (.int (Int32.ofNat o)), .val (.int (Int32.ofNat len)), .val (.ref s.heap.size), .unset, .unset] [.int (Int32.ofNat len)])) := g6
  have c8 : Steps p.tables e below (s₁.setTop (entryFrame m #[.ref b, .int (Int32.ofNat o), .int (Int32.ofNat len)] 6)) (T6.setTop (mkF m 58 #[.val (.ref b), .val (.int (Int32.ofNat o)), .val (.int (Int32.ofNat len)), .val (.ref s.heap.size), .val (.int (Int32.ofNat len)), .unset] [.ref s.heap.size])) := c7.trans (by
    refine XS.istore X6.here hexec rfl (hb hbytes d12) rfl rfl ?_
    refine XS.iload X6.here hexec rfl (hb hbytes d14) rfl ?_
    refine XS.iloadN X6.here hexec rfl (hb hbytes d16) rfl ?_
    refine XS.icmpYes X6.here hexec rfl (pc0 := 17) rfl (hb hbytes d17) rfl (ii_eq_t rfl) (by decide) rfl ?_
    refine XS.aloadN X6.here hexec rfl (hb hbytes d57) rfl rfl ?_
    exact Steps.refl _)
  have X8 := X6.wide (L' := []) (cells' := 1) (slots' := len) (fun x hx hlt => by
    simp only [List.nil_append, copyLocs, List.mem_map, List.mem_range] at hx
    obtain ⟨i, -, rfl⟩ := hx
    exact absurd hlt (Nat.lt_irrefl _)) (Nat.le_refl _) (by omega)
  exact ⟨T6, some (.ref s.heap.size), _, _, _, X8, rfl, rfl, rfl, (fun h => by cases h), ⟨⟨rfl, B6, ba3.like (X3.warmed.alike.symm.trans X6.warmed.alike) p6.1 f6.1 f6.2.1 f6.2.2.1, f6.2.1.trans bv3, by rw [X6.warmed.alike.findClass, f6.1]; exact bf3, by rw [f6.2.2.1, bs3]; simp, fun j hj => by rw [f6.2.2.2 j, if_pos (by omega)]; rfl, kp3.put p6 (Nat.le_refl _)⟩, by rw [p6.2.2, bh3, hh0]; simp⟩, fun fs hl => c8.trans (X8.areturnOut hexec rfl hret rfl (hb hbytes d58) hl)⟩
end Cmp3
namespace CodL
def yN : MethodName := ⟨"java/lang/StringUTF16", "coderFromArrayLen", "([BI)B"⟩
abbrev yB : ByteArray := jdk_52_method_15_code
theorem d0 : decode yB 0 = .ok (.iload_n 1, 1) := by decide +kernel
theorem d1 : decode yB 1 = .ok (.aload_n 0, 1) := by decide +kernel
theorem d2 : decode yB 2 = .ok (.arraylength, 1) := by decide +kernel
theorem d3 : decode yB 3 = .ok (.isub, 1) := by decide +kernel
theorem d4 : decode yB 4 = .ok (.bipush 31, 2) := by decide +kernel
theorem d6 : decode yB 6 = .ok (.iushr, 1) := by decide +kernel
theorem d7 : decode yB 7 = .ok (.i2b, 1) := by decide +kernel
theorem d8 : decode yB 8 = .ok (.ireturn, 1) := by decide +kernel
def site : List Cond := []
def tab : Cond := tabOf yN yB 2 (some .byte) site
def P (d : Addr) (B : Cell) (args : Array Value) (s : State) : Prop := args = #[.ref d, .int (Int32.ofNat B.slots.size)] ∧ Arr .byte d B s
def E (r : Option Value) (s u : State) : Prop := XT.PureE (some (.int 0)) r s u
/-- an array as long as the number of chars: LATIN1 -/
theorem law (l : Launch) (d : Addr) (B : Cell) : Law l yN 2 2 0 0 yB 2 (some .byte) site (P d B) E [] 0 0 := by
  refine Law.of_walk (plainFor_of_name (by decide +kernel)) (by decide +kernel) (by decide +kernel) (by decide) (fun _ _ h => by rw [h.1]; rfl) (fun _ U U' hal hh h => ⟨h.1, h.2.mv hal hh⟩) (fun r U U' V V' h1 hal h2 h => XT.PureE.mv r U U' V V' h1 hal h2 h) ?_
  intro p e s m args below meth c s₁ X0 hexec hbytes hml hret hlk hnm hown hh0 W hP
  obtain ⟨rfl, hB⟩ := hP
  have hB0 := hB.mv X0.warmed.alike hh0
  have c1 : Steps p.tables e below (s₁.setTop (entryFrame m #[.ref d, .int (Int32.ofNat B.slots.size)] 2)) (s₁.setTop (mkF m 0 #[.val (.ref d), .val (.int (Int32.ofNat B.slots.size))] [])) := entry rfl
  have c2 : Steps p.tables e below (s₁.setTop (entryFrame m #[.ref d, .int (Int32.ofNat B.slots.size)] 2)) (s₁.setTop (mkF m 2 #[.val (.ref d), .val (.int (Int32.ofNat B.slots.size))] [.ref d, .int (Int32.ofNat B.slots.size)])) := c1.trans (by
    refine XS.iloadN X0.here hexec rfl (hb hbytes d0) rfl ?_
    refine XS.aloadN X0.here hexec rfl (hb hbytes d1) rfl rfl ?_
    exact Steps.refl _)
  have c3 : Steps p.tables e below (s₁.setTop (entryFrame m #[.ref d, .int (Int32.ofNat B.slots.size)] 2)) (s₁.setTop (mkF m 8 #[.val (.ref d), .val (.int (Int32.ofNat B.slots.size))] [.int (lo8 (ushr (Int32.ofNat B.slots.size - Int32.ofNat B.slots.size) 31))])) := c2.trans (by
    refine X0.alen hexec hB0 rfl rfl (hb hbytes d2) ?_
    refine XS.isub X0.here hexec rfl (hb hbytes d3) rfl ?_
    refine bipushV X0.here hexec rfl 31 (hb hbytes d4) (by decide) ?_
    refine iushr X0.here hexec rfl (hb hbytes d6) rfl ?_
    refine i2b X0.here hexec rfl (hb hbytes d7) rfl ?_
    exact Steps.refl _)
  have e0 : lo8 (ushr (Int32.ofNat B.slots.size - Int32.ofNat B.slots.size) 31) = 0 := by rw [Int32.sub_self]; decide
  rw [e0] at c3
  exact ⟨s₁, some (.int 0), _, _, _, X0, rfl, rfl, rfl, (fun h => by cases h), ⟨rfl, hh0⟩, fun fs hl => c3.trans (X0.ireturnOut hexec hret rfl (Or.inr (Or.inr (Or.inl rfl))) (hb hbytes d8) hl)⟩
end CodL
/-- the String at a is Latin-1 over a new byte[] (the heap's one new cell): the low bytes of the len chars of A from o on; every cell but a is kept -/
def Got (a : Addr) (D : Cell) (fV fC : Field) (A : Cell) (o len : Nat) (r : Option Value) (s u : State) : Prop := r = none ∧ ∃ D' V : Cell, Blank "java/lang/String" a D' u ∧ Same D D' [fV.slot, fC.slot] ∧ D'.slots[fV.slot]? = some (.ref s.heap.size) ∧ D'.slots[fC.slot]? = some (.int 0) ∧ Arr .byte s.heap.size V u ∧ V.vm = .none ∧ u.vm.findClass "[B" = some V.cls ∧ V.slots.size = len ∧ (∀ j, j < len → V.slots[j]? = some (.int (lo8 (cv A (o + j))))) ∧ (∀ (y : Addr) (c : Cell), y ≠ a → s.heap[y]? = some c → u.heap[y]? = some c) ∧ u.heap.size = s.heap.size + 1
theorem Got.mv {a : Addr} {D A : Cell} {fV fC : Field} {o len : Nat} : ∀ r (U U' V V' : State), U'.heap = U.heap → V.vm.Alike V'.vm → V'.heap = V.heap → Got a D fV fC A o len r U V → Got a D fV fC A o len r U' V' :=
  fun r U U' V V' h1 hal h2 ⟨e0, D', X, a1, a2, a3, a4, a5, a6, a7, a8, a9, a10, a11⟩ => ⟨e0, D', X, a1.mv hal h2, a2, by rw [h1]; exact a3, a4, by rw [h1]; exact a5.mv hal h2, a6, by rw [hal.findClass]; exact a7, a8, a9, by rw [h1, h2]; exact a10, by rw [h1, h2]; exact a11⟩
namespace New4
def yN : MethodName := ⟨"java/lang/String", "<init>", "([CIILjava/lang/Void;)V"⟩
abbrev yB : ByteArray := jdk_42_method_149_code
theorem d0 : decode yB 0 = .ok (.aload_n 0, 1) := by decide +kernel
theorem d1 : decode yB 1 = .ok (.invokespecial 1, 3) := by decide +kernel
theorem d4 : decode yB 4 = .ok (.iload_n 3, 1) := by decide +kernel
theorem d5 : decode yB 5 = .ok (.ifCond (.ne) 22, 3) := by decide +kernel
theorem d27 : decode yB 27 = .ok (.getstatic 38, 3) := by decide +kernel
theorem d30 : decode yB 30 = .ok (.ifCond (.eq) 28, 3) := by decide +kernel
theorem d33 : decode yB 33 = .ok (.aload_n 1, 1) := by decide +kernel
theorem d34 : decode yB 34 = .ok (.iload_n 2, 1) := by decide +kernel
theorem d35 : decode yB 35 = .ok (.iload_n 3, 1) := by decide +kernel
theorem d36 : decode yB 36 = .ok (.invokestatic 177, 3) := by decide +kernel
theorem d39 : decode yB 39 = .ok (.astore 5, 2) := by decide +kernel
theorem d41 : decode yB 41 = .ok (.aload_n 0, 1) := by decide +kernel
theorem d42 : decode yB 42 = .ok (.aload 5, 2) := by decide +kernel
theorem d44 : decode yB 44 = .ok (.iload_n 3, 1) := by decide +kernel
theorem d45 : decode yB 45 = .ok (.invokestatic 47, 3) := by decide +kernel
theorem d48 : decode yB 48 = .ok (.putfield 15, 3) := by decide +kernel
theorem d51 : decode yB 51 = .ok (.aload_n 0, 1) := by decide +kernel
theorem d52 : decode yB 52 = .ok (.aload 5, 2) := by decide +kernel
theorem d54 : decode yB 54 = .ok (.putfield 9, 3) := by decide +kernel
theorem d57 : decode yB 57 = .ok (.return_, 1) := by decide +kernel
def site : List Cond := [.fieldLink "java/lang/String" 38 "java/lang/String" "COMPACT_STRINGS" "Z", Cmp3.tab, CodL.tab, .laysFinal "java/lang/String" "java/lang/String" "value" "[B", .fieldLink "java/lang/String" 9 "java/lang/String" "value" "[B", .laysFinal "java/lang/String" "java/lang/String" "coder" "B", .fieldLink "java/lang/String" 15 "java/lang/String" "coder" "B"] ++ objW "java/lang/String" 1 ++ staticW "java/lang/String" 177 Cmp3.yN ++ staticW "java/lang/String" 47 CodL.yN
def tab : Cond := tabOf yN yB 6 none site
def P (a : Addr) (D : Cell) (fV fC : Field) (b : Addr) (A : Cell) (z : Int32) (o len : Nat) (args : Array Value) (s : State) : Prop := args = #[.ref a, .ref b, .int (Int32.ofNat o), .int (Int32.ofNat len), .null] ∧ Blank "java/lang/String" a D s ∧ Found "java/lang/String" "value" "[B" fV s ∧ Found "java/lang/String" "coder" "B" fC s ∧ Ch b A s ∧ StaticIs s "java/lang/String" "COMPACT_STRINGS" "Z" (.int z) ∧ ¬ z = 0 ∧ 0 < len ∧ o + len ≤ A.slots.size ∧ len ≤ 536870912 ∧ ∀ i, i < len → ¬ 255 < cv A (o + i)
def E (a : Addr) (D : Cell) (fV fC : Field) (A : Cell) (o len : Nat) (r : Option Value) (s u : State) : Prop := Got a D fV fC A o len r s u
/-- len > 0, no char of the range above 255: a Latin-1 String of their low bytes -/
theorem law (l : Launch) (a : Addr) (D : Cell) (fV fC : Field) (b : Addr) (A : Cell) (z : Int32) (o len : Nat) : Law l yN 5 4 2 35 yB 6 none site (P a D fV fC b A z o len) (E a D fV fC A o len) [⟨a, fC.slot⟩, ⟨a, fV.slot⟩] 1 len := by
  refine Law.of_walk (plainFor_of_name (by decide +kernel)) (by decide +kernel) (by decide +kernel) (by decide) (fun _ _ h => by rw [h.1]; rfl) (fun _ U U' hal hh h => ⟨h.1, h.2.1.mv hal hh, h.2.2.1.al hal, h.2.2.2.1.al hal, h.2.2.2.2.1.mv hal hh, h.2.2.2.2.2.1.there hal hh, h.2.2.2.2.2.2⟩) (fun r U U' V V' h1 hal h2 h => Got.mv r U U' V V' h1 hal h2 h) ?_
  intro p e s m args below meth c s₁ X0 hexec hbytes hml hret hlk hnm hown hh0 W hP
  obtain ⟨rfl, hB, f1, f2, hA, s1, hz, l0, l1, l2, hp⟩ := hP
  have a31 := hA.1.2.2.2
  have c1 : Steps p.tables e below (s₁.setTop (entryFrame m #[.ref a, .ref b, .int (Int32.ofNat o), .int (Int32.ofNat len), .null] 6)) (s₁.setTop (mkF m 0 #[.val (.ref a), .val (.ref b), .val (.int (Int32.ofNat o)), .val (.int (Int32.ofNat len)), .val .null, .unset] [])) := entry rfl
  have c2 : Steps p.tables e below (s₁.setTop (entryFrame m #[.ref a, .ref b, .int (Int32.ofNat o), .int (Int32.ofNat len), .null] 6)) (s₁.setTop (mkF m 1 #[.val (.ref a), .val (.ref b), .val (.int (Int32.ofNat o)), .val (.int (Int32.ofNat len)), .val .null, .unset] [.ref a])) := c1.trans (by
    refine XS.aloadN X0.here hexec rfl (hb hbytes d0) rfl rfl ?_
    exact Steps.refl _)
  obtain ⟨T3, X3, q3, st3⟩ := X0.oinit hexec hown (wks W (objW "java/lang/String" 1)) (g := (mkF m 1 #[.val (.ref a), .val (.ref b), .val (.int (Int32.ofNat o)), .val (.int (Int32.ofNat len)), .val .null, .unset] [.ref a])) rfl (by rw [hml]; rfl) (rest := []) rfl (hb hbytes d1) (W := 0) (by show 2 * 0 + 0 ≤ _; decide) (Nat.le_of_ble_eq_true rfl) (Nat.le_of_ble_eq_true rfl)
  have hh3 := q3.trans hh0
  have c4 : Steps p.tables e below (s₁.setTop (entryFrame m #[.ref a, .ref b, .int (Int32.ofNat o), .int (Int32.ofNat len), .null] 6)) (T3.setTop (mkF m 27 #[.val (.ref a), .val (.ref b), .val (.int (Int32.ofNat o)), .val (.int (Int32.ofNat len)), .val .null, .unset] [])) := (c2.trans (st3 _ (Steps.refl _))).trans (by
    refine XS.iloadN X3.here hexec rfl (hb hbytes d4) rfl ?_
    refine XS.ifYes X3.here hexec rfl (pc0 := 5) rfl (hb hbytes d5) rfl (i0_ne_t (nz32 (by omega) l0)) (by decide) rfl ?_
    exact Steps.refl _)
  obtain ⟨T5, X5, q5, st5⟩ := X3.sget hexec hown (wk W (.fieldLink "java/lang/String" 38 "java/lang/String" "COMPACT_STRINGS" "Z")) s1 (fun _ _ h => by rw [hh3]; exact h) (g := (mkF m 27 #[.val (.ref a), .val (.ref b), .val (.int (Int32.ofNat o)), .val (.int (Int32.ofNat len)), .val .null, .unset] [])) rfl (hb hbytes d27)
  have hh5 := q5.trans hh3
  have c6 : Steps p.tables e below (s₁.setTop (entryFrame m #[.ref a, .ref b, .int (Int32.ofNat o), .int (Int32.ofNat len), .null] 6)) (T5.setTop (mkF m 30 #[.val (.ref a), .val (.ref b), .val (.int (Int32.ofNat o)), .val (.int (Int32.ofNat len)), .val .null, .unset] [.int z])) := c4.trans (st5 _ (Steps.refl _))
  have c7 : Steps p.tables e below (s₁.setTop (entryFrame m #[.ref a, .ref b, .int (Int32.ofNat o), .int (Int32.ofNat len), .null] 6)) (T5.setTop (mkF m 36 #[.val (.ref a), .val (.ref b), .val (.int (Int32.ofNat o)), .val (.int (Int32.ofNat len)), .val .null, .unset] [.int (Int32.ofNat len), .int (Int32.ofNat o), .ref b])) := c6.trans (by
    refine XS.ifNo X5.here hexec rfl (hb hbytes d30) rfl (i0_eq_f hz) ?_
    refine XS.aloadN X5.here hexec rfl (hb hbytes d33) rfl rfl ?_
    refine XS.iloadN X5.here hexec rfl (hb hbytes d34) rfl ?_
    refine XS.iloadN X5.here hexec rfl (hb hbytes d35) rfl ?_
    exact Steps.refl _)
  obtain ⟨v8, T8, X8, E8, g8⟩ := X5.callS hexec (Cmp3.law l b A o len) hown (wks W (staticW "java/lang/String" 177 Cmp3.yN)) (wk W Cmp3.tab) (W := 0) (Nat.le_of_ble_eq_true rfl) (Nat.le_of_ble_eq_true rfl) (Nat.le_refl _) (by show 0 + len ≤ len; omega) (g := (mkF m 36 #[.val (.ref a), .val (.ref b), .val (.int (Int32.ofNat o)), .val (.int (Int32.ofNat len)), .val .null, .unset] [.int (Int32.ofNat len), .int (Int32.ofNat o), .ref b])) rfl (by rw [hml]; rfl) c7 (argsL := [.ref b, .int (Int32.ofNat o), .int (Int32.ofNat len)]) (rest := []) rfl rfl (by show 2 * 0 + 0 ≤ _; decide) (hb hbytes d36) (⟨rfl, hA.mv X5.warmed.alike hh5, l1, l2, hp⟩)
  obtain ⟨e8, z8⟩ := E8
  obtain ⟨rfl, N, n1, n2, n3, n4, n5, n6⟩ := NewArr.mv _ T5 s _ _ hh5.symm (Vm.Alike.refl _) rfl e8
  rw [hh5] at z8
  have hB1 := hB.keep X8.warmed.alike (n6 _ _ hB.1)
  have hne : s.heap.size ≠ a := (Nat.ne_of_lt (Array.getElem?_eq_some_iff.mp hB.1).1).symm
  have c9 : Steps p.tables e below (s₁.setTop (entryFrame m #[.ref a, .ref b, .int (Int32.ofNat o), .int (Int32.ofNat len), .null] 6)) (T8.setTop (mkF m 39 #[.val (.ref a), .val (.ref b), .val (.int (Int32.ofNat o)), .val (.int (Int32.ofNat len)), .val .null, .unset] [.ref s.heap.size])) := g8
  have c10 : Steps p.tables e below (s₁.setTop (entryFrame m #[.ref a, .ref b, .int (Int32.ofNat o), .int (Int32.ofNat len), .null] 6)) (T8.setTop (mkF m 45 #[.val (.ref a), .val (.ref b), .val (.int (Int32.ofNat o)), .val (.int (Int32.ofNat len)), .val .null, .val (.ref s.heap.size)] [.int (Int32.ofNat N.slots.size), .ref s.heap.size, .ref a])) := by
    have hc : Steps p.tables e below (s₁.setTop (entryFrame m #[.ref a, .ref b, .int (Int32.ofNat o), .int (Int32.ofNat len), .null] 6)) (T8.setTop (mkF m 45 #[.val (.ref a), .val (.ref b), .val (.int (Int32.ofNat o)), .val (.int (Int32.ofNat len)), .val .null, .val (.ref s.heap.size)] [.int (Int32.ofNat len), .ref s.heap.size, .ref a])) := c9.trans (by
      refine XS.astore X8.here hexec rfl (hb hbytes d39) rfl rfl rfl ?_
      refine XS.aloadN X8.here hexec rfl (hb hbytes d41) rfl rfl ?_
      refine XS.aload X8.here hexec rfl (hb hbytes d42) rfl rfl ?_
      refine XS.iloadN X8.here hexec rfl (hb hbytes d44) rfl ?_
      exact Steps.refl _)
    rw [n4]; exact hc
  obtain ⟨v11, T11, X11, E11, g11⟩ := X8.callS hexec (CodL.law l s.heap.size N) hown (wks W (staticW "java/lang/String" 47 CodL.yN)) (wk W CodL.tab) (W := 1) (Nat.le_of_ble_eq_true rfl) (Nat.le_of_ble_eq_true rfl) (Nat.le_refl _) (by show 0 + len + 0 ≤ len; omega) (g := (mkF m 45 #[.val (.ref a), .val (.ref b), .val (.int (Int32.ofNat o)), .val (.int (Int32.ofNat len)), .val .null, .val (.ref s.heap.size)] [.int (Int32.ofNat N.slots.size), .ref s.heap.size, .ref a])) rfl (by rw [hml]; rfl) c10 (argsL := [.ref s.heap.size, .int (Int32.ofNat N.slots.size)]) (rest := [.ref a]) rfl rfl (by show 2 * 0 + (1 + 0) ≤ _; decide) (hb hbytes d45) (⟨rfl, n1⟩)
  obtain ⟨rfl, q11⟩ := E11
  have hB11 := hB1.mv (X8.warmed.alike.symm.trans X11.warmed.alike) q11
  have c12 : Steps p.tables e below (s₁.setTop (entryFrame m #[.ref a, .ref b, .int (Int32.ofNat o), .int (Int32.ofNat len), .null] 6)) (T11.setTop (mkF m 48 #[.val (.ref a), .val (.ref b), .val (.int (Int32.ofNat o)), .val (.int (Int32.ofNat len)), .val .null, .val (.ref s.heap.size)] [.int 0, .ref a])) := g11
  obtain ⟨T13, X13, p13, bl13, sl13, st13⟩ := X11.finit hexec hown (wk W (.fieldLink "java/lang/String" 15 "java/lang/String" "coder" "B")) (Or.inr ⟨_, (wk W (.laysFinal "java/lang/String" "java/lang/String" "coder" "B"))⟩) (Or.inl ⟨rfl, hnm⟩) f2 (Or.inl rfl) hB11 (t := .byte) (by decide +kernel) rfl (g := (mkF m 48 #[.val (.ref a), .val (.ref b), .val (.int (Int32.ofNat o)), .val (.int (Int32.ofNat len)), .val .null, .val (.ref s.heap.size)] [.int 0, .ref a])) rfl (rest := []) rfl (hb hbytes d48)
  have c14 : Steps p.tables e below (s₁.setTop (entryFrame m #[.ref a, .ref b, .int (Int32.ofNat o), .int (Int32.ofNat len), .null] 6)) (T13.setTop (mkF m 54 #[.val (.ref a), .val (.ref b), .val (.int (Int32.ofNat o)), .val (.int (Int32.ofNat len)), .val .null, .val (.ref s.heap.size)] [.ref s.heap.size, .ref a])) := (c12.trans (st13 _ (Steps.refl _))).trans (by
    refine XS.aloadN X13.here hexec rfl (hb hbytes d51) rfl rfl ?_
    refine XS.aload X13.here hexec rfl (hb hbytes d52) rfl rfl ?_
    exact Steps.refl _)
  obtain ⟨T15, X15, p15, bl15, sl15, st15⟩ := X13.finit hexec hown (wk W (.fieldLink "java/lang/String" 9 "java/lang/String" "value" "[B")) (Or.inr ⟨_, (wk W (.laysFinal "java/lang/String" "java/lang/String" "value" "[B"))⟩) (Or.inl ⟨rfl, hnm⟩) f1 (Or.inl rfl) bl13 (t := (.array .byte)) (by decide +kernel) rfl (g := (mkF m 54 #[.val (.ref a), .val (.ref b), .val (.int (Int32.ofNat o)), .val (.int (Int32.ofNat len)), .val .null, .val (.ref s.heap.size)] [.ref s.heap.size, .ref a])) rfl (rest := []) rfl (hb hbytes d54)
  have c16 : Steps p.tables e below (s₁.setTop (entryFrame m #[.ref a, .ref b, .int (Int32.ofNat o), .int (Int32.ofNat len), .null] 6)) (T15.setTop (mkF m 57 #[.val (.ref a), .val (.ref b), .val (.int (Int32.ofNat o)), .val (.int (Int32.ofNat len)), .val .null, .val (.ref s.heap.size)] [])) := c14.trans (st15 _ (Steps.refl _))
  have ap := apart (Or.inr ⟨_, (wk W (.laysFinal "java/lang/String" "java/lang/String" "value" "[B"))⟩) (Or.inr ⟨_, (wk W (.laysFinal "java/lang/String" "java/lang/String" "coder" "B"))⟩) f1 f2 (t₁ := .array .byte) (t₂ := .byte) (by decide +kernel) (by decide +kernel) (by decide)
  have al := X8.warmed.alike.symm.trans X15.warmed.alike
  have n7 : T11.heap[s.heap.size]? = some N := by rw [q11]; exact n1.1
  exact ⟨T15, none, _, _, _, X15, by simp, rfl, by omega, (fun _ => rfl), ⟨rfl, _, N, bl15, ((Same.refl D _).set _ (by simp)).set _ (by simp), sl15, (Cell.slots_setSlot_ne _ ap).trans sl13, n1.keep al (p15.other hne (p13.other hne n7)), n2, by rw [al.findClass]; exact n3, n4, n5, fun y c h1 h2 => p15.other h1 (p13.other h1 (by rw [q11]; exact n6 y c h2)), by rw [p15.2.2, p13.2.2, q11]; exact z8⟩, fun fs hl => c16.trans (X15.returnOut hexec hret (hb hbytes d57) hl)⟩
end New4
namespace New1
def yN : MethodName := ⟨"java/lang/String", "<init>", "([C)V"⟩
abbrev yB : ByteArray := jdk_42_method_3_code
theorem d0 : decode yB 0 = .ok (.aload_n 0, 1) := by decide +kernel
theorem d1 : decode yB 1 = .ok (.aload_n 1, 1) := by decide +kernel
theorem d2 : decode yB 2 = .ok (.iconst 0, 1) := by decide +kernel
theorem d3 : decode yB 3 = .ok (.aload_n 1, 1) := by decide +kernel
theorem d4 : decode yB 4 = .ok (.arraylength, 1) := by decide +kernel
theorem d5 : decode yB 5 = .ok (.aconst_null, 1) := by decide +kernel
theorem d6 : decode yB 6 = .ok (.invokespecial 27, 3) := by decide +kernel
theorem d9 : decode yB 9 = .ok (.return_, 1) := by decide +kernel
def site : List Cond := [New4.tab] ++ initW "java/lang/String" 27 New4.yN
def tab : Cond := tabOf yN yB 2 none site
def P (a : Addr) (D : Cell) (fV fC : Field) (b : Addr) (A : Cell) (z : Int32) (args : Array Value) (s : State) : Prop := args = #[.ref a, .ref b] ∧ Blank "java/lang/String" a D s ∧ Found "java/lang/String" "value" "[B" fV s ∧ Found "java/lang/String" "coder" "B" fC s ∧ Ch b A s ∧ StaticIs s "java/lang/String" "COMPACT_STRINGS" "Z" (.int z) ∧ ¬ z = 0 ∧ 0 < A.slots.size ∧ A.slots.size ≤ 536870912 ∧ ∀ i, i < A.slots.size → ¬ 255 < cv A i
def E (a : Addr) (D : Cell) (fV fC : Field) (A : Cell) (r : Option Value) (s u : State) : Prop := Got a D fV fC A 0 A.slots.size r s u
/-- new String(chars), not empty, no char above 255: a Latin-1 String of their low bytes -/
theorem law (l : Launch) (a : Addr) (D : Cell) (fV fC : Field) (b : Addr) (A : Cell) (z : Int32) : Law l yN 2 1 3 52 yB 2 none site (P a D fV fC b A z) (E a D fV fC A) [⟨a, fC.slot⟩, ⟨a, fV.slot⟩] 1 A.slots.size := by
  refine Law.of_walk (plainFor_of_name (by decide +kernel)) (by decide +kernel) (by decide +kernel) (by decide) (fun _ _ h => by rw [h.1]; rfl) (fun _ U U' hal hh h => ⟨h.1, h.2.1.mv hal hh, h.2.2.1.al hal, h.2.2.2.1.al hal, h.2.2.2.2.1.mv hal hh, h.2.2.2.2.2.1.there hal hh, h.2.2.2.2.2.2⟩) (fun r U U' V V' h1 hal h2 h => Got.mv r U U' V V' h1 hal h2 h) ?_
  intro p e s m args below meth c s₁ X0 hexec hbytes hml hret hlk hnm hown hh0 W hP
  obtain ⟨rfl, hB, f1, f2, hA, s1, hz, l0, l2, hp⟩ := hP
  have c1 : Steps p.tables e below (s₁.setTop (entryFrame m #[.ref a, .ref b] 2)) (s₁.setTop (mkF m 0 #[.val (.ref a), .val (.ref b)] [])) := entry rfl
  have c2 : Steps p.tables e below (s₁.setTop (entryFrame m #[.ref a, .ref b] 2)) (s₁.setTop (mkF m 6 #[.val (.ref a), .val (.ref b)] [.null, .int (Int32.ofNat A.slots.size), .int 0, .ref b, .ref a])) := c1.trans (by
    refine XS.aloadN X0.here hexec rfl (hb hbytes d0) rfl rfl ?_
    refine XS.aloadN X0.here hexec rfl (hb hbytes d1) rfl rfl ?_
    refine iconstV X0.here hexec rfl 0 (hb hbytes d2) (by decide) ?_
    refine XS.aloadN X0.here hexec rfl (hb hbytes d3) rfl rfl ?_
    refine X0.alen hexec (hA.1.mv X0.warmed.alike hh0) rfl rfl (hb hbytes d4) ?_
    refine XS.aconstNull X0.here hexec rfl (hb hbytes d5) ?_
    exact Steps.refl _)
  obtain ⟨v3, T3, X3, E3, g3⟩ := X0.callN hexec (New4.law l a D fV fC b A z 0 A.slots.size) rfl hown (wks W (initW "java/lang/String" 27 New4.yN)) (W New4.tab (by simp only [site, List.mem_cons, List.mem_append, true_or, or_true])) (W := 0) (Nat.le_of_ble_eq_true rfl) (Nat.le_of_ble_eq_true rfl) (Nat.le_refl _) (by show 0 + A.slots.size ≤ A.slots.size; omega) (g := (mkF m 6 #[.val (.ref a), .val (.ref b)] [.null, .int (Int32.ofNat A.slots.size), .int (Int32.ofNat 0), .ref b, .ref a])) rfl (by rw [hml]; rfl) c2 (argsL := [.ref b, .int (Int32.ofNat 0), .int (Int32.ofNat A.slots.size), .null]) (rest := []) rfl rfl (by show 2 * 0 + 0 ≤ _; decide) (hb hbytes d6) (⟨rfl, hB.mv X0.warmed.alike hh0, f1.al X0.warmed.alike, f2.al X0.warmed.alike, hA.mv X0.warmed.alike hh0, s1.there X0.warmed.alike hh0, hz, l0, by omega, l2, fun i hi => by rw [Nat.zero_add]; exact hp i hi⟩)
  have e0 := Got.mv _ s₁ s _ _ hh0.symm (Vm.Alike.refl _) rfl E3
  obtain rfl := e0.1
  have c4 : Steps p.tables e below (s₁.setTop (entryFrame m #[.ref a, .ref b] 2)) (T3.setTop (mkF m 9 #[.val (.ref a), .val (.ref b)] [])) := g3
  exact ⟨T3, none, _, _, _, X3, by simp, rfl, by omega, (fun _ => rfl), e0, fun fs hl => c4.trans (X3.returnOut hexec hret (hb hbytes d9) hl)⟩
theorem pays {l : Launch} {R : Room} {p : Program} {e : Env} {below : List Frame} {s : State} {sargs : Array Value} {len W : Nat} (a : Addr) (D : Cell) (fV fC : Field) (b : Addr) (A : Cell) (z : Int32) (htab : tab.before sargs s = true) (hfr : 4 ≤ R.frames) (hlo : W + 65 ≤ R.locals) :
    Back l R p e below s sargs yN len W (fun A₁ a₁ => A₁.cells + 1 ≤ R.cells ∧ A₁.slots + A.slots.size ≤ R.slots ∧ P a D fV fC b A z a₁ A₁.U) (fun A₁ _ v₁ B₁ => E a D fV fC A v₁ A₁.U B₁.U ∧ B₁.locs = A₁.locs ++ [⟨a, fC.slot⟩, ⟨a, fV.slot⟩] ∧ B₁.cells = A₁.cells + 1 ∧ B₁.slots = A₁.slots + A.slots.size) :=
  (law l a D fV fC b A z).pays htab hfr (by omega)
end New1
end StrChars
namespace StrChars.Road
open Jvm Sem ClassFile Op Lib Jvm.Stand Jvm.Free Jvm.Free.XT
open Jvm.Lib.Cold (StaticIs)
abbrev ST : String := "java/lang/String"
/-- every table word that New1's law asks, flat -/
abbrev words : List Jvm.Cond := [.code New1.yN New1.yB 2 none, .initialized ST, .methodLink ST 27 New4.yN, .instanceMethod New4.yN,
  .code New4.yN New4.yB 6 none, .fieldLink ST 38 ST "COMPACT_STRINGS" "Z", .laysFinal ST ST "value" "[B", .fieldLink ST 9 ST "value" "[B", .laysFinal ST ST "coder" "B", .fieldLink ST 15 ST "coder" "B",
  .methodLink ST 1 Lib.objectInit, .instanceMethod Lib.objectInit, .code Lib.objectInit ⟨#[0xb1]⟩ 1 none, .methodLink ST 177 Cmp3.yN, .static Cmp3.yN, .methodLink ST 47 CodL.yN, .static CodL.yN,
  .code Cmp3.yN Cmp3.yB 6 (some (.array .byte)), .initialized U16, .arrayClass .byte, .methodLink U16 115 Cmp5.yN, .static Cmp5.yN, .code Cmp5.yN Cmp5.yB 7 (some .int), .code CodL.yN CodL.yB 2 (some .byte)]
theorem tab_of {a : Array Value} {s : State} (h : ∀ w ∈ words, w.before a s = true) : New1.tab.before a s = true := by
  have h5 : Cmp5.tab.before a s = true := unparts (wk h (.code Cmp5.yN Cmp5.yB 7 (some .int))) (wks h (.initialized Cmp5.yN.cls :: Cmp5.site))
  have hc : CodL.tab.before a s = true := unparts (wk h (.code CodL.yN CodL.yB 2 (some .byte))) (wks h (.initialized CodL.yN.cls :: CodL.site))
  have q5 : ∀ w ∈ Cmp5.tab :: words, w.before a s = true := fun w hw => (List.mem_cons.mp hw).elim (fun e => e ▸ h5) (h w)
  have h3 : Cmp3.tab.before a s = true := unparts (wk q5 (.code Cmp3.yN Cmp3.yB 6 (some (.array .byte)))) (wks q5 (.initialized Cmp3.yN.cls :: Cmp3.site))
  have q3 : ∀ w ∈ Cmp3.tab :: CodL.tab :: words, w.before a s = true := fun w hw => (List.mem_cons.mp hw).elim (fun e => e ▸ h3) fun hw => (List.mem_cons.mp hw).elim (fun e => e ▸ hc) (h w)
  have h4 : New4.tab.before a s = true := unparts (wk q3 (.code New4.yN New4.yB 6 none)) (wks q3 (.initialized New4.yN.cls :: New4.site))
  have q4 : ∀ w ∈ New4.tab :: words, w.before a s = true := fun w hw => (List.mem_cons.mp hw).elim (fun e => e ▸ h4) (h w)
  exact unparts (wk q4 (.code New1.yN New1.yB 2 none)) (wks q4 (.initialized New1.yN.cls :: New1.site))
/-- the words ride from the start Z to the walk's own state -/
theorem moved {Z s : State} {a0 args : Array Value} (hZ : Z.Warmed39 s.vm) (hw : ∀ d ∈ words, d.before a0 Z = true) : ∀ d ∈ words, d.before args s = true := fun d hd => by
  have q := hw d hd
  have t : ∀ d ∈ words, d = .arrayClass .byte ∨ (d.onTables && d.keepsFace) = true := by decide +kernel
  rcases t d hd with rfl | t
  · exact RoadKit.mvA hZ q
  · exact RoadKit.mv hZ q t
/-- WHAT COMES BACK, over the tables of the start Z: h the heap at the call, h' behind it -/
def Q (Z : State) (x : Addr) (A : Cell) (h : Heap) (v : Option Value) (h' : Heap) (L : List Loc) : Prop := v = none ∧ (∀ y ∈ L, y.base = x) ∧ RoadKit.Keep h h' [x] ∧ h'.size = h.size + 1 ∧ RoadKit.Exa Z h' x ST ∧ RoadKit.Fld Z h' x ST "value" "[B" (.ref h.size) ∧ RoadKit.Fld Z h' x ST "coder" "B" (.int 0) ∧
  (∃ V : Cell, RoadKit.Arr Z h' h.size V .byte ∧ V.vm = .none ∧ Z.vm.findClass "[B" = some V.cls ∧ V.slots.size = A.slots.size ∧ ∀ j, j < A.slots.size → V.slots[j]? = some (.int (lo8 (cv A j)))) ∧
  ∀ (O n d : String) (w : Value), RoadKit.Fld Z h x O n d w → RoadKit.slotOf Z O n d ≠ RoadKit.slotOf Z ST "value" "[B" → RoadKit.slotOf Z O n d ≠ RoadKit.slotOf Z ST "coder" "B" → RoadKit.Fld Z h' x O n d w
/-- **new String(chars) AT A CALL, IN THE ROAD'S FORM**: for specialBack behind newO: x the fresh String, b the char[] with the cell A -/
theorem back {p : Program} {l : Launch} {e : Env} {R : Room} {s : State} {args : Array Value} {below : List Frame} {len W : Nat} {Z : State} {a0 : Array Value} {h : Heap} (hZ : Z.Warmed39 s.vm) (hw : ∀ d ∈ words, d.before a0 Z = true) {kI : Nat} (wi : (Jvm.Cond.instantiable ST kI).before a0 Z = true)
    {x b : Addr} {A : Cell} {z : Int32} {v0 c0 : Value} (E : RoadKit.Exa Z h x ST) (V : RoadKit.Fld Z h x ST "value" "[B" v0) (C : RoadKit.Fld Z h x ST "coder" "B" c0) (K : RoadKit.Arr Z h b A .char) (hty : Typed .char A) (S : RoadKit.Sta Z h ST "COMPACT_STRINGS" "Z" (.int z)) (hz : ¬ z = 0)
    (l0 : 0 < A.slots.size) (l2 : A.slots.size ≤ 536870912) (hp : ∀ i, i < A.slots.size → ¬ 255 < cv A i) (hfr : 4 ≤ R.frames) (hlo : W + 65 ≤ R.locals) :
    Back l R p e below s args New1.yN len W (fun P a => a = #[.ref x, .ref b] ∧ P.U.heap = h ∧ P.cells + 1 ≤ R.cells ∧ P.slots + A.slots.size ≤ R.slots)
      (fun P _ v B => ∃ L, Q Z x A h v B.U.heap L ∧ B.locs = P.locs ++ L ∧ B.cells = P.cells + 1 ∧ B.slots = P.slots + A.slots.size) := by
  intro m meth c P g ig mk a X hg hsize hdg hW hn hp'
  obtain ⟨rfl, rfl, r1, r2⟩ := hp'
  have al : Z.vm.Alike P.U.vm := hZ.alike.trans X.warmed.alike
  obtain ⟨D, cfV, kV, iV, fV, hD, gV, stV, knV, obV, asV, slV⟩ := id V
  obtain ⟨D', cfC, kC, iC, fC, hD', gC, stC, -, -, asC, slC⟩ := id C
  cases hD.symm.trans hD'
  obtain ⟨D2, kD, e1, e2, e3, e4, e5⟩ := id E
  cases hD.symm.trans e1
  obtain ⟨c2, k2, i1, i2, i3, -⟩ := Cond.instantiable_spec wi
  cases e2.symm.trans i1
  cases e3.symm.trans i2
  obtain ⟨kU, u1, u2⟩ := al.2.2 _ _ e3
  have hB : Blank ST x D P.U := ⟨hD, ⟨knV, fun q hq => by rw [hq] at obV; cases obV⟩, by rw [al.findClass]; exact e2, kU, u1, by rw [u2]; exact i3, by rw [u2]; exact e5 i3⟩
  have F1 : Found ST "value" "[B" fV P.U := ⟨SBG.found_only al ⟨cfV, kV, iV, gV⟩, stV⟩
  have F2 : Found ST "coder" "B" fC P.U := ⟨SBG.found_only al ⟨cfC, kC, iC, gC⟩, stC⟩
  have hA : Ch b A P.U := ⟨⟨K.1, State.isArrayOf_alike al K.2.1, K.2.2, by omega⟩, hty⟩
  have hS : StaticIs P.U ST "COMPACT_STRINGS" "Z" (.int z) := by
    obtain ⟨cfS, iS, kS, fS, st, cS, t1, t2, t3, t4, t5, t6, t7⟩ := S
    exact StaticIs.there (s := { Z with heap := P.U.heap }) ⟨cfS, iS, kS, fS, st, cS, t1, t2, t3, t4, t5, (fun q => by rw [q] at t6; cases t6), t7⟩ al rfl
  obtain ⟨v, B, X', ⟨⟨hv, E', V', q1, q2, q3, q4, q5, q6, q7, q8, q9, q10, q11⟩, hl, hc, hs⟩, st⟩ := New1.pays x D fV fC b A z (tab_of (moved hZ hw)) hfr hlo m meth c P g ig mk _ X hg hsize hdg hW hn ⟨r1, r2, rfl, hB, F1, F2, hA, hS, hz, l0, l2, hp⟩
  have al' : Z.vm.Alike B.U.vm := hZ.alike.trans X'.warmed.alike
  have hsz : E'.slots.size = D.slots.size := by
    obtain ⟨-, -, -, kB, w1, w2, w3⟩ := q1
    obtain ⟨kB', y1, y2⟩ := al'.2.2 _ _ e3
    rw [q2.2.1] at w1
    cases w1.symm.trans y1
    rw [w3, e5 i3, y2]
  refine ⟨v, B, X', ⟨_, ⟨hv, ?_, ⟨by omega, fun y cy hy hn' => q10 y cy (by simpa using hn') hy, fun y cy hy => ?_⟩, q11, ⟨E', _, q1.1, by rw [q2.2.1]; exact e2, by rw [q2.2.1]; exact e3, by rw [q2.1]; exact obV, fun _ => by rw [hsz]; exact e5 i3⟩,
    ⟨E', cfV, kV, iV, fV, q1.1, gV, stV, by rw [q2.1]; exact knV, by rw [q2.1]; exact obV, by rw [q2.2.1]; exact asV, q3⟩, ⟨E', cfC, kC, iC, fC, q1.1, gC, stC, by rw [q2.1]; exact knV, by rw [q2.1]; exact obV, by rw [q2.2.1]; exact asC, q4⟩,
    ⟨V', ⟨q5.1, State.isArrayOf_alike al'.symm q5.2.1, q5.2.2.1⟩, q6, by rw [← al'.findClass]; exact q7, q8, fun j hj => by have := q9 j hj; rwa [Nat.zero_add] at this⟩, fun O n d w F n1 n2 => ?_⟩, hl, hc, hs⟩, st⟩
  · intro y hy
    simp only [List.mem_cons, List.not_mem_nil, or_false] at hy
    rcases hy with rfl | rfl <;> rfl
  · by_cases q : y = x
    · subst q
      cases hD.symm.trans hy
      exact ⟨E', q1.1, q2.2.1, q2.1, hsz⟩
    · exact ⟨cy, q10 y cy q hy, rfl, rfl, rfl⟩
  · obtain ⟨D3, cf, k, i, f, g1, g2, g3, g4, g5, g6, g7⟩ := F
    cases hD.symm.trans g1
    simp only [RoadKit.slotOf, g2, gV, gC, Option.map_some, Option.getD_some] at n1 n2
    exact ⟨E', cf, k, i, f, q1.1, g2, g3, by rw [q2.1]; exact g4, by rw [q2.1]; exact g5, by rw [q2.2.1]; exact g6, by rw [q2.2.2 f.slot (by simp [n1, n2])]; exact g7⟩
end StrChars.Road
namespace StrChars.Road
open Jvm Sem ClassFile Op Lib Jvm.Stand Jvm.Free Jvm.Free.XT
/-- WHAT COMES BACK, the byte[] as a list of values -/
def QA (Z : State) (x : Addr) (zn : Int32) (cs : List Int32) (h : Heap) (v : Option Value) (h' : Heap) (L : List Loc) : Prop := v = none ∧ (∀ y ∈ L, y.base = x) ∧ RoadKit.Keep h h' [x] ∧ h'.size = h.size + 1 ∧ RoadKit.Exa Z h' x ST ∧ RoadKit.Fld Z h' x ST "value" "[B" (.ref h.size) ∧ RoadKit.Fld Z h' x ST "coder" "B" (.int 0) ∧
  (∃ kb, Z.vm.findClass "[B" = some kb ∧ RoadKit.Arv Z h' h.size kb .byte zn (cs.map fun c => .int (lo8 c)) (.int 0)) ∧
  ∀ (O n d : String) (w : Value), RoadKit.Fld Z h x O n d w → RoadKit.slotOf Z O n d ≠ RoadKit.slotOf Z ST "value" "[B" → RoadKit.slotOf Z O n d ≠ RoadKit.slotOf Z ST "coder" "B" → RoadKit.Fld Z h' x O n d w
/-- **new String(chars) AT A CALL, THE ARRAYS AS LISTS**: the char[] at b holds cs, not empty, no char above 255 -/
theorem backArv {p : Program} {l : Launch} {e : Env} {R : Room} {s : State} {args : Array Value} {below : List Frame} {len W : Nat} {Z : State} {a0 : Array Value} {h : Heap} (hZ : Z.Warmed39 s.vm) (hw : ∀ d ∈ words, d.before a0 Z = true) {kI : Nat} (wi : (Jvm.Cond.instantiable ST kI).before a0 Z = true)
    {x b : Addr} {k : ClassId} {zn z : Int32} {cs : List Int32} {dv v0 c0 : Value} (E : RoadKit.Exa Z h x ST) (V : RoadKit.Fld Z h x ST "value" "[B" v0) (C : RoadKit.Fld Z h x ST "coder" "B" c0) (K : RoadKit.Arv Z h b k .char zn (cs.map Value.int) dv) (S : RoadKit.Sta Z h ST "COMPACT_STRINGS" "Z" (.int z)) (hz : ¬ z = 0)
    (hlen : zn.toNatClampNeg = cs.length) (h0 : 0 < cs.length) (hbig : cs.length ≤ 536870912) (hall : ∀ c ∈ cs, ¬ 255 < c) (hfr : 4 ≤ R.frames) (hlo : W + 65 ≤ R.locals) :
    Back l R p e below s args New1.yN len W (fun P a => a = #[.ref x, .ref b] ∧ P.U.heap = h ∧ P.cells + 1 ≤ R.cells ∧ P.slots + cs.length ≤ R.slots)
      (fun P _ v B => ∃ L, QA Z x zn cs h v B.U.heap L ∧ B.locs = P.locs ++ L ∧ B.cells = P.cells + 1 ∧ B.slots = P.slots + cs.length) := by
  obtain ⟨A, K1, K2, K3, K4, K5, K6⟩ := K
  have e : A.slots.size = cs.length := K3.trans hlen
  have hat : ∀ (i : Nat) (hi : i < cs.length), A.slots[i]? = some (.int cs[i]) := fun i hi => by rw [K5 i (by omega)]; simp [List.getD_eq_getElem?_getD, hi]
  have hcv : ∀ (i : Nat) (hi : i < cs.length), cv A i = cs[i] := fun i hi => by unfold cv; rw [hat i hi]
  have hty : Typed .char A := fun i v hv => by
    have hi : i < A.slots.size := (Array.getElem?_eq_some_iff.mp hv).1
    have q := K5 i hi
    rw [hv] at q
    rw [Option.some.inj q]
    exact K6 i hi
  refine Back.mono (back hZ hw wi E V C K1 hty S hz (by omega) (by omega) (fun i hi => by rw [hcv i (by omega)]; exact hall _ (List.getElem_mem _)) hfr hlo) (fun P a hp => ⟨hp.1, hp.2.1, hp.2.2.1, by rw [e]; exact hp.2.2.2⟩) (fun P a v B hp hq => ?_)
  obtain ⟨L, ⟨q1, q2, q3, q4, q5, q6, q7, ⟨V', v1, v2, v3, v4, v5⟩, q9⟩, hl, hc, hs⟩ := hq
  refine ⟨L, ⟨q1, q2, q3, q4, q5, q6, q7, ⟨V'.cls, v3, V', v1, rfl, by rw [v4, e, hlen], K4, fun i hi => ?_, fun i hi => ?_⟩, q9⟩, hl, hc, by rw [hs, e]⟩
  · have hi' : i < cs.length := by omega
    rw [v5 i (by omega), hcv i hi']; simp [List.getD_eq_getElem?_getD, hi']
  · have hi' : i < cs.length := by omega
    simp only [List.getD_eq_getElem?_getD, List.getElem?_map, List.getElem?_eq_getElem hi', Option.map_some, Option.getD_some]
    exact fits_lo8 _
end StrChars.Road
namespace StrChars.Road
open Jvm Sem ClassFile Op Lib Jvm.Stand Jvm.Free Jvm.Free.XT
/-- WHAT COMES BACK, in the writer's own shape -/
def QV (Z : State) (x : Addr) (N : Int32) (bs : List Int32) (h : Heap) (n0 : Nat) (v : Option Value) (h' : Heap) (L : List Loc) : Prop := v = none ∧ RoadKit.Fr n0 L ∧ RoadKit.Keep h h' [x] ∧ RoadKit.Exa Z h' x ST ∧ RoadKit.Fld Z h' x ST "coder" "B" (.int 0) ∧
  ∃ (t : Addr) (kb : ClassId), n0 ≤ t ∧ h.size ≤ t ∧ ¬ t = x ∧ RoadKit.Fld Z h' x ST "value" "[B" (.ref t) ∧ RoadKit.Arv Z h' t kb .byte N (bs.map Value.int) (.int 0)
/-- **new String(chars) AT A CALL, FOR THE WRITER**: a char[] of n known ints, each 0 to 255 -/
theorem backV {p : Program} {l : Launch} {e : Env} {R : Room} {s : State} {args : Array Value} {below : List Frame} {len W : Nat} {Z : State} {a0 : Array Value} {h : Heap} (hZ : Z.Warmed39 s.vm) (hw : ∀ d ∈ words, d.before a0 Z = true) {kI : Nat} (wi : (Jvm.Cond.instantiable ST kI).before a0 Z = true)
    {x b : Addr} {kC : ClassId} {cs bs : List Int32} {d v0 c0 : Value} {z N : Int32} {n n0 : Nat} (hx0 : n0 ≤ x) (hh0 : n0 ≤ h.size) (E : RoadKit.Exa Z h x ST) (V : RoadKit.Fld Z h x ST "value" "[B" v0) (C : RoadKit.Fld Z h x ST "coder" "B" c0) (K : RoadKit.Arv Z h b kC .char N (cs.map Value.int) d) (S : RoadKit.Sta Z h ST "COMPACT_STRINGS" "Z" (.int z)) (hz : ¬ z = 0)
    (hn : cs.length = n) (hN : N = Int32.ofNat n) (l0 : 0 < n) (l2 : n ≤ 4000) (hp : ∀ c ∈ cs, ¬ c < 0 ∧ ¬ (255 : Int32) < c) (hb : bs = cs.map (fun c => c.toInt8.toInt32)) (hfr : 4 ≤ R.frames) (hlo : W + 65 ≤ R.locals) :
    Back l R p e below s args (⟨"java/lang/String", "<init>", "([C)V"⟩ : MethodName) len W (fun P a => a = #[.ref x, .ref b] ∧ P.U.heap = h ∧ P.cells + 1 ≤ R.cells ∧ P.slots + n ≤ R.slots)
      (fun P _ v B => ∃ L, QV Z x N bs h n0 v B.U.heap L ∧ B.locs = P.locs ++ L ∧ B.cells = P.cells + 1 ∧ B.slots = P.slots + n) := by
  subst hn hN hb
  refine Back.mono (backArv hZ hw wi E V C K S hz (n32 (by omega)) l0 (by omega) (fun c hc => (hp c hc).2) hfr hlo) (fun P a hp => hp) (fun P a v B hp hq => ?_)
  obtain ⟨L, ⟨q1, q2, q3, q4, q5, q6, q7, ⟨kb, v1, v2⟩, q9⟩, hl, hc, hs⟩ := hq
  exact ⟨L, ⟨q1, fun y hy => by rw [q2 y hy]; exact hx0, q3, q5, q7, h.size, kb, hh0, Nat.le_refl _, Nat.ne_of_gt E.lt, q6, by rw [List.map_map]; exact v2⟩, hl, hc, hs⟩
end StrChars.Road
namespace StrChars
open Jvm Sem ClassFile Op Lib Jvm.Stand Jvm.Free.XT Jvm.Free.ALB Jvm.Free.JM Jvm.Free
open Jvm.Lib.Cold (StaticIs)
def hi8 (x : Int32) : Int32 := lo8 (x >>> ((8 : Int32) &&& 31))
end StrChars
namespace StrChars.Road
open Jvm Sem ClassFile Op Lib Jvm.Stand Jvm.Free Jvm.Free.XT
open Jvm.Lib.Cold (StaticIs)
/-- the bytes of the chars cs, low before high -/
def wideBytes : List Int32 → List Value
  | [] => []
  | c :: cs => .int (lo8 c) :: .int (hi8 c) :: wideBytes cs
/-- an array of N2 bytes vs codes the chars cs by the coder cd -/
def CodA (cs : List Int32) (cd N2 : Int32) (vs : List Value) : Prop := (cd = 0 ∧ N2 = Int32.ofNat cs.length ∧ vs = (cs.map fun c => Value.int (lo8 c)) ∧ ∀ c ∈ cs, ¬ 255 < c) ∨ (cd = 1 ∧ N2 = Int32.ofNat (2 * cs.length) ∧ vs = wideBytes cs ∧ ∃ c ∈ cs, 255 < c)
end StrChars.Road
namespace StrChars.Road
open Jvm Sem ClassFile Op Lib Jvm.Stand Jvm.Free Jvm.Free.XT
open Jvm.Lib.Cold (StaticIs)
/-- what backV says of its String, as the contracts of this text ask it: cs's low bytes, coder 0 -/
theorem codOf {cs : List Int32} {n : Nat} (hn : cs.length = n) (hb : ∀ c ∈ cs, ¬ 255 < c) : CodA cs 0 (Int32.ofNat n) ((cs.map lo8).map Value.int) := Or.inl ⟨rfl, by rw [hn], by simp [List.map_map, Function.comp_def], hb⟩
end StrChars.Road
end Jvm.Pilot.@@N@@
namespace Jvm.Own
open Jvm Jvm.ClassFile Sem Op Lib Jvm.Free Jvm.Stand Jvm.LawKit Jvm.RoadKit
theorem i8i8 (x : Int32) : (x.toInt8.toInt32).toInt8.toInt32 = x.toInt8.toInt32 := by simp
section More
variable {Z s : State} {a0 args : Array Value} {y z : MethodName} {C : String}
theorem decl_of {bytes : ByteArray} {n : Nat} {r : Option FieldType} (hi : (Cond.instanceMethod y).before a0 Z = true) (hc : (Cond.code y bytes n r).before a0 Z = true) : (Cond.declares y).before a0 Z = true := by
  obtain ⟨mk, me, hn, hm, hs, -⟩ := Cond.instanceMethod_spec hi
  obtain ⟨m2, cM, q1, -, -, -, -, -, -, hsig⟩ := Cond.code_spec hn hc
  cases hm.symm.trans q1
  simp [Cond.before, Cond.holds, Cond.value, hn, hm, hs, hsig]
theorem nf_of (h : z.cls = y.cls) (hs : (Cond.selects C z z).before args s = true) : NotFace s y := fun r0 h0 => by
  obtain ⟨c2, r2, m2, -, -, q3, -, kP, hkP, hkPi⟩ := Cond.selects_spec hs
  have e1 := findClass_of_methodNamed q3
  have e2 := findClass_of_methodNamed h0
  rw [h, e2] at e1
  have q := Option.some.inj e1
  exact ⟨kP, by rw [q]; exact hkP, hkPi⟩
theorem same_of (hy : y.cls ≠ "java/lang/invoke/MethodHandle" ∧ y.cls ≠ "java/lang/invoke/VarHandle") (hi : (Cond.instanceMethod y).before a0 Z = true) (h : z.cls = y.cls) (hs : (Cond.selects C z z).before a0 Z = true) : (Cond.sameMethod y.cls y.cls y.name y.desc).before a0 Z = true := by
  obtain ⟨mk, me, hn, hm, -, -⟩ := Cond.instanceMethod_spec hi
  obtain ⟨kP, hkP, hkPi⟩ := nf_of h hs mk hn
  have e1 := findClass_of_methodNamed hn
  have e2 := State.methodFound?_of_named hn hy
  simp [Cond.before, Cond.holds, Cond.value, hn, e1, e2, hkP, hkPi]
end More
end Jvm.Own
namespace Jvm.Own
open Sem ClassFile Op Lib Bundle Jvm.Stand Jvm.Free Jvm.LawKit Jvm.RoadKit
theorem nb {a b : Nat} (h : Nat.ble a b = true) : a ≤ b := Nat.le_of_ble_eq_true h
section Calls
variable {p : Program} {l : Launch} {e : Env} {R : Room} {s : State} {m : MethodId} {args : Array Value} {below : List Frame} {meth : Method} {c : Code} {T : State} {locs : List Loc} {cells slots : Nat} {Z : State} {a0 : Array Value} {h : Heap} {own : String} {index : Nat} {y z : MethodName} {bytes : ByteArray} {maxL W : Nat} {ret : Option FieldType} {rm : Room} {as' : Array Value} {Q : Option Value → Heap → List Loc → Prop} {g : JFrame} {argsL rest : List Value} {a : Addr} {C : String}
abbrev Pays (l : Launch) (Z : State) (h : Heap) (y : MethodName) (bytes : ByteArray) (maxL : Nat) (ret : Option FieldType) (rm : Room) (as' : Array Value) (Q : Option Value → Heap → List Loc → Prop) : Prop :=
  MetFree l y (head1 [Cond.code y bytes maxL ret] rm) (fun a U => a = as' ∧ Z.Warmed39 U.vm ∧ U.heap = h) (fun _ _ _ _ _ => True) (fun _ U o U' => ∃ v L, o = .returned v ∧ Q v U'.heap L ∧ FrameEnd U o U' L rm.cells rm.slots)
/-- a static call, its answer flat -/
theorem kS (X : Stand p l e R s m args below meth c T locs cells slots) (hx : p.tables.exec = Jvm.exec) (hZ : Z.Warmed39 s.vm) (hown : s.vm.findClass own = some m.cls) (w1 : (Cond.methodLink own index y).before a0 Z = true) (w2 : (Cond.static y).before a0 Z = true) (w3 : (Cond.initialized y.cls).before a0 Z = true) (w4 : (Cond.code y bytes maxL ret).before a0 Z = true)
    (hy : y.cls ≠ "java/lang/invoke/MethodHandle" ∧ y.cls ≠ "java/lang/invoke/VarHandle") (hM : Pays l Z h y bytes maxL ret rm as' Q) (eT : T.heap = h) (hg : g.method = m) (hsize : g.locals.size = c.maxLocals) (hlen : ∀ sig, parseMethodDescriptor y.desc = some sig → argsL.length = sig.parameters.length)
    (hstack : g.stack = argsL.reverse ++ rest) (hW : 2 * g.monitorRoom + (rest.map fun v => v.category).sum ≤ W) (hdg : decode c.code g.pc = .ok (.invokestatic index, 3)) (ha : argsL.toArray = as') (hf : rm.frames + 1 ≤ R.frames) (hl : W + (maxL + 11) + rm.locals ≤ R.locals) (hc : cells + rm.cells ≤ R.cells) (hs : slots + rm.slots ≤ R.slots) :
    ∃ v T' L, Stand p l e R s m args below meth c T' (locs ++ L) (cells + rm.cells) (slots + rm.slots) ∧ Q v T'.heap L ∧ ∀ target, Steps p.tables e below (T'.setTop { g with pc := g.pc + 3, stack := v.toList ++ rest }) target → Steps p.tables e below (T.setTop g) target := by
  obtain ⟨v, vm1, ⟨T', L', k', n'⟩, -, X', ⟨Lc, hQ, q1, q2, q3⟩, st⟩ := Jvm.LawKit.callS X hx hown (mvT hZ w1) (mvT hZ w2) (mvT hZ w3) (mvT hZ w4) hy (backOf (W := W) hM hZ w4 w3 hf hl) hg hsize hlen hstack hW hdg (fun _ _ => ⟨ha, eT, hc, hs⟩)
  dsimp only [Pt.U, Pt.locs, Pt.cells, Pt.slots] at X' q1 q2 q3 st hQ
  rw [q1, q2, q3] at X'
  exact ⟨v, T', Lc, X', hQ, st⟩
/-- a constructor's call -/
theorem kI (X : Stand p l e R s m args below meth c T locs cells slots) (hx : p.tables.exec = Jvm.exec) (hZ : Z.Warmed39 s.vm) (hn : y.name = "<init>") (hown : s.vm.findClass own = some m.cls) (w1 : (Cond.methodLink own index y).before a0 Z = true) (w2 : (Cond.instanceMethod y).before a0 Z = true) (w3 : (Cond.initialized y.cls).before a0 Z = true) (w4 : (Cond.code y bytes maxL none).before a0 Z = true)
    (hy : y.cls ≠ "java/lang/invoke/MethodHandle" ∧ y.cls ≠ "java/lang/invoke/VarHandle") (hM : Pays l Z h y bytes maxL none rm as' Q) (eT : T.heap = h) (hg : g.method = m) (hsize : g.locals.size = c.maxLocals) (hlen : ∀ sig, parseMethodDescriptor y.desc = some sig → argsL.length = sig.parameters.length)
    (hstack : g.stack = argsL.reverse ++ .ref a :: rest) (hW : 2 * g.monitorRoom + (rest.map fun v => v.category).sum ≤ W) (hdg : decode c.code g.pc = .ok (.invokespecial index, 3)) (ha : (.ref a :: argsL).toArray = as') (hf : rm.frames + 1 ≤ R.frames) (hl : W + (maxL + 11) + rm.locals ≤ R.locals) (hc : cells + rm.cells ≤ R.cells) (hs : slots + rm.slots ≤ R.slots) :
    ∃ v T' L, Stand p l e R s m args below meth c T' (locs ++ L) (cells + rm.cells) (slots + rm.slots) ∧ Q v T'.heap L ∧ Steps p.tables e below (T.setTop g) (T'.setTop { g with pc := g.pc + 3, stack := v.toList ++ rest }) := by
  obtain ⟨v, vm1, ⟨T', L', k', n'⟩, -, X', ⟨Lc, hQ, q1, q2, q3⟩, st⟩ := X.specialBack hx hn hown (mvT hZ w1) (mvT hZ w2) (mvT hZ w4) hy (backOf (W := W) hM hZ w4 w3 hf hl) hg hsize (Steps.refl _) hlen hstack hW hdg (fun _ _ => ⟨ha, eT, hc, hs⟩)
  dsimp only [Pt.U, Pt.locs, Pt.cells, Pt.slots] at X' q1 q2 q3 st hQ
  rw [q1, q2, q3] at X'
  exact ⟨v, T', Lc, X', hQ, st⟩
/-- a virtual call -/
theorem kV (X : Stand p l e R s m args below meth c T locs cells slots) (hx : p.tables.exec = Jvm.exec) (hZ : Z.Warmed39 s.vm) (hown : s.vm.findClass own = some m.cls) (w1 : (Cond.methodLink own index y).before a0 Z = true) (w2 : (Cond.declares y).before a0 Z = true) (nf : NotFace s y) (w5 : (Cond.selects C y z).before a0 Z = true) (w6 : (Cond.instanceMethod z).before a0 Z = true) (w3 : (Cond.initialized z.cls).before a0 Z = true) (w4 : (Cond.code z bytes maxL ret).before a0 Z = true)
    (hy : y.cls ≠ "java/lang/invoke/MethodHandle" ∧ y.cls ≠ "java/lang/invoke/VarHandle") (hM : Pays l Z h z bytes maxL ret rm as' Q) (eT : T.heap = h) (E : Exa Z h a C) (hg : g.method = m) (hsize : g.locals.size = c.maxLocals) (hlen : ∀ sig, parseMethodDescriptor y.desc = some sig → argsL.length = sig.parameters.length)
    (hstack : g.stack = argsL.reverse ++ .ref a :: rest) (hW : 2 * g.monitorRoom + (rest.map fun v => v.category).sum ≤ W) (hdg : decode c.code g.pc = .ok (.invokevirtual index, 3)) (ha : (.ref a :: argsL).toArray = as') (hf : rm.frames + 1 ≤ R.frames) (hl : W + (maxL + 11) + rm.locals ≤ R.locals) (hc : cells + rm.cells ≤ R.cells) (hs : slots + rm.slots ≤ R.slots) :
    ∃ v T' L, Stand p l e R s m args below meth c T' (locs ++ L) (cells + rm.cells) (slots + rm.slots) ∧ Q v T'.heap L ∧ Steps p.tables e below (T.setTop g) (T'.setTop { g with pc := g.pc + 3, stack := v.toList ++ rest }) := by
  obtain ⟨cB, kB, u1, -, u3⟩ := isOf hZ eT E
  obtain ⟨v, vm1, ⟨T', L', k', n'⟩, -, X', ⟨Lc, hQ, q1, q2, q3⟩, st⟩ := X.virtualBack hx hown (mvT hZ w1) (mvT hZ w2) nf (mvT hZ w5) (mvT hZ w6) hy (backOf (W := W) hM hZ w4 w3 hf hl) u1 u3 hg hsize (Steps.refl _) hlen hstack hW hdg (fun _ _ => ⟨ha, eT, hc, hs⟩)
  dsimp only [Pt.U, Pt.locs, Pt.cells, Pt.slots] at X' q1 q2 q3 st hQ
  rw [q1, q2, q3] at X'
  exact ⟨v, T', Lc, X', hQ, st⟩
end Calls
end Jvm.Own
namespace Jvm.Own
open Jvm Jvm.ClassFile Sem Op Lib Jvm.Free Jvm.Stand Jvm.LawKit Jvm.RoadKit
/-- X as values, filled up with zeros to n -/
def pad (n : Nat) (X : List Int32) : List Value := X.map Value.int ++ List.replicate (n - X.length) (.int 0)
theorem pad_len {n : Nat} {X : List Int32} (h : X.length ≤ n) : (pad n X).length = n := by simp [pad]; omega
theorem pad_app {n : Nat} {X us : List Int32} (h : X.length + us.length ≤ n) : (pad n X).take X.length ++ us.map Value.int ++ (pad n X).drop (X.length + us.length) = pad n (X ++ us) := by
  unfold pad
  rw [List.take_append_of_le_length (by simp), List.take_of_length_le (by simp), List.drop_append, List.drop_of_length_le (by simp), List.drop_replicate]
  simp only [List.length_map, List.map_append, List.nil_append, List.length_append, List.append_assoc]
  congr 3; omega
theorem hus_all (vs : List Value) (dv : Value) : vs = (List.range vs.length).map fun i => vs.getD (0 + i) dv := by
  apply List.ext_getElem (by simp)
  intro i h1 h2
  simp [List.getD_eq_getElem?_getD, List.getElem?_eq_getElem h1]
theorem hus_pre {n : Nat} (X : List Int32) (dv : Value) (h : X.length ≤ n) : X.map Value.int = (List.range X.length).map fun i => (pad n X).getD (0 + i) dv := by
  apply List.ext_getElem (by simp)
  intro i h1 h2
  have h3 : i < X.length := by simpa using h1
  simp [pad, List.getD_eq_getElem?_getD, List.getElem?_append_left, h3]
theorem nl {X : List Int32} (h : X.length ≤ 4000) : (Int32.ofNat X.length).toNatClampNeg = X.length := Jvm.Free.XT.n32 (by omega)
theorem nn0 {X : List Int32} (h : X.length ≤ 4000) : ¬ Int32.ofNat X.length < 0 := by
  have e := nl h
  intro q
  rw [Int32.lt_iff_toInt_lt] at q
  have e0 : (0 : Int32).toInt = 0 := rfl
  have k : (Int32.ofNat X.length).toInt = X.length := Int32.toInt_ofNat_of_lt (by omega)
  omega
theorem lapp (X us : List Int32) : Int32.ofNat X.length + Int32.ofNat us.length = Int32.ofNat (X ++ us).length := by rw [List.length_append, Int32.ofNat_add]
theorem shr0 (x : Int32) : x >>> ((0 : Int32) &&& 31) = x := by simp
theorem shl0 (x : Int32) : x <<< ((0 : Int32) &&& 31) = x := by simp
theorem hus_of {us : List Int32} (h : us.length ≤ 4000) (dv : Value) : us.map Value.int = (List.range (Int32.ofNat us.length).toNatClampNeg).map fun i => (us.map Value.int).getD ((0 : Int32).toNatClampNeg + i) dv := by
  rw [nl h]; have := hus_all (us.map Value.int) dv; rw [List.length_map] at this; exact this
theorem le4a {X us : List Int32} (h : X.length + us.length ≤ 16) : X.length ≤ 4000 := by omega
theorem le4b {X us : List Int32} (h : X.length + us.length ≤ 16) : us.length ≤ 4000 := by omega
theorem le4 {X : List Int32} (h : X.length < 16) : X.length ≤ 4000 := by omega
theorem ln_int {X : List Int32} (h : X.length ≤ 4000) : (Int32.ofNat X.length).toInt = X.length := Int32.toInt_ofNat_of_lt (by omega)
theorem cap16 {X us : List Int32} (h : X.length + us.length ≤ 16) : ¬ (0 : Int32) < (Int32.ofNat (X ++ us).length - (16 : Int32)) := by
  have e := ln_int (X := X ++ us) (by simp; omega)
  have k := c_isub (Int32.ofNat (X ++ us).length) 16
  have r := rng32 (Int32.ofNat (X ++ us).length - 16)
  have e16 : (16 : Int32).toInt = 16 := rfl
  have e0 : (0 : Int32).toInt = 0 := rfl
  have e2 : (X ++ us).length = X.length + us.length := List.length_append
  rw [Int32.lt_iff_toInt_lt]; omega
theorem lt16 {X : List Int32} (h : X.length < 16) : Int32.ofNat X.length < (16 : Int32) := by
  have e := ln_int (le4 h)
  have e16 : (16 : Int32).toInt = 16 := rfl
  rw [Int32.lt_iff_toInt_lt]; omega
theorem ne16 {X : List Int32} (h : X.length < 16) : ¬ Int32.ofNat X.length = (16 : Int32) := fun z => by
  have q := lt16 h; rw [z] at q; exact absurd q (by decide)
theorem at_mid {us d r : List Int32} {b : Int32} (h : us = d ++ b :: r) (hu : us.length ≤ 4000) (dv : Value) : (us.map Value.int).getD (Int32.ofNat d.length).toNatClampNeg dv = .int b ∧ (¬ Int32.ofNat d.length < 0 ∧ Int32.ofNat d.length < Int32.ofNat us.length) := by
  subst h
  have hd : d.length ≤ 4000 := by rw [List.length_append] at hu; omega
  refine ⟨?_, nn0 hd, ?_⟩
  · rw [nl hd, List.getD_eq_getElem?_getD]; simp
  · rw [Int32.lt_iff_toInt_lt, ln_int hd, ln_int hu, List.length_append, List.length_cons]; omega
theorem lsucc (d : List Int32) (b : Int32) : Int32.ofNat d.length + (1 : Int32) = Int32.ofNat (d ++ [b]).length := by rw [List.length_append, Int32.ofNat_add]; rfl
theorem lt_end {us d : List Int32} (h : us = d ++ []) : ¬ Int32.ofNat d.length < Int32.ofNat us.length := by
  rw [h, List.append_nil]; exact fun q => by rw [Int32.lt_iff_toInt_lt] at q; omega
theorem ne_mid {us d r : List Int32} {b : Int32} (h : us = d ++ b :: r) (hu : us.length ≤ 4000) : ¬ Int32.ofNat d.length = Int32.ofNat us.length := fun z => by
  have q := (at_mid h hu .null).2.2
  rw [z, Int32.lt_iff_toInt_lt] at q; omega
theorem app_mid {us d r : List Int32} {b : Int32} (h : us = d ++ b :: r) : us = (d ++ [b]) ++ r := by rw [h]; simp
theorem pad_set {n : Nat} {X : List Int32} {v : Int32} (h : X.length < n) : (pad n X).set X.length (.int v) = pad n (X ++ [v]) := by
  unfold pad
  rw [List.set_append_right _ _ (by simp)]
  obtain ⟨j, hj⟩ : ∃ j, n - X.length = j + 1 := ⟨n - X.length - 1, by omega⟩
  have e : n - (X ++ [v]).length = j := by rw [List.length_append, List.length_singleton]; omega
  rw [hj, e, List.length_map, Nat.sub_self, List.replicate_succ, List.set_cons_zero]; simp
theorem shl1 {us : List Int32} : Int32.ofNat us.length <<< ((1 : Int32) &&& 31) = Int32.ofNat (us ++ us).length := by
  rw [List.length_append, Int32.ofNat_add]
  have e : ((1 : Int32) &&& 31) = 1 := by decide
  rw [e]
  generalize Int32.ofNat us.length = x
  apply Int32.toBitVec.inj
  show x.toBitVec <<< ((1 : Int32).toBitVec.smod 32) = x.toBitVec + x.toBitVec
  rw [show (1 : Int32).toBitVec.smod 32 = 1#32 by decide, BitVec.shiftLeft_eq']
  apply BitVec.eq_of_toNat_eq
  simp [Nat.shiftLeft_eq]; omega
def e1 (b : Int32) : Int32 := (((192 : Int32) ||| ((b &&& (255 : Int32)) >>> ((6 : Int32) &&& 31))).toInt8.toInt32)
def e2 (b : Int32) : Int32 := (((128 : Int32) ||| (b &&& (63 : Int32))).toInt8.toInt32)
def encB (b : Int32) : List Int32 := if b < 0 then [e1 b, e2 b] else [b]
def enc (us : List Int32) : List Int32 := us.flatMap encB
theorem enc_app (X Y : List Int32) : enc (X ++ Y) = enc X ++ enc Y := List.flatMap_append
theorem enc_one (b : Int32) : enc [b] = encB b := by simp [enc]
theorem enc_p {d ee : List Int32} {b : Int32} (h : b < 0) (he : ee = enc d) : (ee ++ [(((192 : Int32) ||| ((b &&& (255 : Int32)) >>> ((6 : Int32) &&& 31))).toInt8.toInt32)]) ++ [(((128 : Int32) ||| (b &&& (63 : Int32))).toInt8.toInt32)] = enc (d ++ [b]) := by
  rw [enc_app, enc_one, encB, if_pos h, he, List.append_assoc]; rfl
theorem enc_n {d ee : List Int32} {b : Int32} (h : ¬ b < 0) (he : ee = enc d) : ee ++ [b] = enc (d ++ [b]) := by
  rw [enc_app, enc_one, encB, if_neg h, he]
theorem enc_cons (b : Int32) (r : List Int32) : enc (b :: r) = encB b ++ enc r := rfl
theorem encB_len (b : Int32) : 1 ≤ (encB b).length ∧ (encB b).length ≤ 2 := by unfold encB; split <;> simp
theorem enc_len (d : List Int32) : (enc d).length ≤ 2 * d.length := by
  induction d with
  | nil => simp [enc]
  | cons b r ih => rw [enc_cons, List.length_append, List.length_cons]; have := encB_len b; omega
theorem enc_all {us : List Int32} (h : ∀ b ∈ us, ¬ b < 0) : enc us = us := by
  induction us with
  | nil => rfl
  | cons b r ih => rw [enc_cons, ih fun c hc => h c (List.mem_cons_of_mem _ hc), encB, if_neg (h b (List.mem_cons_self))]; rfl
theorem enc_end {us d ee : List Int32} (hs : us = d ++ []) (he : ee = enc d) : ee = enc us := by rw [he, hs, List.append_nil]
theorem enc_lt {us : List Int32} (h : (58 : Int32) ∈ us) : (enc us).length < (us ++ us).length := by
  obtain ⟨a, b, rfl⟩ := List.append_of_mem h
  have e : encB 58 = [58] := by decide
  have q1 := enc_len a; have q2 := enc_len b
  rw [enc_app, enc_cons, e]
  simp only [List.length_append, List.length_cons, List.length_nil]; omega
theorem enc_in {us d r ee : List Int32} {b : Int32} (hs : us = d ++ b :: r) (he : ee = enc d) : ee.length + 1 < (us ++ us).length := by
  have q := enc_len d
  rw [he, hs]; simp only [List.length_append, List.length_cons]; omega
theorem inpad {X : List Int32} {n : Nat} (h : X.length < n) (hn : n ≤ 4000) : ¬ Int32.ofNat X.length < 0 ∧ Int32.ofNat X.length < Int32.ofNat n := by
  refine ⟨nn0 (by omega), ?_⟩
  rw [Int32.lt_iff_toInt_lt, ln_int (by omega), Int32.toInt_ofNat_of_lt (by omega)]; omega
theorem ne_len {X : List Int32} {n : Nat} (h : X.length < n) (hn : n ≤ 4000) : ¬ Int32.ofNat X.length = Int32.ofNat n := fun z => by
  have q := (inpad h hn).2
  rw [z, Int32.lt_iff_toInt_lt] at q; omega
theorem len2 {us : List Int32} (h : us.length < 16) : (us ++ us).length ≤ 30 := by rw [List.length_append]; omega
theorem len2k {us : List Int32} (h : us.length < 16) : (us ++ us).length ≤ 4000 := by rw [List.length_append]; omega
theorem lt_big {us : List Int32} (h : us.length < 16) : Int32.ofNat us.length < (1073741823 : Int32) := by
  have e : (1073741823 : Int32).toInt = 1073741823 := rfl
  rw [Int32.lt_iff_toInt_lt, ln_int (le4 h), e]; omega
theorem pos_len {us : List Int32} (h : us ≠ []) (hu : us.length ≤ 4000) : (0 : Int32) < Int32.ofNat us.length := by
  have e : (0 : Int32).toInt = 0 := rfl
  have q := List.length_pos_iff.mpr h
  rw [Int32.lt_iff_toInt_lt, ln_int hu, e]; omega
theorem nz_len {us : List Int32} (h : us ≠ []) (hu : us.length ≤ 4000) : ¬ Int32.ofNat us.length = (0 : Int32) := fun z => by
  have q := pos_len h hu
  rw [z] at q; exact absurd q (by decide)
section Copy
variable {p : Program} {l : Launch} {e : Env} {R : Room} {s : State} {m : MethodId} {args : Array Value} {below : List Frame} {meth : Method} {c : Code} {T : State} {locs : List Loc} {cells slots : Nat} {Z : State} {h : Heap} {a b : Addr} {k k' : ClassId}
/-- arraycopy of all bytes us to the end of X in an array of n -/
theorem cpApp (X0 : Stand p l e R s m args below meth c T locs cells slots) (hx : p.tables.exec = Jvm.exec) (hZ : Z.Warmed39 s.vm) {a0 : Array Value} {own : String} {index : Nat} (hown : s.vm.findClass own = some m.cls)
    (w1 : (Cond.methodLink own index Jvm.Stand.acN).before a0 Z = true) (w2 : (Cond.native Jvm.Stand.acN).before a0 Z = true) (w3 : (Cond.static Jvm.Stand.acN).before a0 Z = true) (w4 : (Cond.initialized "java/lang/System").before a0 Z = true) (eT : T.heap = h)
    {us X : List Int32} {n : Nat} (hus : us.length ≤ 4000) (hX : X.length ≤ 4000) (hn : n ≤ 4000) (hc : X.length + us.length ≤ n) (A : Arv Z h a k .byte (Int32.ofNat us.length) (us.map Value.int) (.int 0)) (B : Arv Z h b k' .byte (Int32.ofNat n) (pad n X) (.int 0)) {n0 : Nat} (N : Fr n0 locs) (ge : n0 ≤ b)
    {g : JFrame} (hg : g.method = m) (hsize : g.locals.size = c.maxLocals) {rest : List Value} (hs : g.stack = .int (Int32.ofNat us.length) :: .int (Int32.ofNat X.length) :: .ref b :: .int 0 :: .ref a :: rest) (hd : decode c.code g.pc = .ok (.invokestatic index, 3))
    (hf : 1 ≤ R.frames) {W : Nat} (hW : 2 * g.monitorRoom + (rest.map fun v => v.category).sum ≤ W) (hlo : W + 18 ≤ R.locals) :
    ∃ T' h' L, Stand p l e R s m args below meth c T' L cells slots ∧ T'.heap = h' ∧ Fr n0 L ∧ Keep h h' [b] ∧ Arv Z h' b k' .byte (Int32.ofNat n) (pad n (X ++ us)) (.int 0) ∧
      ∀ target, Steps p.tables e below (T'.setTop { g with pc := g.pc + 3, stack := rest }) target → Steps p.tables e below (T.setTop g) target := by
  have en : (Int32.ofNat n).toNatClampNeg = n := Jvm.Free.XT.n32 (by omega)
  obtain ⟨T', h', L, X', e', N', K, V, st⟩ := cpA X0 hx hZ hown w1 w2 w3 w4 eT A B (Or.inl ⟨rfl, rfl⟩) (sp := 0) (dp := Int32.ofNat X.length) (nn := Int32.ofNat us.length) (us := us.map Value.int) (by decide) (nn0 hX) (nn0 hus) (by show 0 + _ ≤ _; omega) (by rw [nl hX, nl hus, en]; exact hc) (hus_of hus _) (by rw [nl hX, nl hus, pad_len (by omega)]; exact hc) N ge hg hsize hs hd hf hW hlo
  rw [nl hX, nl hus, pad_app hc] at V
  exact ⟨T', h', L, X', e', N', K, V, st⟩
/-- arraycopy of X, the first part of an array of n, into a new array of X's length -/
theorem cpPre (X0 : Stand p l e R s m args below meth c T locs cells slots) (hx : p.tables.exec = Jvm.exec) (hZ : Z.Warmed39 s.vm) {a0 : Array Value} {own : String} {index : Nat} (hown : s.vm.findClass own = some m.cls)
    (w1 : (Cond.methodLink own index Jvm.Stand.acN).before a0 Z = true) (w2 : (Cond.native Jvm.Stand.acN).before a0 Z = true) (w3 : (Cond.static Jvm.Stand.acN).before a0 Z = true) (w4 : (Cond.initialized "java/lang/System").before a0 Z = true) (eT : T.heap = h)
    {X : List Int32} {n : Nat} (hX : X.length ≤ 4000) (hn : n ≤ 4000) (hc : X.length ≤ n) (A : Arv Z h a k .byte (Int32.ofNat n) (pad n X) (.int 0)) (B : Arv Z h b k' .byte (Int32.ofNat X.length) (pad X.length []) (.int 0)) {n0 : Nat} (N : Fr n0 locs) (ge : n0 ≤ b)
    {g : JFrame} (hg : g.method = m) (hsize : g.locals.size = c.maxLocals) {rest : List Value} (hs : g.stack = .int (Int32.ofNat X.length) :: .int 0 :: .ref b :: .int 0 :: .ref a :: rest) (hd : decode c.code g.pc = .ok (.invokestatic index, 3))
    (hf : 1 ≤ R.frames) {W : Nat} (hW : 2 * g.monitorRoom + (rest.map fun v => v.category).sum ≤ W) (hlo : W + 18 ≤ R.locals) :
    ∃ T' h' L, Stand p l e R s m args below meth c T' L cells slots ∧ T'.heap = h' ∧ Fr n0 L ∧ Keep h h' [b] ∧ Arv Z h' b k' .byte (Int32.ofNat X.length) (X.map Value.int) (.int 0) ∧
      ∀ target, Steps p.tables e below (T'.setTop { g with pc := g.pc + 3, stack := rest }) target → Steps p.tables e below (T.setTop g) target := by
  have en : (Int32.ofNat n).toNatClampNeg = n := Jvm.Free.XT.n32 (by omega)
  have z0 : (0 : Int32).toNatClampNeg = 0 := rfl
  obtain ⟨T', h', L, X', e', N', K, V, st⟩ := cpA X0 hx hZ hown w1 w2 w3 w4 eT A B (Or.inl ⟨rfl, rfl⟩) (sp := 0) (dp := 0) (nn := Int32.ofNat X.length) (us := X.map Value.int) (by decide) (by decide) (nn0 hX) (by rw [nl hX, en, z0]; omega) (by rw [nl hX, z0]; omega) (by rw [nl hX]; exact hus_pre X _ hc) (by rw [nl hX, z0, pad_len (by simp)]; omega) N ge hg hsize hs hd hf hW hlo
  have e2 : List.drop ((0 : Int32).toNatClampNeg + X.length) (pad X.length []) = [] := List.drop_of_length_le (by rw [pad_len (by simp), z0]; omega)
  have e3 : List.take (0 : Int32).toNatClampNeg (pad X.length []) = [] := rfl
  rw [nl hX, e2, e3, List.nil_append, List.append_nil] at V
  exact ⟨T', h', L, X', e', N', K, V, st⟩
theorem newPad {n : Nat} {k : ClassId} (A : Arr Z h a (newA k .byte (Int32.ofNat n)) .byte) (hn : n ≤ 4000) : Arv Z h a k .byte (Int32.ofNat n) (pad n []) (.int 0) := by
  have q : ¬ Int32.ofNat n < 0 := by have := nn0 (X := List.replicate n 0) (by simp; omega); rw [List.length_replicate] at this; exact this
  refine (Arv.new A q).pad fun i => ?_
  show (List.replicate (n - 0) (Value.int 0)).getD i _ = _
  rw [List.getD_eq_getElem?_getD, List.getElem?_replicate]; split <;> rfl
end Copy
end Jvm.Own
namespace Jvm.Own
open Jvm Jvm.ClassFile Sem Op Lib Jvm.Free Jvm.Stand Jvm.LawKit Jvm.RoadKit
/-! decimal digits -/
def dig (n k : Nat) : Int32 := Int32.ofNat (48 + n / 10 ^ k % 10)
def suf (n : Nat) : Nat → List Int32
  | 0 => []
  | k + 1 => dig n k :: suf n k
theorem suf_len (n k : Nat) : (suf n k).length = k := by induction k with
  | zero => rfl
  | succ k ih => rw [suf, List.length_cons, ih]
theorem suf_at (n : Nat) : ∀ K k : Nat, k < K → (suf n K)[K - 1 - k]? = some (dig n k) := by
  intro K
  induction K with
  | zero => intro k h; omega
  | succ K ih =>
    intro k h
    by_cases q : k = K
    · subst q; simp [suf]
    · obtain ⟨j, hj⟩ : ∃ j, K + 1 - 1 - k = j + 1 := ⟨K - 1 - k, by omega⟩
      rw [hj, suf, List.getElem?_cons_succ]
      have := ih k (by omega)
      rw [show K - 1 - k = j by omega] at this; exact this
/-- the number of digits: the only K with these two -/
def IsNd (n K : Nat) : Prop := n < 10 ^ K ∧ (K = 1 ∨ (1 ≤ K ∧ 10 ^ (K - 1) ≤ n))
theorem IsNd.uniq {n K K' : Nat} (h : IsNd n K) (h' : IsNd n K') : K = K' := by
  have key : ∀ {K K' : Nat}, IsNd n K → IsNd n K' → ¬ K < K' := fun {K K'} h h' q => by
    rcases h'.2 with e | ⟨e1, e2⟩
    · rcases h.2 with f | ⟨f1, f2⟩ <;> omega
    · have := Nat.pow_le_pow_right (show 0 < 10 by decide) (show K ≤ K' - 1 by omega)
      have := h.1
      omega
  have a := key h h'; have b := key h' h; omega
def nd (n : Nat) : Nat := if n < 10 then 1 else if n < 100 then 2 else if n < 1000 then 3 else if n < 10000 then 4 else if n < 100000 then 5 else if n < 1000000 then 6 else if n < 10000000 then 7 else if n < 100000000 then 8 else if n < 1000000000 then 9 else 10
theorem nd_is {n : Nat} (h : n < 10000000000) : IsNd n (nd n) := by
  unfold nd IsNd
  repeat' split
  all_goals (refine ⟨by simp; omega, ?_⟩)
  all_goals first | (exact Or.inl rfl) | (exact Or.inr ⟨by decide, by simp; omega⟩)
theorem nd_eq {n K : Nat} (h : n < 10000000000) (q : IsNd n K) : nd n = K := (nd_is h).uniq q
theorem nd_le (n : Nat) : 1 ≤ nd n ∧ nd n ≤ 10 := by
  by_cases h : n < 10000000000
  · have q := nd_is h
    refine ⟨?_, ?_⟩
    · rcases q.2 with e | e <;> omega
    · unfold nd; repeat (first | omega | split)
  · unfold nd; repeat' split
    all_goals omega
theorem isnd1 {n k : Nat} (h : n / 10 ^ k < 10) (g : k = 0 ∨ 1 ≤ n / 10 ^ k) : IsNd n (k + 1) := by
  have p := Nat.pow_pos (n := k) (show 0 < 10 by decide)
  refine ⟨?_, ?_⟩
  · rw [Nat.pow_succ, Nat.mul_comm]; exact (Nat.div_lt_iff_lt_mul p).mp h
  · rcases g with rfl | g
    · exact Or.inl rfl
    · exact Or.inr ⟨by omega, by rw [Nat.add_sub_cancel]; have := (Nat.le_div_iff_mul_le p).mp g; omega⟩
theorem isnd2 {n k : Nat} (h : n / 10 ^ k < 100) (g : 10 ≤ n / 10 ^ k) : IsNd n (k + 2) := by
  have e : n / 10 ^ (k + 1) = n / 10 ^ k / 10 := by rw [Nat.pow_succ, Nat.div_div_eq_div_mul]
  exact isnd1 (k := k + 1) (by rw [e]; omega) (Or.inr (by rw [e]; omega))
theorem nd_ge3 {n k : Nat} (hn : n < 10000000000) (g : 100 ≤ n / 10 ^ k) : k + 3 ≤ nd n := by
  have p := Nat.pow_pos (n := k) (show 0 < 10 by decide)
  have q := (nd_is hn).1
  have e := (Nat.le_div_iff_mul_le p).mp g
  refine Nat.le_of_not_lt fun z => ?_
  have := Nat.pow_le_pow_right (show 0 < 10 by decide) (show nd n ≤ k + 2 by omega)
  have e2 : 10 ^ (k + 2) = 100 * 10 ^ k := by rw [Nat.pow_add, Nat.mul_comm]
  omega
/-- an int's text -/
def dec (x : Int32) : List Int32 := (if x < 0 then [45] else []) ++ suf x.toInt.natAbs (nd x.toInt.natAbs)
theorem abs_lt (x : Int32) : x.toInt.natAbs ≤ 2147483648 := by have := rng32 x; omega
theorem abs_10 (x : Int32) : x.toInt.natAbs < 10000000000 := Nat.lt_of_le_of_lt (abs_lt x) (by decide)
theorem dec_n {x : Int32} {K : Nat} (h : x < 0) (e : IsNd x.toInt.natAbs K) : dec x = 45 :: suf x.toInt.natAbs K := by rw [dec, if_pos h, nd_eq (abs_10 x) e]; rfl
theorem dec_p {x : Int32} {K : Nat} (h : ¬ x < 0) (e : IsNd x.toInt.natAbs K) : dec x = suf x.toInt.natAbs K := by rw [dec, if_neg h, nd_eq (abs_10 x) e]; rfl
theorem dec_len (x : Int32) : 1 ≤ (dec x).length ∧ (dec x).length ≤ 11 := by
  have := nd_le x.toInt.natAbs
  unfold dec; split <;> simp [suf_len] <;> omega
theorem dig_val (n k : Nat) : (dig n k).toInt = 48 + ((n / 10 ^ k % 10 : Nat) : Int) := by
  unfold dig; rw [Int32.toInt_ofNat_of_lt (by omega)]; omega
theorem dig_b (n k : Nat) : (dig n k).toInt8.toInt32 = dig n k := by
  have q := c_i2b (dig n k); have e := dig_val n k
  exact Int32.toInt_inj.mp (by omega)
theorem dig_m (n k : Nat) : (dig n k &&& 255) = dig n k := by
  have q := c_mask (dig n k) 255 8 (by decide) (by decide); have e := dig_val n k
  exact Int32.toInt_inj.mp (by rw [q]; omega)
/-! an array that is filled from the right -/
def mid (N : Nat) (X : List Int32) (c : Nat) (S : List Int32) : List Value := pad c X ++ S.map Value.int ++ List.replicate (N - c - S.length) (.int 0)
theorem mid_start {N c : Nat} {X : List Int32} (h : X.length ≤ c) (g : c ≤ N) : mid N X c [] = pad N X := by
  unfold mid pad
  rw [List.map_nil, List.append_nil, List.append_assoc, List.replicate_append_replicate, List.length_nil]
  congr 2; omega
theorem mid_end {N : Nat} {X S : List Int32} : mid N X X.length S = pad N (X ++ S) := by
  unfold mid pad
  rw [Nat.sub_self, List.replicate_zero, List.append_nil, List.map_append, List.length_append, Nat.sub_sub]
theorem mid_len {N c : Nat} {X S : List Int32} (h : X.length ≤ c) (g : c + S.length ≤ N) : (mid N X c S).length = N := by
  unfold mid; rw [List.length_append, List.length_append, pad_len h]; simp; omega
theorem mid_set {N c : Nat} {X S : List Int32} {v : Int32} (h : X.length ≤ c) : (mid N X (c + 1) S).set c (.int v) = mid N X c (v :: S) := by
  unfold mid
  have e : pad (c + 1) X = pad c X ++ [.int 0] := by
    unfold pad
    rw [List.append_assoc, show c + 1 - X.length = (c - X.length) + 1 by omega, List.replicate_succ']
  rw [e, List.append_assoc, List.append_assoc, List.set_append_right _ _ (by rw [pad_len h]; exact Nat.le_refl _), pad_len h, Nat.sub_self]
  simp only [List.cons_append, List.nil_append, List.set_cons_zero, List.map_cons, List.length_cons, List.append_assoc]
  congr 4; omega
theorem inN {c N : Nat} (h : c < N) (hN : N ≤ 4000) : ¬ Int32.ofNat c < 0 ∧ Int32.ofNat c < Int32.ofNat N := by
  have e1 : (Int32.ofNat c).toInt = c := Int32.toInt_ofNat_of_lt (by omega)
  have e2 : (Int32.ofNat N).toInt = N := Int32.toInt_ofNat_of_lt (by omega)
  have e0 : (0 : Int32).toInt = 0 := rfl
  rw [Int32.lt_iff_toInt_lt, Int32.lt_iff_toInt_lt]; omega
theorem predN (c : Nat) : Int32.ofNat (c + 1) + (-1 : Int32) = Int32.ofNat c := by
  rw [Int32.ofNat_add]
  have e : Int32.ofNat 1 = 1 := rfl
  rw [e, Int32.add_assoc]
  have e2 : (1 : Int32) + (-1) = 0 := by decide
  rw [e2, Int32.add_zero]
/-! the tables of digits -/
def ONES : List Value := (List.range 100).map fun i => .int (Int32.ofNat (48 + i % 10))
def TENS : List Value := (List.range 100).map fun i => .int (Int32.ofNat (48 + i / 10))
theorem tbl_at {f : Nat → Value} {r : Int32} {q : Nat} (e : r.toInt = q) (h : q < 100) (dv : Value) : ((List.range 100).map f).getD r.toNatClampNeg dv = f q := by
  have e1 : r.toNatClampNeg = q := by simp only [Int32.toNatClampNeg]; omega
  rw [e1, List.getD_eq_getElem?_getD]; simp [h]
theorem tbl_in {r : Int32} {q : Nat} (e : r.toInt = q) (h : q < 100) : ¬ r < 0 ∧ r < (100 : Int32) := by
  have e0 : (0 : Int32).toInt = 0 := rfl
  have e1 : (100 : Int32).toInt = 100 := rfl
  rw [Int32.lt_iff_toInt_lt, Int32.lt_iff_toInt_lt]; omega
/-- one round of the loop -/
theorem rnd_q {ii : Int32} {mi : Nat} (e : ii.toInt = -(mi : Int)) : (ii / (100 : Int32)).toInt = -((mi / 100 : Nat) : Int) := by
  have q := c_idiv ii 100 100 rfl (by decide)
  by_cases h : ii.toInt < 0
  · rw [q.2 h, e, Int.neg_neg]; norm_cast
  · rw [q.1 (by omega)]; omega
theorem rnd_r {ii : Int32} {mi : Nat} (e : ii.toInt = -(mi : Int)) (h : mi ≤ 2147483648) : (((ii / (100 : Int32)) * (100 : Int32)) - ii).toInt = ((mi % 100 : Nat) : Int) := by
  have q := rnd_q e
  have a := c_imul (ii / 100) 100
  have b := c_isub ((ii / 100) * 100) ii
  have r := rng32 (((ii / (100 : Int32)) * (100 : Int32)) - ii)
  have e1 : (100 : Int32).toInt = 100 := rfl
  rw [e1, q] at a
  omega
theorem neg_r {ii : Int32} {mi : Nat} (e : ii.toInt = -(mi : Int)) (h : mi < 100) : (-ii).toInt = ((mi : Nat) : Int) := by
  have a := c_ineg ii
  have r := rng32 (-ii)
  omega
theorem ones_at {r : Int32} {n k m : Nat} (e : r.toInt = (m : Int)) (h : m < 100) (g : m % 10 = n / 10 ^ k % 10) (dv : Value) : ONES.getD r.toNatClampNeg dv = .int (dig n k) := by
  rw [ONES, tbl_at e h, dig, g]
theorem tens_at {r : Int32} {n k m : Nat} (e : r.toInt = (m : Int)) (h : m < 100) (g : m / 10 = n / 10 ^ k % 10) (dv : Value) : TENS.getD r.toNatClampNeg dv = .int (dig n k) := by
  rw [TENS, tbl_at e h, dig, g]
theorem dpow (n k : Nat) : n / 10 ^ (k + 1) = n / 10 ^ k / 10 := by rw [Nat.pow_succ, Nat.div_div_eq_div_mul]
theorem dpow2 (n k : Nat) : n / 10 ^ (k + 2) = n / 10 ^ k / 100 := by rw [dpow, dpow, Nat.div_div_eq_div_mul]
theorem nd_up {xx p : Int32} {n K : Nat} (e : xx.toInt = -(n : Int)) (hp : p.toInt = -((10 ^ K : Nat) : Int)) (h : p < xx) : n < 10 ^ K := by
  rw [Int32.lt_iff_toInt_lt] at h; omega
theorem nd_dn {xx p : Int32} {n K : Nat} (e : xx.toInt = -(n : Int)) (hp : p.toInt = -((10 ^ K : Nat) : Int)) (h : ¬ p < xx) : 10 ^ K ≤ n := by
  rw [Int32.lt_iff_toInt_lt] at h; omega
theorem neg_abs {x : Int32} (h : x < 0) : x.toInt = -(x.toInt.natAbs : Int) := by
  rw [Int32.lt_iff_toInt_lt] at h; have e0 : (0 : Int32).toInt = 0 := rfl
  omega
theorem neg_abs' {x : Int32} (h : ¬ x < 0) : (-x).toInt = -(x.toInt.natAbs : Int) := by
  rw [Int32.lt_iff_toInt_lt] at h; have e0 : (0 : Int32).toInt = 0 := rfl
  have a := c_ineg x; have r := rng32 (-x); have r2 := rng32 x
  omega
theorem dec_ln {x : Int32} (h : x < 0) (K : Nat) (e : IsNd x.toInt.natAbs K) : Int32.ofNat K + (1 : Int32) = Int32.ofNat (dec x).length := by
  rw [dec_n h e, List.length_cons, suf_len, Int32.ofNat_add]; rfl
theorem dec_lp {x : Int32} (h : ¬ x < 0) (K : Nat) (e : IsNd x.toInt.natAbs K) : Int32.ofNat K + (0 : Int32) = Int32.ofNat (dec x).length := by
  rw [dec_p h e, suf_len, Int32.add_zero]
theorem dec_ge (x : Int32) : nd x.toInt.natAbs ≤ (dec x).length := by unfold dec; split <;> simp [suf_len]
theorem mi_le (x : Int32) (k : Nat) : x.toInt.natAbs / 10 ^ k ≤ 2147483648 := Nat.le_trans (Nat.div_le_self _ _) (abs_lt x)
theorem lt100 {ii : Int32} {m : Nat} (e : ii.toInt = -(m : Int)) (h : (-100 : Int32) < ii) : m < 100 := by
  rw [Int32.lt_iff_toInt_lt] at h; have e1 : (-100 : Int32).toInt = -100 := rfl
  omega
theorem ge100 {ii : Int32} {m : Nat} (e : ii.toInt = -(m : Int)) (h : ¬ (-100 : Int32) < ii) : 100 ≤ m := by
  rw [Int32.lt_iff_toInt_lt] at h; have e1 : (-100 : Int32).toInt = -100 := rfl
  omega
theorem ge10 {ii : Int32} {m : Nat} (e : ii.toInt = -(m : Int)) (h : ii < (-9 : Int32)) : 10 ≤ m := by
  rw [Int32.lt_iff_toInt_lt] at h; have e1 : (-9 : Int32).toInt = -9 := rfl
  omega
theorem lt10 {ii : Int32} {m : Nat} (e : ii.toInt = -(m : Int)) (h : ¬ ii < (-9 : Int32)) : m < 10 := by
  rw [Int32.lt_iff_toInt_lt] at h; have e1 : (-9 : Int32).toInt = -9 := rfl
  omega
theorem t_eq {n k : Nat} (h : n / 10 ^ k < 100) : n / 10 ^ k / 10 = n / 10 ^ (k + 1) % 10 := by rw [dpow]; generalize n / 10 ^ k = m at *; omega
theorem t_eq2 {n k : Nat} : n / 10 ^ k % 100 / 10 = n / 10 ^ (k + 1) % 10 := by rw [dpow]; generalize n / 10 ^ k = m at *; omega
theorem o_eq2 {n k : Nat} : n / 10 ^ k % 100 % 10 = n / 10 ^ k % 10 := by generalize n / 10 ^ k = m at *; omega
theorem lt_b {n k b : Nat} (h : n / 10 ^ k < b + 1) (g : 100 ≤ n / 10 ^ k) : n / 10 ^ (k + 2) < b ∧ 1 ≤ n / 10 ^ (k + 2) := by rw [dpow2]; generalize n / 10 ^ k = m at *; omega
theorem capN {X us : List Int32} {N : Nat} (h : X.length + us.length ≤ N) (hN : N ≤ 4000) : ¬ (0 : Int32) < (Int32.ofNat (X ++ us).length - Int32.ofNat N) := by
  have e2 : (X ++ us).length = X.length + us.length := List.length_append
  have e := ln_int (X := X ++ us) (by omega)
  have eN : (Int32.ofNat N).toInt = N := Int32.toInt_ofNat_of_lt (by omega)
  have k := c_isub (Int32.ofNat (X ++ us).length) (Int32.ofNat N)
  have r := rng32 (Int32.ofNat (X ++ us).length - Int32.ofNat N)
  have e0 : (0 : Int32).toInt = 0 := rfl
  rw [Int32.lt_iff_toInt_lt]; omega
theorem grow16 {X us : List Int32} (h : ¬ X.length + us.length ≤ 16) (g : X.length + us.length ≤ 30) : (0 : Int32) < (Int32.ofNat (X ++ us).length - (16 : Int32)) ∧ (Int32.ofNat (X ++ us).length - (16 : Int32)) < (18 : Int32) := by
  have e2 : (X ++ us).length = X.length + us.length := List.length_append
  have e := ln_int (X := X ++ us) (by omega)
  have k := c_isub (Int32.ofNat (X ++ us).length) 16
  have r := rng32 (Int32.ofNat (X ++ us).length - 16)
  have e16 : (16 : Int32).toInt = 16 := rfl
  have e18 : (18 : Int32).toInt = 18 := rfl
  have e0 : (0 : Int32).toInt = 0 := rfl
  rw [Int32.lt_iff_toInt_lt, Int32.lt_iff_toInt_lt]; omega
theorem n_eq {X : List Int32} {N : Nat} (h : X.length ≤ N) (hN : N ≤ 4000) (e : Int32.ofNat X.length = Int32.ofNat N) : X.length = N := by
  have e1 := ln_int (X := X) (by omega)
  have eN : (Int32.ofNat N).toInt = N := Int32.toInt_ofNat_of_lt (by omega)
  rw [e, eN] at e1; omega
theorem n_lt {X : List Int32} {N : Nat} (h : X.length ≤ N) (e : ¬ Int32.ofNat X.length = Int32.ofNat N) : X.length < N := by
  rcases Nat.lt_or_eq_of_le h with q | q
  · exact q
  · exact absurd (by rw [q]) e
theorem pad_full {Z : State} {h : Heap} {a : Addr} {k : ClassId} {X : List Int32} {N : Nat} (A : Arv Z h a k .byte (Int32.ofNat N) (pad N X) (.int 0)) (e : X.length = N) : Arv Z h a k .byte (Int32.ofNat X.length) (X.map Value.int) (.int 0) := by
  subst e
  unfold pad at A
  rw [Nat.sub_self, List.replicate_zero, List.append_nil] at A; exact A
section Copy3
variable {p : Program} {l : Launch} {e : Env} {R : Room} {s : State} {m : MethodId} {args : Array Value} {below : List Frame} {meth : Method} {c : Code} {T : State} {locs : List Loc} {cells slots : Nat} {Z : State} {h : Heap} {a b : Addr} {k k' : ClassId}
/-- arraycopy of a whole array of n into a new one of n' -/
theorem cpGrow (X0 : Stand p l e R s m args below meth c T locs cells slots) (hx : p.tables.exec = Jvm.exec) (hZ : Z.Warmed39 s.vm) {a0 : Array Value} {own : String} {index : Nat} (hown : s.vm.findClass own = some m.cls)
    (w1 : (Cond.methodLink own index Jvm.Stand.acN).before a0 Z = true) (w2 : (Cond.native Jvm.Stand.acN).before a0 Z = true) (w3 : (Cond.static Jvm.Stand.acN).before a0 Z = true) (w4 : (Cond.initialized "java/lang/System").before a0 Z = true) (eT : T.heap = h)
    {X : List Int32} {n n' : Nat} (hn : n ≤ n') (hn' : n' ≤ 4000) (hX : X.length ≤ n) (Av : Arv Z h a k .byte (Int32.ofNat n) (pad n X) (.int 0)) (Bv : Arv Z h b k' .byte (Int32.ofNat n') (pad n' []) (.int 0)) {n0 : Nat} (N : Fr n0 locs) (ge : n0 ≤ b)
    {g : JFrame} (hg : g.method = m) (hsize : g.locals.size = c.maxLocals) {rest : List Value} (hs : g.stack = .int (Int32.ofNat n) :: .int 0 :: .ref b :: .int 0 :: .ref a :: rest) (hd : decode c.code g.pc = .ok (.invokestatic index, 3))
    (hf : 1 ≤ R.frames) {W : Nat} (hW : 2 * g.monitorRoom + (rest.map fun v => v.category).sum ≤ W) (hlo : W + 18 ≤ R.locals) :
    ∃ T' h' L, Stand p l e R s m args below meth c T' L cells slots ∧ T'.heap = h' ∧ Fr n0 L ∧ Keep h h' [b] ∧ Arv Z h' b k' .byte (Int32.ofNat n') (pad n' X) (.int 0) ∧
      ∀ target, Steps p.tables e below (T'.setTop { g with pc := g.pc + 3, stack := rest }) target → Steps p.tables e below (T.setTop g) target := by
  have z0 : (0 : Int32).toNatClampNeg = 0 := rfl
  have en : (Int32.ofNat n).toNatClampNeg = n := Jvm.Free.XT.n32 (by omega)
  have en' : (Int32.ofNat n').toNatClampNeg = n' := Jvm.Free.XT.n32 (by omega)
  have nn : ¬ Int32.ofNat n < 0 := by have := nn0 (X := List.replicate n 0) (by simp; omega); rw [List.length_replicate] at this; exact this
  obtain ⟨T', h', L, X', e', N', K, V, st⟩ := cpA X0 hx hZ hown w1 w2 w3 w4 eT Av Bv (Or.inl ⟨rfl, rfl⟩) (sp := 0) (dp := 0) (nn := Int32.ofNat n) (us := pad n X) (by decide) (by decide) nn (by rw [en, z0]; omega) (by rw [en, en', z0]; omega) (by rw [en, z0]; have q := hus_all (pad n X) (.int 0); rw [pad_len hX] at q; exact q) (by rw [en, z0, pad_len (by simp)]; omega) N ge hg hsize hs hd hf hW hlo
  have e3 : List.take (0 : Int32).toNatClampNeg (pad n' []) = [] := rfl
  have e4 : pad n X ++ List.drop ((0 : Int32).toNatClampNeg + n) (pad n' []) = pad n' X := by
    rw [z0, Nat.zero_add]
    unfold pad
    rw [List.map_nil, List.nil_append, List.drop_replicate, List.append_assoc, List.replicate_append_replicate]
    congr 2; simp; omega
  rw [en, e3, List.nil_append, e4] at V
  exact ⟨T', h', L, X', e', N', K, V, st⟩
end Copy3
end Jvm.Own
namespace Jvm.Own
open Jvm Jvm.ClassFile Sem Op Lib Jvm.Free Jvm.Stand Jvm.LawKit Jvm.RoadKit
/-- a static table of 100 bytes, as the sets tell it -/
theorem tblOf {s : State} {args a0 : Array Value} {t g : Term} {a : Addr} {f : Nat → Int32} (hf : Fit s) (ev : ∀ idx, t.eval args s none idx s = some (.ref a)) (hx : (Cond.exactly t "[B").value args s none s [] = some true) (wc : (Cond.arrayClass .byte).before a0 s = true)
    (hl : (Cond.eq (.length t) (.int 100)).value args s none s [] = some true) (ha : (Cond.all t (Cond.eq (.elem t (.index 0)) g)).value args s none s [] = some true) (hg : ∀ i : Nat, i < 100 → g.eval args s none [i] s = some (.int (f i))) :
    ∃ k, Arv s s.heap a k .byte 100 ((List.range 100).map fun i => .int (f i)) (.int 0) := by
  obtain ⟨x, y, e1, e2, -, -⟩ := cmp_v (Or.inl hl)
  have e3 := e1
  simp only [Term.eval, ev, Option.bind_eq_bind, Option.bind_some] at e3
  cases hc : s.arrayAt? a with
  | none => simp [hc] at e3
  | some cell =>
    simp only [hc, Option.bind_some] at e3
    have hq : cell.slots.size < 2 ^ 31 := by
      by_cases q : cell.slots.size < 2 ^ 31
      · exact q
      · rw [if_neg q] at e3; cases e3
    rw [if_pos hq] at e3
    obtain rfl : Value.int cell.slots.size.toInt32 = x := Option.some.inj e3
    have e4 : cell.slots.size.toInt32 = (100 : Int32) := by
      have := hl
      rw [Cond.eq_ints e1 (Term.int_eval (100))] at this
      simpa using this
    have hz : cell.slots.size = 100 := by
      have q : cell.slots.size.toInt32.toInt = cell.slots.size := Int32.toInt_ofNat_of_lt hq
      rw [e4] at q
      have e5 : (100 : Int32).toInt = 100 := rfl
      omega
    obtain ⟨h1, h2, h3, k, comp, ty, h4, h5⟩ := State.arrayAt?_spec hc
    obtain ⟨cell', k', g1, g2, g3, -, -⟩ := Exa.start (ev []) hx
    cases h1.symm.trans g1
    obtain ⟨cB, kB, compB, w1, w2, w3⟩ := Cond.arrayClass_spec wc
    cases g2.symm.trans w1
    have A : Arr s s.heap a cell .byte := ⟨h1, ⟨(fun k hk => by (rw [hk] at h3; cases h3)), kB, w2, compB, w3⟩, h2⟩
    have at' : ∀ i, i < 100 → cell.slots[i]? = some (.int (f i)) := fun i hi => by
      have q := Cond.all_elim (ev []) hc ha i (by omega)
      obtain ⟨x, y, q1, q2, -, -⟩ := cmp_v (Or.inl q)
      rw [hg i hi] at q2
      obtain rfl : Value.int (f i) = y := Option.some.inj q2
      have e6 : (Nat.toInt32 i).toNatClampNeg = i := Jvm.Free.XT.n32 (by omega)
      have e7 : ¬ (Nat.toInt32 i) < 0 := by
        have r : (Nat.toInt32 i).toInt = i := Int32.toInt_ofNat_of_lt (by omega)
        have e0 : (0 : Int32).toInt = 0 := rfl
        rw [Int32.lt_iff_toInt_lt]; omega
      have q3 := q1
      simp only [Term.eval, ev, hc, Option.bind_eq_bind, Option.bind_some, List.getElem?_cons_zero, Option.map_some, if_neg e7, e6] at q3
      rw [q3]
      cases x <;> simp [Cond.value, q1, hg i hi] at q ⊢ <;> exact q
    refine ⟨cell.cls, cell, A, rfl, by rw [hz]; rfl, by decide, fun j hj => ?_, fun j hj => ?_⟩
    · rw [hz] at hj
      rw [at' j hj, List.getD_eq_getElem?_getD]; simp [hj]
    · have hj' := hj
      rw [hz] at hj'
      refine elem_fits (j := Nat.toInt32 j) hf A (idx_in hj hq) ?_
      rw [show (Nat.toInt32 j).toNatClampNeg = j from Jvm.Free.XT.n32 (by omega), at' j hj', List.getD_eq_getElem?_getD]; simp [hj']
theorem tens_ev {args : Array Value} {s : State} (i : Nat) (h : i < 100) : (Term.add (.int 48) (.div (.index 0) (.int 10))).eval args s none [i] s = some (.int (Int32.ofNat (48 + i / 10))) := by
  have r : (Nat.toInt32 i).toInt = i := Int32.toInt_ofNat_of_lt (by omega)
  have e : (Nat.toInt32 i / 10) = Int32.ofNat (i / 10) := Int32.toInt_inj.mp (by rw [(c_idiv (Nat.toInt32 i) 10 10 rfl (by decide)).1 (by omega), r, Int32.toInt_ofNat_of_lt (by omega)]; norm_cast)
  simp [Term.eval, e, Int32.ofNat_add]
theorem ones_ev {args : Array Value} {s : State} (i : Nat) (h : i < 100) : (Term.add (.int 48) (.rem (.index 0) (.int 10))).eval args s none [i] s = some (.int (Int32.ofNat (48 + i % 10))) := by
  have r : (Nat.toInt32 i).toInt = i := Int32.toInt_ofNat_of_lt (by omega)
  have e : (Nat.toInt32 i % 10) = Int32.ofNat (i % 10) := Int32.toInt_inj.mp (by rw [(c_irem (Nat.toInt32 i) 10 10 rfl).1 (by omega), r, Int32.toInt_ofNat_of_lt (by omega)]; norm_cast)
  simp [Term.eval, e, Int32.ofNat_add]
/-! the law's numbers -/
theorem lc_up {m p : Int64} {n K : Nat} (e : m.toInt = (n : Int)) (hp : p.toInt = ((10 ^ K : Nat) : Int)) (h : lcmpW m p < 0) : n < 10 ^ K := by
  have q := c_lcmp m p
  rw [Int32.lt_iff_toInt_lt] at h
  have e0 : (0 : Int32).toInt = 0 := rfl
  rcases Int.lt_trichotomy m.toInt p.toInt with r | r | r
  · omega
  · rw [q.2.1 r] at h; omega
  · rw [q.2.2 r] at h; omega
theorem lc_dn {m p : Int64} {n K : Nat} (e : m.toInt = (n : Int)) (hp : p.toInt = ((10 ^ K : Nat) : Int)) (h : ¬ lcmpW m p < 0) : 10 ^ K ≤ n := by
  have q := c_lcmp m p
  rw [Int32.lt_iff_toInt_lt] at h
  have e0 : (0 : Int32).toInt = 0 := rfl
  rcases Int.lt_trichotomy m.toInt p.toInt with r | r | r
  · rw [q.1 r] at h; omega
  · omega
  · omega
theorem abs_n {x : Int32} (h : lcmpW x.toInt64 (0 : Int64) < 0) : (-x.toInt64).toInt = (x.toInt.natAbs : Int) := by
  have q := c_lcmp x.toInt64 0
  have e := c_i2l x
  have z : (0 : Int64).toInt = 0 := rfl
  have e0 : (0 : Int32).toInt = 0 := rfl
  have a := c_lneg x.toInt64
  have r := rng64 (-x.toInt64)
  have r2 := rng32 x
  rw [Int32.lt_iff_toInt_lt] at h
  rcases Int.lt_trichotomy x.toInt64.toInt (0 : Int64).toInt with t | t | t
  · omega
  · rw [q.2.1 t] at h; omega
  · rw [q.2.2 t] at h; omega
theorem abs_p {x : Int32} (h : ¬ lcmpW x.toInt64 (0 : Int64) < 0) : (x.toInt64).toInt = (x.toInt.natAbs : Int) := by
  have q := c_lcmp x.toInt64 0
  have e := c_i2l x
  have z : (0 : Int64).toInt = 0 := rfl
  have e0 : (0 : Int32).toInt = 0 := rfl
  rw [Int32.lt_iff_toInt_lt] at h
  rcases Int.lt_trichotomy x.toInt64.toInt (0 : Int64).toInt with t | t | t
  · rw [q.1 t] at h; omega
  · omega
  · omega
theorem ixd {A : List Int32} {K k : Nat} (h : k < K) : ((Int32.ofNat A.length + Int32.ofNat K) - (1 : Int32)) - Int32.ofNat k = Int32.ofNat (A.length + (K - 1 - k)) := by
  have e : A.length + K = (A.length + (K - 1 - k)) + k + 1 := by omega
  rw [← Int32.ofNat_add, e, Int32.ofNat_add, Int32.ofNat_add]
  generalize Int32.ofNat (A.length + (K - 1 - k)) = x
  generalize Int32.ofNat k = y
  rw [show Int32.ofNat 1 = 1 from rfl, Int32.add_sub_cancel, Int32.add_sub_cancel]
theorem lt_ofn {K k : Nat} (h : Int32.ofNat k < Int32.ofNat K) (hk : k ≤ 100) (hK : K ≤ 100) : k < K := by
  rw [Int32.lt_iff_toInt_lt, Int32.toInt_ofNat_of_lt (by omega), Int32.toInt_ofNat_of_lt (by omega)] at h; omega
theorem dgv {ml pw : Int64} {n k : Nat} (e : ml.toInt = (n : Int)) (hp : pw.toInt = ((10 ^ k : Nat) : Int)) : ((((48 : Int64) + ((ml / pw) % (10 : Int64))).toInt32).toUInt32.toUInt16.toUInt32.toInt32) = dig n k := by
  have p0 : 0 < 10 ^ k := Nat.pow_pos (by decide)
  have a := (c_ldiv ml pw _ hp (fun z => by rw [z] at hp; have : (-1 : Int64).toInt = -1 := rfl; omega)).1 (by omega)
  rw [e] at a
  have a' : (ml / pw).toInt = ((n / 10 ^ k : Nat) : Int) := by rw [a]; norm_cast
  have b := (c_lrem (ml / pw) 10 10 rfl).1 (by rw [a']; exact Int.natCast_nonneg _)
  rw [lrem_mod, a'] at b
  have c := c_ladd 48 ((ml / pw) % 10)
  have c1 := rng64 ((48 : Int64) + ((ml / pw) % (10 : Int64)))
  have e48 : (48 : Int64).toInt = 48 := rfl
  have d := c_l2i ((48 : Int64) + ((ml / pw) % (10 : Int64)))
  have d1 := rng32 ((48 : Int64) + ((ml / pw) % (10 : Int64))).toInt32
  have f := c_i2c ((48 : Int64) + ((ml / pw) % (10 : Int64))).toInt32
  have g := dig_val n k
  refine Int32.toInt_inj.mp ?_
  generalize n / 10 ^ k = m at *
  omega
theorem at_dig {us A B : List Int32} {n K k : Nat} (hq : us = A ++ suf n K ++ B) (h : k < K) (hA : A.length + K ≤ 4000) : us.getD (Int32.ofNat (A.length + (K - 1 - k))).toNatClampNeg 0 = dig n k := by
  rw [Jvm.Free.XT.n32 (by omega), hq, List.getD_eq_getElem?_getD, List.append_assoc, List.getElem?_append_right (by omega), Nat.add_sub_cancel_left, List.getElem?_append_left (by rw [suf_len]; omega), suf_at n K k h]; rfl
theorem at_last {us A : List Int32} {b : Int32} {m : Nat} (hq : us = A ++ [b]) (hm : A.length = m) (h4 : m ≤ 4000) : us.getD (Int32.ofNat m).toNatClampNeg 0 = b := by
  rw [Jvm.Free.XT.n32 (by omega), hq, ← hm, List.getD_eq_getElem?_getD]; simp
end Jvm.Own
namespace Jvm.Pilot.@@N@@
open Jvm Jvm.ClassFile Sem Op Lib Jvm.Free Jvm.Stand Jvm.LawKit Jvm.RoadKit Jvm.Own Bundle Jvm.Pilot.@@N@@.Jvm.D
set_option maxRecDepth 65536
set_option maxHeartbeats 40000000
abbrev yN0 : MethodName := ⟨"com/example/syndica/syndica/Term", "<init>", "(Ljava/lang/String;Ljava/lang/String;Ljava/lang/String;I)V"⟩
abbrev yN1 : MethodName := ⟨"com/example/syndica/syndica/Term", "cited", "()Ljava/lang/String;"⟩
abbrev yN2 : MethodName := ⟨"com/example/syndica/syndica/TermCitedPinLaw", "digitOk", "(Ljava/lang/String;IIJIJ)Z"⟩
abbrev yN3 : MethodName := ⟨"com/example/syndica/syndica/TermCitedPinLaw", "digits", "(J)I"⟩
abbrev yN4 : MethodName := ⟨"java/lang/AbstractStringBuilder", "<init>", "(I)V"⟩
abbrev yN5 : MethodName := ⟨"java/lang/AbstractStringBuilder", "append", "(I)Ljava/lang/AbstractStringBuilder;"⟩
abbrev yN6 : MethodName := ⟨"java/lang/AbstractStringBuilder", "append", "(Ljava/lang/String;)Ljava/lang/AbstractStringBuilder;"⟩
abbrev yN7 : MethodName := ⟨"java/lang/AbstractStringBuilder", "ensureCapacityInternal", "(I)V"⟩
abbrev yN8 : MethodName := ⟨"java/lang/AbstractStringBuilder", "getValue", "()[B"⟩
abbrev yN9 : MethodName := ⟨"java/lang/AbstractStringBuilder", "inflateIfNeededFor", "(Ljava/lang/String;)V"⟩
abbrev yN10 : MethodName := ⟨"java/lang/AbstractStringBuilder", "isLatin1", "()Z"⟩
abbrev yN11 : MethodName := ⟨"java/lang/AbstractStringBuilder", "length", "()I"⟩
abbrev yN12 : MethodName := ⟨"java/lang/AbstractStringBuilder", "newCapacity", "(I)I"⟩
abbrev yN13 : MethodName := ⟨"java/lang/AbstractStringBuilder", "putStringAt", "(ILjava/lang/String;)V"⟩
abbrev yN14 : MethodName := ⟨"java/lang/Integer", "getChars", "(II[B)I"⟩
abbrev yN15 : MethodName := ⟨"java/lang/Integer", "stringSize", "(I)I"⟩
abbrev yN16 : MethodName := ⟨"java/lang/Math", "abs", "(J)J"⟩
abbrev yN17 : MethodName := ⟨"java/lang/Math", "max", "(II)I"⟩
abbrev yN18 : MethodName := ⟨"java/lang/Math", "min", "(II)I"⟩
abbrev yN19 : MethodName := ⟨"java/lang/Record", "<init>", "()V"⟩
abbrev yN20 : MethodName := ⟨"java/lang/String", "<init>", "(Ljava/lang/AbstractStringBuilder;Ljava/lang/Void;)V"⟩
abbrev yN21 : MethodName := ⟨"java/lang/String", "<init>", "(Ljava/lang/StringBuilder;)V"⟩
abbrev yN23 : MethodName := ⟨"java/lang/String", "charAt", "(I)C"⟩
abbrev yN24 : MethodName := ⟨"java/lang/String", "checkIndex", "(II)V"⟩
abbrev yN25 : MethodName := ⟨"java/lang/String", "coder", "()B"⟩
abbrev yN26 : MethodName := ⟨"java/lang/String", "getBytes", "([BIB)V"⟩
abbrev yN27 : MethodName := ⟨"java/lang/String", "isLatin1", "()Z"⟩
abbrev yN28 : MethodName := ⟨"java/lang/String", "length", "()I"⟩
abbrev yN29 : MethodName := ⟨"java/lang/StringBuilder", "<init>", "()V"⟩
abbrev yN30 : MethodName := ⟨"java/lang/StringBuilder", "append", "(I)Ljava/lang/StringBuilder;"⟩
abbrev yN31 : MethodName := ⟨"java/lang/StringBuilder", "append", "(Ljava/lang/String;)Ljava/lang/StringBuilder;"⟩
abbrev yN32 : MethodName := ⟨"java/lang/StringBuilder", "length", "()I"⟩
abbrev yN33 : MethodName := ⟨"java/lang/StringBuilder", "toString", "()Ljava/lang/String;"⟩
abbrev yN34 : MethodName := ⟨"java/lang/StringLatin1", "charAt", "([BI)C"⟩
abbrev yN35 : MethodName := ⟨"java/util/Arrays", "checkLength", "(II)V"⟩
abbrev yN36 : MethodName := ⟨"java/util/Arrays", "copyOf", "([BI)[B"⟩
abbrev yN37 : MethodName := ⟨"java/util/Arrays", "copyOfRange", "([BII)[B"⟩
abbrev yN38 : MethodName := ⟨"java/util/Arrays", "copyOfRangeByte", "([BII)[B"⟩
abbrev yN39 : MethodName := ⟨"jdk/internal/util/ArraysSupport", "newLength", "(III)I"⟩
abbrev yN40 : MethodName := ⟨"jdk/internal/util/Preconditions", "checkIndex", "(IILjava/util/function/BiFunction;)I"⟩
abbrev vi (x : Int32) : Slot := .val (.int x)
abbrev vr (x : Addr) : Slot := .val (.ref x)
abbrev un : Slot := .unset
abbrev sn : Slot := .second
theorem hv {a0 : Array Value} {Z : State} (hw : ∀ d ∈ tables_1, d.before a0 Z = true) (i : Nat) {d : Jvm.Cond} (h : tables_1[i]? = some d) : d.before a0 Z = true := hw d (List.mem_of_getElem? h)
theorem hwsV (Z : State) (a0 : Array Value) (hw : ∀ d ∈ tables_1, d.before a0 Z = true) : ∀ d ∈ StrChars.Road.words, d.before a0 Z = true := fun d hd => hw d ((by decide +kernel : ∀ d ∈ StrChars.Road.words, d ∈ tables_1) d hd)
/-- x is a String of the chars cs (each 0 to 255), its cells below b -/
def Str (Z : State) (h : Heap) (b : Nat) (x : Addr) (cs : List Int32) : Prop :=
  x < b ∧ Exa Z h x "java/lang/String" ∧ Fld Z h x "java/lang/String" "coder" "B" (.int 0) ∧
    (∃ (t : Addr) (k : ClassId), t < b ∧ Fld Z h x "java/lang/String" "value" "[B" (.ref t) ∧ Arv Z h t k .byte (Int32.ofNat cs.length) ((cs.map fun c => c.toInt8.toInt32).map Value.int) (.int 0)) ∧
    (∀ c ∈ cs, ¬ c < 0 ∧ ¬ 255 < c) ∧ cs.length ≤ 4000
section StrFacts
variable {Z : State} {h h' : Heap} {b : Nat} {x a : Addr} {cs : List Int32} {ws : List Addr} {sl : Nat} {v : Value}
theorem Str.of {t : Addr} {k : ClassId} {N : Int32} {bs : List Int32} (E : Exa Z h x "java/lang/String") (C : Fld Z h x "java/lang/String" "coder" "B" (.int 0)) (F : Fld Z h x "java/lang/String" "value" "[B" (.ref t)) (A : Arv Z h t k .byte N (bs.map Value.int) (.int 0)) (hN : N = Int32.ofNat cs.length) (hb : bs = cs.map fun c => c.toInt8.toInt32)
    (hp : ∀ c ∈ cs, ¬ c < 0 ∧ ¬ 255 < c) (hl : cs.length ≤ 4000) : Str Z h h.size x cs := by subst hN hb; exact ⟨E.lt, E, C, ⟨t, k, A.lt, F, A⟩, hp, hl⟩
theorem Str.keep (S : Str Z h b x cs) (K : Keep h h' ws) (q : ∀ w ∈ ws, b ≤ w) : Str Z h' b x cs := by
  obtain ⟨l1, E, C, ⟨t, k, l2, F, A⟩, r⟩ := S
  have n1 : x ∉ ws := fun m => absurd (q _ m) (Nat.not_le_of_lt l1)
  have n2 : t ∉ ws := fun m => absurd (q _ m) (Nat.not_le_of_lt l2)
  exact ⟨l1, E.keep K, C.keep K n1, ⟨t, k, l2, F.keep K n1, A.keep K n2⟩, r⟩
theorem Str.wr (S : Str Z h b x cs) (W : Wr h h' a sl v) (q : b ≤ a) : Str Z h' b x cs := S.keep (Keep.of_wr W) (allS q all0)
theorem Str.ext (S : Str Z h b x cs) (E : Ext h h') : Str Z h' b x cs := by
  obtain ⟨l1, E1, C, ⟨t, k, l2, F, A⟩, r⟩ := S
  exact ⟨l1, E1.ext E, C.ext E, ⟨t, k, l2, F.ext E, A.ext E⟩, r⟩
end StrFacts
theorem i8val {c : Int32} (h : ¬ c < 0 ∧ ¬ (255 : Int32) < c) : 0 ≤ c.toInt ∧ c.toInt ≤ 255 ∧ (c.toInt8.toInt32).toInt = (if c.toInt < 128 then c.toInt else c.toInt - 256) := by
  have q := c_i2b c
  have h1 := h.1; have h2 := h.2
  rw [Int32.lt_iff_toInt_lt] at h1 h2
  have e : (255 : Int32).toInt = 255 := rfl
  have e0 : (0 : Int32).toInt = 0 := rfl
  split <;> omega
theorem m255 {c : Int32} (h : ¬ c < 0 ∧ ¬ 255 < c) : (c.toInt8.toInt32 &&& 255) = c := by
  have q := i8val h
  have k := c_mask c.toInt8.toInt32 255 8 (by decide) (by decide)
  refine eq32 ?_
  rw [k, q.2.2]; split <;> omega
theorem m63 {c : Int32} (h : ¬ c < 0 ∧ ¬ 255 < c) : (c.toInt8.toInt32 &&& 63) = (c &&& 63) := by
  have q := i8val h
  have k := c_mask c.toInt8.toInt32 63 6 (by decide) (by decide)
  have k2 := c_mask c 63 6 (by decide) (by decide)
  refine eq32 ?_
  rw [k, k2, q.2.2]; split <;> omega
theorem neg_n {c : Int32} (h : ¬ c < 0 ∧ ¬ 255 < c) (g : c < 128) : ¬ c.toInt8.toInt32 < 0 := by
  have q := i8val h
  rw [Int32.lt_iff_toInt_lt] at g ⊢
  have e : (128 : Int32).toInt = 128 := rfl
  have e0 : (0 : Int32).toInt = 0 := rfl
  rw [q.2.2]; split <;> omega
theorem neg_p {c : Int32} (h : ¬ c < 0 ∧ ¬ 255 < c) (g : ¬ c < 128) : c.toInt8.toInt32 < 0 := by
  have q := i8val h
  rw [Int32.lt_iff_toInt_lt] at g ⊢
  have e : (128 : Int32).toInt = 128 := rfl
  have e0 : (0 : Int32).toInt = 0 := rfl
  rw [q.2.2]; split <;> omega
/-- what put writes is the encoding of the char's byte -/
theorem put_n {X : List Int32} {c : Int32} (h : ¬ c < 0 ∧ ¬ 255 < c) (g : c < 128) : X ++ encB (c.toInt8.toInt32) = X ++ [(c.toInt8.toInt32)] := by rw [encB, if_neg (neg_n h g)]
theorem put_p {X : List Int32} {c : Int32} (h : ¬ c < 0 ∧ ¬ 255 < c) (g : ¬ c < 128) : X ++ encB (c.toInt8.toInt32) = (X ++ [(((192 : Int32) ||| (c >>> ((6 : Int32) &&& 31))).toInt8.toInt32)]) ++ [(((128 : Int32) ||| (c &&& 63)).toInt8.toInt32)] := by
  rw [encB, if_pos (neg_p h g), e1, e2, m255 h, m63 h]; simp
theorem lsucc2 (d : List Int32) (a b : Int32) : Int32.ofNat d.length + 2 = Int32.ofNat ((d ++ [a]) ++ [b]).length := by rw [List.length_append, List.length_append, Int32.ofNat_add, Int32.ofNat_add, Int32.add_assoc]; rfl
theorem neq8 {c k : Int32} (h : ¬ c < 0 ∧ ¬ 255 < c) (hk : 0 ≤ k.toInt ∧ k.toInt < 128) (g : ¬ c = k) : ¬ c.toInt8.toInt32 = k := fun z => by
  have q := i8val h
  rw [z] at q
  refine g (eq32 ?_)
  have := q.2.2; split at this <;> omega
/-- the bytes of a String's chars -/
def i8s (cs : List Int32) : List Int32 := cs.map fun c => c.toInt8.toInt32
theorem i8s_len (cs : List Int32) : (i8s cs).length = cs.length := by simp [i8s]
theorem i8s_bt {cs : List Int32} : ∀ b ∈ i8s cs, b.toInt8.toInt32 = b := fun b hb => by
  obtain ⟨c, -, rfl⟩ := List.mem_map.mp hb
  exact i8i8 c
theorem i8s_no {cs : List Int32} {k : Int32} (hk : 0 ≤ k.toInt ∧ k.toInt < 128) (hp : ∀ c ∈ cs, ¬ c < 0 ∧ ¬ 255 < c) (h : ∀ c ∈ cs, ¬ c = k) : ∀ b ∈ i8s cs, ¬ b = k := fun b hb => by
  obtain ⟨c, hc, rfl⟩ := List.mem_map.mp hb
  exact neq8 (hp c hc) hk (h c hc)
theorem i8s_nz {cs : List Int32} (h : cs ≠ []) : i8s cs ≠ [] := fun z => h (List.map_eq_nil_iff.mp z)
theorem i8s_4 {cs : List Int32} (h : cs.length ≤ 4000) : (i8s cs).length ≤ 4000 := by rw [i8s_len]; exact h
theorem i8arv {Z : State} {h : Heap} {t : Addr} {k : ClassId} {cs : List Int32} (A : Arv Z h t k .byte (Int32.ofNat cs.length) ((cs.map fun c => c.toInt8.toInt32).map Value.int) (.int 0)) : Arv Z h t k .byte (Int32.ofNat (i8s cs).length) ((i8s cs).map Value.int) (.int 0) := by rw [i8s_len]; exact A
theorem t58 : (58 : Int32).toInt8.toInt32 = 58 := by decide
theorem encB58 : encB 58 = [58] := by decide
def atg (X : List Int32) (i : Int32) : Int32 := X.getD i.toNatClampNeg 0
theorem ii_nat {X : List Int32} {i : Int32} (hi : ¬ i < 0) (h : i < Int32.ofNat X.length) (hX : X.length ≤ 4000) : i.toNatClampNeg < X.length := by
  rw [Int32.lt_iff_toInt_lt] at h hi
  rw [ln_int hX] at h
  have e0 : (0 : Int32).toInt = 0 := rfl
  simp only [Int32.toNatClampNeg]; omega
theorem atg_B {X : List Int32} {i : Int32} (hi : ¬ i < 0) (h : i < Int32.ofNat X.length) (hX : X.length ≤ 4000) (dv : Value) : (X.map Value.int).getD i.toNatClampNeg dv = .int (atg X i) := by
  have q := ii_nat hi h hX
  simp [atg, List.getD_eq_getElem?_getD, q]
theorem atg_P {X : List Int32} {i : Int32} {n : Nat} (hi : ¬ i < 0) (h : i < Int32.ofNat X.length) (hX : X.length ≤ 4000) (dv : Value) : (pad n X).getD i.toNatClampNeg dv = .int (atg X i) := by
  have q := ii_nat hi h hX
  simp [pad, atg, List.getD_eq_getElem?_getD, List.getElem?_append_left, q]
theorem lt_pad {X : List Int32} {i : Int32} {n : Nat} (h : i < Int32.ofNat X.length) (hX : X.length ≤ n) (hn : n ≤ 4000) : i < Int32.ofNat n := by
  rw [Int32.lt_iff_toInt_lt, ln_int (by omega)] at h
  rw [Int32.lt_iff_toInt_lt, Int32.toInt_ofNat_of_lt (by omega)]; omega
theorem atc {a c : Int32} (h : a = c.toInt8.toInt32) (hc : ¬ c < 0 ∧ ¬ 255 < c) : (a &&& 255) = c := by rw [h, m255 hc]
theorem atl {a k : Int32} (h : a = k) (g : (k &&& 255) = k) : (a &&& 255) = k := by rw [h, g]
theorem lenq {us A : List Int32} {n K : Nat} {a : Int32} (hq : us = A ++ suf n K ++ [(41 : Int32)]) (ha : Int32.ofNat A.length = a) : Int32.ofNat us.length = ((a + Int32.ofNat K) + 1) := by
  rw [hq, List.length_append, List.length_append, suf_len, Int32.ofNat_add, Int32.ofNat_add, ha]; rfl
theorem ofn2 {a : Int32} {m K : Nat} (h : Int32.ofNat m = a) : a + Int32.ofNat K = Int32.ofNat (m + K) := by rw [Int32.ofNat_add, h]
theorem pn_0 : plainName "com/example/syndica/syndica/TermCitedPinLaw" = true := by first | (simp [plainName, overriddenIn]; done) | decide +kernel
theorem pd_0 : parseMethodDescriptor "([C)V" = some ⟨[(.array .char)], none⟩ := by decide +kernel
theorem pn_1 : plainName "com/example/syndica/syndica/Term" = true := by first | (simp [plainName, overriddenIn]; done) | decide +kernel
theorem p81_1_0 : decode prog_81_method_1_code 0 = .ok (.aload_n 0, 1) := by decide +kernel
theorem pn_2 : plainName "java/lang/Record" = true := by first | (simp [plainName, overriddenIn]; done) | decide +kernel
theorem d30_1_0 : decode jdk_30_method_1_code 0 = .ok (.aload_n 0, 1) := by decide +kernel
theorem d30_1_1 : decode jdk_30_method_1_code 1 = .ok (.invokespecial 1, 3) := by decide +kernel
theorem d30_1_4 : decode jdk_30_method_1_code 4 = .ok (.return_, 1) := by decide +kernel
def QHrc (Z : State) (xd : Addr) (h0 : Heap) (n0 : Nat) (v : Option Value) (h : Heap) (L : List Loc) : Prop := v = none ∧ Fr n0 L ∧ h = h0
theorem rmHrc (l : Launch) (Z : State) (a0 : Array Value) (hw : ∀ d ∈ tables_1, d.before a0 Z = true) (ws : List Jvm.Cond) (xd : Addr) (h0 : Heap) (n0 : Nat) (X00 : Old Z n0 h0)  :
  MetFree l yN19 (head1 (Jvm.Cond.code yN19 jdk_30_method_1_code 1 none :: ws) ({ frames := 1, cells := 0, slots := 0, locals := 12 } : Room)) (fun aa U => aa = #[(.ref xd)] ∧ Z.Warmed39 U.vm ∧ U.heap = h0) (fun _ _ _ _ _ => True) (fun _ U o U' => ∃ v L, o = .returned v ∧ QHrc Z xd h0 n0 v U'.heap L ∧ FrameEnd U o U' L ({ frames := 1, cells := 0, slots := 0, locals := 12 } : Room).cells ({ frames := 1, cells := 0, slots := 0, locals := 12 } : Room).slots) := by
 refine MetFree.of_bodySF (plainFor_of_name pn_2) hisR ?_
 intro p e s m args below meth c s₁ Bd hml0 hP hK
 obtain ⟨rfl, hZ, hh⟩ := hP
 have hx := Bd.exec
 have hby := Bd.bytes
 have hml : c.maxLocals = 1 := hml0
 have hown : s.vm.findClass "java/lang/Record" = some m.cls := findClass_of_methodNamed Bd.named
 have hnm := (name_of_methodNamed Bd.named Bd.method).1
 have X0 : Stand p l e ({ frames := 1, cells := 0, slots := 0, locals := 12 } : Room) s m #[(.ref xd)] below meth c s₁ [] 0 0 := Stand.of_body Bd
 have e0 : s₁.heap = h0 := by rw [← hh, Bd.state]; rfl
 have N0 := Fr.nil n0
 have K0 := Keep.refl h0 []
 have ef : entryFrame m #[(.ref xd)] 1 = mkF m 0 #[vr xd] [] := by first | (simp [entryFrame, mkF, argsToLocals, Value.category]; done) | rfl
 rw [ef]
 refine fin_of fun Kx hF => ?_
 show Go p.tables e below Kx _ (mkF m 0 _ [])
 refine s_aloadN (pc' := 1) X0.here hx (hb hby d30_1_0) rfl rfl rfl ?_
 obtain ⟨T48, X48, e48, st48⟩ := initO X0 hx hZ hown (hv hw 44 rfl) (hv hw 12 rfl) (hv hw 13 rfl) e0 (g := (mkF m 1 #[vr xd] [(.ref xd)])) rfl (by rw [hml]; rfl) rfl (hb hby d30_1_1) (by decide) (W := 0) (by exact Nat.le_of_eq rfl) (by decide)
 refine Go.st st48 ?_
 show Go p.tables e below Kx _ (mkF m 4 _ [])
 obtain ⟨fs, hr, hrun, hended, hW, hsame⟩ := X48.leave (v := none) (fun _ => rfl)
 refine Go.fin (X48.returnOut hx Bd.returns (hb hby d30_1_4) hr) (hF _ _ hrun hended ⟨_, _, rfl, ?_, ⟨_, rfl⟩, hW, hsame.mono (by decide) (by decide)⟩)
 ·
  show QHrc Z xd h0 n0 (none : Option Value) T48.heap _
  rw [e48]
  exact ⟨rfl, N0, rfl⟩
theorem pd_1 : parseMethodDescriptor "()V" = some ⟨[], none⟩ := by decide +kernel
theorem p81_1_1 : decode prog_81_method_1_code 1 = .ok (.invokespecial 1, 3) := by decide +kernel
theorem p81_1_4 : decode prog_81_method_1_code 4 = .ok (.aload_n 0, 1) := by decide +kernel
theorem p81_1_5 : decode prog_81_method_1_code 5 = .ok (.aload_n 1, 1) := by decide +kernel
theorem p81_1_6 : decode prog_81_method_1_code 6 = .ok (.putfield 7, 3) := by decide +kernel
theorem p81_1_9 : decode prog_81_method_1_code 9 = .ok (.aload_n 0, 1) := by decide +kernel
theorem p81_1_10 : decode prog_81_method_1_code 10 = .ok (.aload_n 2, 1) := by decide +kernel
theorem p81_1_11 : decode prog_81_method_1_code 11 = .ok (.putfield 13, 3) := by decide +kernel
theorem p81_1_14 : decode prog_81_method_1_code 14 = .ok (.aload_n 0, 1) := by decide +kernel
theorem p81_1_15 : decode prog_81_method_1_code 15 = .ok (.aload_n 3, 1) := by decide +kernel
theorem p81_1_16 : decode prog_81_method_1_code 16 = .ok (.putfield 16, 3) := by decide +kernel
theorem p81_1_19 : decode prog_81_method_1_code 19 = .ok (.aload_n 0, 1) := by decide +kernel
theorem p81_1_20 : decode prog_81_method_1_code 20 = .ok (.iload 4, 2) := by decide +kernel
theorem p81_1_22 : decode prog_81_method_1_code 22 = .ok (.putfield 19, 3) := by decide +kernel
theorem p81_1_25 : decode prog_81_method_1_code 25 = .ok (.return_, 1) := by decide +kernel
def QHti (Z : State) (xd yk yv ys : Addr) (xl : Int32) (h0 : Heap) (n0 : Nat) (v : Option Value) (h : Heap) (L : List Loc) : Prop := v = none ∧ Fr n0 L ∧ Keep h0 h [xd] ∧ Exa Z h xd "com/example/syndica/syndica/Term" ∧ Fld Z h xd "com/example/syndica/syndica/Term" "value" "Ljava/lang/String;" (.ref yv) ∧ Fld Z h xd "com/example/syndica/syndica/Term" "section" "Ljava/lang/String;" (.ref ys) ∧ Fld Z h xd "com/example/syndica/syndica/Term" "line" "I" (.int xl)
theorem rmHti (l : Launch) (Z : State) (a0 : Array Value) (hw : ∀ d ∈ tables_1, d.before a0 Z = true) (ws : List Jvm.Cond) (xd yk yv ys : Addr) (xl : Int32) (h0 : Heap) (n0 : Nat) (X00 : Old Z n0 h0) (ge_xd : n0 ≤ xd) (E : Exa Z h0 xd "com/example/syndica/syndica/Term") (Fkey : Fld Z h0 xd "com/example/syndica/syndica/Term" "key" "Ljava/lang/String;" .null) (Fvalue : Fld Z h0 xd "com/example/syndica/syndica/Term" "value" "Ljava/lang/String;" .null) (Fsection : Fld Z h0 xd "com/example/syndica/syndica/Term" "section" "Ljava/lang/String;" .null) (Fline : Fld Z h0 xd "com/example/syndica/syndica/Term" "line" "I" (.int 0)) :
  MetFree l yN0 (head1 (Jvm.Cond.code yN0 prog_81_method_1_code 5 none :: ws) ({ frames := 2, cells := 0, slots := 0, locals := 24 } : Room)) (fun aa U => aa = #[(.ref xd), (.ref yk), (.ref yv), (.ref ys), (.int xl)] ∧ Z.Warmed39 U.vm ∧ U.heap = h0) (fun _ _ _ _ _ => True) (fun _ U o U' => ∃ v L, o = .returned v ∧ QHti Z xd yk yv ys xl h0 n0 v U'.heap L ∧ FrameEnd U o U' L ({ frames := 2, cells := 0, slots := 0, locals := 24 } : Room).cells ({ frames := 2, cells := 0, slots := 0, locals := 24 } : Room).slots) := by
 refine MetFree.of_bodySF (plainFor_of_name pn_1) hisR ?_
 intro p e s m args below meth c s₁ Bd hml0 hP hK
 obtain ⟨rfl, hZ, hh⟩ := hP
 have hx := Bd.exec
 have hby := Bd.bytes
 have hml : c.maxLocals = 5 := hml0
 have hown : s.vm.findClass "com/example/syndica/syndica/Term" = some m.cls := findClass_of_methodNamed Bd.named
 have hnm := (name_of_methodNamed Bd.named Bd.method).1
 have X0 : Stand p l e ({ frames := 2, cells := 0, slots := 0, locals := 24 } : Room) s m #[(.ref xd), (.ref yk), (.ref yv), (.ref ys), (.int xl)] below meth c s₁ [] 0 0 := Stand.of_body Bd
 have e0 : s₁.heap = h0 := by rw [← hh, Bd.state]; rfl
 have N0 := Fr.nil n0
 have K0 := Keep.refl h0 [xd]
 have ef : entryFrame m #[(.ref xd), (.ref yk), (.ref yv), (.ref ys), (.int xl)] 5 = mkF m 0 #[vr xd, vr yk, vr yv, vr ys, vi xl] [] := by first | (simp [entryFrame, mkF, argsToLocals, Value.category]; done) | rfl
 rw [ef]
 refine fin_of fun Kx hF => ?_
 show Go p.tables e below Kx _ (mkF m 0 _ [])
 refine s_aloadN (pc' := 1) X0.here hx (hb hby p81_1_0) rfl rfl rfl ?_
 obtain ⟨_, T49, L49, X49, hQ49, st49⟩ := kI X0 hx hZ (y := yN19) rfl hown (hv hw 39 rfl) (hv hw 40 rfl) (hv hw 42 rfl) (hv hw 43 rfl) (by decide) (rmHrc l Z a0 hw [] xd h0 n0 X00 ) e0 (a := xd) (W := 0) (g := (mkF m 1 #[vr xd, vr yk, vr yv, vr ys, vi xl] [(.ref xd)])) rfl (by rw [hml]; rfl) (argsL := []) (rest := []) (lenOf pd_1 rfl) rfl (by exact Nat.le_of_eq rfl) (hb hby p81_1_1) rfl (nb rfl) (nb rfl) (nb rfl) (nb rfl)
 obtain ⟨rfl, Nq49, hE49⟩ := hQ49
 have N49 := Fr.app N0 Nq49
 refine Go.tr st49 ?_
 show Go p.tables e below Kx _ (mkF m 4 _ [])
 refine s_aloadN (pc' := 5) X49.here hx (hb hby p81_1_4) rfl rfl rfl ?_
 refine s_aloadN (pc' := 6) X49.here hx (hb hby p81_1_5) rfl rfl rfl ?_
 obtain ⟨T50, h50, X50, e50, W50, st50⟩ := putF X49 hx hZ hown (host := "") (Or.inl (hv hw 45 rfl)) Via.refl hE49 Fkey E (Or.inr ⟨(hv hw 46 rfl), rfl, hnm⟩) (hv hw 31 rfl) (ty := (.object "java/lang/String")) (by decide) rfl rfl (g := (mkF m 6 #[vr xd, vr yk, vr yv, vr ys, vi xl] [(.ref yk), (.ref xd)])) rfl rfl (hb hby p81_1_6)
 have Fw50 : Fld Z h50 xd "com/example/syndica/syndica/Term" "key" "Ljava/lang/String;" (.ref yk) := Fkey.same W50
 have K50 : Keep h0 h50 [xd] := K0.wr W50 (Or.inl (List.mem_of_getElem? (i := 0) rfl))
 have O50 : Old Z n0 h50 := X00.wr W50 ge_xd
 have N50 := Fr.snoc X50 N49 ge_xd
 refine Go.st st50 ?_
 show Go p.tables e below Kx _ (mkF m 9 _ [])
 refine s_aloadN (pc' := 10) X50.here hx (hb hby p81_1_9) rfl rfl rfl ?_
 refine s_aloadN (pc' := 11) X50.here hx (hb hby p81_1_10) rfl rfl rfl ?_
 have f51 : Fld Z h50 xd "com/example/syndica/syndica/Term" "value" "Ljava/lang/String;" .null := (Fvalue.other W50 (Or.inr (slot_ne (Or.inr (hv hw 48 rfl)) (Or.inr (hv hw 46 rfl)) (by decide) (t := (.object "java/lang/String")) (t' := (.object "java/lang/String")) (by decide) (by decide))))
 have f52 : Exa Z h50 xd "com/example/syndica/syndica/Term" := (E.wr W50)
 obtain ⟨T53, h53, X53, e53, W53, st53⟩ := putF X50 hx hZ hown (host := "") (Or.inl (hv hw 47 rfl)) Via.refl e50 f51 f52 (Or.inr ⟨(hv hw 48 rfl), rfl, hnm⟩) (hv hw 31 rfl) (ty := (.object "java/lang/String")) (by decide) rfl rfl (g := (mkF m 11 #[vr xd, vr yk, vr yv, vr ys, vi xl] [(.ref yv), (.ref xd)])) rfl rfl (hb hby p81_1_11)
 have Fw53 : Fld Z h53 xd "com/example/syndica/syndica/Term" "value" "Ljava/lang/String;" (.ref yv) := f51.same W53
 have K53 : Keep h0 h53 [xd] := K50.wr W53 (Or.inl (List.mem_of_getElem? (i := 0) rfl))
 have O53 : Old Z n0 h53 := O50.wr W53 ge_xd
 have N53 := Fr.snoc X53 N50 ge_xd
 refine Go.st st53 ?_
 show Go p.tables e below Kx _ (mkF m 14 _ [])
 refine s_aloadN (pc' := 15) X53.here hx (hb hby p81_1_14) rfl rfl rfl ?_
 refine s_aloadN (pc' := 16) X53.here hx (hb hby p81_1_15) rfl rfl rfl ?_
 have f54 : Fld Z h53 xd "com/example/syndica/syndica/Term" "section" "Ljava/lang/String;" .null := ((Fsection.other W50 (Or.inr (slot_ne (Or.inr (hv hw 50 rfl)) (Or.inr (hv hw 46 rfl)) (by decide) (t := (.object "java/lang/String")) (t' := (.object "java/lang/String")) (by decide) (by decide)))).other W53 (Or.inr (slot_ne (Or.inr (hv hw 50 rfl)) (Or.inr (hv hw 48 rfl)) (by decide) (t := (.object "java/lang/String")) (t' := (.object "java/lang/String")) (by decide) (by decide))))
 have f55 : Exa Z h53 xd "com/example/syndica/syndica/Term" := (f52.wr W53)
 obtain ⟨T56, h56, X56, e56, W56, st56⟩ := putF X53 hx hZ hown (host := "") (Or.inl (hv hw 49 rfl)) Via.refl e53 f54 f55 (Or.inr ⟨(hv hw 50 rfl), rfl, hnm⟩) (hv hw 31 rfl) (ty := (.object "java/lang/String")) (by decide) rfl rfl (g := (mkF m 16 #[vr xd, vr yk, vr yv, vr ys, vi xl] [(.ref ys), (.ref xd)])) rfl rfl (hb hby p81_1_16)
 have Fw56 : Fld Z h56 xd "com/example/syndica/syndica/Term" "section" "Ljava/lang/String;" (.ref ys) := f54.same W56
 have K56 : Keep h0 h56 [xd] := K53.wr W56 (Or.inl (List.mem_of_getElem? (i := 0) rfl))
 have O56 : Old Z n0 h56 := O53.wr W56 ge_xd
 have N56 := Fr.snoc X56 N53 ge_xd
 refine Go.st st56 ?_
 show Go p.tables e below Kx _ (mkF m 19 _ [])
 refine s_aloadN (pc' := 20) X56.here hx (hb hby p81_1_19) rfl rfl rfl ?_
 refine s_iload (pc' := 22) X56.here hx (hb hby p81_1_20) rfl rfl ?_
 have f57 : Fld Z h56 xd "com/example/syndica/syndica/Term" "line" "I" (.int 0) := (((Fline.other W50 (Or.inr (slot_ne (Or.inr (hv hw 52 rfl)) (Or.inr (hv hw 46 rfl)) (by decide) (t := .int) (t' := (.object "java/lang/String")) (by decide) (by decide)))).other W53 (Or.inr (slot_ne (Or.inr (hv hw 52 rfl)) (Or.inr (hv hw 48 rfl)) (by decide) (t := .int) (t' := (.object "java/lang/String")) (by decide) (by decide)))).other W56 (Or.inr (slot_ne (Or.inr (hv hw 52 rfl)) (Or.inr (hv hw 50 rfl)) (by decide) (t := .int) (t' := (.object "java/lang/String")) (by decide) (by decide))))
 have f58 : Exa Z h56 xd "com/example/syndica/syndica/Term" := (f55.wr W56)
 obtain ⟨T59, h59, X59, e59, W59, st59⟩ := putF X56 hx hZ hown (host := "") (Or.inl (hv hw 51 rfl)) Via.refl e56 f57 f58 (Or.inr ⟨(hv hw 52 rfl), rfl, hnm⟩) (hv hw 31 rfl) (ty := .int) (by decide) rfl rfl (g := (mkF m 22 #[vr xd, vr yk, vr yv, vr ys, vi xl] [(.int xl), (.ref xd)])) rfl rfl (hb hby p81_1_22)
 have Fw59 : Fld Z h59 xd "com/example/syndica/syndica/Term" "line" "I" (.int xl) := f57.same W59
 have K59 : Keep h0 h59 [xd] := K56.wr W59 (Or.inl (List.mem_of_getElem? (i := 0) rfl))
 have O59 : Old Z n0 h59 := O56.wr W59 ge_xd
 have N59 := Fr.snoc X59 N56 ge_xd
 refine Go.st st59 ?_
 show Go p.tables e below Kx _ (mkF m 25 _ [])
 have f60 : Exa Z h59 xd "com/example/syndica/syndica/Term" := (f58.wr W59)
 have f61 : Fld Z h59 xd "com/example/syndica/syndica/Term" "value" "Ljava/lang/String;" (.ref yv) := ((Fw53.other W56 (Or.inr (slot_ne (Or.inr (hv hw 48 rfl)) (Or.inr (hv hw 50 rfl)) (by decide) (t := (.object "java/lang/String")) (t' := (.object "java/lang/String")) (by decide) (by decide)))).other W59 (Or.inr (slot_ne (Or.inr (hv hw 48 rfl)) (Or.inr (hv hw 52 rfl)) (by decide) (t := (.object "java/lang/String")) (t' := .int) (by decide) (by decide))))
 have f62 : Fld Z h59 xd "com/example/syndica/syndica/Term" "section" "Ljava/lang/String;" (.ref ys) := (Fw56.other W59 (Or.inr (slot_ne (Or.inr (hv hw 50 rfl)) (Or.inr (hv hw 52 rfl)) (by decide) (t := (.object "java/lang/String")) (t' := .int) (by decide) (by decide))))
 obtain ⟨fs, hr, hrun, hended, hW, hsame⟩ := X59.leave (v := none) (fun _ => rfl)
 refine Go.fin (X59.returnOut hx Bd.returns (hb hby p81_1_25) hr) (hF _ _ hrun hended ⟨_, _, rfl, ?_, ⟨_, rfl⟩, hW, hsame.mono (by decide) (by decide)⟩)
 ·
  show QHti Z xd yk yv ys xl h0 n0 (none : Option Value) T59.heap _
  rw [e59]
  exact ⟨rfl, N59, K59, f60, f61, f62, Fw59⟩
theorem pd_2 : parseMethodDescriptor "(Ljava/lang/String;Ljava/lang/String;Ljava/lang/String;I)V" = some ⟨[(.object "java/lang/String"), (.object "java/lang/String"), (.object "java/lang/String"), .int], none⟩ := by decide +kernel
theorem p81_2_0 : decode prog_81_method_2_code 0 = .ok (.new 23, 3) := by decide +kernel
theorem p81_2_3 : decode prog_81_method_2_code 3 = .ok (.dup, 1) := by decide +kernel
theorem pn_3 : plainName "java/lang/StringBuilder" = true := by first | (simp [plainName, overriddenIn]; done) | decide +kernel
theorem d67_1_0 : decode jdk_67_method_1_code 0 = .ok (.aload_n 0, 1) := by decide +kernel
theorem d67_1_1 : decode jdk_67_method_1_code 1 = .ok (.bipush 16, 2) := by decide +kernel
theorem pn_4 : plainName "java/lang/AbstractStringBuilder" = true := by first | (simp [plainName, overriddenIn]; done) | decide +kernel
theorem d68_2_0 : decode jdk_68_method_2_code 0 = .ok (.aload_n 0, 1) := by decide +kernel
theorem d68_2_1 : decode jdk_68_method_2_code 1 = .ok (.invokespecial 3, 3) := by decide +kernel
theorem d68_2_4 : decode jdk_68_method_2_code 4 = .ok (.getstatic 18, 3) := by decide +kernel
theorem d68_2_7 : decode jdk_68_method_2_code 7 = .ok (.ifCond .eq 18, 3) := by decide +kernel
theorem d68_2_10 : decode jdk_68_method_2_code 10 = .ok (.aload_n 0, 1) := by decide +kernel
theorem d68_2_11 : decode jdk_68_method_2_code 11 = .ok (.iload_n 1, 1) := by decide +kernel
theorem d68_2_12 : decode jdk_68_method_2_code 12 = .ok (.newarray .byte, 2) := by decide +kernel
theorem d68_2_14 : decode jdk_68_method_2_code 14 = .ok (.putfield 15, 3) := by decide +kernel
theorem d68_2_17 : decode jdk_68_method_2_code 17 = .ok (.aload_n 0, 1) := by decide +kernel
theorem d68_2_18 : decode jdk_68_method_2_code 18 = .ok (.iconst 0, 1) := by decide +kernel
theorem d68_2_19 : decode jdk_68_method_2_code 19 = .ok (.putfield 22, 3) := by decide +kernel
theorem d68_2_22 : decode jdk_68_method_2_code 22 = .ok (.goto 16, 3) := by decide +kernel
theorem d68_2_38 : decode jdk_68_method_2_code 38 = .ok (.return_, 1) := by decide +kernel
def QHn0 (Z : State) (xb : Addr) (h0 : Heap) (n0 : Nat) (v : Option Value) (h : Heap) (L : List Loc) : Prop := v = none ∧ Fr n0 L ∧ Keep h0 h [xb] ∧ Exa Z h xb "java/lang/StringBuilder" ∧ ∃ (xt : Addr) (kt : ClassId), h0.size ≤ xt ∧ Exa Z h xt "[B" ∧ Fld Z h xb "java/lang/AbstractStringBuilder" "value" "[B" (.ref xt) ∧ Fld Z h xb "java/lang/AbstractStringBuilder" "coder" "B" (.int 0) ∧ Fld Z h xb "java/lang/AbstractStringBuilder" "count" "I" (.int (Int32.ofNat ([] : List Int32).length)) ∧ Arv Z h xt kt .byte (Int32.ofNat 16) (pad 16 ([] : List Int32)) (.int 0)
theorem rmHn0 (l : Launch) (Z : State) (a0 : Array Value) (hw : ∀ d ∈ tables_1, d.before a0 Z = true) (ws : List Jvm.Cond) (xb : Addr) (h0 : Heap) (n0 : Nat) (X00 : Old Z n0 h0) (G1 : Int32) (S1 : Sta Z Z.heap "java/lang/String" "COMPACT_STRINGS" "Z" (.int G1)) (P1 : ¬ G1 = 0) (ge_xb : n0 ≤ xb) (Exb : Exa Z h0 xb "java/lang/StringBuilder") (Vxb : Fld Z h0 xb "java/lang/AbstractStringBuilder" "value" "[B" .null) (Cxb : Fld Z h0 xb "java/lang/AbstractStringBuilder" "coder" "B" (.int 0)) (Nxb : Fld Z h0 xb "java/lang/AbstractStringBuilder" "count" "I" (.int 0)) :
  MetFree l yN4 (head1 (Jvm.Cond.code yN4 jdk_68_method_2_code 2 none :: ws) ({ frames := 1, cells := 1, slots := 16, locals := 12 } : Room)) (fun aa U => aa = #[(.ref xb), (.int 16)] ∧ Z.Warmed39 U.vm ∧ U.heap = h0) (fun _ _ _ _ _ => True) (fun _ U o U' => ∃ v L, o = .returned v ∧ QHn0 Z xb h0 n0 v U'.heap L ∧ FrameEnd U o U' L ({ frames := 1, cells := 1, slots := 16, locals := 12 } : Room).cells ({ frames := 1, cells := 1, slots := 16, locals := 12 } : Room).slots) := by
 refine MetFree.of_bodySF (plainFor_of_name pn_4) hisR ?_
 intro p e s m args below meth c s₁ Bd hml0 hP hK
 obtain ⟨rfl, hZ, hh⟩ := hP
 have hx := Bd.exec
 have hby := Bd.bytes
 have hml : c.maxLocals = 2 := hml0
 have hown : s.vm.findClass "java/lang/AbstractStringBuilder" = some m.cls := findClass_of_methodNamed Bd.named
 have hnm := (name_of_methodNamed Bd.named Bd.method).1
 have X0 : Stand p l e ({ frames := 1, cells := 1, slots := 16, locals := 12 } : Room) s m #[(.ref xb), (.int 16)] below meth c s₁ [] 0 0 := Stand.of_body Bd
 have e0 : s₁.heap = h0 := by rw [← hh, Bd.state]; rfl
 have N0 := Fr.nil n0
 have K0 := Keep.refl h0 [xb]
 have ef : entryFrame m #[(.ref xb), (.int 16)] 2 = mkF m 0 #[vr xb, vi 16] [] := by first | (simp [entryFrame, mkF, argsToLocals, Value.category]; done) | rfl
 rw [ef]
 refine fin_of fun Kx hF => ?_
 show Go p.tables e below Kx _ (mkF m 0 _ [])
 refine s_aloadN (pc' := 1) X0.here hx (hb hby d68_2_0) rfl rfl rfl ?_
 obtain ⟨T72, X72, e72, st72⟩ := initO X0 hx hZ hown (hv hw 70 rfl) (hv hw 12 rfl) (hv hw 13 rfl) e0 (g := (mkF m 1 #[vr xb, vi 16] [(.ref xb)])) rfl (by rw [hml]; rfl) rfl (hb hby d68_2_1) (by decide) (W := 0) (by exact Nat.le_of_eq rfl) (by decide)
 refine Go.st st72 ?_
 show Go p.tables e below Kx _ (mkF m 4 _ [])
 obtain ⟨T73, X73, e73, st73⟩ := getS2 X72 hx hZ hown (host := "") (Or.inl (hv hw 71 rfl)) Via.refl e72 (S1.ext X00.2) (g := (mkF m 4 #[vr xb, vi 16] [])) rfl (hb hby d68_2_4)
 refine Go.st st73 ?_
 show Go p.tables e below Kx _ (mkF m 7 _ [(.int G1)])
 refine s_ifN (pc' := 10) X73.here hx (hb hby d68_2_7) rfl ((if0 _ _).trans (feq P1).1) ?_
 refine s_aloadN (pc' := 11) X73.here hx (hb hby d68_2_10) rfl rfl rfl ?_
 refine s_iloadN (pc' := 12) X73.here hx (hb hby d68_2_11) rfl rfl ?_
 obtain ⟨T74, h74, k74, X74, e74, E74, A74, B74, st74⟩ := newPE X73 hx hZ (hv hw 19 rfl) e73 (g := (mkF m 12 #[vr xb, vi 16] [(.int 16), (.ref xb)])) rfl (hb hby d68_2_12) rfl (by decide) (cap := 16) (by decide) (by decide) (by decide) (by decide) (ad := "[B") (by decide)
 obtain ⟨b74, g74⟩ : ∃ z, z = h0.size := ⟨_, rfl⟩
 rw [← g74] at A74 B74 st74
 have sz74 : h0.size ≤ b74 := Nat.le_trans K0.1 (Nat.le_of_eq g74.symm)
 have ge74 : n0 ≤ b74 := Nat.le_trans (X00.1 ▸ X00.2.1) (Nat.le_of_eq g74.symm)
 have K74 : Keep h0 h74 [xb] := K0.ext E74
 have O74 : Old Z n0 h74 := X00.ext E74
 have V74 : Arv Z h74 b74 k74 .byte 16 [(.int 0), (.int 0), (.int 0), (.int 0), (.int 0), (.int 0), (.int 0), (.int 0), (.int 0), (.int 0), (.int 0), (.int 0), (.int 0), (.int 0), (.int 0), (.int 0)] (.int 0) := (Arv.new A74 (by decide)).pad (pad_rep [] (.int 0) 16)
 refine Go.st st74 ?_
 show Go p.tables e below Kx _ (mkF m 14 _ [(.ref b74), (.ref xb)])
 have f75 : Fld Z h74 xb "java/lang/AbstractStringBuilder" "value" "[B" .null := (Vxb.ext E74)
 have f76 : Exa Z h74 xb "java/lang/StringBuilder" := (Exb.ext E74)
 obtain ⟨T77, h77, X77, e77, W77, st77⟩ := putF X74 hx hZ hown (host := "") (Or.inl (hv hw 72 rfl)) Via.refl e74 f75 f76 (Or.inl (hv hw 73 rfl)) (hv hw 59 rfl) (ty := (.array .byte)) (by decide) rfl rfl (g := (mkF m 14 #[vr xb, vi 16] [(.ref b74), (.ref xb)])) rfl rfl (hb hby d68_2_14)
 have Fw77 : Fld Z h77 xb "java/lang/AbstractStringBuilder" "value" "[B" (.ref b74) := f75.same W77
 have K77 : Keep h0 h77 [xb] := K74.wr W77 (Or.inl (List.mem_of_getElem? (i := 0) rfl))
 have O77 : Old Z n0 h77 := O74.wr W77 ge_xb
 have N77 := Fr.snoc X77 N0 ge_xb
 refine Go.st st77 ?_
 show Go p.tables e below Kx _ (mkF m 17 _ [])
 refine s_aloadN (pc' := 18) X77.here hx (hb hby d68_2_17) rfl rfl rfl ?_
 refine s_iconst (pc' := 19) (v := 0) X77.here hx (hb hby d68_2_18) rfl rfl ?_
 have f78 : Fld Z h77 xb "java/lang/AbstractStringBuilder" "coder" "B" (.int 0) := ((Cxb.ext E74).other W77 (Or.inr (slot_ne (Or.inl (hv hw 75 rfl)) (Or.inl (hv hw 73 rfl)) (by decide) (t := .byte) (t' := (.array .byte)) (by decide) (by decide))))
 have f79 : Exa Z h77 xb "java/lang/StringBuilder" := (f76.wr W77)
 obtain ⟨T80, h80, X80, e80, W80, st80⟩ := putFN X77 hx hZ hown (hv hw 74 rfl) Via.refl e77 f78 f79 (Or.inl (hv hw 75 rfl)) (hv hw 59 rfl) (ty := .byte) (v' := (.int 0)) (by decide) (by decide) (by decide) (g := (mkF m 19 #[vr xb, vi 16] [(.int 0), (.ref xb)])) rfl rfl (hb hby d68_2_19)
 have Fw80 : Fld Z h80 xb "java/lang/AbstractStringBuilder" "coder" "B" (.int 0) := f78.same W80
 have K80 : Keep h0 h80 [xb] := K77.wr W80 (Or.inl (List.mem_of_getElem? (i := 0) rfl))
 have O80 : Old Z n0 h80 := O77.wr W80 ge_xb
 have N80 := Fr.snoc X80 N77 ge_xb
 refine Go.st st80 ?_
 show Go p.tables e below Kx _ (mkF m 22 _ [])
 refine s_goto (pc' := 38) X80.here hx (hb hby d68_2_22) (by decide) (by decide) ?_
 have f81 : Exa Z h80 xb "java/lang/StringBuilder" := (f79.wr W80)
 have f82 : Exa Z h80 b74 "[B" := ((B74.wr W77).wr W80)
 have f83 : Fld Z h80 xb "java/lang/AbstractStringBuilder" "value" "[B" (.ref b74) := (Fw77.other W80 (Or.inr (slot_ne (Or.inl (hv hw 73 rfl)) (Or.inl (hv hw 75 rfl)) (by decide) (t := (.array .byte)) (t' := .byte) (by decide) (by decide))))
 have f84 : Fld Z h80 xb "java/lang/AbstractStringBuilder" "count" "I" (.int 0) := (((Nxb.ext E74).other W77 (Or.inr (slot_ne (Or.inl (hv hw 97 rfl)) (Or.inl (hv hw 73 rfl)) (by decide) (t := .int) (t' := (.array .byte)) (by decide) (by decide)))).other W80 (Or.inr (slot_ne (Or.inl (hv hw 97 rfl)) (Or.inl (hv hw 75 rfl)) (by decide) (t := .int) (t' := .byte) (by decide) (by decide))))
 have f85 : Arv Z h80 b74 k74 .byte 16 [(.int 0), (.int 0), (.int 0), (.int 0), (.int 0), (.int 0), (.int 0), (.int 0), (.int 0), (.int 0), (.int 0), (.int 0), (.int 0), (.int 0), (.int 0), (.int 0)] (.int 0) := ((V74.other W77 (Ne.symm (Nat.ne_of_lt (Nat.lt_of_lt_of_le Exb.lt (Nat.le_of_eq g74.symm))))).other W80 (Ne.symm (Nat.ne_of_lt (Nat.lt_of_lt_of_le Exb.lt (Nat.le_of_eq g74.symm)))))
 obtain ⟨fs, hr, hrun, hended, hW, hsame⟩ := X80.leave (v := none) (fun _ => rfl)
 refine Go.fin (X80.returnOut hx Bd.returns (hb hby d68_2_38) hr) (hF _ _ hrun hended ⟨_, _, rfl, ?_, ⟨_, rfl⟩, hW, hsame.mono (by decide) (by decide)⟩)
 ·
  show QHn0 Z xb h0 n0 (none : Option Value) T80.heap _
  rw [e80]
  exact ⟨rfl, N80, K80, f81, b74, _, sz74, f82, f83, Fw80, f84, f85⟩
theorem pd_3 : parseMethodDescriptor "(I)V" = some ⟨[.int], none⟩ := by decide +kernel
theorem d67_1_3 : decode jdk_67_method_1_code 3 = .ok (.invokespecial 1, 3) := by decide +kernel
theorem d67_1_6 : decode jdk_67_method_1_code 6 = .ok (.return_, 1) := by decide +kernel
def QHn1 (Z : State) (xb : Addr) (h0 : Heap) (n0 : Nat) (v : Option Value) (h : Heap) (L : List Loc) : Prop := v = none ∧ Fr n0 L ∧ Keep h0 h [xb] ∧ Exa Z h xb "java/lang/StringBuilder" ∧ ∃ (xt : Addr) (kt : ClassId), h0.size ≤ xt ∧ Exa Z h xt "[B" ∧ Fld Z h xb "java/lang/AbstractStringBuilder" "value" "[B" (.ref xt) ∧ Fld Z h xb "java/lang/AbstractStringBuilder" "coder" "B" (.int 0) ∧ Fld Z h xb "java/lang/AbstractStringBuilder" "count" "I" (.int (Int32.ofNat ([] : List Int32).length)) ∧ Arv Z h xt kt .byte (Int32.ofNat 16) (pad 16 ([] : List Int32)) (.int 0)
theorem rmHn1 (l : Launch) (Z : State) (a0 : Array Value) (hw : ∀ d ∈ tables_1, d.before a0 Z = true) (ws : List Jvm.Cond) (xb : Addr) (h0 : Heap) (n0 : Nat) (X00 : Old Z n0 h0) (G1 : Int32) (S1 : Sta Z Z.heap "java/lang/String" "COMPACT_STRINGS" "Z" (.int G1)) (P1 : ¬ G1 = 0) (ge_xb : n0 ≤ xb) (Exb : Exa Z h0 xb "java/lang/StringBuilder") (Vxb : Fld Z h0 xb "java/lang/AbstractStringBuilder" "value" "[B" .null) (Cxb : Fld Z h0 xb "java/lang/AbstractStringBuilder" "coder" "B" (.int 0)) (Nxb : Fld Z h0 xb "java/lang/AbstractStringBuilder" "count" "I" (.int 0)) :
  MetFree l yN29 (head1 (Jvm.Cond.code yN29 jdk_67_method_1_code 1 none :: ws) ({ frames := 2, cells := 1, slots := 16, locals := 25 } : Room)) (fun aa U => aa = #[(.ref xb)] ∧ Z.Warmed39 U.vm ∧ U.heap = h0) (fun _ _ _ _ _ => True) (fun _ U o U' => ∃ v L, o = .returned v ∧ QHn1 Z xb h0 n0 v U'.heap L ∧ FrameEnd U o U' L ({ frames := 2, cells := 1, slots := 16, locals := 25 } : Room).cells ({ frames := 2, cells := 1, slots := 16, locals := 25 } : Room).slots) := by
 refine MetFree.of_bodySF (plainFor_of_name pn_3) hisR ?_
 intro p e s m args below meth c s₁ Bd hml0 hP hK
 obtain ⟨rfl, hZ, hh⟩ := hP
 have hx := Bd.exec
 have hby := Bd.bytes
 have hml : c.maxLocals = 1 := hml0
 have hown : s.vm.findClass "java/lang/StringBuilder" = some m.cls := findClass_of_methodNamed Bd.named
 have hnm := (name_of_methodNamed Bd.named Bd.method).1
 have X0 : Stand p l e ({ frames := 2, cells := 1, slots := 16, locals := 25 } : Room) s m #[(.ref xb)] below meth c s₁ [] 0 0 := Stand.of_body Bd
 have e0 : s₁.heap = h0 := by rw [← hh, Bd.state]; rfl
 have N0 := Fr.nil n0
 have K0 := Keep.refl h0 [xb]
 have ef : entryFrame m #[(.ref xb)] 1 = mkF m 0 #[vr xb] [] := by first | (simp [entryFrame, mkF, argsToLocals, Value.category]; done) | rfl
 rw [ef]
 refine fin_of fun Kx hF => ?_
 show Go p.tables e below Kx _ (mkF m 0 _ [])
 refine s_aloadN (pc' := 1) X0.here hx (hb hby d67_1_0) rfl rfl rfl ?_
 refine s_bipush (pc' := 3) (v := 16) X0.here hx (hb hby d67_1_1) rfl rfl ?_
 obtain ⟨_, T86, L86, X86, hQ86, st86⟩ := kI X0 hx hZ (y := yN4) rfl hown (hv hw 64 rfl) (hv hw 65 rfl) (hv hw 68 rfl) (hv hw 69 rfl) (by decide) (rmHn0 l Z a0 hw [] xb h0 n0 X00 G1 S1 P1 ge_xb Exb Vxb Cxb Nxb) e0 (a := xb) (W := 0) (g := (mkF m 3 #[vr xb] [(.int 16), (.ref xb)])) rfl (by rw [hml]; rfl) (argsL := [(.int 16)]) (rest := []) (lenOf pd_3 rfl) rfl (by exact Nat.le_of_eq rfl) (hb hby d67_1_3) rfl (nb rfl) (nb rfl) (nb rfl) (nb rfl)
 obtain ⟨rfl, Nq86, Kq86, q1_86, t86, kt86, le86, q0_86, q2_86, q3_86, q4_86, q5_86⟩ := hQ86
 have sz86 : h0.size ≤ t86 := Nat.le_trans K0.1 le86
 have ge86 : n0 ≤ t86 := Nat.le_trans (X00.1 ▸ X00.2.1) le86
 have N86 := Fr.app N0 Nq86
 have K86 : Keep h0 T86.heap [xb] := K0.trans Kq86 (allS (P := fun zz => zz ∈ [xb] ∨ h0.size ≤ zz) (Or.inl (List.mem_of_getElem? (i := 0) rfl)) all0)
 have O86 : Old Z n0 T86.heap := X00.keep Kq86 (allS ge_xb all0)
 refine Go.tr st86 ?_
 show Go p.tables e below Kx _ (mkF m 6 _ [])
 obtain ⟨fs, hr, hrun, hended, hW, hsame⟩ := X86.leave (v := none) (fun _ => rfl)
 refine Go.fin (X86.returnOut hx Bd.returns (hb hby d67_1_6) hr) (hF _ _ hrun hended ⟨_, _, rfl, ?_, ⟨_, rfl⟩, hW, hsame.mono (by decide) (by decide)⟩)
 ·
  show QHn1 Z xb h0 n0 (none : Option Value) T86.heap _
  skip
  exact ⟨rfl, N86, K86, q1_86, t86, _, sz86, q0_86, q2_86, q3_86, q4_86, q5_86⟩
theorem p81_2_4 : decode prog_81_method_2_code 4 = .ok (.invokespecial 25, 3) := by decide +kernel
theorem p81_2_7 : decode prog_81_method_2_code 7 = .ok (.aload_n 0, 1) := by decide +kernel
theorem p81_2_8 : decode prog_81_method_2_code 8 = .ok (.getfield 13, 3) := by decide +kernel
theorem d67_7_0 : decode jdk_67_method_7_code 0 = .ok (.aload_n 0, 1) := by decide +kernel
theorem d67_7_1 : decode jdk_67_method_7_code 1 = .ok (.aload_n 1, 1) := by decide +kernel
theorem d68_22_0 : decode jdk_68_method_22_code 0 = .ok (.aload_n 1, 1) := by decide +kernel
theorem d68_22_1 : decode jdk_68_method_22_code 1 = .ok (.ifnonnull 8, 3) := by decide +kernel
theorem d68_22_9 : decode jdk_68_method_22_code 9 = .ok (.aload_n 1, 1) := by decide +kernel
theorem pn_5 : plainName "java/lang/String" = true := by first | (simp [plainName, overriddenIn]; done) | decide +kernel
theorem d42_54_0 : decode jdk_42_method_54_code 0 = .ok (.aload_n 0, 1) := by decide +kernel
theorem d42_54_1 : decode jdk_42_method_54_code 1 = .ok (.getfield 9, 3) := by decide +kernel
theorem d42_54_4 : decode jdk_42_method_54_code 4 = .ok (.arraylength, 1) := by decide +kernel
theorem d42_54_5 : decode jdk_42_method_54_code 5 = .ok (.aload_n 0, 1) := by decide +kernel
theorem d42_152_0 : decode jdk_42_method_152_code 0 = .ok (.getstatic 38, 3) := by decide +kernel
theorem d42_152_3 : decode jdk_42_method_152_code 3 = .ok (.ifCond .eq 10, 3) := by decide +kernel
theorem d42_152_6 : decode jdk_42_method_152_code 6 = .ok (.aload_n 0, 1) := by decide +kernel
theorem d42_152_7 : decode jdk_42_method_152_code 7 = .ok (.getfield 15, 3) := by decide +kernel
theorem d42_152_10 : decode jdk_42_method_152_code 10 = .ok (.goto 4, 3) := by decide +kernel
theorem d42_152_14 : decode jdk_42_method_152_code 14 = .ok (.ireturn, 1) := by decide +kernel
def QKc (Z : State) (xy : Addr) (h0 : Heap) (n0 : Nat) (v : Option Value) (h : Heap) (L : List Loc) : Prop := v = some (.int 0) ∧ Fr n0 L ∧ h = h0
theorem rmKc (l : Launch) (Z : State) (a0 : Array Value) (hw : ∀ d ∈ tables_1, d.before a0 Z = true) (ws : List Jvm.Cond) (xy : Addr) (h0 : Heap) (n0 : Nat) (X00 : Old Z n0 h0) (G1 : Int32) (S1 : Sta Z Z.heap "java/lang/String" "COMPACT_STRINGS" "Z" (.int G1)) (P1 : ¬ G1 = 0) (C : Fld Z h0 xy "java/lang/String" "coder" "B" (.int 0)) :
  MetFree l yN25 (head1 (Jvm.Cond.code yN25 jdk_42_method_152_code 1 (some .byte) :: ws) ({ frames := 0, cells := 0, slots := 0, locals := 0 } : Room)) (fun aa U => aa = #[(.ref xy)] ∧ Z.Warmed39 U.vm ∧ U.heap = h0) (fun _ _ _ _ _ => True) (fun _ U o U' => ∃ v L, o = .returned v ∧ QKc Z xy h0 n0 v U'.heap L ∧ FrameEnd U o U' L ({ frames := 0, cells := 0, slots := 0, locals := 0 } : Room).cells ({ frames := 0, cells := 0, slots := 0, locals := 0 } : Room).slots) := by
 refine MetFree.of_bodySF (plainFor_of_name pn_5) hisR ?_
 intro p e s m args below meth c s₁ Bd hml0 hP hK
 obtain ⟨rfl, hZ, hh⟩ := hP
 have hx := Bd.exec
 have hby := Bd.bytes
 have hml : c.maxLocals = 1 := hml0
 have hown : s.vm.findClass "java/lang/String" = some m.cls := findClass_of_methodNamed Bd.named
 have hnm := (name_of_methodNamed Bd.named Bd.method).1
 have X0 : Stand p l e ({ frames := 0, cells := 0, slots := 0, locals := 0 } : Room) s m #[(.ref xy)] below meth c s₁ [] 0 0 := Stand.of_body Bd
 have e0 : s₁.heap = h0 := by rw [← hh, Bd.state]; rfl
 have N0 := Fr.nil n0
 have K0 := Keep.refl h0 []
 have ef : entryFrame m #[(.ref xy)] 1 = mkF m 0 #[vr xy] [] := by first | (simp [entryFrame, mkF, argsToLocals, Value.category]; done) | rfl
 rw [ef]
 refine fin_of fun Kx hF => ?_
 show Go p.tables e below Kx _ (mkF m 0 _ [])
 obtain ⟨T94, X94, e94, st94⟩ := getS2 X0 hx hZ hown (host := "") (Or.inl (hv hw 14 rfl)) Via.refl e0 (S1.ext X00.2) (g := (mkF m 0 #[vr xy] [])) rfl (hb hby d42_152_0)
 refine Go.st st94 ?_
 show Go p.tables e below Kx _ (mkF m 3 _ [(.int G1)])
 refine s_ifN (pc' := 6) X94.here hx (hb hby d42_152_3) rfl ((if0 _ _).trans (feq P1).1) ?_
 refine s_aloadN (pc' := 7) X94.here hx (hb hby d42_152_6) rfl rfl rfl ?_
 obtain ⟨T95, X95, e95, st95⟩ := getF X94 hx hZ hown (host := "") (Or.inl (hv hw 26 rfl)) Via.refl e94 C (g := (mkF m 7 #[vr xy] [(.ref xy)])) rfl rfl (hb hby d42_152_7)
 refine Go.st st95 ?_
 show Go p.tables e below Kx _ (mkF m 10 _ [(.int 0)])
 refine s_goto (pc' := 14) X95.here hx (hb hby d42_152_10) (by decide) (by decide) ?_
 obtain ⟨fs, hr, hrun, hended, hW, hsame⟩ := X95.leave (v := (some (.int 0))) (fun h => by rw [Bd.returns] at h; cases h)
 refine Go.fin (retN X95 hx (t := .byte) Bd.returns (by simp) (hb hby d42_152_14) hr) (hF _ _ hrun hended ⟨_, _, rfl, ?_, ⟨_, rfl⟩, hW, hsame.mono (by decide) (by decide)⟩)
 ·
  show QKc Z xy h0 n0 ((some (.int 0)) : Option Value) T95.heap _
  rw [e95]
  exact ⟨rfl, N0, rfl⟩
theorem pd_4 : parseMethodDescriptor "()B" = some ⟨[], some .byte⟩ := by decide +kernel
theorem d42_54_6 : decode jdk_42_method_54_code 6 = .ok (.invokevirtual 335, 3) := by decide +kernel
theorem d42_54_9 : decode jdk_42_method_54_code 9 = .ok (.ishr, 1) := by decide +kernel
theorem d42_54_10 : decode jdk_42_method_54_code 10 = .ok (.ireturn, 1) := by decide +kernel
def QGl (Z : State) (xy yb : Addr) (ky : ClassId) (us : List Int32) (h0 : Heap) (n0 : Nat) (v : Option Value) (h : Heap) (L : List Loc) : Prop := v = some (.int (Int32.ofNat us.length)) ∧ Fr n0 L ∧ h = h0
theorem rmGl (l : Launch) (Z : State) (a0 : Array Value) (hw : ∀ d ∈ tables_1, d.before a0 Z = true) (ws : List Jvm.Cond) (xy yb : Addr) (ky : ClassId) (us : List Int32) (h0 : Heap) (n0 : Nat) (X00 : Old Z n0 h0) (G1 : Int32) (S1 : Sta Z Z.heap "java/lang/String" "COMPACT_STRINGS" "Z" (.int G1)) (P1 : ¬ G1 = 0) (Exy : Exa Z h0 xy "java/lang/String") (Cxy : Fld Z h0 xy "java/lang/String" "coder" "B" (.int 0)) (Vxy : Fld Z h0 xy "java/lang/String" "value" "[B" (.ref yb)) (Axy : Arv Z h0 yb ky .byte (Int32.ofNat us.length) (us.map Value.int) (.int 0)) :
  MetFree l yN28 (head1 (Jvm.Cond.code yN28 jdk_42_method_54_code 1 (some .int) :: ws) ({ frames := 1, cells := 0, slots := 0, locals := 13 } : Room)) (fun aa U => aa = #[(.ref xy)] ∧ Z.Warmed39 U.vm ∧ U.heap = h0) (fun _ _ _ _ _ => True) (fun _ U o U' => ∃ v L, o = .returned v ∧ QGl Z xy yb ky us h0 n0 v U'.heap L ∧ FrameEnd U o U' L ({ frames := 1, cells := 0, slots := 0, locals := 13 } : Room).cells ({ frames := 1, cells := 0, slots := 0, locals := 13 } : Room).slots) := by
 refine MetFree.of_bodySF (plainFor_of_name pn_5) hisR ?_
 intro p e s m args below meth c s₁ Bd hml0 hP hK
 obtain ⟨rfl, hZ, hh⟩ := hP
 have hx := Bd.exec
 have hby := Bd.bytes
 have hml : c.maxLocals = 1 := hml0
 have hown : s.vm.findClass "java/lang/String" = some m.cls := findClass_of_methodNamed Bd.named
 have hnm := (name_of_methodNamed Bd.named Bd.method).1
 have X0 : Stand p l e ({ frames := 1, cells := 0, slots := 0, locals := 13 } : Room) s m #[(.ref xy)] below meth c s₁ [] 0 0 := Stand.of_body Bd
 have e0 : s₁.heap = h0 := by rw [← hh, Bd.state]; rfl
 have N0 := Fr.nil n0
 have K0 := Keep.refl h0 []
 have ef : entryFrame m #[(.ref xy)] 1 = mkF m 0 #[vr xy] [] := by first | (simp [entryFrame, mkF, argsToLocals, Value.category]; done) | rfl
 rw [ef]
 refine fin_of fun Kx hF => ?_
 show Go p.tables e below Kx _ (mkF m 0 _ [])
 refine s_aloadN (pc' := 1) X0.here hx (hb hby d42_54_0) rfl rfl rfl ?_
 obtain ⟨T92, X92, e92, st92⟩ := getF X0 hx hZ hown (host := "") (Or.inl (hv hw 28 rfl)) Via.refl e0 Vxy (g := (mkF m 1 #[vr xy] [(.ref xy)])) rfl rfl (hb hby d42_54_1)
 refine Go.st st92 ?_
 show Go p.tables e below Kx _ (mkF m 4 _ [(.ref yb)])
 obtain ⟨cl93, Ar93, Aq93, As93, An93, Ah93, Ag93⟩ := id Axy
 refine Go.st (X92.arraylength hx (by rw [e92]; exact Ar93.1) (State.isArrayOf_alike hZ.alike Ar93.2.1) (g := (mkF m 4 #[vr xy] [(.ref yb)])) rfl rfl (hb hby d42_54_4)) ?_
 rw [len_of As93 An93]
 show Go p.tables e below Kx _ (mkF m 5 _ [(.int (Int32.ofNat us.length))])
 refine s_aloadN (pc' := 6) X92.here hx (hb hby d42_54_5) rfl rfl rfl ?_
 obtain ⟨_, T96, L96, X96, hQ96, st96⟩ := kV X92 hx hZ (y := yN25) hown (hv hw 91 rfl) (hv hw 92 rfl) (notFace_of_selects (args := #[]) (mvT hZ (hv hw 94 rfl))) (hv hw 94 rfl) (hv hw 93 rfl) (hv hw 2 rfl) (hv hw 95 rfl) (by decide) (rmKc l Z a0 hw [] xy h0 n0 X00 G1 S1 P1 Cxy) e92 Exy (W := 1) (g := (mkF m 6 #[vr xy] [(.ref xy), (.int (Int32.ofNat us.length))])) rfl (by rw [hml]; rfl) (argsL := []) (rest := [(.int (Int32.ofNat us.length))]) (lenOf pd_4 rfl) rfl (by exact Nat.le_of_eq rfl) (hb hby d42_54_6) rfl (nb rfl) (nb rfl) (nb rfl) (nb rfl)
 obtain ⟨rfl, Nq96, hE96⟩ := hQ96
 have N96 := Fr.app N0 Nq96
 refine Go.tr st96 ?_
 show Go p.tables e below Kx _ (mkF m 9 _ [(.int 0), (.int (Int32.ofNat us.length))])
 refine s_ishr (pc' := 10) (z := (Int32.ofNat us.length)) X96.here hx (hb hby d42_54_9) rfl (shr0 _) ?_
 obtain ⟨fs, hr, hrun, hended, hW, hsame⟩ := X96.leave (v := (some (.int (Int32.ofNat us.length)))) (fun h => by rw [Bd.returns] at h; cases h)
 refine Go.fin (retI X96 hx Bd.returns (hb hby d42_54_10) hr) (hF _ _ hrun hended ⟨_, _, rfl, ?_, ⟨_, rfl⟩, hW, hsame.mono (by decide) (by decide)⟩)
 ·
  show QGl Z xy yb ky us h0 n0 ((some (.int (Int32.ofNat us.length))) : Option Value) T96.heap _
  rw [hE96]
  exact ⟨rfl, N96, rfl⟩
theorem pd_5 : parseMethodDescriptor "()I" = some ⟨[], some .int⟩ := by decide +kernel
theorem d68_22_10 : decode jdk_68_method_22_code 10 = .ok (.invokevirtual 32, 3) := by decide +kernel
theorem d68_22_13 : decode jdk_68_method_22_code 13 = .ok (.istore_n 2, 1) := by decide +kernel
theorem d68_22_14 : decode jdk_68_method_22_code 14 = .ok (.aload_n 0, 1) := by decide +kernel
theorem d68_22_15 : decode jdk_68_method_22_code 15 = .ok (.aload_n 0, 1) := by decide +kernel
theorem d68_22_16 : decode jdk_68_method_22_code 16 = .ok (.getfield 79, 3) := by decide +kernel
theorem d68_22_19 : decode jdk_68_method_22_code 19 = .ok (.iload_n 2, 1) := by decide +kernel
theorem d68_22_20 : decode jdk_68_method_22_code 20 = .ok (.iadd, 1) := by decide +kernel
theorem d68_9_0 : decode jdk_68_method_9_code 0 = .ok (.aload_n 0, 1) := by decide +kernel
theorem d68_9_1 : decode jdk_68_method_9_code 1 = .ok (.getfield 15, 3) := by decide +kernel
theorem d68_9_4 : decode jdk_68_method_9_code 4 = .ok (.arraylength, 1) := by decide +kernel
theorem d68_9_5 : decode jdk_68_method_9_code 5 = .ok (.aload_n 0, 1) := by decide +kernel
theorem d68_9_6 : decode jdk_68_method_9_code 6 = .ok (.getfield 22, 3) := by decide +kernel
theorem d68_9_9 : decode jdk_68_method_9_code 9 = .ok (.ishr, 1) := by decide +kernel
theorem d68_9_10 : decode jdk_68_method_9_code 10 = .ok (.istore_n 2, 1) := by decide +kernel
theorem d68_9_11 : decode jdk_68_method_9_code 11 = .ok (.iload_n 1, 1) := by decide +kernel
theorem d68_9_12 : decode jdk_68_method_9_code 12 = .ok (.iload_n 2, 1) := by decide +kernel
theorem d68_9_13 : decode jdk_68_method_9_code 13 = .ok (.isub, 1) := by decide +kernel
theorem d68_9_14 : decode jdk_68_method_9_code 14 = .ok (.ifCond .le 24, 3) := by decide +kernel
theorem d68_9_38 : decode jdk_68_method_9_code 38 = .ok (.return_, 1) := by decide +kernel
def QHe (Z : State) (xb xt : Addr) (kt : ClassId) (N : Nat) (X : List Int32) (mc : Int32) (h0 : Heap) (n0 : Nat) (v : Option Value) (h : Heap) (L : List Loc) : Prop := v = none ∧ Fr n0 L ∧ h = h0
theorem rmHe (l : Launch) (Z : State) (a0 : Array Value) (hw : ∀ d ∈ tables_1, d.before a0 Z = true) (ws : List Jvm.Cond) (xb xt : Addr) (kt : ClassId) (N : Nat) (X : List Int32) (mc : Int32) (h0 : Heap) (n0 : Nat) (X00 : Old Z n0 h0) (Vxb : Fld Z h0 xb "java/lang/AbstractStringBuilder" "value" "[B" (.ref xt)) (Cxb : Fld Z h0 xb "java/lang/AbstractStringBuilder" "coder" "B" (.int 0)) (Axt : Arv Z h0 xt kt .byte (Int32.ofNat N) (pad N X) (.int 0)) (hcp : ¬ 0 < (mc - (Int32.ofNat N))) :
  MetFree l yN7 (head1 (Jvm.Cond.code yN7 jdk_68_method_9_code 3 none :: ws) ({ frames := 0, cells := 0, slots := 0, locals := 0 } : Room)) (fun aa U => aa = #[(.ref xb), (.int mc)] ∧ Z.Warmed39 U.vm ∧ U.heap = h0) (fun _ _ _ _ _ => True) (fun _ U o U' => ∃ v L, o = .returned v ∧ QHe Z xb xt kt N X mc h0 n0 v U'.heap L ∧ FrameEnd U o U' L ({ frames := 0, cells := 0, slots := 0, locals := 0 } : Room).cells ({ frames := 0, cells := 0, slots := 0, locals := 0 } : Room).slots) := by
 refine MetFree.of_bodySF (plainFor_of_name pn_4) hisR ?_
 intro p e s m args below meth c s₁ Bd hml0 hP hK
 obtain ⟨rfl, hZ, hh⟩ := hP
 have hx := Bd.exec
 have hby := Bd.bytes
 have hml : c.maxLocals = 3 := hml0
 have hown : s.vm.findClass "java/lang/AbstractStringBuilder" = some m.cls := findClass_of_methodNamed Bd.named
 have hnm := (name_of_methodNamed Bd.named Bd.method).1
 have X0 : Stand p l e ({ frames := 0, cells := 0, slots := 0, locals := 0 } : Room) s m #[(.ref xb), (.int mc)] below meth c s₁ [] 0 0 := Stand.of_body Bd
 have e0 : s₁.heap = h0 := by rw [← hh, Bd.state]; rfl
 have N0 := Fr.nil n0
 have K0 := Keep.refl h0 []
 have ef : entryFrame m #[(.ref xb), (.int mc)] 3 = mkF m 0 #[vr xb, vi mc, un] [] := by first | (simp [entryFrame, mkF, argsToLocals, Value.category]; done) | rfl
 rw [ef]
 refine fin_of fun Kx hF => ?_
 show Go p.tables e below Kx _ (mkF m 0 _ [])
 refine s_aloadN (pc' := 1) X0.here hx (hb hby d68_9_0) rfl rfl rfl ?_
 obtain ⟨T99, X99, e99, st99⟩ := getF X0 hx hZ hown (host := "") (Or.inl (hv hw 72 rfl)) Via.refl e0 Vxb (g := (mkF m 1 #[vr xb, vi mc, un] [(.ref xb)])) rfl rfl (hb hby d68_9_1)
 refine Go.st st99 ?_
 show Go p.tables e below Kx _ (mkF m 4 _ [(.ref xt)])
 obtain ⟨cl100, Ar100, Aq100, As100, An100, Ah100, Ag100⟩ := id Axt
 refine Go.st (X99.arraylength hx (by rw [e99]; exact Ar100.1) (State.isArrayOf_alike hZ.alike Ar100.2.1) (g := (mkF m 4 #[vr xb, vi mc, un] [(.ref xt)])) rfl rfl (hb hby d68_9_4)) ?_
 rw [len_of As100 An100]
 show Go p.tables e below Kx _ (mkF m 5 _ [(.int (Int32.ofNat N))])
 refine s_aloadN (pc' := 6) X99.here hx (hb hby d68_9_5) rfl rfl rfl ?_
 obtain ⟨T101, X101, e101, st101⟩ := getF X99 hx hZ hown (host := "") (Or.inl (hv hw 74 rfl)) Via.refl e99 Cxb (g := (mkF m 6 #[vr xb, vi mc, un] [(.ref xb), (.int (Int32.ofNat N))])) rfl rfl (hb hby d68_9_6)
 refine Go.st st101 ?_
 show Go p.tables e below Kx _ (mkF m 9 _ [(.int 0), (.int (Int32.ofNat N))])
 refine s_ishr (pc' := 10) (z := (Int32.ofNat N)) X101.here hx (hb hby d68_9_9) rfl (shr0 _) ?_
 refine s_istoreN (pc' := 11) (Ls' := #[vr xb, vi mc, .val (.int (Int32.ofNat N))]) X101.here hx (hb hby d68_9_10) rfl  rfl ?_
 refine s_iloadN (pc' := 12) X101.here hx (hb hby d68_9_11) rfl rfl ?_
 refine s_iloadN (pc' := 13) X101.here hx (hb hby d68_9_12) rfl rfl ?_
 refine s_isub (pc' := 14) X101.here hx (hb hby d68_9_13) rfl rfl ?_
 refine s_ifY (pc' := 38) X101.here hx (hb hby d68_9_14) ((if0 _ _).trans (flt hcp).2.2.2) (by decide) (by decide) ?_
 obtain ⟨fs, hr, hrun, hended, hW, hsame⟩ := X101.leave (v := none) (fun _ => rfl)
 refine Go.fin (X101.returnOut hx Bd.returns (hb hby d68_9_38) hr) (hF _ _ hrun hended ⟨_, _, rfl, ?_, ⟨_, rfl⟩, hW, hsame.mono (by decide) (by decide)⟩)
 ·
  show QHe Z xb xt kt N X mc h0 n0 (none : Option Value) T101.heap _
  rw [e101]
  exact ⟨rfl, N0, rfl⟩
theorem d68_22_21 : decode jdk_68_method_22_code 21 = .ok (.invokevirtual 100, 3) := by decide +kernel
theorem d68_22_24 : decode jdk_68_method_22_code 24 = .ok (.aload_n 0, 1) := by decide +kernel
theorem d68_22_25 : decode jdk_68_method_22_code 25 = .ok (.aload_n 0, 1) := by decide +kernel
theorem d68_22_26 : decode jdk_68_method_22_code 26 = .ok (.getfield 79, 3) := by decide +kernel
theorem d68_22_29 : decode jdk_68_method_22_code 29 = .ok (.aload_n 1, 1) := by decide +kernel
theorem d68_73_0 : decode jdk_68_method_73_code 0 = .ok (.aload_n 0, 1) := by decide +kernel
theorem d68_73_1 : decode jdk_68_method_73_code 1 = .ok (.aload_n 2, 1) := by decide +kernel
theorem d68_71_0 : decode jdk_68_method_71_code 0 = .ok (.getstatic 18, 3) := by decide +kernel
theorem d68_71_3 : decode jdk_68_method_71_code 3 = .ok (.ifCond .eq 18, 3) := by decide +kernel
theorem d68_71_6 : decode jdk_68_method_71_code 6 = .ok (.aload_n 0, 1) := by decide +kernel
theorem d68_71_7 : decode jdk_68_method_71_code 7 = .ok (.getfield 22, 3) := by decide +kernel
theorem d68_71_10 : decode jdk_68_method_71_code 10 = .ok (.aload_n 1, 1) := by decide +kernel
theorem d68_71_11 : decode jdk_68_method_71_code 11 = .ok (.invokevirtual 40, 3) := by decide +kernel
theorem d68_71_14 : decode jdk_68_method_71_code 14 = .ok (.if_icmp .eq 7, 3) := by decide +kernel
theorem d68_71_21 : decode jdk_68_method_71_code 21 = .ok (.return_, 1) := by decide +kernel
def QKi (Z : State) (xb xy : Addr) (h0 : Heap) (n0 : Nat) (v : Option Value) (h : Heap) (L : List Loc) : Prop := v = none ∧ Fr n0 L ∧ h = h0
theorem rmKi (l : Launch) (Z : State) (a0 : Array Value) (hw : ∀ d ∈ tables_1, d.before a0 Z = true) (ws : List Jvm.Cond) (xb xy : Addr) (h0 : Heap) (n0 : Nat) (X00 : Old Z n0 h0) (G1 : Int32) (S1 : Sta Z Z.heap "java/lang/String" "COMPACT_STRINGS" "Z" (.int G1)) (P1 : ¬ G1 = 0) (Cxb : Fld Z h0 xb "java/lang/AbstractStringBuilder" "coder" "B" (.int 0)) (Exy : Exa Z h0 xy "java/lang/String") (Cxy : Fld Z h0 xy "java/lang/String" "coder" "B" (.int 0)) :
  MetFree l yN9 (head1 (Jvm.Cond.code yN9 jdk_68_method_71_code 2 none :: ws) ({ frames := 1, cells := 0, slots := 0, locals := 13 } : Room)) (fun aa U => aa = #[(.ref xb), (.ref xy)] ∧ Z.Warmed39 U.vm ∧ U.heap = h0) (fun _ _ _ _ _ => True) (fun _ U o U' => ∃ v L, o = .returned v ∧ QKi Z xb xy h0 n0 v U'.heap L ∧ FrameEnd U o U' L ({ frames := 1, cells := 0, slots := 0, locals := 13 } : Room).cells ({ frames := 1, cells := 0, slots := 0, locals := 13 } : Room).slots) := by
 refine MetFree.of_bodySF (plainFor_of_name pn_4) hisR ?_
 intro p e s m args below meth c s₁ Bd hml0 hP hK
 obtain ⟨rfl, hZ, hh⟩ := hP
 have hx := Bd.exec
 have hby := Bd.bytes
 have hml : c.maxLocals = 2 := hml0
 have hown : s.vm.findClass "java/lang/AbstractStringBuilder" = some m.cls := findClass_of_methodNamed Bd.named
 have hnm := (name_of_methodNamed Bd.named Bd.method).1
 have X0 : Stand p l e ({ frames := 1, cells := 0, slots := 0, locals := 13 } : Room) s m #[(.ref xb), (.ref xy)] below meth c s₁ [] 0 0 := Stand.of_body Bd
 have e0 : s₁.heap = h0 := by rw [← hh, Bd.state]; rfl
 have N0 := Fr.nil n0
 have K0 := Keep.refl h0 []
 have ef : entryFrame m #[(.ref xb), (.ref xy)] 2 = mkF m 0 #[vr xb, vr xy] [] := by first | (simp [entryFrame, mkF, argsToLocals, Value.category]; done) | rfl
 rw [ef]
 refine fin_of fun Kx hF => ?_
 show Go p.tables e below Kx _ (mkF m 0 _ [])
 obtain ⟨T104, X104, e104, st104⟩ := getS2 X0 hx hZ hown (host := "") (Or.inl (hv hw 71 rfl)) Via.refl e0 (S1.ext X00.2) (g := (mkF m 0 #[vr xb, vr xy] [])) rfl (hb hby d68_71_0)
 refine Go.st st104 ?_
 show Go p.tables e below Kx _ (mkF m 3 _ [(.int G1)])
 refine s_ifN (pc' := 6) X104.here hx (hb hby d68_71_3) rfl ((if0 _ _).trans (feq P1).1) ?_
 refine s_aloadN (pc' := 7) X104.here hx (hb hby d68_71_6) rfl rfl rfl ?_
 obtain ⟨T105, X105, e105, st105⟩ := getF X104 hx hZ hown (host := "") (Or.inl (hv hw 74 rfl)) Via.refl e104 Cxb (g := (mkF m 7 #[vr xb, vr xy] [(.ref xb)])) rfl rfl (hb hby d68_71_7)
 refine Go.st st105 ?_
 show Go p.tables e below Kx _ (mkF m 10 _ [(.int 0)])
 refine s_aloadN (pc' := 11) X105.here hx (hb hby d68_71_10) rfl rfl rfl ?_
 obtain ⟨_, T106, L106, X106, hQ106, st106⟩ := kV X105 hx hZ (y := yN25) hown (hv hw 113 rfl) (hv hw 92 rfl) (notFace_of_selects (args := #[]) (mvT hZ (hv hw 94 rfl))) (hv hw 94 rfl) (hv hw 93 rfl) (hv hw 2 rfl) (hv hw 95 rfl) (by decide) (rmKc l Z a0 hw [] xy h0 n0 X00 G1 S1 P1 Cxy) e105 Exy (W := 1) (g := (mkF m 11 #[vr xb, vr xy] [(.ref xy), (.int 0)])) rfl (by rw [hml]; rfl) (argsL := []) (rest := [(.int 0)]) (lenOf pd_4 rfl) rfl (by exact Nat.le_of_eq rfl) (hb hby d68_71_11) rfl (nb rfl) (nb rfl) (nb rfl) (nb rfl)
 obtain ⟨rfl, Nq106, hE106⟩ := hQ106
 have N106 := Fr.app N0 Nq106
 refine Go.tr st106 ?_
 show Go p.tables e below Kx _ (mkF m 14 _ [(.int 0), (.int 0)])
 refine s_icmpY (pc' := 21) X106.here hx (hb hby d68_71_14) (teq (by decide)).1 (by decide) (by decide) ?_
 obtain ⟨fs, hr, hrun, hended, hW, hsame⟩ := X106.leave (v := none) (fun _ => rfl)
 refine Go.fin (X106.returnOut hx Bd.returns (hb hby d68_71_21) hr) (hF _ _ hrun hended ⟨_, _, rfl, ?_, ⟨_, rfl⟩, hW, hsame.mono (by decide) (by decide)⟩)
 ·
  show QKi Z xb xy h0 n0 (none : Option Value) T106.heap _
  rw [hE106]
  exact ⟨rfl, N106, rfl⟩
theorem pd_6 : parseMethodDescriptor "(Ljava/lang/String;)V" = some ⟨[(.object "java/lang/String")], none⟩ := by decide +kernel
theorem d68_73_2 : decode jdk_68_method_73_code 2 = .ok (.invokevirtual 397, 3) := by decide +kernel
theorem d68_73_5 : decode jdk_68_method_73_code 5 = .ok (.aload_n 2, 1) := by decide +kernel
theorem d68_73_6 : decode jdk_68_method_73_code 6 = .ok (.aload_n 0, 1) := by decide +kernel
theorem d68_73_7 : decode jdk_68_method_73_code 7 = .ok (.getfield 15, 3) := by decide +kernel
theorem d68_73_10 : decode jdk_68_method_73_code 10 = .ok (.iload_n 1, 1) := by decide +kernel
theorem d68_73_11 : decode jdk_68_method_73_code 11 = .ok (.aload_n 0, 1) := by decide +kernel
theorem d68_73_12 : decode jdk_68_method_73_code 12 = .ok (.getfield 22, 3) := by decide +kernel
theorem d42_147_0 : decode jdk_42_method_147_code 0 = .ok (.aload_n 0, 1) := by decide +kernel
theorem d42_147_1 : decode jdk_42_method_147_code 1 = .ok (.invokevirtual 335, 3) := by decide +kernel
theorem d42_147_4 : decode jdk_42_method_147_code 4 = .ok (.iload_n 3, 1) := by decide +kernel
theorem d42_147_5 : decode jdk_42_method_147_code 5 = .ok (.if_icmp .ne 23, 3) := by decide +kernel
theorem d42_147_8 : decode jdk_42_method_147_code 8 = .ok (.aload_n 0, 1) := by decide +kernel
theorem d42_147_9 : decode jdk_42_method_147_code 9 = .ok (.getfield 9, 3) := by decide +kernel
theorem d42_147_12 : decode jdk_42_method_147_code 12 = .ok (.iconst 0, 1) := by decide +kernel
theorem d42_147_13 : decode jdk_42_method_147_code 13 = .ok (.aload_n 1, 1) := by decide +kernel
theorem d42_147_14 : decode jdk_42_method_147_code 14 = .ok (.iload_n 2, 1) := by decide +kernel
theorem d42_147_15 : decode jdk_42_method_147_code 15 = .ok (.iload_n 3, 1) := by decide +kernel
theorem d42_147_16 : decode jdk_42_method_147_code 16 = .ok (.ishl, 1) := by decide +kernel
theorem d42_147_17 : decode jdk_42_method_147_code 17 = .ok (.aload_n 0, 1) := by decide +kernel
theorem d42_147_18 : decode jdk_42_method_147_code 18 = .ok (.getfield 9, 3) := by decide +kernel
theorem d42_147_21 : decode jdk_42_method_147_code 21 = .ok (.arraylength, 1) := by decide +kernel
theorem d42_147_22 : decode jdk_42_method_147_code 22 = .ok (.invokestatic 212, 3) := by decide +kernel
theorem d42_147_25 : decode jdk_42_method_147_code 25 = .ok (.goto 18, 3) := by decide +kernel
theorem d42_147_43 : decode jdk_42_method_147_code 43 = .ok (.return_, 1) := by decide +kernel
def QHg (Z : State) (xy yb xt : Addr) (ky kt : ClassId) (N : Nat) (X us : List Int32) (h0 : Heap) (n0 : Nat) (v : Option Value) (h : Heap) (L : List Loc) : Prop := v = none ∧ Fr n0 L ∧ Keep h0 h [xt] ∧ Arv Z h xt kt .byte (Int32.ofNat N) (pad N (X ++ us)) (.int 0)
theorem rmHg (l : Launch) (Z : State) (a0 : Array Value) (hw : ∀ d ∈ tables_1, d.before a0 Z = true) (ws : List Jvm.Cond) (xy yb xt : Addr) (ky kt : ClassId) (N : Nat) (X us : List Int32) (h0 : Heap) (n0 : Nat) (X00 : Old Z n0 h0) (G1 : Int32) (S1 : Sta Z Z.heap "java/lang/String" "COMPACT_STRINGS" "Z" (.int G1)) (P1 : ¬ G1 = 0) (Exy : Exa Z h0 xy "java/lang/String") (Cxy : Fld Z h0 xy "java/lang/String" "coder" "B" (.int 0)) (Vxy : Fld Z h0 xy "java/lang/String" "value" "[B" (.ref yb)) (Axy : Arv Z h0 yb ky .byte (Int32.ofNat us.length) (us.map Value.int) (.int 0)) (ge_xt : n0 ≤ xt) (Axt : Arv Z h0 xt kt .byte (Int32.ofNat N) (pad N X) (.int 0)) (hN : N ≤ 4000) (hc : X.length + us.length ≤ N) :
  MetFree l yN26 (head1 (Jvm.Cond.code yN26 jdk_42_method_147_code 4 none :: ws) ({ frames := 1, cells := 0, slots := 0, locals := 18 } : Room)) (fun aa U => aa = #[(.ref xy), (.ref xt), (.int (Int32.ofNat X.length)), (.int 0)] ∧ Z.Warmed39 U.vm ∧ U.heap = h0) (fun _ _ _ _ _ => True) (fun _ U o U' => ∃ v L, o = .returned v ∧ QHg Z xy yb xt ky kt N X us h0 n0 v U'.heap L ∧ FrameEnd U o U' L ({ frames := 1, cells := 0, slots := 0, locals := 18 } : Room).cells ({ frames := 1, cells := 0, slots := 0, locals := 18 } : Room).slots) := by
 refine MetFree.of_bodySF (plainFor_of_name pn_5) hisR ?_
 intro p e s m args below meth c s₁ Bd hml0 hP hK
 obtain ⟨rfl, hZ, hh⟩ := hP
 have hx := Bd.exec
 have hby := Bd.bytes
 have hml : c.maxLocals = 4 := hml0
 have hown : s.vm.findClass "java/lang/String" = some m.cls := findClass_of_methodNamed Bd.named
 have hnm := (name_of_methodNamed Bd.named Bd.method).1
 have X0 : Stand p l e ({ frames := 1, cells := 0, slots := 0, locals := 18 } : Room) s m #[(.ref xy), (.ref xt), (.int (Int32.ofNat X.length)), (.int 0)] below meth c s₁ [] 0 0 := Stand.of_body Bd
 have e0 : s₁.heap = h0 := by rw [← hh, Bd.state]; rfl
 have N0 := Fr.nil n0
 have K0 := Keep.refl h0 [xt]
 have ef : entryFrame m #[(.ref xy), (.ref xt), (.int (Int32.ofNat X.length)), (.int 0)] 4 = mkF m 0 #[vr xy, vr xt, .val (.int (Int32.ofNat X.length)), vi 0] [] := by first | (simp [entryFrame, mkF, argsToLocals, Value.category]; done) | rfl
 rw [ef]
 refine fin_of fun Kx hF => ?_
 show Go p.tables e below Kx _ (mkF m 0 _ [])
 have lX4 : X.length ≤ 4000 := by omega
 have lu4 : us.length ≤ 4000 := by omega
 refine s_aloadN (pc' := 1) X0.here hx (hb hby d42_147_0) rfl rfl rfl ?_
 obtain ⟨_, T110, L110, X110, hQ110, st110⟩ := kV X0 hx hZ (y := yN25) hown (hv hw 91 rfl) (hv hw 92 rfl) (notFace_of_selects (args := #[]) (mvT hZ (hv hw 94 rfl))) (hv hw 94 rfl) (hv hw 93 rfl) (hv hw 2 rfl) (hv hw 95 rfl) (by decide) (rmKc l Z a0 hw [] xy h0 n0 X00 G1 S1 P1 Cxy) e0 Exy (W := 0) (g := (mkF m 1 #[vr xy, vr xt, .val (.int (Int32.ofNat X.length)), vi 0] [(.ref xy)])) rfl (by rw [hml]; rfl) (argsL := []) (rest := []) (lenOf pd_4 rfl) rfl (by exact Nat.le_of_eq rfl) (hb hby d42_147_1) rfl (nb rfl) (nb rfl) (nb rfl) (nb rfl)
 obtain ⟨rfl, Nq110, hE110⟩ := hQ110
 have N110 := Fr.app N0 Nq110
 refine Go.tr st110 ?_
 show Go p.tables e below Kx _ (mkF m 4 _ [(.int 0)])
 refine s_iloadN (pc' := 5) X110.here hx (hb hby d42_147_4) rfl rfl ?_
 refine s_icmpN (pc' := 8) X110.here hx (hb hby d42_147_5) rfl (teq (by decide)).2 ?_
 refine s_aloadN (pc' := 9) X110.here hx (hb hby d42_147_8) rfl rfl rfl ?_
 obtain ⟨T111, X111, e111, st111⟩ := getF X110 hx hZ hown (host := "") (Or.inl (hv hw 28 rfl)) Via.refl hE110 Vxy (g := (mkF m 9 #[vr xy, vr xt, .val (.int (Int32.ofNat X.length)), vi 0] [(.ref xy)])) rfl rfl (hb hby d42_147_9)
 refine Go.st st111 ?_
 show Go p.tables e below Kx _ (mkF m 12 _ [(.ref yb)])
 refine s_iconst (pc' := 13) (v := 0) X111.here hx (hb hby d42_147_12) rfl rfl ?_
 refine s_aloadN (pc' := 14) X111.here hx (hb hby d42_147_13) rfl rfl rfl ?_
 refine s_iloadN (pc' := 15) X111.here hx (hb hby d42_147_14) rfl rfl ?_
 refine s_iloadN (pc' := 16) X111.here hx (hb hby d42_147_15) rfl rfl ?_
 refine s_ishl (pc' := 17) (z := (Int32.ofNat X.length)) X111.here hx (hb hby d42_147_16) rfl (shl0 _) ?_
 refine s_aloadN (pc' := 18) X111.here hx (hb hby d42_147_17) rfl rfl rfl ?_
 obtain ⟨T112, X112, e112, st112⟩ := getF X111 hx hZ hown (host := "") (Or.inl (hv hw 28 rfl)) Via.refl e111 Vxy (g := (mkF m 18 #[vr xy, vr xt, .val (.int (Int32.ofNat X.length)), vi 0] [(.ref xy), (.int (Int32.ofNat X.length)), (.ref xt), (.int 0), (.ref yb)])) rfl rfl (hb hby d42_147_18)
 refine Go.st st112 ?_
 show Go p.tables e below Kx _ (mkF m 21 _ [(.ref yb), (.int (Int32.ofNat X.length)), (.ref xt), (.int 0), (.ref yb)])
 obtain ⟨cl113, Ar113, Aq113, As113, An113, Ah113, Ag113⟩ := id Axy
 refine Go.st (X112.arraylength hx (by rw [e112]; exact Ar113.1) (State.isArrayOf_alike hZ.alike Ar113.2.1) (g := (mkF m 21 #[vr xy, vr xt, .val (.int (Int32.ofNat X.length)), vi 0] [(.ref yb), (.int (Int32.ofNat X.length)), (.ref xt), (.int 0), (.ref yb)])) rfl rfl (hb hby d42_147_21)) ?_
 rw [len_of As113 An113]
 show Go p.tables e below Kx _ (mkF m 22 _ [(.int (Int32.ofNat us.length)), (.int (Int32.ofNat X.length)), (.ref xt), (.int 0), (.ref yb)])
 obtain ⟨T114, h114, L114, X114, e114, N114, KK114, V114, st114⟩ := cpApp X112 hx hZ hown (hv hw 119 rfl) (hv hw 122 rfl) (hv hw 120 rfl) (hv hw 121 rfl) e112 lu4 lX4 hN hc Axy Axt N110 ge_xt (g := (mkF m 22 #[vr xy, vr xt, .val (.int (Int32.ofNat X.length)), vi 0] [(.int (Int32.ofNat us.length)), (.int (Int32.ofNat X.length)), (.ref xt), (.int 0), (.ref yb)])) rfl (by rw [hml]; rfl) rfl (hb hby d42_147_22) (by decide) (W := 0) (by exact Nat.le_of_eq rfl) (by decide)
 have K114 : Keep h0 h114 [xt] := K0.trans KK114 (allS (P := fun zz => zz ∈ [xt] ∨ h0.size ≤ zz) (Or.inl (List.mem_of_getElem? (i := 0) rfl)) all0)
 have O114 : Old Z n0 h114 := X00.keep KK114 (allS ge_xt all0)
 refine Go.st st114 ?_
 show Go p.tables e below Kx _ (mkF m 25 _ [])
 refine s_goto (pc' := 43) X114.here hx (hb hby d42_147_25) (by decide) (by decide) ?_
 obtain ⟨fs, hr, hrun, hended, hW, hsame⟩ := X114.leave (v := none) (fun _ => rfl)
 refine Go.fin (X114.returnOut hx Bd.returns (hb hby d42_147_43) hr) (hF _ _ hrun hended ⟨_, _, rfl, ?_, ⟨_, rfl⟩, hW, hsame.mono (by decide) (by decide)⟩)
 ·
  show QHg Z xy yb xt ky kt N X us h0 n0 (none : Option Value) T114.heap _
  rw [e114]
  exact ⟨rfl, N114, K114, V114⟩
theorem pd_7 : parseMethodDescriptor "([BIB)V" = some ⟨[(.array .byte), .int, .byte], none⟩ := by decide +kernel
theorem d68_73_15 : decode jdk_68_method_73_code 15 = .ok (.invokevirtual 399, 3) := by decide +kernel
theorem d68_73_18 : decode jdk_68_method_73_code 18 = .ok (.return_, 1) := by decide +kernel
def QHp (Z : State) (xb xt xy yb : Addr) (ky kt : ClassId) (N : Nat) (X us : List Int32) (h0 : Heap) (n0 : Nat) (v : Option Value) (h : Heap) (L : List Loc) : Prop := v = none ∧ Fr n0 L ∧ Keep h0 h [xt] ∧ Arv Z h xt kt .byte (Int32.ofNat N) (pad N (X ++ us)) (.int 0)
theorem rmHp (l : Launch) (Z : State) (a0 : Array Value) (hw : ∀ d ∈ tables_1, d.before a0 Z = true) (ws : List Jvm.Cond) (xb xt xy yb : Addr) (ky kt : ClassId) (N : Nat) (X us : List Int32) (h0 : Heap) (n0 : Nat) (X00 : Old Z n0 h0) (G1 : Int32) (S1 : Sta Z Z.heap "java/lang/String" "COMPACT_STRINGS" "Z" (.int G1)) (P1 : ¬ G1 = 0) (Exb : Exa Z h0 xb "java/lang/StringBuilder") (Vxb : Fld Z h0 xb "java/lang/AbstractStringBuilder" "value" "[B" (.ref xt)) (Cxb : Fld Z h0 xb "java/lang/AbstractStringBuilder" "coder" "B" (.int 0)) (Axt : Arv Z h0 xt kt .byte (Int32.ofNat N) (pad N X) (.int 0)) (Exy : Exa Z h0 xy "java/lang/String") (Cxy : Fld Z h0 xy "java/lang/String" "coder" "B" (.int 0)) (Vxy : Fld Z h0 xy "java/lang/String" "value" "[B" (.ref yb)) (Axy : Arv Z h0 yb ky .byte (Int32.ofNat us.length) (us.map Value.int) (.int 0)) (ge_xt : n0 ≤ xt) (hN : N ≤ 4000) (hc : X.length + us.length ≤ N) :
  MetFree l yN13 (head1 (Jvm.Cond.code yN13 jdk_68_method_73_code 3 none :: ws) ({ frames := 2, cells := 0, slots := 0, locals := 33 } : Room)) (fun aa U => aa = #[(.ref xb), (.int (Int32.ofNat X.length)), (.ref xy)] ∧ Z.Warmed39 U.vm ∧ U.heap = h0) (fun _ _ _ _ _ => True) (fun _ U o U' => ∃ v L, o = .returned v ∧ QHp Z xb xt xy yb ky kt N X us h0 n0 v U'.heap L ∧ FrameEnd U o U' L ({ frames := 2, cells := 0, slots := 0, locals := 33 } : Room).cells ({ frames := 2, cells := 0, slots := 0, locals := 33 } : Room).slots) := by
 refine MetFree.of_bodySF (plainFor_of_name pn_4) hisR ?_
 intro p e s m args below meth c s₁ Bd hml0 hP hK
 obtain ⟨rfl, hZ, hh⟩ := hP
 have hx := Bd.exec
 have hby := Bd.bytes
 have hml : c.maxLocals = 3 := hml0
 have hown : s.vm.findClass "java/lang/AbstractStringBuilder" = some m.cls := findClass_of_methodNamed Bd.named
 have hnm := (name_of_methodNamed Bd.named Bd.method).1
 have X0 : Stand p l e ({ frames := 2, cells := 0, slots := 0, locals := 33 } : Room) s m #[(.ref xb), (.int (Int32.ofNat X.length)), (.ref xy)] below meth c s₁ [] 0 0 := Stand.of_body Bd
 have e0 : s₁.heap = h0 := by rw [← hh, Bd.state]; rfl
 have N0 := Fr.nil n0
 have K0 := Keep.refl h0 [xt]
 have ef : entryFrame m #[(.ref xb), (.int (Int32.ofNat X.length)), (.ref xy)] 3 = mkF m 0 #[vr xb, .val (.int (Int32.ofNat X.length)), vr xy] [] := by first | (simp [entryFrame, mkF, argsToLocals, Value.category]; done) | rfl
 rw [ef]
 refine fin_of fun Kx hF => ?_
 show Go p.tables e below Kx _ (mkF m 0 _ [])
 have lX4 : X.length ≤ 4000 := by omega
 have lu4 : us.length ≤ 4000 := by omega
 refine s_aloadN (pc' := 1) X0.here hx (hb hby d68_73_0) rfl rfl rfl ?_
 refine s_aloadN (pc' := 2) X0.here hx (hb hby d68_73_1) rfl rfl rfl ?_
 obtain ⟨_, T107, L107, X107, hQ107, st107⟩ := kV X0 hx hZ (y := yN9) hown (hv hw 108 rfl) (decl_of (hv hw 109 rfl) (hv hw 112 rfl)) (notFace_of_selects (args := #[]) (mvT hZ (hv hw 111 rfl))) (hv hw 111 rfl) (hv hw 109 rfl) (hv hw 68 rfl) (hv hw 112 rfl) (by decide) (rmKi l Z a0 hw [] xb xy h0 n0 X00 G1 S1 P1 Cxb Exy Cxy) e0 Exb (W := 0) (g := (mkF m 2 #[vr xb, .val (.int (Int32.ofNat X.length)), vr xy] [(.ref xy), (.ref xb)])) rfl (by rw [hml]; rfl) (argsL := [(.ref xy)]) (rest := []) (lenOf pd_6 rfl) rfl (by exact Nat.le_of_eq rfl) (hb hby d68_73_2) rfl (nb rfl) (nb rfl) (nb rfl) (nb rfl)
 obtain ⟨rfl, Nq107, hE107⟩ := hQ107
 have N107 := Fr.app N0 Nq107
 refine Go.tr st107 ?_
 show Go p.tables e below Kx _ (mkF m 5 _ [])
 refine s_aloadN (pc' := 6) X107.here hx (hb hby d68_73_5) rfl rfl rfl ?_
 refine s_aloadN (pc' := 7) X107.here hx (hb hby d68_73_6) rfl rfl rfl ?_
 obtain ⟨T108, X108, e108, st108⟩ := getF X107 hx hZ hown (host := "") (Or.inl (hv hw 72 rfl)) Via.refl hE107 Vxb (g := (mkF m 7 #[vr xb, .val (.int (Int32.ofNat X.length)), vr xy] [(.ref xb), (.ref xy)])) rfl rfl (hb hby d68_73_7)
 refine Go.st st108 ?_
 show Go p.tables e below Kx _ (mkF m 10 _ [(.ref xt), (.ref xy)])
 refine s_iloadN (pc' := 11) X108.here hx (hb hby d68_73_10) rfl rfl ?_
 refine s_aloadN (pc' := 12) X108.here hx (hb hby d68_73_11) rfl rfl rfl ?_
 obtain ⟨T109, X109, e109, st109⟩ := getF X108 hx hZ hown (host := "") (Or.inl (hv hw 74 rfl)) Via.refl e108 Cxb (g := (mkF m 12 #[vr xb, .val (.int (Int32.ofNat X.length)), vr xy] [(.ref xb), (.int (Int32.ofNat X.length)), (.ref xt), (.ref xy)])) rfl rfl (hb hby d68_73_12)
 refine Go.st st109 ?_
 show Go p.tables e below Kx _ (mkF m 15 _ [(.int 0), (.int (Int32.ofNat X.length)), (.ref xt), (.ref xy)])
 obtain ⟨_, T115, L115, X115, hQ115, st115⟩ := kV X109 hx hZ (y := yN26) hown (hv hw 114 rfl) (hv hw 115 rfl) (notFace_of_selects (args := #[]) (mvT hZ (hv hw 117 rfl))) (hv hw 117 rfl) (hv hw 116 rfl) (hv hw 2 rfl) (hv hw 118 rfl) (by decide) (rmHg l Z a0 hw [] xy yb xt _ _ N X us h0 n0 X00 G1 S1 P1 Exy Cxy Vxy Axy ge_xt Axt hN hc) e109 Exy (W := 0) (g := (mkF m 15 #[vr xb, .val (.int (Int32.ofNat X.length)), vr xy] [(.int 0), (.int (Int32.ofNat X.length)), (.ref xt), (.ref xy)])) rfl (by rw [hml]; rfl) (argsL := [(.ref xt), (.int (Int32.ofNat X.length)), (.int 0)]) (rest := []) (lenOf pd_7 rfl) rfl (by exact Nat.le_of_eq rfl) (hb hby d68_73_15) rfl (nb rfl) (nb rfl) (nb rfl) (nb rfl)
 obtain ⟨rfl, Nq115, Kq115, q1_115⟩ := hQ115
 have N115 := Fr.app N107 Nq115
 have K115 : Keep h0 T115.heap [xt] := K0.trans Kq115 (allS (P := fun zz => zz ∈ [xt] ∨ h0.size ≤ zz) (Or.inl (List.mem_of_getElem? (i := 0) rfl)) all0)
 have O115 : Old Z n0 T115.heap := X00.keep Kq115 (allS ge_xt all0)
 refine Go.tr st115 ?_
 show Go p.tables e below Kx _ (mkF m 18 _ [])
 obtain ⟨fs, hr, hrun, hended, hW, hsame⟩ := X115.leave (v := none) (fun _ => rfl)
 refine Go.fin (X115.returnOut hx Bd.returns (hb hby d68_73_18) hr) (hF _ _ hrun hended ⟨_, _, rfl, ?_, ⟨_, rfl⟩, hW, hsame.mono (by decide) (by decide)⟩)
 ·
  show QHp Z xb xt xy yb ky kt N X us h0 n0 (none : Option Value) T115.heap _
  skip
  exact ⟨rfl, N115, K115, q1_115⟩
theorem pd_8 : parseMethodDescriptor "(ILjava/lang/String;)V" = some ⟨[.int, (.object "java/lang/String")], none⟩ := by decide +kernel
theorem d68_22_30 : decode jdk_68_method_22_code 30 = .ok (.invokevirtual 208, 3) := by decide +kernel
theorem d68_22_33 : decode jdk_68_method_22_code 33 = .ok (.aload_n 0, 1) := by decide +kernel
theorem d68_22_34 : decode jdk_68_method_22_code 34 = .ok (.dup, 1) := by decide +kernel
theorem d68_22_35 : decode jdk_68_method_22_code 35 = .ok (.getfield 79, 3) := by decide +kernel
theorem d68_22_38 : decode jdk_68_method_22_code 38 = .ok (.iload_n 2, 1) := by decide +kernel
theorem d68_22_39 : decode jdk_68_method_22_code 39 = .ok (.iadd, 1) := by decide +kernel
theorem d68_22_40 : decode jdk_68_method_22_code 40 = .ok (.putfield 79, 3) := by decide +kernel
theorem d68_22_43 : decode jdk_68_method_22_code 43 = .ok (.aload_n 0, 1) := by decide +kernel
theorem d68_22_44 : decode jdk_68_method_22_code 44 = .ok (.areturn, 1) := by decide +kernel
def QHa (Z : State) (xb xt xy yb : Addr) (ky kt : ClassId) (N : Nat) (X us : List Int32) (h0 : Heap) (n0 : Nat) (v : Option Value) (h : Heap) (L : List Loc) : Prop := v = some (.ref xb) ∧ Fr n0 L ∧ Keep h0 h [xb, xt] ∧ Exa Z h xb "java/lang/StringBuilder" ∧ Fld Z h xb "java/lang/AbstractStringBuilder" "value" "[B" (.ref xt) ∧ Fld Z h xb "java/lang/AbstractStringBuilder" "coder" "B" (.int 0) ∧ Fld Z h xb "java/lang/AbstractStringBuilder" "count" "I" (.int (Int32.ofNat (X ++ us).length)) ∧ Arv Z h xt kt .byte (Int32.ofNat N) (pad N (X ++ us)) (.int 0)
theorem rmHa (l : Launch) (Z : State) (a0 : Array Value) (hw : ∀ d ∈ tables_1, d.before a0 Z = true) (ws : List Jvm.Cond) (xb xt xy yb : Addr) (ky kt : ClassId) (N : Nat) (X us : List Int32) (h0 : Heap) (n0 : Nat) (X00 : Old Z n0 h0) (G1 : Int32) (S1 : Sta Z Z.heap "java/lang/String" "COMPACT_STRINGS" "Z" (.int G1)) (P1 : ¬ G1 = 0) (Exb : Exa Z h0 xb "java/lang/StringBuilder") (Vxb : Fld Z h0 xb "java/lang/AbstractStringBuilder" "value" "[B" (.ref xt)) (Cxb : Fld Z h0 xb "java/lang/AbstractStringBuilder" "coder" "B" (.int 0)) (Nxb : Fld Z h0 xb "java/lang/AbstractStringBuilder" "count" "I" (.int (Int32.ofNat X.length))) (Axt : Arv Z h0 xt kt .byte (Int32.ofNat N) (pad N X) (.int 0)) (Exy : Exa Z h0 xy "java/lang/String") (Cxy : Fld Z h0 xy "java/lang/String" "coder" "B" (.int 0)) (Vxy : Fld Z h0 xy "java/lang/String" "value" "[B" (.ref yb)) (Axy : Arv Z h0 yb ky .byte (Int32.ofNat us.length) (us.map Value.int) (.int 0)) (ge_xb : n0 ≤ xb) (ge_xt : n0 ≤ xt) (nbt : xb ≠ xt) (hN : N ≤ 4000) (hc : X.length + us.length ≤ N) :
  MetFree l yN6 (head1 (Jvm.Cond.code yN6 jdk_68_method_22_code 3 (some (.object "java/lang/AbstractStringBuilder")) :: ws) ({ frames := 3, cells := 0, slots := 0, locals := 47 } : Room)) (fun aa U => aa = #[(.ref xb), (.ref xy)] ∧ Z.Warmed39 U.vm ∧ U.heap = h0) (fun _ _ _ _ _ => True) (fun _ U o U' => ∃ v L, o = .returned v ∧ QHa Z xb xt xy yb ky kt N X us h0 n0 v U'.heap L ∧ FrameEnd U o U' L ({ frames := 3, cells := 0, slots := 0, locals := 47 } : Room).cells ({ frames := 3, cells := 0, slots := 0, locals := 47 } : Room).slots) := by
 refine MetFree.of_bodySF (plainFor_of_name pn_4) hisR ?_
 intro p e s m args below meth c s₁ Bd hml0 hP hK
 obtain ⟨rfl, hZ, hh⟩ := hP
 have hx := Bd.exec
 have hby := Bd.bytes
 have hml : c.maxLocals = 3 := hml0
 have hown : s.vm.findClass "java/lang/AbstractStringBuilder" = some m.cls := findClass_of_methodNamed Bd.named
 have hnm := (name_of_methodNamed Bd.named Bd.method).1
 have X0 : Stand p l e ({ frames := 3, cells := 0, slots := 0, locals := 47 } : Room) s m #[(.ref xb), (.ref xy)] below meth c s₁ [] 0 0 := Stand.of_body Bd
 have e0 : s₁.heap = h0 := by rw [← hh, Bd.state]; rfl
 have N0 := Fr.nil n0
 have K0 := Keep.refl h0 [xb, xt]
 have ef : entryFrame m #[(.ref xb), (.ref xy)] 3 = mkF m 0 #[vr xb, vr xy, un] [] := by first | (simp [entryFrame, mkF, argsToLocals, Value.category]; done) | rfl
 rw [ef]
 refine fin_of fun Kx hF => ?_
 show Go p.tables e below Kx _ (mkF m 0 _ [])
 have lX4 : X.length ≤ 4000 := by omega
 have lu4 : us.length ≤ 4000 := by omega
 refine s_aloadN (pc' := 1) X0.here hx (hb hby d68_22_0) rfl rfl rfl ?_
 refine s_ifnonnullY (pc' := 9) X0.here hx (hb hby d68_22_1) (by decide) (by decide) ?_
 refine s_aloadN (pc' := 10) X0.here hx (hb hby d68_22_9) rfl rfl rfl ?_
 obtain ⟨_, T97, L97, X97, hQ97, st97⟩ := kV X0 hx hZ (y := yN28) hown (hv hw 86 rfl) (hv hw 87 rfl) (notFace_of_selects (args := #[]) (mvT hZ (hv hw 89 rfl))) (hv hw 89 rfl) (hv hw 88 rfl) (hv hw 2 rfl) (hv hw 90 rfl) (by decide) (rmGl l Z a0 hw [] xy yb _ us h0 n0 X00 G1 S1 P1 Exy Cxy Vxy Axy) e0 Exy (W := 0) (g := (mkF m 10 #[vr xb, vr xy, un] [(.ref xy)])) rfl (by rw [hml]; rfl) (argsL := []) (rest := []) (lenOf pd_5 rfl) rfl (by exact Nat.le_of_eq rfl) (hb hby d68_22_10) rfl (nb rfl) (nb rfl) (nb rfl) (nb rfl)
 obtain ⟨rfl, Nq97, hE97⟩ := hQ97
 have N97 := Fr.app N0 Nq97
 refine Go.tr st97 ?_
 show Go p.tables e below Kx _ (mkF m 13 _ [(.int (Int32.ofNat us.length))])
 refine s_istoreN (pc' := 14) (Ls' := #[vr xb, vr xy, .val (.int (Int32.ofNat us.length))]) X97.here hx (hb hby d68_22_13) rfl  rfl ?_
 refine s_aloadN (pc' := 15) X97.here hx (hb hby d68_22_14) rfl rfl rfl ?_
 refine s_aloadN (pc' := 16) X97.here hx (hb hby d68_22_15) rfl rfl rfl ?_
 obtain ⟨T98, X98, e98, st98⟩ := getF X97 hx hZ hown (host := "") (Or.inl (hv hw 96 rfl)) Via.refl hE97 Nxb (g := (mkF m 16 #[vr xb, vr xy, .val (.int (Int32.ofNat us.length))] [(.ref xb), (.ref xb)])) rfl rfl (hb hby d68_22_16)
 refine Go.st st98 ?_
 show Go p.tables e below Kx _ (mkF m 19 _ [(.int (Int32.ofNat X.length)), (.ref xb)])
 refine s_iloadN (pc' := 20) X98.here hx (hb hby d68_22_19) rfl rfl ?_
 refine s_iadd (pc' := 21) (z := (Int32.ofNat (X ++ us).length)) X98.here hx (hb hby d68_22_20) rfl (lapp _ _) ?_
 obtain ⟨_, T102, L102, X102, hQ102, st102⟩ := kV X98 hx hZ (y := yN7) hown (hv hw 98 rfl) (decl_of (hv hw 99 rfl) (hv hw 102 rfl)) (notFace_of_selects (args := #[]) (mvT hZ (hv hw 101 rfl))) (hv hw 101 rfl) (hv hw 99 rfl) (hv hw 68 rfl) (hv hw 102 rfl) (by decide) (rmHe l Z a0 hw [] xb xt _ N X (Int32.ofNat (X ++ us).length) h0 n0 X00 Vxb Cxb Axt (capN hc hN)) e98 Exb (W := 0) (g := (mkF m 21 #[vr xb, vr xy, .val (.int (Int32.ofNat us.length))] [(.int (Int32.ofNat (X ++ us).length)), (.ref xb)])) rfl (by rw [hml]; rfl) (argsL := [(.int (Int32.ofNat (X ++ us).length))]) (rest := []) (lenOf pd_3 rfl) rfl (by exact Nat.le_of_eq rfl) (hb hby d68_22_21) rfl (nb rfl) (nb rfl) (nb rfl) (nb rfl)
 obtain ⟨rfl, Nq102, hE102⟩ := hQ102
 have N102 := Fr.app N97 Nq102
 refine Go.tr st102 ?_
 show Go p.tables e below Kx _ (mkF m 24 _ [])
 refine s_aloadN (pc' := 25) X102.here hx (hb hby d68_22_24) rfl rfl rfl ?_
 refine s_aloadN (pc' := 26) X102.here hx (hb hby d68_22_25) rfl rfl rfl ?_
 obtain ⟨T103, X103, e103, st103⟩ := getF X102 hx hZ hown (host := "") (Or.inl (hv hw 96 rfl)) Via.refl hE102 Nxb (g := (mkF m 26 #[vr xb, vr xy, .val (.int (Int32.ofNat us.length))] [(.ref xb), (.ref xb)])) rfl rfl (hb hby d68_22_26)
 refine Go.st st103 ?_
 show Go p.tables e below Kx _ (mkF m 29 _ [(.int (Int32.ofNat X.length)), (.ref xb)])
 refine s_aloadN (pc' := 30) X103.here hx (hb hby d68_22_29) rfl rfl rfl ?_
 obtain ⟨_, T116, L116, X116, hQ116, st116⟩ := kV X103 hx hZ (y := yN13) hown (hv hw 103 rfl) (decl_of (hv hw 104 rfl) (hv hw 107 rfl)) (notFace_of_selects (args := #[]) (mvT hZ (hv hw 106 rfl))) (hv hw 106 rfl) (hv hw 104 rfl) (hv hw 68 rfl) (hv hw 107 rfl) (by decide) (rmHp l Z a0 hw [] xb xt xy yb _ _ N X us h0 n0 X00 G1 S1 P1 Exb Vxb Cxb Axt Exy Cxy Vxy Axy ge_xt hN hc) e103 Exb (W := 0) (g := (mkF m 30 #[vr xb, vr xy, .val (.int (Int32.ofNat us.length))] [(.ref xy), (.int (Int32.ofNat X.length)), (.ref xb)])) rfl (by rw [hml]; rfl) (argsL := [(.int (Int32.ofNat X.length)), (.ref xy)]) (rest := []) (lenOf pd_8 rfl) rfl (by exact Nat.le_of_eq rfl) (hb hby d68_22_30) rfl (nb rfl) (nb rfl) (nb rfl) (nb rfl)
 obtain ⟨rfl, Nq116, Kq116, q1_116⟩ := hQ116
 have N116 := Fr.app N102 Nq116
 have K116 : Keep h0 T116.heap [xb, xt] := K0.trans Kq116 (allS (P := fun zz => zz ∈ [xb, xt] ∨ h0.size ≤ zz) (Or.inl (List.mem_of_getElem? (i := 1) rfl)) all0)
 have O116 : Old Z n0 T116.heap := X00.keep Kq116 (allS ge_xt all0)
 refine Go.tr st116 ?_
 show Go p.tables e below Kx _ (mkF m 33 _ [])
 refine s_aloadN (pc' := 34) X116.here hx (hb hby d68_22_33) rfl rfl rfl ?_
 refine s_dup (pc' := 35) X116.here hx (hb hby d68_22_34) rfl rfl ?_
 have f117 : Fld Z T116.heap xb "java/lang/AbstractStringBuilder" "count" "I" (.int (Int32.ofNat X.length)) := (Nxb.keep Kq116 (ninS nbt nin0))
 obtain ⟨T118, X118, e118, st118⟩ := getF X116 hx hZ hown (host := "") (Or.inl (hv hw 96 rfl)) Via.refl rfl f117 (g := (mkF m 35 #[vr xb, vr xy, .val (.int (Int32.ofNat us.length))] [(.ref xb), (.ref xb)])) rfl rfl (hb hby d68_22_35)
 refine Go.st st118 ?_
 show Go p.tables e below Kx _ (mkF m 38 _ [(.int (Int32.ofNat X.length)), (.ref xb)])
 refine s_iloadN (pc' := 39) X118.here hx (hb hby d68_22_38) rfl rfl ?_
 refine s_iadd (pc' := 40) (z := (Int32.ofNat (X ++ us).length)) X118.here hx (hb hby d68_22_39) rfl (lapp _ _) ?_
 have f119 : Exa Z T116.heap xb "java/lang/StringBuilder" := (Exb.keep Kq116)
 obtain ⟨T120, h120, X120, e120, W120, st120⟩ := putF X118 hx hZ hown (host := "") (Or.inl (hv hw 96 rfl)) Via.refl e118 f117 f119 (Or.inl (hv hw 97 rfl)) (hv hw 59 rfl) (ty := .int) (by decide) rfl rfl (g := (mkF m 40 #[vr xb, vr xy, .val (.int (Int32.ofNat us.length))] [(.int (Int32.ofNat (X ++ us).length)), (.ref xb)])) rfl rfl (hb hby d68_22_40)
 have Fw120 : Fld Z h120 xb "java/lang/AbstractStringBuilder" "count" "I" (.int (Int32.ofNat (X ++ us).length)) := f117.same W120
 have K120 : Keep h0 h120 [xb, xt] := K116.wr W120 (Or.inl (List.mem_of_getElem? (i := 0) rfl))
 have O120 : Old Z n0 h120 := O116.wr W120 ge_xb
 have N120 := Fr.snoc X120 N116 ge_xb
 refine Go.st st120 ?_
 show Go p.tables e below Kx _ (mkF m 43 _ [])
 refine s_aloadN (pc' := 44) X120.here hx (hb hby d68_22_43) rfl rfl rfl ?_
 have f121 : Exa Z h120 xb "java/lang/StringBuilder" := (f119.wr W120)
 have f122 : Fld Z h120 xb "java/lang/AbstractStringBuilder" "value" "[B" (.ref xt) := ((Vxb.keep Kq116 (ninS nbt nin0)).other W120 (Or.inr (slot_ne (Or.inl (hv hw 73 rfl)) (Or.inl (hv hw 97 rfl)) (by decide) (t := (.array .byte)) (t' := .int) (by decide) (by decide))))
 have f123 : Fld Z h120 xb "java/lang/AbstractStringBuilder" "coder" "B" (.int 0) := ((Cxb.keep Kq116 (ninS nbt nin0)).other W120 (Or.inr (slot_ne (Or.inl (hv hw 75 rfl)) (Or.inl (hv hw 97 rfl)) (by decide) (t := .byte) (t' := .int) (by decide) (by decide))))
 have f124 : Arv Z h120 xt kt .byte (Int32.ofNat N) (pad N (X ++ us)) (.int 0) := (q1_116.other W120 (Ne.symm nbt))
 obtain ⟨fs, hr, hrun, hended, hW, hsame⟩ := X120.leave (v := (some (.ref xb))) (fun h => by rw [Bd.returns] at h; cases h)
 refine Go.fin (retOut X120 hx Bd.returns rfl (Or.inr (Or.inr (Or.inr (Or.inr ⟨rfl, rfl, rfl⟩)))) (hb hby d68_22_44) hr) (hF _ _ hrun hended ⟨_, _, rfl, ?_, ⟨_, rfl⟩, hW, hsame.mono (by decide) (by decide)⟩)
 ·
  show QHa Z xb xt xy yb ky kt N X us h0 n0 ((some (.ref xb)) : Option Value) T120.heap _
  rw [e120]
  exact ⟨rfl, N120, K120, f121, f122, f123, Fw120, f124⟩
theorem pd_9 : parseMethodDescriptor "(Ljava/lang/String;)Ljava/lang/AbstractStringBuilder;" = some ⟨[(.object "java/lang/String")], some (.object "java/lang/AbstractStringBuilder")⟩ := by decide +kernel
theorem d67_7_2 : decode jdk_67_method_7_code 2 = .ok (.invokespecial 29, 3) := by decide +kernel
theorem d67_7_5 : decode jdk_67_method_7_code 5 = .ok (.pop, 1) := by decide +kernel
theorem d67_7_6 : decode jdk_67_method_7_code 6 = .ok (.aload_n 0, 1) := by decide +kernel
theorem d67_7_7 : decode jdk_67_method_7_code 7 = .ok (.areturn, 1) := by decide +kernel
def QHs (Z : State) (xb xt xy yb : Addr) (ky kt : ClassId) (N : Nat) (X us : List Int32) (h0 : Heap) (n0 : Nat) (v : Option Value) (h : Heap) (L : List Loc) : Prop := v = some (.ref xb) ∧ Fr n0 L ∧ Keep h0 h [xb, xt] ∧ Exa Z h xb "java/lang/StringBuilder" ∧ Fld Z h xb "java/lang/AbstractStringBuilder" "value" "[B" (.ref xt) ∧ Fld Z h xb "java/lang/AbstractStringBuilder" "coder" "B" (.int 0) ∧ Fld Z h xb "java/lang/AbstractStringBuilder" "count" "I" (.int (Int32.ofNat (X ++ us).length)) ∧ Arv Z h xt kt .byte (Int32.ofNat N) (pad N (X ++ us)) (.int 0)
theorem rmHs (l : Launch) (Z : State) (a0 : Array Value) (hw : ∀ d ∈ tables_1, d.before a0 Z = true) (ws : List Jvm.Cond) (xb xt xy yb : Addr) (ky kt : ClassId) (N : Nat) (X us : List Int32) (h0 : Heap) (n0 : Nat) (X00 : Old Z n0 h0) (G1 : Int32) (S1 : Sta Z Z.heap "java/lang/String" "COMPACT_STRINGS" "Z" (.int G1)) (P1 : ¬ G1 = 0) (Exb : Exa Z h0 xb "java/lang/StringBuilder") (Vxb : Fld Z h0 xb "java/lang/AbstractStringBuilder" "value" "[B" (.ref xt)) (Cxb : Fld Z h0 xb "java/lang/AbstractStringBuilder" "coder" "B" (.int 0)) (Nxb : Fld Z h0 xb "java/lang/AbstractStringBuilder" "count" "I" (.int (Int32.ofNat X.length))) (Axt : Arv Z h0 xt kt .byte (Int32.ofNat N) (pad N X) (.int 0)) (Exy : Exa Z h0 xy "java/lang/String") (Cxy : Fld Z h0 xy "java/lang/String" "coder" "B" (.int 0)) (Vxy : Fld Z h0 xy "java/lang/String" "value" "[B" (.ref yb)) (Axy : Arv Z h0 yb ky .byte (Int32.ofNat us.length) (us.map Value.int) (.int 0)) (ge_xb : n0 ≤ xb) (ge_xt : n0 ≤ xt) (nbt : xb ≠ xt) (hN : N ≤ 4000) (hc : X.length + us.length ≤ N) :
  MetFree l yN31 (head1 (Jvm.Cond.code yN31 jdk_67_method_7_code 2 (some (.object "java/lang/StringBuilder")) :: ws) ({ frames := 4, cells := 0, slots := 0, locals := 61 } : Room)) (fun aa U => aa = #[(.ref xb), (.ref xy)] ∧ Z.Warmed39 U.vm ∧ U.heap = h0) (fun _ _ _ _ _ => True) (fun _ U o U' => ∃ v L, o = .returned v ∧ QHs Z xb xt xy yb ky kt N X us h0 n0 v U'.heap L ∧ FrameEnd U o U' L ({ frames := 4, cells := 0, slots := 0, locals := 61 } : Room).cells ({ frames := 4, cells := 0, slots := 0, locals := 61 } : Room).slots) := by
 refine MetFree.of_bodySF (plainFor_of_name pn_3) hisR ?_
 intro p e s m args below meth c s₁ Bd hml0 hP hK
 obtain ⟨rfl, hZ, hh⟩ := hP
 have hx := Bd.exec
 have hby := Bd.bytes
 have hml : c.maxLocals = 2 := hml0
 have hown : s.vm.findClass "java/lang/StringBuilder" = some m.cls := findClass_of_methodNamed Bd.named
 have hnm := (name_of_methodNamed Bd.named Bd.method).1
 have X0 : Stand p l e ({ frames := 4, cells := 0, slots := 0, locals := 61 } : Room) s m #[(.ref xb), (.ref xy)] below meth c s₁ [] 0 0 := Stand.of_body Bd
 have e0 : s₁.heap = h0 := by rw [← hh, Bd.state]; rfl
 have N0 := Fr.nil n0
 have K0 := Keep.refl h0 [xb, xt]
 have ef : entryFrame m #[(.ref xb), (.ref xy)] 2 = mkF m 0 #[vr xb, vr xy] [] := by first | (simp [entryFrame, mkF, argsToLocals, Value.category]; done) | rfl
 rw [ef]
 refine fin_of fun Kx hF => ?_
 show Go p.tables e below Kx _ (mkF m 0 _ [])
 have lX4 : X.length ≤ 4000 := by omega
 have lu4 : us.length ≤ 4000 := by omega
 refine s_aloadN (pc' := 1) X0.here hx (hb hby d67_7_0) rfl rfl rfl ?_
 refine s_aloadN (pc' := 2) X0.here hx (hb hby d67_7_1) rfl rfl rfl ?_
 obtain ⟨_, _, ⟨T125, L125, k125, n125⟩, -, X125, ⟨Lc125, hQ125, l125, y125, z125⟩, st125⟩ := superBack X0 hx hZ (y := yN6) hown (hv hw 81 rfl) (same_of (y := yN6) (z := yN7) (by decide) (hv hw 82 rfl) rfl (hv hw 101 rfl)) (hv hw 82 rfl) (hv hw 83 rfl) (by decide) (backOf (W := 0) (rmHa l Z a0 hw [] xb xt xy yb _ _ N X us h0 n0 X00 G1 S1 P1 Exb Vxb Cxb Nxb Axt Exy Cxy Vxy Axy ge_xb ge_xt nbt hN hc) hZ (hv hw 85 rfl) (hv hw 68 rfl) (by decide) (by decide)) e0 (Ins.self Exb) (g := (mkF m 2 #[vr xb, vr xy] [(.ref xy), (.ref xb)])) rfl (by rw [hml]; rfl) (hv hw 85 rfl) (argsL := [(.ref xy)]) (rest := []) (lenOf pd_9 rfl) rfl (by exact Nat.le_of_eq rfl) (hb hby d67_7_2) (fun _ _ => ⟨rfl, e0, (by decide : 0 + 0 ≤ _), (by decide : 0 + 0 ≤ _)⟩)
 dsimp only [Pt.U, Pt.locs, Pt.cells, Pt.slots] at X125 l125 y125 z125 st125 hQ125
 rw [l125, y125, z125] at X125
 obtain ⟨rfl, Nq125, Kq125, q1_125, q2_125, q3_125, q4_125, q5_125⟩ := hQ125
 have N125 := Fr.app N0 Nq125
 have K125 : Keep h0 T125.heap [xb, xt] := K0.trans Kq125 (allS (P := fun zz => zz ∈ [xb, xt] ∨ h0.size ≤ zz) (Or.inl (List.mem_of_getElem? (i := 0) rfl)) (allS (P := fun zz => zz ∈ [xb, xt] ∨ h0.size ≤ zz) (Or.inl (List.mem_of_getElem? (i := 1) rfl)) all0))
 have O125 : Old Z n0 T125.heap := X00.keep Kq125 (allS ge_xb (allS ge_xt all0))
 refine Go.tr st125 ?_
 show Go p.tables e below Kx _ (mkF m 5 _ [(.ref xb)])
 refine s_pop (pc' := 6) X125.here hx (hb hby d67_7_5) rfl rfl ?_
 refine s_aloadN (pc' := 7) X125.here hx (hb hby d67_7_6) rfl rfl rfl ?_
 obtain ⟨fs, hr, hrun, hended, hW, hsame⟩ := X125.leave (v := (some (.ref xb))) (fun h => by rw [Bd.returns] at h; cases h)
 refine Go.fin (retOut X125 hx Bd.returns rfl (Or.inr (Or.inr (Or.inr (Or.inr ⟨rfl, rfl, rfl⟩)))) (hb hby d67_7_7) hr) (hF _ _ hrun hended ⟨_, _, rfl, ?_, ⟨_, rfl⟩, hW, hsame.mono (by decide) (by decide)⟩)
 ·
  show QHs Z xb xt xy yb ky kt N X us h0 n0 ((some (.ref xb)) : Option Value) T125.heap _
  skip
  exact ⟨rfl, N125, K125, q1_125, q2_125, q3_125, q4_125, q5_125⟩
theorem pd_10 : parseMethodDescriptor "(Ljava/lang/String;)Ljava/lang/StringBuilder;" = some ⟨[(.object "java/lang/String")], some (.object "java/lang/StringBuilder")⟩ := by decide +kernel
theorem p81_2_11 : decode prog_81_method_2_code 11 = .ok (.invokevirtual 26, 3) := by decide +kernel
theorem p81_2_14 : decode prog_81_method_2_code 14 = .ok (.ldc 30, 2) := by decide +kernel
theorem p81_2_16 : decode prog_81_method_2_code 16 = .ok (.invokevirtual 26, 3) := by decide +kernel
theorem p81_2_19 : decode prog_81_method_2_code 19 = .ok (.aload_n 0, 1) := by decide +kernel
theorem p81_2_20 : decode prog_81_method_2_code 20 = .ok (.getfield 16, 3) := by decide +kernel
theorem p81_2_23 : decode prog_81_method_2_code 23 = .ok (.invokevirtual 26, 3) := by decide +kernel
theorem p81_2_26 : decode prog_81_method_2_code 26 = .ok (.ldc 32, 2) := by decide +kernel
theorem p81_2_28 : decode prog_81_method_2_code 28 = .ok (.invokevirtual 26, 3) := by decide +kernel
theorem p81_2_31 : decode prog_81_method_2_code 31 = .ok (.aload_n 0, 1) := by decide +kernel
theorem p81_2_32 : decode prog_81_method_2_code 32 = .ok (.getfield 19, 3) := by decide +kernel
theorem d67_15_0 : decode jdk_67_method_15_code 0 = .ok (.aload_n 0, 1) := by decide +kernel
theorem d67_15_1 : decode jdk_67_method_15_code 1 = .ok (.iload_n 1, 1) := by decide +kernel
theorem d68_32_0 : decode jdk_68_method_32_code 0 = .ok (.aload_n 0, 1) := by decide +kernel
theorem d68_32_1 : decode jdk_68_method_32_code 1 = .ok (.getfield 79, 3) := by decide +kernel
theorem d68_32_4 : decode jdk_68_method_32_code 4 = .ok (.istore_n 2, 1) := by decide +kernel
theorem d68_32_5 : decode jdk_68_method_32_code 5 = .ok (.iload_n 2, 1) := by decide +kernel
theorem d68_32_6 : decode jdk_68_method_32_code 6 = .ok (.iload_n 1, 1) := by decide +kernel
theorem pn_6 : plainName "java/lang/Integer" = true := by first | (simp [plainName, overriddenIn]; done) | decide +kernel
theorem d33_13_0 : decode jdk_33_method_13_code 0 = .ok (.iconst 1, 1) := by decide +kernel
theorem d33_13_1 : decode jdk_33_method_13_code 1 = .ok (.istore_n 1, 1) := by decide +kernel
theorem d33_13_11 : decode jdk_33_method_13_code 11 = .ok (.bipush (-10), 2) := by decide +kernel
theorem d33_13_13 : decode jdk_33_method_13_code 13 = .ok (.istore_n 2, 1) := by decide +kernel
theorem d33_13_14 : decode jdk_33_method_13_code 14 = .ok (.iconst 1, 1) := by decide +kernel
theorem d33_13_15 : decode jdk_33_method_13_code 15 = .ok (.istore_n 3, 1) := by decide +kernel
theorem d33_13_16 : decode jdk_33_method_13_code 16 = .ok (.iload_n 3, 1) := by decide +kernel
theorem d33_13_17 : decode jdk_33_method_13_code 17 = .ok (.bipush 10, 2) := by decide +kernel
theorem d33_13_19 : decode jdk_33_method_13_code 19 = .ok (.if_icmp .ge 23, 3) := by decide +kernel
theorem d33_13_22 : decode jdk_33_method_13_code 22 = .ok (.iload_n 0, 1) := by decide +kernel
theorem d33_13_23 : decode jdk_33_method_13_code 23 = .ok (.iload_n 2, 1) := by decide +kernel
theorem d33_13_24 : decode jdk_33_method_13_code 24 = .ok (.if_icmp .le 7, 3) := by decide +kernel
theorem d33_13_27 : decode jdk_33_method_13_code 27 = .ok (.iload_n 3, 1) := by decide +kernel
theorem d33_13_28 : decode jdk_33_method_13_code 28 = .ok (.iload_n 1, 1) := by decide +kernel
theorem d33_13_29 : decode jdk_33_method_13_code 29 = .ok (.iadd, 1) := by decide +kernel
theorem d33_13_30 : decode jdk_33_method_13_code 30 = .ok (.ireturn, 1) := by decide +kernel
theorem d33_13_31 : decode jdk_33_method_13_code 31 = .ok (.bipush 10, 2) := by decide +kernel
theorem d33_13_33 : decode jdk_33_method_13_code 33 = .ok (.iload_n 2, 1) := by decide +kernel
theorem d33_13_34 : decode jdk_33_method_13_code 34 = .ok (.imul, 1) := by decide +kernel
theorem d33_13_35 : decode jdk_33_method_13_code 35 = .ok (.istore_n 2, 1) := by decide +kernel
theorem d33_13_36 : decode jdk_33_method_13_code 36 = .ok (.iinc 3 1, 3) := by decide +kernel
theorem d33_13_39 : decode jdk_33_method_13_code 39 = .ok (.goto (-23), 3) := by decide +kernel
theorem d33_13_42 : decode jdk_33_method_13_code 42 = .ok (.bipush 10, 2) := by decide +kernel
theorem d33_13_44 : decode jdk_33_method_13_code 44 = .ok (.iload_n 1, 1) := by decide +kernel
theorem d33_13_45 : decode jdk_33_method_13_code 45 = .ok (.iadd, 1) := by decide +kernel
theorem d33_13_46 : decode jdk_33_method_13_code 46 = .ok (.ireturn, 1) := by decide +kernel
theorem d33_13_2 : decode jdk_33_method_13_code 2 = .ok (.iload_n 0, 1) := by decide +kernel
theorem d33_13_3 : decode jdk_33_method_13_code 3 = .ok (.ifCond .lt 8, 3) := by decide +kernel
theorem d33_13_6 : decode jdk_33_method_13_code 6 = .ok (.iconst 0, 1) := by decide +kernel
theorem d33_13_7 : decode jdk_33_method_13_code 7 = .ok (.istore_n 1, 1) := by decide +kernel
theorem d33_13_8 : decode jdk_33_method_13_code 8 = .ok (.iload_n 0, 1) := by decide +kernel
theorem d33_13_9 : decode jdk_33_method_13_code 9 = .ok (.ineg, 1) := by decide +kernel
theorem d33_13_10 : decode jdk_33_method_13_code 10 = .ok (.istore_n 0, 1) := by decide +kernel
def QHss (Z : State) (xl : Int32) (h0 : Heap) (n0 : Nat) (v : Option Value) (h : Heap) (L : List Loc) : Prop := v = some (.int (Int32.ofNat (dec xl).length)) ∧ Fr n0 L ∧ h = h0
theorem rmHss (l : Launch) (Z : State) (a0 : Array Value) (hw : ∀ d ∈ tables_1, d.before a0 Z = true) (ws : List Jvm.Cond) (xl : Int32) (h0 : Heap) (n0 : Nat) (X00 : Old Z n0 h0)  :
  MetFree l yN15 (head1 (Jvm.Cond.code yN15 jdk_33_method_13_code 4 (some .int) :: ws) ({ frames := 0, cells := 0, slots := 0, locals := 0 } : Room)) (fun aa U => aa = #[(.int xl)] ∧ Z.Warmed39 U.vm ∧ U.heap = h0) (fun _ _ _ _ _ => True) (fun _ U o U' => ∃ v L, o = .returned v ∧ QHss Z xl h0 n0 v U'.heap L ∧ FrameEnd U o U' L ({ frames := 0, cells := 0, slots := 0, locals := 0 } : Room).cells ({ frames := 0, cells := 0, slots := 0, locals := 0 } : Room).slots) := by
 refine MetFree.of_bodySF (plainFor_of_name pn_6) hisR ?_
 intro p e s m args below meth c s₁ Bd hml0 hP hK
 obtain ⟨rfl, hZ, hh⟩ := hP
 have hx := Bd.exec
 have hby := Bd.bytes
 have hml : c.maxLocals = 4 := hml0
 have hown : s.vm.findClass "java/lang/Integer" = some m.cls := findClass_of_methodNamed Bd.named
 have hnm := (name_of_methodNamed Bd.named Bd.method).1
 have X0 : Stand p l e ({ frames := 0, cells := 0, slots := 0, locals := 0 } : Room) s m #[(.int xl)] below meth c s₁ [] 0 0 := Stand.of_body Bd
 have e0 : s₁.heap = h0 := by rw [← hh, Bd.state]; rfl
 have N0 := Fr.nil n0
 have K0 := Keep.refl h0 []
 have ef : entryFrame m #[(.int xl)] 4 = mkF m 0 #[vi xl, un, un, un] [] := by first | (simp [entryFrame, mkF, argsToLocals, Value.category]; done) | rfl
 rw [ef]
 refine fin_of fun Kx hF => ?_
 show Go p.tables e below Kx _ (mkF m 0 _ [])
 refine s_iconst (pc' := 1) (v := 1) X0.here hx (hb hby d33_13_0) rfl rfl ?_
 refine s_istoreN (pc' := 2) (Ls' := #[vi xl, vi 1, un, un]) X0.here hx (hb hby d33_13_1) rfl  rfl ?_
 have J : ∀ (xx dd : Int32) (TJ : State) (LJ : List Loc), Stand p l e ({ frames := 0, cells := 0, slots := 0, locals := 0 } : Room) s m #[(.int xl)] below meth c TJ LJ 0 0 → Fr n0 LJ → TJ.heap = h0 → xx.toInt = -(xl.toInt.natAbs : Int) → (∀ K : Nat, IsNd xl.toInt.natAbs K → Int32.ofNat K + dd = (Int32.ofNat (dec xl).length)) → Go p.tables e below Kx TJ (mkF m 11 #[vi xx, vi dd, un, un] []) := by
  intro xx dd TJ LJ XJ NJ eJ hxx hdd
  show Go p.tables e below Kx _ (mkF m 11 _ [])
  refine s_bipush (pc' := 13) (v := (-10 : Int32)) XJ.here hx (hb hby d33_13_11) rfl rfl ?_
  refine s_istoreN (pc' := 14) (Ls' := #[vi xx, vi dd, vi (-10), un]) XJ.here hx (hb hby d33_13_13) rfl  rfl ?_
  refine s_iconst (pc' := 15) (v := 1) XJ.here hx (hb hby d33_13_14) rfl rfl ?_
  refine s_istoreN (pc' := 16) (Ls' := #[vi xx, vi dd, vi (-10), vi 1]) XJ.here hx (hb hby d33_13_15) rfl  rfl ?_
  refine s_iloadN (pc' := 17) XJ.here hx (hb hby d33_13_16) rfl rfl ?_
  refine s_bipush (pc' := 19) (v := 10) XJ.here hx (hb hby d33_13_17) rfl rfl ?_
  refine s_icmpN (pc' := 22) XJ.here hx (hb hby d33_13_19) rfl (tlt (by decide)).2.1 ?_
  refine s_iloadN (pc' := 23) XJ.here hx (hb hby d33_13_22) rfl rfl ?_
  refine s_iloadN (pc' := 24) XJ.here hx (hb hby d33_13_23) rfl rfl ?_
  by_cases hc169 : (-10 : Int32) < xx
  ·
   refine s_icmpN (pc' := 27) XJ.here hx (hb hby d33_13_24) rfl (tlt hc169).2.2.2 ?_
   refine s_iloadN (pc' := 28) XJ.here hx (hb hby d33_13_27) rfl rfl ?_
   refine s_iloadN (pc' := 29) XJ.here hx (hb hby d33_13_28) rfl rfl ?_
   refine s_iadd (pc' := 30) XJ.here hx (hb hby d33_13_29) rfl rfl ?_
   obtain ⟨fs, hr, hrun, hended, hW, hsame⟩ := XJ.leave (v := (some (.int ((1 : Int32) + dd)))) (fun h => by rw [Bd.returns] at h; cases h)
   refine Go.fin (retI XJ hx Bd.returns (hb hby d33_13_30) hr) (hF _ _ hrun hended ⟨_, _, rfl, ?_, ⟨_, rfl⟩, hW, hsame.mono (by decide) (by decide)⟩)
   ·
    show QHss Z xl h0 n0 ((some (.int ((1 : Int32) + dd))) : Option Value) TJ.heap _
    rw [eJ]
    exact ⟨congrArg (fun z => some (Value.int z)) (hdd 1 ⟨nd_up hxx (K := 1) (by decide) hc169, Or.inl rfl⟩), NJ, rfl⟩
  ·
   refine s_icmpY (pc' := 31) XJ.here hx (hb hby d33_13_24) (flt hc169).2.2.2 (by decide) (by decide) ?_
   refine s_bipush (pc' := 33) (v := 10) XJ.here hx (hb hby d33_13_31) rfl rfl ?_
   refine s_iloadN (pc' := 34) XJ.here hx (hb hby d33_13_33) rfl rfl ?_
   refine s_imul (pc' := 35) (z := (-100 : Int32)) XJ.here hx (hb hby d33_13_34) rfl (by decide) ?_
   refine s_istoreN (pc' := 36) (Ls' := #[vi xx, vi dd, vi (-100), vi 1]) XJ.here hx (hb hby d33_13_35) rfl  rfl ?_
   refine s_iinc (pc' := 39) (Ls' := #[vi xx, vi dd, vi (-100), vi 2]) (z := 2) XJ.here hx (hb hby d33_13_36) rfl rfl (by decide) rfl ?_
   refine s_goto (pc' := 16) XJ.here hx (hb hby d33_13_39) (by decide) (by decide) ?_
   refine s_iloadN (pc' := 17) XJ.here hx (hb hby d33_13_16) rfl rfl ?_
   refine s_bipush (pc' := 19) (v := 10) XJ.here hx (hb hby d33_13_17) rfl rfl ?_
   refine s_icmpN (pc' := 22) XJ.here hx (hb hby d33_13_19) rfl (tlt (by decide)).2.1 ?_
   refine s_iloadN (pc' := 23) XJ.here hx (hb hby d33_13_22) rfl rfl ?_
   refine s_iloadN (pc' := 24) XJ.here hx (hb hby d33_13_23) rfl rfl ?_
   by_cases hc170 : (-100 : Int32) < xx
   ·
    refine s_icmpN (pc' := 27) XJ.here hx (hb hby d33_13_24) rfl (tlt hc170).2.2.2 ?_
    refine s_iloadN (pc' := 28) XJ.here hx (hb hby d33_13_27) rfl rfl ?_
    refine s_iloadN (pc' := 29) XJ.here hx (hb hby d33_13_28) rfl rfl ?_
    refine s_iadd (pc' := 30) XJ.here hx (hb hby d33_13_29) rfl rfl ?_
    obtain ⟨fs, hr, hrun, hended, hW, hsame⟩ := XJ.leave (v := (some (.int ((2 : Int32) + dd)))) (fun h => by rw [Bd.returns] at h; cases h)
    refine Go.fin (retI XJ hx Bd.returns (hb hby d33_13_30) hr) (hF _ _ hrun hended ⟨_, _, rfl, ?_, ⟨_, rfl⟩, hW, hsame.mono (by decide) (by decide)⟩)
    ·
     show QHss Z xl h0 n0 ((some (.int ((2 : Int32) + dd))) : Option Value) TJ.heap _
     rw [eJ]
     exact ⟨congrArg (fun z => some (Value.int z)) (hdd 2 ⟨nd_up hxx (K := 2) (by decide) hc170, Or.inr ⟨by decide, nd_dn hxx (K := 1) (by decide) hc169⟩⟩), NJ, rfl⟩
   ·
    refine s_icmpY (pc' := 31) XJ.here hx (hb hby d33_13_24) (flt hc170).2.2.2 (by decide) (by decide) ?_
    refine s_bipush (pc' := 33) (v := 10) XJ.here hx (hb hby d33_13_31) rfl rfl ?_
    refine s_iloadN (pc' := 34) XJ.here hx (hb hby d33_13_33) rfl rfl ?_
    refine s_imul (pc' := 35) (z := (-1000 : Int32)) XJ.here hx (hb hby d33_13_34) rfl (by decide) ?_
    refine s_istoreN (pc' := 36) (Ls' := #[vi xx, vi dd, vi (-1000), vi 2]) XJ.here hx (hb hby d33_13_35) rfl  rfl ?_
    refine s_iinc (pc' := 39) (Ls' := #[vi xx, vi dd, vi (-1000), vi 3]) (z := 3) XJ.here hx (hb hby d33_13_36) rfl rfl (by decide) rfl ?_
    refine s_goto (pc' := 16) XJ.here hx (hb hby d33_13_39) (by decide) (by decide) ?_
    refine s_iloadN (pc' := 17) XJ.here hx (hb hby d33_13_16) rfl rfl ?_
    refine s_bipush (pc' := 19) (v := 10) XJ.here hx (hb hby d33_13_17) rfl rfl ?_
    refine s_icmpN (pc' := 22) XJ.here hx (hb hby d33_13_19) rfl (tlt (by decide)).2.1 ?_
    refine s_iloadN (pc' := 23) XJ.here hx (hb hby d33_13_22) rfl rfl ?_
    refine s_iloadN (pc' := 24) XJ.here hx (hb hby d33_13_23) rfl rfl ?_
    by_cases hc171 : (-1000 : Int32) < xx
    ·
     refine s_icmpN (pc' := 27) XJ.here hx (hb hby d33_13_24) rfl (tlt hc171).2.2.2 ?_
     refine s_iloadN (pc' := 28) XJ.here hx (hb hby d33_13_27) rfl rfl ?_
     refine s_iloadN (pc' := 29) XJ.here hx (hb hby d33_13_28) rfl rfl ?_
     refine s_iadd (pc' := 30) XJ.here hx (hb hby d33_13_29) rfl rfl ?_
     obtain ⟨fs, hr, hrun, hended, hW, hsame⟩ := XJ.leave (v := (some (.int ((3 : Int32) + dd)))) (fun h => by rw [Bd.returns] at h; cases h)
     refine Go.fin (retI XJ hx Bd.returns (hb hby d33_13_30) hr) (hF _ _ hrun hended ⟨_, _, rfl, ?_, ⟨_, rfl⟩, hW, hsame.mono (by decide) (by decide)⟩)
     ·
      show QHss Z xl h0 n0 ((some (.int ((3 : Int32) + dd))) : Option Value) TJ.heap _
      rw [eJ]
      exact ⟨congrArg (fun z => some (Value.int z)) (hdd 3 ⟨nd_up hxx (K := 3) (by decide) hc171, Or.inr ⟨by decide, nd_dn hxx (K := 2) (by decide) hc170⟩⟩), NJ, rfl⟩
    ·
     refine s_icmpY (pc' := 31) XJ.here hx (hb hby d33_13_24) (flt hc171).2.2.2 (by decide) (by decide) ?_
     refine s_bipush (pc' := 33) (v := 10) XJ.here hx (hb hby d33_13_31) rfl rfl ?_
     refine s_iloadN (pc' := 34) XJ.here hx (hb hby d33_13_33) rfl rfl ?_
     refine s_imul (pc' := 35) (z := (-10000 : Int32)) XJ.here hx (hb hby d33_13_34) rfl (by decide) ?_
     refine s_istoreN (pc' := 36) (Ls' := #[vi xx, vi dd, vi (-10000), vi 3]) XJ.here hx (hb hby d33_13_35) rfl  rfl ?_
     refine s_iinc (pc' := 39) (Ls' := #[vi xx, vi dd, vi (-10000), vi 4]) (z := 4) XJ.here hx (hb hby d33_13_36) rfl rfl (by decide) rfl ?_
     refine s_goto (pc' := 16) XJ.here hx (hb hby d33_13_39) (by decide) (by decide) ?_
     refine s_iloadN (pc' := 17) XJ.here hx (hb hby d33_13_16) rfl rfl ?_
     refine s_bipush (pc' := 19) (v := 10) XJ.here hx (hb hby d33_13_17) rfl rfl ?_
     refine s_icmpN (pc' := 22) XJ.here hx (hb hby d33_13_19) rfl (tlt (by decide)).2.1 ?_
     refine s_iloadN (pc' := 23) XJ.here hx (hb hby d33_13_22) rfl rfl ?_
     refine s_iloadN (pc' := 24) XJ.here hx (hb hby d33_13_23) rfl rfl ?_
     by_cases hc172 : (-10000 : Int32) < xx
     ·
      refine s_icmpN (pc' := 27) XJ.here hx (hb hby d33_13_24) rfl (tlt hc172).2.2.2 ?_
      refine s_iloadN (pc' := 28) XJ.here hx (hb hby d33_13_27) rfl rfl ?_
      refine s_iloadN (pc' := 29) XJ.here hx (hb hby d33_13_28) rfl rfl ?_
      refine s_iadd (pc' := 30) XJ.here hx (hb hby d33_13_29) rfl rfl ?_
      obtain ⟨fs, hr, hrun, hended, hW, hsame⟩ := XJ.leave (v := (some (.int ((4 : Int32) + dd)))) (fun h => by rw [Bd.returns] at h; cases h)
      refine Go.fin (retI XJ hx Bd.returns (hb hby d33_13_30) hr) (hF _ _ hrun hended ⟨_, _, rfl, ?_, ⟨_, rfl⟩, hW, hsame.mono (by decide) (by decide)⟩)
      ·
       show QHss Z xl h0 n0 ((some (.int ((4 : Int32) + dd))) : Option Value) TJ.heap _
       rw [eJ]
       exact ⟨congrArg (fun z => some (Value.int z)) (hdd 4 ⟨nd_up hxx (K := 4) (by decide) hc172, Or.inr ⟨by decide, nd_dn hxx (K := 3) (by decide) hc171⟩⟩), NJ, rfl⟩
     ·
      refine s_icmpY (pc' := 31) XJ.here hx (hb hby d33_13_24) (flt hc172).2.2.2 (by decide) (by decide) ?_
      refine s_bipush (pc' := 33) (v := 10) XJ.here hx (hb hby d33_13_31) rfl rfl ?_
      refine s_iloadN (pc' := 34) XJ.here hx (hb hby d33_13_33) rfl rfl ?_
      refine s_imul (pc' := 35) (z := (-100000 : Int32)) XJ.here hx (hb hby d33_13_34) rfl (by decide) ?_
      refine s_istoreN (pc' := 36) (Ls' := #[vi xx, vi dd, vi (-100000), vi 4]) XJ.here hx (hb hby d33_13_35) rfl  rfl ?_
      refine s_iinc (pc' := 39) (Ls' := #[vi xx, vi dd, vi (-100000), vi 5]) (z := 5) XJ.here hx (hb hby d33_13_36) rfl rfl (by decide) rfl ?_
      refine s_goto (pc' := 16) XJ.here hx (hb hby d33_13_39) (by decide) (by decide) ?_
      refine s_iloadN (pc' := 17) XJ.here hx (hb hby d33_13_16) rfl rfl ?_
      refine s_bipush (pc' := 19) (v := 10) XJ.here hx (hb hby d33_13_17) rfl rfl ?_
      refine s_icmpN (pc' := 22) XJ.here hx (hb hby d33_13_19) rfl (tlt (by decide)).2.1 ?_
      refine s_iloadN (pc' := 23) XJ.here hx (hb hby d33_13_22) rfl rfl ?_
      refine s_iloadN (pc' := 24) XJ.here hx (hb hby d33_13_23) rfl rfl ?_
      by_cases hc173 : (-100000 : Int32) < xx
      ·
       refine s_icmpN (pc' := 27) XJ.here hx (hb hby d33_13_24) rfl (tlt hc173).2.2.2 ?_
       refine s_iloadN (pc' := 28) XJ.here hx (hb hby d33_13_27) rfl rfl ?_
       refine s_iloadN (pc' := 29) XJ.here hx (hb hby d33_13_28) rfl rfl ?_
       refine s_iadd (pc' := 30) XJ.here hx (hb hby d33_13_29) rfl rfl ?_
       obtain ⟨fs, hr, hrun, hended, hW, hsame⟩ := XJ.leave (v := (some (.int ((5 : Int32) + dd)))) (fun h => by rw [Bd.returns] at h; cases h)
       refine Go.fin (retI XJ hx Bd.returns (hb hby d33_13_30) hr) (hF _ _ hrun hended ⟨_, _, rfl, ?_, ⟨_, rfl⟩, hW, hsame.mono (by decide) (by decide)⟩)
       ·
        show QHss Z xl h0 n0 ((some (.int ((5 : Int32) + dd))) : Option Value) TJ.heap _
        rw [eJ]
        exact ⟨congrArg (fun z => some (Value.int z)) (hdd 5 ⟨nd_up hxx (K := 5) (by decide) hc173, Or.inr ⟨by decide, nd_dn hxx (K := 4) (by decide) hc172⟩⟩), NJ, rfl⟩
      ·
       refine s_icmpY (pc' := 31) XJ.here hx (hb hby d33_13_24) (flt hc173).2.2.2 (by decide) (by decide) ?_
       refine s_bipush (pc' := 33) (v := 10) XJ.here hx (hb hby d33_13_31) rfl rfl ?_
       refine s_iloadN (pc' := 34) XJ.here hx (hb hby d33_13_33) rfl rfl ?_
       refine s_imul (pc' := 35) (z := (-1000000 : Int32)) XJ.here hx (hb hby d33_13_34) rfl (by decide) ?_
       refine s_istoreN (pc' := 36) (Ls' := #[vi xx, vi dd, vi (-1000000), vi 5]) XJ.here hx (hb hby d33_13_35) rfl  rfl ?_
       refine s_iinc (pc' := 39) (Ls' := #[vi xx, vi dd, vi (-1000000), vi 6]) (z := 6) XJ.here hx (hb hby d33_13_36) rfl rfl (by decide) rfl ?_
       refine s_goto (pc' := 16) XJ.here hx (hb hby d33_13_39) (by decide) (by decide) ?_
       refine s_iloadN (pc' := 17) XJ.here hx (hb hby d33_13_16) rfl rfl ?_
       refine s_bipush (pc' := 19) (v := 10) XJ.here hx (hb hby d33_13_17) rfl rfl ?_
       refine s_icmpN (pc' := 22) XJ.here hx (hb hby d33_13_19) rfl (tlt (by decide)).2.1 ?_
       refine s_iloadN (pc' := 23) XJ.here hx (hb hby d33_13_22) rfl rfl ?_
       refine s_iloadN (pc' := 24) XJ.here hx (hb hby d33_13_23) rfl rfl ?_
       by_cases hc174 : (-1000000 : Int32) < xx
       ·
        refine s_icmpN (pc' := 27) XJ.here hx (hb hby d33_13_24) rfl (tlt hc174).2.2.2 ?_
        refine s_iloadN (pc' := 28) XJ.here hx (hb hby d33_13_27) rfl rfl ?_
        refine s_iloadN (pc' := 29) XJ.here hx (hb hby d33_13_28) rfl rfl ?_
        refine s_iadd (pc' := 30) XJ.here hx (hb hby d33_13_29) rfl rfl ?_
        obtain ⟨fs, hr, hrun, hended, hW, hsame⟩ := XJ.leave (v := (some (.int ((6 : Int32) + dd)))) (fun h => by rw [Bd.returns] at h; cases h)
        refine Go.fin (retI XJ hx Bd.returns (hb hby d33_13_30) hr) (hF _ _ hrun hended ⟨_, _, rfl, ?_, ⟨_, rfl⟩, hW, hsame.mono (by decide) (by decide)⟩)
        ·
         show QHss Z xl h0 n0 ((some (.int ((6 : Int32) + dd))) : Option Value) TJ.heap _
         rw [eJ]
         exact ⟨congrArg (fun z => some (Value.int z)) (hdd 6 ⟨nd_up hxx (K := 6) (by decide) hc174, Or.inr ⟨by decide, nd_dn hxx (K := 5) (by decide) hc173⟩⟩), NJ, rfl⟩
       ·
        refine s_icmpY (pc' := 31) XJ.here hx (hb hby d33_13_24) (flt hc174).2.2.2 (by decide) (by decide) ?_
        refine s_bipush (pc' := 33) (v := 10) XJ.here hx (hb hby d33_13_31) rfl rfl ?_
        refine s_iloadN (pc' := 34) XJ.here hx (hb hby d33_13_33) rfl rfl ?_
        refine s_imul (pc' := 35) (z := (-10000000 : Int32)) XJ.here hx (hb hby d33_13_34) rfl (by decide) ?_
        refine s_istoreN (pc' := 36) (Ls' := #[vi xx, vi dd, vi (-10000000), vi 6]) XJ.here hx (hb hby d33_13_35) rfl  rfl ?_
        refine s_iinc (pc' := 39) (Ls' := #[vi xx, vi dd, vi (-10000000), vi 7]) (z := 7) XJ.here hx (hb hby d33_13_36) rfl rfl (by decide) rfl ?_
        refine s_goto (pc' := 16) XJ.here hx (hb hby d33_13_39) (by decide) (by decide) ?_
        refine s_iloadN (pc' := 17) XJ.here hx (hb hby d33_13_16) rfl rfl ?_
        refine s_bipush (pc' := 19) (v := 10) XJ.here hx (hb hby d33_13_17) rfl rfl ?_
        refine s_icmpN (pc' := 22) XJ.here hx (hb hby d33_13_19) rfl (tlt (by decide)).2.1 ?_
        refine s_iloadN (pc' := 23) XJ.here hx (hb hby d33_13_22) rfl rfl ?_
        refine s_iloadN (pc' := 24) XJ.here hx (hb hby d33_13_23) rfl rfl ?_
        by_cases hc175 : (-10000000 : Int32) < xx
        ·
         refine s_icmpN (pc' := 27) XJ.here hx (hb hby d33_13_24) rfl (tlt hc175).2.2.2 ?_
         refine s_iloadN (pc' := 28) XJ.here hx (hb hby d33_13_27) rfl rfl ?_
         refine s_iloadN (pc' := 29) XJ.here hx (hb hby d33_13_28) rfl rfl ?_
         refine s_iadd (pc' := 30) XJ.here hx (hb hby d33_13_29) rfl rfl ?_
         obtain ⟨fs, hr, hrun, hended, hW, hsame⟩ := XJ.leave (v := (some (.int ((7 : Int32) + dd)))) (fun h => by rw [Bd.returns] at h; cases h)
         refine Go.fin (retI XJ hx Bd.returns (hb hby d33_13_30) hr) (hF _ _ hrun hended ⟨_, _, rfl, ?_, ⟨_, rfl⟩, hW, hsame.mono (by decide) (by decide)⟩)
         ·
          show QHss Z xl h0 n0 ((some (.int ((7 : Int32) + dd))) : Option Value) TJ.heap _
          rw [eJ]
          exact ⟨congrArg (fun z => some (Value.int z)) (hdd 7 ⟨nd_up hxx (K := 7) (by decide) hc175, Or.inr ⟨by decide, nd_dn hxx (K := 6) (by decide) hc174⟩⟩), NJ, rfl⟩
        ·
         refine s_icmpY (pc' := 31) XJ.here hx (hb hby d33_13_24) (flt hc175).2.2.2 (by decide) (by decide) ?_
         refine s_bipush (pc' := 33) (v := 10) XJ.here hx (hb hby d33_13_31) rfl rfl ?_
         refine s_iloadN (pc' := 34) XJ.here hx (hb hby d33_13_33) rfl rfl ?_
         refine s_imul (pc' := 35) (z := (-100000000 : Int32)) XJ.here hx (hb hby d33_13_34) rfl (by decide) ?_
         refine s_istoreN (pc' := 36) (Ls' := #[vi xx, vi dd, vi (-100000000), vi 7]) XJ.here hx (hb hby d33_13_35) rfl  rfl ?_
         refine s_iinc (pc' := 39) (Ls' := #[vi xx, vi dd, vi (-100000000), vi 8]) (z := 8) XJ.here hx (hb hby d33_13_36) rfl rfl (by decide) rfl ?_
         refine s_goto (pc' := 16) XJ.here hx (hb hby d33_13_39) (by decide) (by decide) ?_
         refine s_iloadN (pc' := 17) XJ.here hx (hb hby d33_13_16) rfl rfl ?_
         refine s_bipush (pc' := 19) (v := 10) XJ.here hx (hb hby d33_13_17) rfl rfl ?_
         refine s_icmpN (pc' := 22) XJ.here hx (hb hby d33_13_19) rfl (tlt (by decide)).2.1 ?_
         refine s_iloadN (pc' := 23) XJ.here hx (hb hby d33_13_22) rfl rfl ?_
         refine s_iloadN (pc' := 24) XJ.here hx (hb hby d33_13_23) rfl rfl ?_
         by_cases hc176 : (-100000000 : Int32) < xx
         ·
          refine s_icmpN (pc' := 27) XJ.here hx (hb hby d33_13_24) rfl (tlt hc176).2.2.2 ?_
          refine s_iloadN (pc' := 28) XJ.here hx (hb hby d33_13_27) rfl rfl ?_
          refine s_iloadN (pc' := 29) XJ.here hx (hb hby d33_13_28) rfl rfl ?_
          refine s_iadd (pc' := 30) XJ.here hx (hb hby d33_13_29) rfl rfl ?_
          obtain ⟨fs, hr, hrun, hended, hW, hsame⟩ := XJ.leave (v := (some (.int ((8 : Int32) + dd)))) (fun h => by rw [Bd.returns] at h; cases h)
          refine Go.fin (retI XJ hx Bd.returns (hb hby d33_13_30) hr) (hF _ _ hrun hended ⟨_, _, rfl, ?_, ⟨_, rfl⟩, hW, hsame.mono (by decide) (by decide)⟩)
          ·
           show QHss Z xl h0 n0 ((some (.int ((8 : Int32) + dd))) : Option Value) TJ.heap _
           rw [eJ]
           exact ⟨congrArg (fun z => some (Value.int z)) (hdd 8 ⟨nd_up hxx (K := 8) (by decide) hc176, Or.inr ⟨by decide, nd_dn hxx (K := 7) (by decide) hc175⟩⟩), NJ, rfl⟩
         ·
          refine s_icmpY (pc' := 31) XJ.here hx (hb hby d33_13_24) (flt hc176).2.2.2 (by decide) (by decide) ?_
          refine s_bipush (pc' := 33) (v := 10) XJ.here hx (hb hby d33_13_31) rfl rfl ?_
          refine s_iloadN (pc' := 34) XJ.here hx (hb hby d33_13_33) rfl rfl ?_
          refine s_imul (pc' := 35) (z := (-1000000000 : Int32)) XJ.here hx (hb hby d33_13_34) rfl (by decide) ?_
          refine s_istoreN (pc' := 36) (Ls' := #[vi xx, vi dd, vi (-1000000000), vi 8]) XJ.here hx (hb hby d33_13_35) rfl  rfl ?_
          refine s_iinc (pc' := 39) (Ls' := #[vi xx, vi dd, vi (-1000000000), vi 9]) (z := 9) XJ.here hx (hb hby d33_13_36) rfl rfl (by decide) rfl ?_
          refine s_goto (pc' := 16) XJ.here hx (hb hby d33_13_39) (by decide) (by decide) ?_
          refine s_iloadN (pc' := 17) XJ.here hx (hb hby d33_13_16) rfl rfl ?_
          refine s_bipush (pc' := 19) (v := 10) XJ.here hx (hb hby d33_13_17) rfl rfl ?_
          refine s_icmpN (pc' := 22) XJ.here hx (hb hby d33_13_19) rfl (tlt (by decide)).2.1 ?_
          refine s_iloadN (pc' := 23) XJ.here hx (hb hby d33_13_22) rfl rfl ?_
          refine s_iloadN (pc' := 24) XJ.here hx (hb hby d33_13_23) rfl rfl ?_
          by_cases hc177 : (-1000000000 : Int32) < xx
          ·
           refine s_icmpN (pc' := 27) XJ.here hx (hb hby d33_13_24) rfl (tlt hc177).2.2.2 ?_
           refine s_iloadN (pc' := 28) XJ.here hx (hb hby d33_13_27) rfl rfl ?_
           refine s_iloadN (pc' := 29) XJ.here hx (hb hby d33_13_28) rfl rfl ?_
           refine s_iadd (pc' := 30) XJ.here hx (hb hby d33_13_29) rfl rfl ?_
           obtain ⟨fs, hr, hrun, hended, hW, hsame⟩ := XJ.leave (v := (some (.int ((9 : Int32) + dd)))) (fun h => by rw [Bd.returns] at h; cases h)
           refine Go.fin (retI XJ hx Bd.returns (hb hby d33_13_30) hr) (hF _ _ hrun hended ⟨_, _, rfl, ?_, ⟨_, rfl⟩, hW, hsame.mono (by decide) (by decide)⟩)
           ·
            show QHss Z xl h0 n0 ((some (.int ((9 : Int32) + dd))) : Option Value) TJ.heap _
            rw [eJ]
            exact ⟨congrArg (fun z => some (Value.int z)) (hdd 9 ⟨nd_up hxx (K := 9) (by decide) hc177, Or.inr ⟨by decide, nd_dn hxx (K := 8) (by decide) hc176⟩⟩), NJ, rfl⟩
          ·
           refine s_icmpY (pc' := 31) XJ.here hx (hb hby d33_13_24) (flt hc177).2.2.2 (by decide) (by decide) ?_
           refine s_bipush (pc' := 33) (v := 10) XJ.here hx (hb hby d33_13_31) rfl rfl ?_
           refine s_iloadN (pc' := 34) XJ.here hx (hb hby d33_13_33) rfl rfl ?_
           refine s_imul (pc' := 35) (z := (-1410065408 : Int32)) XJ.here hx (hb hby d33_13_34) rfl (by decide) ?_
           refine s_istoreN (pc' := 36) (Ls' := #[vi xx, vi dd, vi (-1410065408), vi 9]) XJ.here hx (hb hby d33_13_35) rfl  rfl ?_
           refine s_iinc (pc' := 39) (Ls' := #[vi xx, vi dd, vi (-1410065408), vi 10]) (z := 10) XJ.here hx (hb hby d33_13_36) rfl rfl (by decide) rfl ?_
           refine s_goto (pc' := 16) XJ.here hx (hb hby d33_13_39) (by decide) (by decide) ?_
           refine s_iloadN (pc' := 17) XJ.here hx (hb hby d33_13_16) rfl rfl ?_
           refine s_bipush (pc' := 19) (v := 10) XJ.here hx (hb hby d33_13_17) rfl rfl ?_
           refine s_icmpY (pc' := 42) XJ.here hx (hb hby d33_13_19) (flt (by decide)).2.1 (by decide) (by decide) ?_
           refine s_bipush (pc' := 44) (v := 10) XJ.here hx (hb hby d33_13_42) rfl rfl ?_
           refine s_iloadN (pc' := 45) XJ.here hx (hb hby d33_13_44) rfl rfl ?_
           refine s_iadd (pc' := 46) XJ.here hx (hb hby d33_13_45) rfl rfl ?_
           obtain ⟨fs, hr, hrun, hended, hW, hsame⟩ := XJ.leave (v := (some (.int ((10 : Int32) + dd)))) (fun h => by rw [Bd.returns] at h; cases h)
           refine Go.fin (retI XJ hx Bd.returns (hb hby d33_13_46) hr) (hF _ _ hrun hended ⟨_, _, rfl, ?_, ⟨_, rfl⟩, hW, hsame.mono (by decide) (by decide)⟩)
           ·
            show QHss Z xl h0 n0 ((some (.int ((10 : Int32) + dd))) : Option Value) TJ.heap _
            rw [eJ]
            exact ⟨congrArg (fun z => some (Value.int z)) (hdd 10 ⟨abs_10 xl, Or.inr ⟨by decide, nd_dn hxx (K := 9) (by decide) hc177⟩⟩), NJ, rfl⟩
 refine s_iloadN (pc' := 3) X0.here hx (hb hby d33_13_2) rfl rfl ?_
 by_cases hc178 : xl < (0 : Int32)
 ·
  refine s_ifY (pc' := 11) X0.here hx (hb hby d33_13_3) ((if0 _ _).trans (tlt hc178).1) (by decide) (by decide) ?_
  exact J _ _ _ _ X0 N0 e0 (neg_abs hc178) (dec_ln hc178)
 ·
  refine s_ifN (pc' := 6) X0.here hx (hb hby d33_13_3) rfl ((if0 _ _).trans (flt hc178).1) ?_
  refine s_iconst (pc' := 7) (v := 0) X0.here hx (hb hby d33_13_6) rfl rfl ?_
  refine s_istoreN (pc' := 8) (Ls' := #[vi xl, vi 0, un, un]) X0.here hx (hb hby d33_13_7) rfl  rfl ?_
  refine s_iloadN (pc' := 9) X0.here hx (hb hby d33_13_8) rfl rfl ?_
  refine s_ineg (pc' := 10) X0.here hx (hb hby d33_13_9) rfl rfl ?_
  refine s_istoreN (pc' := 11) (Ls' := #[.val (.int (-xl)), vi 0, un, un]) X0.here hx (hb hby d33_13_10) rfl  rfl ?_
  exact J _ _ _ _ X0 N0 e0 (neg_abs' hc178) (dec_lp hc178)
theorem pd_11 : parseMethodDescriptor "(I)I" = some ⟨[.int], some .int⟩ := by decide +kernel
theorem d68_32_7 : decode jdk_68_method_32_code 7 = .ok (.invokestatic 245, 3) := by decide +kernel
theorem d68_32_10 : decode jdk_68_method_32_code 10 = .ok (.iadd, 1) := by decide +kernel
theorem d68_32_11 : decode jdk_68_method_32_code 11 = .ok (.istore_n 3, 1) := by decide +kernel
theorem d68_32_12 : decode jdk_68_method_32_code 12 = .ok (.aload_n 0, 1) := by decide +kernel
theorem d68_32_13 : decode jdk_68_method_32_code 13 = .ok (.iload_n 3, 1) := by decide +kernel
theorem d68_32_14 : decode jdk_68_method_32_code 14 = .ok (.invokevirtual 100, 3) := by decide +kernel
theorem d68_32_17 : decode jdk_68_method_32_code 17 = .ok (.aload_n 0, 1) := by decide +kernel
theorem d68_68_0 : decode jdk_68_method_68_code 0 = .ok (.getstatic 18, 3) := by decide +kernel
theorem d68_68_3 : decode jdk_68_method_68_code 3 = .ok (.ifCond .eq 14, 3) := by decide +kernel
theorem d68_68_6 : decode jdk_68_method_68_code 6 = .ok (.aload_n 0, 1) := by decide +kernel
theorem d68_68_7 : decode jdk_68_method_68_code 7 = .ok (.getfield 22, 3) := by decide +kernel
theorem d68_68_10 : decode jdk_68_method_68_code 10 = .ok (.ifCond .ne 7, 3) := by decide +kernel
theorem d68_68_13 : decode jdk_68_method_68_code 13 = .ok (.iconst 1, 1) := by decide +kernel
theorem d68_68_14 : decode jdk_68_method_68_code 14 = .ok (.goto 4, 3) := by decide +kernel
theorem d68_68_18 : decode jdk_68_method_68_code 18 = .ok (.ireturn, 1) := by decide +kernel
def QKbl (Z : State) (xb : Addr) (h0 : Heap) (n0 : Nat) (v : Option Value) (h : Heap) (L : List Loc) : Prop := v = some (.int 1) ∧ Fr n0 L ∧ h = h0
theorem rmKbl (l : Launch) (Z : State) (a0 : Array Value) (hw : ∀ d ∈ tables_1, d.before a0 Z = true) (ws : List Jvm.Cond) (xb : Addr) (h0 : Heap) (n0 : Nat) (X00 : Old Z n0 h0) (G1 : Int32) (S1 : Sta Z Z.heap "java/lang/String" "COMPACT_STRINGS" "Z" (.int G1)) (P1 : ¬ G1 = 0) (Cxb : Fld Z h0 xb "java/lang/AbstractStringBuilder" "coder" "B" (.int 0)) :
  MetFree l yN10 (head1 (Jvm.Cond.code yN10 jdk_68_method_68_code 1 (some .boolean) :: ws) ({ frames := 0, cells := 0, slots := 0, locals := 0 } : Room)) (fun aa U => aa = #[(.ref xb)] ∧ Z.Warmed39 U.vm ∧ U.heap = h0) (fun _ _ _ _ _ => True) (fun _ U o U' => ∃ v L, o = .returned v ∧ QKbl Z xb h0 n0 v U'.heap L ∧ FrameEnd U o U' L ({ frames := 0, cells := 0, slots := 0, locals := 0 } : Room).cells ({ frames := 0, cells := 0, slots := 0, locals := 0 } : Room).slots) := by
 refine MetFree.of_bodySF (plainFor_of_name pn_4) hisR ?_
 intro p e s m args below meth c s₁ Bd hml0 hP hK
 obtain ⟨rfl, hZ, hh⟩ := hP
 have hx := Bd.exec
 have hby := Bd.bytes
 have hml : c.maxLocals = 1 := hml0
 have hown : s.vm.findClass "java/lang/AbstractStringBuilder" = some m.cls := findClass_of_methodNamed Bd.named
 have hnm := (name_of_methodNamed Bd.named Bd.method).1
 have X0 : Stand p l e ({ frames := 0, cells := 0, slots := 0, locals := 0 } : Room) s m #[(.ref xb)] below meth c s₁ [] 0 0 := Stand.of_body Bd
 have e0 : s₁.heap = h0 := by rw [← hh, Bd.state]; rfl
 have N0 := Fr.nil n0
 have K0 := Keep.refl h0 []
 have ef : entryFrame m #[(.ref xb)] 1 = mkF m 0 #[vr xb] [] := by first | (simp [entryFrame, mkF, argsToLocals, Value.category]; done) | rfl
 rw [ef]
 refine fin_of fun Kx hF => ?_
 show Go p.tables e below Kx _ (mkF m 0 _ [])
 obtain ⟨T181, X181, e181, st181⟩ := getS2 X0 hx hZ hown (host := "") (Or.inl (hv hw 71 rfl)) Via.refl e0 (S1.ext X00.2) (g := (mkF m 0 #[vr xb] [])) rfl (hb hby d68_68_0)
 refine Go.st st181 ?_
 show Go p.tables e below Kx _ (mkF m 3 _ [(.int G1)])
 refine s_ifN (pc' := 6) X181.here hx (hb hby d68_68_3) rfl ((if0 _ _).trans (feq P1).1) ?_
 refine s_aloadN (pc' := 7) X181.here hx (hb hby d68_68_6) rfl rfl rfl ?_
 obtain ⟨T182, X182, e182, st182⟩ := getF X181 hx hZ hown (host := "") (Or.inl (hv hw 74 rfl)) Via.refl e181 Cxb (g := (mkF m 7 #[vr xb] [(.ref xb)])) rfl rfl (hb hby d68_68_7)
 refine Go.st st182 ?_
 show Go p.tables e below Kx _ (mkF m 10 _ [(.int 0)])
 refine s_ifN (pc' := 13) X182.here hx (hb hby d68_68_10) rfl ((if0 _ _).trans (teq (by decide)).2) ?_
 refine s_iconst (pc' := 14) (v := 1) X182.here hx (hb hby d68_68_13) rfl rfl ?_
 refine s_goto (pc' := 18) X182.here hx (hb hby d68_68_14) (by decide) (by decide) ?_
 obtain ⟨fs, hr, hrun, hended, hW, hsame⟩ := X182.leave (v := (some (.int 1))) (fun h => by rw [Bd.returns] at h; cases h)
 refine Go.fin (retN X182 hx (t := .boolean) Bd.returns (by simp) (hb hby d68_68_18) hr) (hF _ _ hrun hended ⟨_, _, rfl, ?_, ⟨_, rfl⟩, hW, hsame.mono (by decide) (by decide)⟩)
 ·
  show QKbl Z xb h0 n0 ((some (.int 1)) : Option Value) T182.heap _
  rw [e182]
  exact ⟨rfl, N0, rfl⟩
theorem pd_12 : parseMethodDescriptor "()Z" = some ⟨[], some .boolean⟩ := by decide +kernel
theorem d68_32_18 : decode jdk_68_method_32_code 18 = .ok (.invokevirtual 83, 3) := by decide +kernel
theorem d68_32_21 : decode jdk_68_method_32_code 21 = .ok (.ifCond .eq 16, 3) := by decide +kernel
theorem d68_32_24 : decode jdk_68_method_32_code 24 = .ok (.iload_n 1, 1) := by decide +kernel
theorem d68_32_25 : decode jdk_68_method_32_code 25 = .ok (.iload_n 3, 1) := by decide +kernel
theorem d68_32_26 : decode jdk_68_method_32_code 26 = .ok (.aload_n 0, 1) := by decide +kernel
theorem d68_32_27 : decode jdk_68_method_32_code 27 = .ok (.getfield 15, 3) := by decide +kernel
theorem d33_12_0 : decode jdk_33_method_12_code 0 = .ok (.iload_n 1, 1) := by decide +kernel
theorem d33_12_1 : decode jdk_33_method_12_code 1 = .ok (.istore 5, 2) := by decide +kernel
theorem d33_12_22 : decode jdk_33_method_12_code 22 = .ok (.iload_n 0, 1) := by decide +kernel
theorem d33_12_23 : decode jdk_33_method_12_code 23 = .ok (.bipush (-100), 2) := by decide +kernel
theorem d33_12_25 : decode jdk_33_method_12_code 25 = .ok (.if_icmp .gt 47, 3) := by decide +kernel
theorem d33_12_72 : decode jdk_33_method_12_code 72 = .ok (.aload_n 2, 1) := by decide +kernel
theorem d33_12_73 : decode jdk_33_method_12_code 73 = .ok (.iinc 5 (-1), 3) := by decide +kernel
theorem d33_12_76 : decode jdk_33_method_12_code 76 = .ok (.iload 5, 2) := by decide +kernel
theorem d33_12_78 : decode jdk_33_method_12_code 78 = .ok (.getstatic 83, 3) := by decide +kernel
theorem d33_12_81 : decode jdk_33_method_12_code 81 = .ok (.iload_n 0, 1) := by decide +kernel
theorem d33_12_82 : decode jdk_33_method_12_code 82 = .ok (.ineg, 1) := by decide +kernel
theorem d33_12_83 : decode jdk_33_method_12_code 83 = .ok (.baload, 1) := by decide +kernel
theorem d33_12_84 : decode jdk_33_method_12_code 84 = .ok (.bastore, 1) := by decide +kernel
theorem d33_12_85 : decode jdk_33_method_12_code 85 = .ok (.iload_n 0, 1) := by decide +kernel
theorem d33_12_86 : decode jdk_33_method_12_code 86 = .ok (.bipush (-9), 2) := by decide +kernel
theorem d33_12_88 : decode jdk_33_method_12_code 88 = .ok (.if_icmp .ge 16, 3) := by decide +kernel
theorem d33_12_91 : decode jdk_33_method_12_code 91 = .ok (.aload_n 2, 1) := by decide +kernel
theorem d33_12_92 : decode jdk_33_method_12_code 92 = .ok (.iinc 5 (-1), 3) := by decide +kernel
theorem d33_12_95 : decode jdk_33_method_12_code 95 = .ok (.iload 5, 2) := by decide +kernel
theorem d33_12_97 : decode jdk_33_method_12_code 97 = .ok (.getstatic 87, 3) := by decide +kernel
theorem d33_12_100 : decode jdk_33_method_12_code 100 = .ok (.iload_n 0, 1) := by decide +kernel
theorem d33_12_101 : decode jdk_33_method_12_code 101 = .ok (.ineg, 1) := by decide +kernel
theorem d33_12_102 : decode jdk_33_method_12_code 102 = .ok (.baload, 1) := by decide +kernel
theorem d33_12_103 : decode jdk_33_method_12_code 103 = .ok (.bastore, 1) := by decide +kernel
theorem d33_12_104 : decode jdk_33_method_12_code 104 = .ok (.iload 6, 2) := by decide +kernel
theorem d33_12_106 : decode jdk_33_method_12_code 106 = .ok (.ifCond .eq 12, 3) := by decide +kernel
theorem d33_12_109 : decode jdk_33_method_12_code 109 = .ok (.aload_n 2, 1) := by decide +kernel
theorem d33_12_110 : decode jdk_33_method_12_code 110 = .ok (.iinc 5 (-1), 3) := by decide +kernel
theorem d33_12_113 : decode jdk_33_method_12_code 113 = .ok (.iload 5, 2) := by decide +kernel
theorem d33_12_115 : decode jdk_33_method_12_code 115 = .ok (.bipush 45, 2) := by decide +kernel
theorem d33_12_117 : decode jdk_33_method_12_code 117 = .ok (.bastore, 1) := by decide +kernel
theorem d33_12_118 : decode jdk_33_method_12_code 118 = .ok (.iload 5, 2) := by decide +kernel
theorem d33_12_120 : decode jdk_33_method_12_code 120 = .ok (.ireturn, 1) := by decide +kernel
theorem d33_12_28 : decode jdk_33_method_12_code 28 = .ok (.iload_n 0, 1) := by decide +kernel
theorem d33_12_29 : decode jdk_33_method_12_code 29 = .ok (.bipush 100, 2) := by decide +kernel
theorem d33_12_31 : decode jdk_33_method_12_code 31 = .ok (.idiv, 1) := by decide +kernel
theorem d33_12_32 : decode jdk_33_method_12_code 32 = .ok (.istore_n 3, 1) := by decide +kernel
theorem d33_12_33 : decode jdk_33_method_12_code 33 = .ok (.iload_n 3, 1) := by decide +kernel
theorem d33_12_34 : decode jdk_33_method_12_code 34 = .ok (.bipush 100, 2) := by decide +kernel
theorem d33_12_36 : decode jdk_33_method_12_code 36 = .ok (.imul, 1) := by decide +kernel
theorem d33_12_37 : decode jdk_33_method_12_code 37 = .ok (.iload_n 0, 1) := by decide +kernel
theorem d33_12_38 : decode jdk_33_method_12_code 38 = .ok (.isub, 1) := by decide +kernel
theorem d33_12_39 : decode jdk_33_method_12_code 39 = .ok (.istore 4, 2) := by decide +kernel
theorem d33_12_41 : decode jdk_33_method_12_code 41 = .ok (.iload_n 3, 1) := by decide +kernel
theorem d33_12_42 : decode jdk_33_method_12_code 42 = .ok (.istore_n 0, 1) := by decide +kernel
theorem d33_12_43 : decode jdk_33_method_12_code 43 = .ok (.aload_n 2, 1) := by decide +kernel
theorem d33_12_44 : decode jdk_33_method_12_code 44 = .ok (.iinc 5 (-1), 3) := by decide +kernel
theorem d33_12_47 : decode jdk_33_method_12_code 47 = .ok (.iload 5, 2) := by decide +kernel
theorem d33_12_49 : decode jdk_33_method_12_code 49 = .ok (.getstatic 83, 3) := by decide +kernel
theorem d33_12_52 : decode jdk_33_method_12_code 52 = .ok (.iload 4, 2) := by decide +kernel
theorem d33_12_54 : decode jdk_33_method_12_code 54 = .ok (.baload, 1) := by decide +kernel
theorem d33_12_55 : decode jdk_33_method_12_code 55 = .ok (.bastore, 1) := by decide +kernel
theorem d33_12_56 : decode jdk_33_method_12_code 56 = .ok (.aload_n 2, 1) := by decide +kernel
theorem d33_12_57 : decode jdk_33_method_12_code 57 = .ok (.iinc 5 (-1), 3) := by decide +kernel
theorem d33_12_60 : decode jdk_33_method_12_code 60 = .ok (.iload 5, 2) := by decide +kernel
theorem d33_12_62 : decode jdk_33_method_12_code 62 = .ok (.getstatic 87, 3) := by decide +kernel
theorem d33_12_65 : decode jdk_33_method_12_code 65 = .ok (.iload 4, 2) := by decide +kernel
theorem d33_12_67 : decode jdk_33_method_12_code 67 = .ok (.baload, 1) := by decide +kernel
theorem d33_12_68 : decode jdk_33_method_12_code 68 = .ok (.bastore, 1) := by decide +kernel
theorem d33_12_69 : decode jdk_33_method_12_code 69 = .ok (.goto (-47), 3) := by decide +kernel
theorem d33_12_3 : decode jdk_33_method_12_code 3 = .ok (.iload_n 0, 1) := by decide +kernel
theorem d33_12_4 : decode jdk_33_method_12_code 4 = .ok (.ifCond .ge 7, 3) := by decide +kernel
theorem d33_12_7 : decode jdk_33_method_12_code 7 = .ok (.iconst 1, 1) := by decide +kernel
theorem d33_12_8 : decode jdk_33_method_12_code 8 = .ok (.goto 4, 3) := by decide +kernel
theorem d33_12_12 : decode jdk_33_method_12_code 12 = .ok (.istore 6, 2) := by decide +kernel
theorem d33_12_14 : decode jdk_33_method_12_code 14 = .ok (.iload 6, 2) := by decide +kernel
theorem d33_12_16 : decode jdk_33_method_12_code 16 = .ok (.ifCond .ne 6, 3) := by decide +kernel
theorem d33_12_11 : decode jdk_33_method_12_code 11 = .ok (.iconst 0, 1) := by decide +kernel
theorem d33_12_19 : decode jdk_33_method_12_code 19 = .ok (.iload_n 0, 1) := by decide +kernel
theorem d33_12_20 : decode jdk_33_method_12_code 20 = .ok (.ineg, 1) := by decide +kernel
theorem d33_12_21 : decode jdk_33_method_12_code 21 = .ok (.istore_n 0, 1) := by decide +kernel
def QHgc (Z : State) (xl : Int32) (xt : Addr) (kt : ClassId) (N : Nat) (X : List Int32) (h0 : Heap) (n0 : Nat) (v : Option Value) (h : Heap) (L : List Loc) : Prop := (∃ r : Int32, v = some (.int r)) ∧ Fr n0 L ∧ Keep h0 h [xt] ∧ Arv Z h xt kt .byte (Int32.ofNat N) (pad N (X ++ (dec xl))) (.int 0)
theorem rmHgc (l : Launch) (Z : State) (a0 : Array Value) (hw : ∀ d ∈ tables_1, d.before a0 Z = true) (ws : List Jvm.Cond) (xl : Int32) (xt : Addr) (kt : ClassId) (N : Nat) (X : List Int32) (h0 : Heap) (n0 : Nat) (X00 : Old Z n0 h0) (xo xq : Addr) (ko kq : ClassId) (SO : Sta Z Z.heap "java/lang/Integer" "DigitOnes" "[B" (.ref xo)) (SQ : Sta Z Z.heap "java/lang/Integer" "DigitTens" "[B" (.ref xq)) (AO : Arv Z Z.heap xo ko .byte 100 ONES (.int 0)) (AQ : Arv Z Z.heap xq kq .byte 100 TENS (.int 0)) (ge_xt : n0 ≤ xt) (Axt : Arv Z h0 xt kt .byte (Int32.ofNat N) (pad N X) (.int 0)) (hN : N ≤ 4000) (hc : X.length + (dec xl).length ≤ N) :
  MetFree l yN14 (head1 (Jvm.Cond.code yN14 jdk_33_method_12_code 7 (some .int) :: ws) ({ frames := 0, cells := 0, slots := 0, locals := 0 } : Room)) (fun aa U => aa = #[(.int xl), (.int (Int32.ofNat (X ++ (dec xl)).length)), (.ref xt)] ∧ Z.Warmed39 U.vm ∧ U.heap = h0) (fun _ _ _ _ _ => True) (fun _ U o U' => ∃ v L, o = .returned v ∧ QHgc Z xl xt kt N X h0 n0 v U'.heap L ∧ FrameEnd U o U' L ({ frames := 0, cells := 0, slots := 0, locals := 0 } : Room).cells ({ frames := 0, cells := 0, slots := 0, locals := 0 } : Room).slots) := by
 refine MetFree.of_bodySF (plainFor_of_name pn_6) hisR ?_
 intro p e s m args below meth c s₁ Bd hml0 hP hK
 obtain ⟨rfl, hZ, hh⟩ := hP
 have hx := Bd.exec
 have hby := Bd.bytes
 have hml : c.maxLocals = 7 := hml0
 have hown : s.vm.findClass "java/lang/Integer" = some m.cls := findClass_of_methodNamed Bd.named
 have hnm := (name_of_methodNamed Bd.named Bd.method).1
 have X0 : Stand p l e ({ frames := 0, cells := 0, slots := 0, locals := 0 } : Room) s m #[(.int xl), (.int (Int32.ofNat (X ++ (dec xl)).length)), (.ref xt)] below meth c s₁ [] 0 0 := Stand.of_body Bd
 have e0 : s₁.heap = h0 := by rw [← hh, Bd.state]; rfl
 have N0 := Fr.nil n0
 have K0 := Keep.refl h0 [xt]
 have ef : entryFrame m #[(.int xl), (.int (Int32.ofNat (X ++ (dec xl)).length)), (.ref xt)] 7 = mkF m 0 #[vi xl, .val (.int (Int32.ofNat (X ++ (dec xl)).length)), vr xt, un, un, un, un] [] := by first | (simp [entryFrame, mkF, argsToLocals, Value.category]; done) | rfl
 rw [ef]
 refine fin_of fun Kx hF => ?_
 show Go p.tables e below Kx _ (mkF m 0 _ [])
 refine s_iloadN (pc' := 1) X0.here hx (hb hby d33_12_0) rfl rfl ?_
 refine s_istore (pc' := 3) (Ls' := #[vi xl, .val (.int (Int32.ofNat (X ++ (dec xl)).length)), vr xt, un, un, .val (.int (Int32.ofNat (X ++ (dec xl)).length)), un]) X0.here hx (hb hby d33_12_1) rfl  rfl ?_
 have hxd : (X ++ (dec xl)).length = X.length + (dec xl).length := List.length_append
 have hdg := dec_ge xl
 have h10 := abs_10 xl
 have nxo : xo ≠ xt := Nat.ne_of_lt (Nat.lt_of_lt_of_le AO.lt (Nat.le_trans (Nat.le_of_eq X00.1) ge_xt))
 have nxq : xq ≠ xt := Nat.ne_of_lt (Nat.lt_of_lt_of_le AQ.lt (Nat.le_trans (Nat.le_of_eq X00.1) ge_xt))
 have J : ∀ (b k cc : Nat) (ii fl : Int32) (s3 s4 : Slot) (TJ : State) (LJ : List Loc) (hJ : Heap), Stand p l e ({ frames := 0, cells := 0, slots := 0, locals := 0 } : Room) s m #[(.int xl), (.int (Int32.ofNat (X ++ (dec xl)).length)), (.ref xt)] below meth c TJ LJ 0 0 → Fr n0 LJ → TJ.heap = hJ → Keep h0 hJ [xt] → Old Z n0 hJ → ii.toInt = -((xl.toInt.natAbs / 10 ^ k : Nat) : Int) → xl.toInt.natAbs / 10 ^ k < b → (k = 0 ∨ 1 ≤ xl.toInt.natAbs / 10 ^ k) → cc + k = (X ++ (dec xl)).length → ((fl = 1 ∧ xl < 0) ∨ (fl = 0 ∧ ¬ xl < 0)) → Arv Z hJ xt kt .byte (Int32.ofNat N) (mid N X cc (suf xl.toInt.natAbs k)) (.int 0) → (s3 = un ∨ ∃ q : Int32, s3 = vi q) → (s4 = un ∨ ∃ q : Int32, s4 = vi q) → Go p.tables e below Kx TJ (mkF m 22 #[vi ii, .val (.int (Int32.ofNat (X ++ (dec xl)).length)), vr xt, s3, s4, .val (.int (Int32.ofNat cc)), vi fl] []) := by
  intro b
  induction b with
  | zero =>
   intro k cc ii fl s3 s4 TJ LJ hJ XJ NJ eJ KJ OJ hi hbd hk hck hfl AJ h3 h4
   exact absurd hbd (Nat.not_lt_zero _)
  | succ b ih =>
   intro k cc ii fl s3 s4 TJ LJ hJ XJ NJ eJ KJ OJ hi hbd hk hck hfl AJ h3 h4
   have hm := mi_le xl k
   have hsl := suf_len xl.toInt.natAbs k
   by_cases h1 : (-100 : Int32) < ii
   ·
    have hlt := lt100 hi h1
    by_cases h9 : ii < (-9 : Int32)
    ·
     have hnd : IsNd xl.toInt.natAbs (k + 2) := isnd2 hlt (ge10 hi h9)
     rcases hfl with ⟨rfl, hx0⟩ | ⟨rfl, hx0⟩
     ·
      have hd : (dec xl).length = k + 3 := by rw [dec_n hx0 hnd]; simp [suf_len]
      obtain rfl : cc = X.length + 1 + 1 + 1 := by omega
      show Go p.tables e below Kx _ (mkF m 22 _ [])
      refine s_iloadN (pc' := 23) XJ.here hx (hb hby d33_12_22) rfl rfl ?_
      refine s_bipush (pc' := 25) (v := (-100 : Int32)) XJ.here hx (hb hby d33_12_23) rfl rfl ?_
      refine s_icmpY (pc' := 72) XJ.here hx (hb hby d33_12_25) (tlt h1).2.2.1 (by decide) (by decide) ?_
      refine s_aloadN (pc' := 73) XJ.here hx (hb hby d33_12_72) rfl rfl rfl ?_
      refine s_iinc (pc' := 76) (Ls' := #[vi ii, .val (.int (Int32.ofNat (X ++ (dec xl)).length)), vr xt, s3, s4, .val (.int (Int32.ofNat (X.length + 1 + 1))), vi 1]) (z := (Int32.ofNat (X.length + 1 + 1))) XJ.here hx (hb hby d33_12_73) rfl rfl (predN _) rfl ?_
      refine s_iload (pc' := 78) XJ.here hx (hb hby d33_12_76) rfl rfl ?_
      obtain ⟨T185, X185, e185, st185⟩ := getS2 XJ hx hZ hown (host := "") (Or.inl (hv hw 146 rfl)) Via.refl eJ (SO.ext OJ.2) (g := (mkF m 78 #[vi ii, .val (.int (Int32.ofNat (X ++ (dec xl)).length)), vr xt, s3, s4, .val (.int (Int32.ofNat (X.length + 1 + 1))), vi 1] [(.int (Int32.ofNat (X.length + 1 + 1))), (.ref xt)])) rfl (hb hby d33_12_78)
      refine Go.st st185 ?_
      show Go p.tables e below Kx _ (mkF m 81 _ [(.ref xo), (.int (Int32.ofNat (X.length + 1 + 1))), (.ref xt)])
      refine s_iloadN (pc' := 82) X185.here hx (hb hby d33_12_81) rfl rfl ?_
      refine s_ineg (pc' := 83) X185.here hx (hb hby d33_12_82) rfl rfl ?_
      obtain ⟨cl186, Ar186, Aq186, As186, An186, Ah186, Ag186⟩ := id (AO.ext OJ.2)
      have in187 := inb_of (j := (-ii)) As186 (tbl_in (neg_r hi hlt) hlt)
      have at187 : cl186.slots[((-ii)).toNatClampNeg]? = some (.int (dig xl.toInt.natAbs k)) := Ah186.at in187 (ones_at (neg_r hi hlt) hlt rfl _)
      refine Go.st (X185.baloadBytes hx (j := (-ii)) (v := (.int (dig xl.toInt.natAbs k))) (by rw [e185]; exact Ar186.1) (State.isArrayOf_alike hZ.alike Ar186.2.1) Ar186.2.2 in187 at187 (g := (mkF m 83 #[vi ii, .val (.int (Int32.ofNat (X ++ (dec xl)).length)), vr xt, s3, s4, .val (.int (Int32.ofNat (X.length + 1 + 1))), vi 1] [(.int (-ii)), (.ref xo), (.int (Int32.ofNat (X.length + 1 + 1))), (.ref xt)])) rfl rfl (hb hby d33_12_83)) ?_
      show Go p.tables e below Kx _ (mkF m 84 _ [(.int (dig xl.toInt.natAbs k)), (.int (Int32.ofNat (X.length + 1 + 1))), (.ref xt)])
      obtain ⟨cl188, Ar188, Aq188, As188, An188, Ah188, Ag188⟩ := id AJ
      have mm189 : X.length ≤ (X.length + 1 + 1) ∧ (X.length + 1 + 1) + 1 + (suf xl.toInt.natAbs k).length ≤ N := (by (try simp only [List.length_cons]); omega)
      have in189 := inb_of (j := (Int32.ofNat (X.length + 1 + 1))) As188 (inN (c := (X.length + 1 + 1)) (N := N) (by omega) hN)
      obtain ⟨T189, h189, X189, e189, W189, st189⟩ := stB X185 hx hZ e185 Ar188 (j := (Int32.ofNat (X.length + 1 + 1))) in189 (g := (mkF m 84 #[vi ii, .val (.int (Int32.ofNat (X ++ (dec xl)).length)), vr xt, s3, s4, .val (.int (Int32.ofNat (X.length + 1 + 1))), vi 1] [(.int (dig xl.toInt.natAbs k)), (.int (Int32.ofNat (X.length + 1 + 1))), (.ref xt)])) rfl rfl (hb hby d33_12_84)
      have V189 : Arv Z h189 xt kt .byte (Int32.ofNat N) (mid N X (X.length + 1 + 1) ((dig xl.toInt.natAbs k) :: (suf xl.toInt.natAbs k))) (.int 0) := by
       have q := Arv.set Ar188 Aq188 As188 An188 Ah188 Ag188 (fits_nar_byte _) W189 (X.length + 1 + 1) (Jvm.Free.XT.n32 (by omega)) (by rw [mid_len (by omega) (by omega)]; omega)
       rw [dig_b xl.toInt.natAbs k, mid_set mm189.1] at q; exact q
      have K189 : Keep h0 h189 [xt] := KJ.wr W189 (Or.inl (List.mem_of_getElem? (i := 0) rfl))
      have O189 : Old Z n0 h189 := OJ.wr W189 ge_xt
      have N189 := Fr.snoc X189 NJ ge_xt
      refine Go.st st189 ?_
      show Go p.tables e below Kx _ (mkF m 85 _ [])
      refine s_iloadN (pc' := 86) X189.here hx (hb hby d33_12_85) rfl rfl ?_
      refine s_bipush (pc' := 88) (v := (-9 : Int32)) X189.here hx (hb hby d33_12_86) rfl rfl ?_
      refine s_icmpN (pc' := 91) X189.here hx (hb hby d33_12_88) rfl (tlt h9).2.1 ?_
      refine s_aloadN (pc' := 92) X189.here hx (hb hby d33_12_91) rfl rfl rfl ?_
      refine s_iinc (pc' := 95) (Ls' := #[vi ii, .val (.int (Int32.ofNat (X ++ (dec xl)).length)), vr xt, s3, s4, .val (.int (Int32.ofNat (X.length + 1))), vi 1]) (z := (Int32.ofNat (X.length + 1))) X189.here hx (hb hby d33_12_92) rfl rfl (predN _) rfl ?_
      refine s_iload (pc' := 97) X189.here hx (hb hby d33_12_95) rfl rfl ?_
      obtain ⟨T190, X190, e190, st190⟩ := getS2 X189 hx hZ hown (host := "") (Or.inl (hv hw 232 rfl)) Via.refl e189 (SQ.ext O189.2) (g := (mkF m 97 #[vi ii, .val (.int (Int32.ofNat (X ++ (dec xl)).length)), vr xt, s3, s4, .val (.int (Int32.ofNat (X.length + 1))), vi 1] [(.int (Int32.ofNat (X.length + 1))), (.ref xt)])) rfl (hb hby d33_12_97)
      refine Go.st st190 ?_
      show Go p.tables e below Kx _ (mkF m 100 _ [(.ref xq), (.int (Int32.ofNat (X.length + 1))), (.ref xt)])
      refine s_iloadN (pc' := 101) X190.here hx (hb hby d33_12_100) rfl rfl ?_
      refine s_ineg (pc' := 102) X190.here hx (hb hby d33_12_101) rfl rfl ?_
      have f191 : Arv Z h189 xq kq .byte 100 TENS (.int 0) := ((AQ.ext OJ.2).other W189 nxq)
      obtain ⟨cl192, Ar192, Aq192, As192, An192, Ah192, Ag192⟩ := id f191
      have in193 := inb_of (j := (-ii)) As192 (tbl_in (neg_r hi hlt) hlt)
      have at193 : cl192.slots[((-ii)).toNatClampNeg]? = some (.int (dig xl.toInt.natAbs (k + 1))) := Ah192.at in193 (tens_at (neg_r hi hlt) hlt (t_eq hlt) _)
      refine Go.st (X190.baloadBytes hx (j := (-ii)) (v := (.int (dig xl.toInt.natAbs (k + 1)))) (by rw [e190]; exact Ar192.1) (State.isArrayOf_alike hZ.alike Ar192.2.1) Ar192.2.2 in193 at193 (g := (mkF m 102 #[vi ii, .val (.int (Int32.ofNat (X ++ (dec xl)).length)), vr xt, s3, s4, .val (.int (Int32.ofNat (X.length + 1))), vi 1] [(.int (-ii)), (.ref xq), (.int (Int32.ofNat (X.length + 1))), (.ref xt)])) rfl rfl (hb hby d33_12_102)) ?_
      show Go p.tables e below Kx _ (mkF m 103 _ [(.int (dig xl.toInt.natAbs (k + 1))), (.int (Int32.ofNat (X.length + 1))), (.ref xt)])
      obtain ⟨cl194, Ar194, Aq194, As194, An194, Ah194, Ag194⟩ := id V189
      have mm195 : X.length ≤ (X.length + 1) ∧ (X.length + 1) + 1 + ((dig xl.toInt.natAbs k) :: (suf xl.toInt.natAbs k)).length ≤ N := (by (try simp only [List.length_cons]); omega)
      have in195 := inb_of (j := (Int32.ofNat (X.length + 1))) As194 (inN (c := (X.length + 1)) (N := N) (by omega) hN)
      obtain ⟨T195, h195, X195, e195, W195, st195⟩ := stB X190 hx hZ e190 Ar194 (j := (Int32.ofNat (X.length + 1))) in195 (g := (mkF m 103 #[vi ii, .val (.int (Int32.ofNat (X ++ (dec xl)).length)), vr xt, s3, s4, .val (.int (Int32.ofNat (X.length + 1))), vi 1] [(.int (dig xl.toInt.natAbs (k + 1))), (.int (Int32.ofNat (X.length + 1))), (.ref xt)])) rfl rfl (hb hby d33_12_103)
      have V195 : Arv Z h195 xt kt .byte (Int32.ofNat N) (mid N X (X.length + 1) ((dig xl.toInt.natAbs (k + 1)) :: ((dig xl.toInt.natAbs k) :: (suf xl.toInt.natAbs k)))) (.int 0) := by
       have q := Arv.set Ar194 Aq194 As194 An194 Ah194 Ag194 (fits_nar_byte _) W195 (X.length + 1) (Jvm.Free.XT.n32 (by omega)) (by rw [mid_len (by omega) (by omega)]; omega)
       rw [dig_b xl.toInt.natAbs (k + 1), mid_set mm195.1] at q; exact q
      have K195 : Keep h0 h195 [xt] := K189.wr W195 (Or.inl (List.mem_of_getElem? (i := 0) rfl))
      have O195 : Old Z n0 h195 := O189.wr W195 ge_xt
      have N195 := Fr.snoc X195 N189 ge_xt
      refine Go.st st195 ?_
      show Go p.tables e below Kx _ (mkF m 104 _ [])
      refine s_iload (pc' := 106) X195.here hx (hb hby d33_12_104) rfl rfl ?_
      refine s_ifN (pc' := 109) X195.here hx (hb hby d33_12_106) rfl ((if0 _ _).trans (feq (by decide)).1) ?_
      refine s_aloadN (pc' := 110) X195.here hx (hb hby d33_12_109) rfl rfl rfl ?_
      refine s_iinc (pc' := 113) (Ls' := #[vi ii, .val (.int (Int32.ofNat (X ++ (dec xl)).length)), vr xt, s3, s4, .val (.int (Int32.ofNat (X.length))), vi 1]) (z := (Int32.ofNat (X.length))) X195.here hx (hb hby d33_12_110) rfl rfl (predN _) rfl ?_
      refine s_iload (pc' := 115) X195.here hx (hb hby d33_12_113) rfl rfl ?_
      refine s_bipush (pc' := 117) (v := 45) X195.here hx (hb hby d33_12_115) rfl rfl ?_
      obtain ⟨cl196, Ar196, Aq196, As196, An196, Ah196, Ag196⟩ := id V195
      have mm197 : X.length ≤ (X.length) ∧ (X.length) + 1 + ((dig xl.toInt.natAbs (k + 1)) :: ((dig xl.toInt.natAbs k) :: (suf xl.toInt.natAbs k))).length ≤ N := (by (try simp only [List.length_cons]); omega)
      have in197 := inb_of (j := (Int32.ofNat (X.length))) As196 (inN (c := (X.length)) (N := N) (by omega) hN)
      obtain ⟨T197, h197, X197, e197, W197, st197⟩ := stB X195 hx hZ e195 Ar196 (j := (Int32.ofNat (X.length))) in197 (g := (mkF m 117 #[vi ii, .val (.int (Int32.ofNat (X ++ (dec xl)).length)), vr xt, s3, s4, .val (.int (Int32.ofNat (X.length))), vi 1] [(.int 45), (.int (Int32.ofNat (X.length))), (.ref xt)])) rfl rfl (hb hby d33_12_117)
      have V197 : Arv Z h197 xt kt .byte (Int32.ofNat N) (mid N X (X.length) ((45 : Int32) :: ((dig xl.toInt.natAbs (k + 1)) :: ((dig xl.toInt.natAbs k) :: (suf xl.toInt.natAbs k))))) (.int 0) := by
       have q := Arv.set Ar196 Aq196 As196 An196 Ah196 Ag196 (fits_nar_byte _) W197 (X.length) (Jvm.Free.XT.n32 (by omega)) (by rw [mid_len (by omega) (by omega)]; omega)
       rw [show ((45 : Int32)).toInt8.toInt32 = 45 from by decide, mid_set mm197.1] at q; exact q
      have K197 : Keep h0 h197 [xt] := K195.wr W197 (Or.inl (List.mem_of_getElem? (i := 0) rfl))
      have O197 : Old Z n0 h197 := O195.wr W197 ge_xt
      have N197 := Fr.snoc X197 N195 ge_xt
      refine Go.st st197 ?_
      show Go p.tables e below Kx _ (mkF m 118 _ [])
      refine s_iload (pc' := 120) X197.here hx (hb hby d33_12_118) rfl rfl ?_
      obtain ⟨fs, hr, hrun, hended, hW, hsame⟩ := X197.leave (v := (some (.int (Int32.ofNat (X.length))))) (fun h => by rw [Bd.returns] at h; cases h)
      refine Go.fin (retI X197 hx Bd.returns (hb hby d33_12_120) hr) (hF _ _ hrun hended ⟨_, _, rfl, ?_, ⟨_, rfl⟩, hW, hsame.mono (by decide) (by decide)⟩)
      ·
       show QHgc Z xl xt kt N X h0 n0 ((some (.int (Int32.ofNat (X.length)))) : Option Value) T197.heap _
       rw [e197]
       exact ⟨⟨_, rfl⟩, N197, K197, by rw [dec_n hx0 hnd, ← mid_end]; exact V197⟩
     ·
      have hd : (dec xl).length = k + 2 := by rw [dec_p hx0 hnd]; simp [suf_len]
      obtain rfl : cc = X.length + 1 + 1 := by omega
      show Go p.tables e below Kx _ (mkF m 22 _ [])
      refine s_iloadN (pc' := 23) XJ.here hx (hb hby d33_12_22) rfl rfl ?_
      refine s_bipush (pc' := 25) (v := (-100 : Int32)) XJ.here hx (hb hby d33_12_23) rfl rfl ?_
      refine s_icmpY (pc' := 72) XJ.here hx (hb hby d33_12_25) (tlt h1).2.2.1 (by decide) (by decide) ?_
      refine s_aloadN (pc' := 73) XJ.here hx (hb hby d33_12_72) rfl rfl rfl ?_
      refine s_iinc (pc' := 76) (Ls' := #[vi ii, .val (.int (Int32.ofNat (X ++ (dec xl)).length)), vr xt, s3, s4, .val (.int (Int32.ofNat (X.length + 1))), vi 0]) (z := (Int32.ofNat (X.length + 1))) XJ.here hx (hb hby d33_12_73) rfl rfl (predN _) rfl ?_
      refine s_iload (pc' := 78) XJ.here hx (hb hby d33_12_76) rfl rfl ?_
      obtain ⟨T198, X198, e198, st198⟩ := getS2 XJ hx hZ hown (host := "") (Or.inl (hv hw 146 rfl)) Via.refl eJ (SO.ext OJ.2) (g := (mkF m 78 #[vi ii, .val (.int (Int32.ofNat (X ++ (dec xl)).length)), vr xt, s3, s4, .val (.int (Int32.ofNat (X.length + 1))), vi 0] [(.int (Int32.ofNat (X.length + 1))), (.ref xt)])) rfl (hb hby d33_12_78)
      refine Go.st st198 ?_
      show Go p.tables e below Kx _ (mkF m 81 _ [(.ref xo), (.int (Int32.ofNat (X.length + 1))), (.ref xt)])
      refine s_iloadN (pc' := 82) X198.here hx (hb hby d33_12_81) rfl rfl ?_
      refine s_ineg (pc' := 83) X198.here hx (hb hby d33_12_82) rfl rfl ?_
      obtain ⟨cl199, Ar199, Aq199, As199, An199, Ah199, Ag199⟩ := id (AO.ext OJ.2)
      have in200 := inb_of (j := (-ii)) As199 (tbl_in (neg_r hi hlt) hlt)
      have at200 : cl199.slots[((-ii)).toNatClampNeg]? = some (.int (dig xl.toInt.natAbs k)) := Ah199.at in200 (ones_at (neg_r hi hlt) hlt rfl _)
      refine Go.st (X198.baloadBytes hx (j := (-ii)) (v := (.int (dig xl.toInt.natAbs k))) (by rw [e198]; exact Ar199.1) (State.isArrayOf_alike hZ.alike Ar199.2.1) Ar199.2.2 in200 at200 (g := (mkF m 83 #[vi ii, .val (.int (Int32.ofNat (X ++ (dec xl)).length)), vr xt, s3, s4, .val (.int (Int32.ofNat (X.length + 1))), vi 0] [(.int (-ii)), (.ref xo), (.int (Int32.ofNat (X.length + 1))), (.ref xt)])) rfl rfl (hb hby d33_12_83)) ?_
      show Go p.tables e below Kx _ (mkF m 84 _ [(.int (dig xl.toInt.natAbs k)), (.int (Int32.ofNat (X.length + 1))), (.ref xt)])
      obtain ⟨cl201, Ar201, Aq201, As201, An201, Ah201, Ag201⟩ := id AJ
      have mm202 : X.length ≤ (X.length + 1) ∧ (X.length + 1) + 1 + (suf xl.toInt.natAbs k).length ≤ N := (by (try simp only [List.length_cons]); omega)
      have in202 := inb_of (j := (Int32.ofNat (X.length + 1))) As201 (inN (c := (X.length + 1)) (N := N) (by omega) hN)
      obtain ⟨T202, h202, X202, e202, W202, st202⟩ := stB X198 hx hZ e198 Ar201 (j := (Int32.ofNat (X.length + 1))) in202 (g := (mkF m 84 #[vi ii, .val (.int (Int32.ofNat (X ++ (dec xl)).length)), vr xt, s3, s4, .val (.int (Int32.ofNat (X.length + 1))), vi 0] [(.int (dig xl.toInt.natAbs k)), (.int (Int32.ofNat (X.length + 1))), (.ref xt)])) rfl rfl (hb hby d33_12_84)
      have V202 : Arv Z h202 xt kt .byte (Int32.ofNat N) (mid N X (X.length + 1) ((dig xl.toInt.natAbs k) :: (suf xl.toInt.natAbs k))) (.int 0) := by
       have q := Arv.set Ar201 Aq201 As201 An201 Ah201 Ag201 (fits_nar_byte _) W202 (X.length + 1) (Jvm.Free.XT.n32 (by omega)) (by rw [mid_len (by omega) (by omega)]; omega)
       rw [dig_b xl.toInt.natAbs k, mid_set mm202.1] at q; exact q
      have K202 : Keep h0 h202 [xt] := KJ.wr W202 (Or.inl (List.mem_of_getElem? (i := 0) rfl))
      have O202 : Old Z n0 h202 := OJ.wr W202 ge_xt
      have N202 := Fr.snoc X202 NJ ge_xt
      refine Go.st st202 ?_
      show Go p.tables e below Kx _ (mkF m 85 _ [])
      refine s_iloadN (pc' := 86) X202.here hx (hb hby d33_12_85) rfl rfl ?_
      refine s_bipush (pc' := 88) (v := (-9 : Int32)) X202.here hx (hb hby d33_12_86) rfl rfl ?_
      refine s_icmpN (pc' := 91) X202.here hx (hb hby d33_12_88) rfl (tlt h9).2.1 ?_
      refine s_aloadN (pc' := 92) X202.here hx (hb hby d33_12_91) rfl rfl rfl ?_
      refine s_iinc (pc' := 95) (Ls' := #[vi ii, .val (.int (Int32.ofNat (X ++ (dec xl)).length)), vr xt, s3, s4, .val (.int (Int32.ofNat (X.length))), vi 0]) (z := (Int32.ofNat (X.length))) X202.here hx (hb hby d33_12_92) rfl rfl (predN _) rfl ?_
      refine s_iload (pc' := 97) X202.here hx (hb hby d33_12_95) rfl rfl ?_
      obtain ⟨T203, X203, e203, st203⟩ := getS2 X202 hx hZ hown (host := "") (Or.inl (hv hw 232 rfl)) Via.refl e202 (SQ.ext O202.2) (g := (mkF m 97 #[vi ii, .val (.int (Int32.ofNat (X ++ (dec xl)).length)), vr xt, s3, s4, .val (.int (Int32.ofNat (X.length))), vi 0] [(.int (Int32.ofNat (X.length))), (.ref xt)])) rfl (hb hby d33_12_97)
      refine Go.st st203 ?_
      show Go p.tables e below Kx _ (mkF m 100 _ [(.ref xq), (.int (Int32.ofNat (X.length))), (.ref xt)])
      refine s_iloadN (pc' := 101) X203.here hx (hb hby d33_12_100) rfl rfl ?_
      refine s_ineg (pc' := 102) X203.here hx (hb hby d33_12_101) rfl rfl ?_
      have f204 : Arv Z h202 xq kq .byte 100 TENS (.int 0) := ((AQ.ext OJ.2).other W202 nxq)
      obtain ⟨cl205, Ar205, Aq205, As205, An205, Ah205, Ag205⟩ := id f204
      have in206 := inb_of (j := (-ii)) As205 (tbl_in (neg_r hi hlt) hlt)
      have at206 : cl205.slots[((-ii)).toNatClampNeg]? = some (.int (dig xl.toInt.natAbs (k + 1))) := Ah205.at in206 (tens_at (neg_r hi hlt) hlt (t_eq hlt) _)
      refine Go.st (X203.baloadBytes hx (j := (-ii)) (v := (.int (dig xl.toInt.natAbs (k + 1)))) (by rw [e203]; exact Ar205.1) (State.isArrayOf_alike hZ.alike Ar205.2.1) Ar205.2.2 in206 at206 (g := (mkF m 102 #[vi ii, .val (.int (Int32.ofNat (X ++ (dec xl)).length)), vr xt, s3, s4, .val (.int (Int32.ofNat (X.length))), vi 0] [(.int (-ii)), (.ref xq), (.int (Int32.ofNat (X.length))), (.ref xt)])) rfl rfl (hb hby d33_12_102)) ?_
      show Go p.tables e below Kx _ (mkF m 103 _ [(.int (dig xl.toInt.natAbs (k + 1))), (.int (Int32.ofNat (X.length))), (.ref xt)])
      obtain ⟨cl207, Ar207, Aq207, As207, An207, Ah207, Ag207⟩ := id V202
      have mm208 : X.length ≤ (X.length) ∧ (X.length) + 1 + ((dig xl.toInt.natAbs k) :: (suf xl.toInt.natAbs k)).length ≤ N := (by (try simp only [List.length_cons]); omega)
      have in208 := inb_of (j := (Int32.ofNat (X.length))) As207 (inN (c := (X.length)) (N := N) (by omega) hN)
      obtain ⟨T208, h208, X208, e208, W208, st208⟩ := stB X203 hx hZ e203 Ar207 (j := (Int32.ofNat (X.length))) in208 (g := (mkF m 103 #[vi ii, .val (.int (Int32.ofNat (X ++ (dec xl)).length)), vr xt, s3, s4, .val (.int (Int32.ofNat (X.length))), vi 0] [(.int (dig xl.toInt.natAbs (k + 1))), (.int (Int32.ofNat (X.length))), (.ref xt)])) rfl rfl (hb hby d33_12_103)
      have V208 : Arv Z h208 xt kt .byte (Int32.ofNat N) (mid N X (X.length) ((dig xl.toInt.natAbs (k + 1)) :: ((dig xl.toInt.natAbs k) :: (suf xl.toInt.natAbs k)))) (.int 0) := by
       have q := Arv.set Ar207 Aq207 As207 An207 Ah207 Ag207 (fits_nar_byte _) W208 (X.length) (Jvm.Free.XT.n32 (by omega)) (by rw [mid_len (by omega) (by omega)]; omega)
       rw [dig_b xl.toInt.natAbs (k + 1), mid_set mm208.1] at q; exact q
      have K208 : Keep h0 h208 [xt] := K202.wr W208 (Or.inl (List.mem_of_getElem? (i := 0) rfl))
      have O208 : Old Z n0 h208 := O202.wr W208 ge_xt
      have N208 := Fr.snoc X208 N202 ge_xt
      refine Go.st st208 ?_
      show Go p.tables e below Kx _ (mkF m 104 _ [])
      refine s_iload (pc' := 106) X208.here hx (hb hby d33_12_104) rfl rfl ?_
      refine s_ifY (pc' := 118) X208.here hx (hb hby d33_12_106) ((if0 _ _).trans (teq (by decide)).1) (by decide) (by decide) ?_
      refine s_iload (pc' := 120) X208.here hx (hb hby d33_12_118) rfl rfl ?_
      obtain ⟨fs, hr, hrun, hended, hW, hsame⟩ := X208.leave (v := (some (.int (Int32.ofNat (X.length))))) (fun h => by rw [Bd.returns] at h; cases h)
      refine Go.fin (retI X208 hx Bd.returns (hb hby d33_12_120) hr) (hF _ _ hrun hended ⟨_, _, rfl, ?_, ⟨_, rfl⟩, hW, hsame.mono (by decide) (by decide)⟩)
      ·
       show QHgc Z xl xt kt N X h0 n0 ((some (.int (Int32.ofNat (X.length)))) : Option Value) T208.heap _
       rw [e208]
       exact ⟨⟨_, rfl⟩, N208, K208, by rw [dec_p hx0 hnd, ← mid_end]; exact V208⟩
    ·
     have hnd : IsNd xl.toInt.natAbs (k + 1) := isnd1 (lt10 hi h9) hk
     rcases hfl with ⟨rfl, hx0⟩ | ⟨rfl, hx0⟩
     ·
      have hd : (dec xl).length = k + 2 := by rw [dec_n hx0 hnd]; simp [suf_len]
      obtain rfl : cc = X.length + 1 + 1 := by omega
      show Go p.tables e below Kx _ (mkF m 22 _ [])
      refine s_iloadN (pc' := 23) XJ.here hx (hb hby d33_12_22) rfl rfl ?_
      refine s_bipush (pc' := 25) (v := (-100 : Int32)) XJ.here hx (hb hby d33_12_23) rfl rfl ?_
      refine s_icmpY (pc' := 72) XJ.here hx (hb hby d33_12_25) (tlt h1).2.2.1 (by decide) (by decide) ?_
      refine s_aloadN (pc' := 73) XJ.here hx (hb hby d33_12_72) rfl rfl rfl ?_
      refine s_iinc (pc' := 76) (Ls' := #[vi ii, .val (.int (Int32.ofNat (X ++ (dec xl)).length)), vr xt, s3, s4, .val (.int (Int32.ofNat (X.length + 1))), vi 1]) (z := (Int32.ofNat (X.length + 1))) XJ.here hx (hb hby d33_12_73) rfl rfl (predN _) rfl ?_
      refine s_iload (pc' := 78) XJ.here hx (hb hby d33_12_76) rfl rfl ?_
      obtain ⟨T209, X209, e209, st209⟩ := getS2 XJ hx hZ hown (host := "") (Or.inl (hv hw 146 rfl)) Via.refl eJ (SO.ext OJ.2) (g := (mkF m 78 #[vi ii, .val (.int (Int32.ofNat (X ++ (dec xl)).length)), vr xt, s3, s4, .val (.int (Int32.ofNat (X.length + 1))), vi 1] [(.int (Int32.ofNat (X.length + 1))), (.ref xt)])) rfl (hb hby d33_12_78)
      refine Go.st st209 ?_
      show Go p.tables e below Kx _ (mkF m 81 _ [(.ref xo), (.int (Int32.ofNat (X.length + 1))), (.ref xt)])
      refine s_iloadN (pc' := 82) X209.here hx (hb hby d33_12_81) rfl rfl ?_
      refine s_ineg (pc' := 83) X209.here hx (hb hby d33_12_82) rfl rfl ?_
      obtain ⟨cl210, Ar210, Aq210, As210, An210, Ah210, Ag210⟩ := id (AO.ext OJ.2)
      have in211 := inb_of (j := (-ii)) As210 (tbl_in (neg_r hi hlt) hlt)
      have at211 : cl210.slots[((-ii)).toNatClampNeg]? = some (.int (dig xl.toInt.natAbs k)) := Ah210.at in211 (ones_at (neg_r hi hlt) hlt rfl _)
      refine Go.st (X209.baloadBytes hx (j := (-ii)) (v := (.int (dig xl.toInt.natAbs k))) (by rw [e209]; exact Ar210.1) (State.isArrayOf_alike hZ.alike Ar210.2.1) Ar210.2.2 in211 at211 (g := (mkF m 83 #[vi ii, .val (.int (Int32.ofNat (X ++ (dec xl)).length)), vr xt, s3, s4, .val (.int (Int32.ofNat (X.length + 1))), vi 1] [(.int (-ii)), (.ref xo), (.int (Int32.ofNat (X.length + 1))), (.ref xt)])) rfl rfl (hb hby d33_12_83)) ?_
      show Go p.tables e below Kx _ (mkF m 84 _ [(.int (dig xl.toInt.natAbs k)), (.int (Int32.ofNat (X.length + 1))), (.ref xt)])
      obtain ⟨cl212, Ar212, Aq212, As212, An212, Ah212, Ag212⟩ := id AJ
      have mm213 : X.length ≤ (X.length + 1) ∧ (X.length + 1) + 1 + (suf xl.toInt.natAbs k).length ≤ N := (by (try simp only [List.length_cons]); omega)
      have in213 := inb_of (j := (Int32.ofNat (X.length + 1))) As212 (inN (c := (X.length + 1)) (N := N) (by omega) hN)
      obtain ⟨T213, h213, X213, e213, W213, st213⟩ := stB X209 hx hZ e209 Ar212 (j := (Int32.ofNat (X.length + 1))) in213 (g := (mkF m 84 #[vi ii, .val (.int (Int32.ofNat (X ++ (dec xl)).length)), vr xt, s3, s4, .val (.int (Int32.ofNat (X.length + 1))), vi 1] [(.int (dig xl.toInt.natAbs k)), (.int (Int32.ofNat (X.length + 1))), (.ref xt)])) rfl rfl (hb hby d33_12_84)
      have V213 : Arv Z h213 xt kt .byte (Int32.ofNat N) (mid N X (X.length + 1) ((dig xl.toInt.natAbs k) :: (suf xl.toInt.natAbs k))) (.int 0) := by
       have q := Arv.set Ar212 Aq212 As212 An212 Ah212 Ag212 (fits_nar_byte _) W213 (X.length + 1) (Jvm.Free.XT.n32 (by omega)) (by rw [mid_len (by omega) (by omega)]; omega)
       rw [dig_b xl.toInt.natAbs k, mid_set mm213.1] at q; exact q
      have K213 : Keep h0 h213 [xt] := KJ.wr W213 (Or.inl (List.mem_of_getElem? (i := 0) rfl))
      have O213 : Old Z n0 h213 := OJ.wr W213 ge_xt
      have N213 := Fr.snoc X213 NJ ge_xt
      refine Go.st st213 ?_
      show Go p.tables e below Kx _ (mkF m 85 _ [])
      refine s_iloadN (pc' := 86) X213.here hx (hb hby d33_12_85) rfl rfl ?_
      refine s_bipush (pc' := 88) (v := (-9 : Int32)) X213.here hx (hb hby d33_12_86) rfl rfl ?_
      refine s_icmpY (pc' := 104) X213.here hx (hb hby d33_12_88) (flt h9).2.1 (by decide) (by decide) ?_
      refine s_iload (pc' := 106) X213.here hx (hb hby d33_12_104) rfl rfl ?_
      refine s_ifN (pc' := 109) X213.here hx (hb hby d33_12_106) rfl ((if0 _ _).trans (feq (by decide)).1) ?_
      refine s_aloadN (pc' := 110) X213.here hx (hb hby d33_12_109) rfl rfl rfl ?_
      refine s_iinc (pc' := 113) (Ls' := #[vi ii, .val (.int (Int32.ofNat (X ++ (dec xl)).length)), vr xt, s3, s4, .val (.int (Int32.ofNat (X.length))), vi 1]) (z := (Int32.ofNat (X.length))) X213.here hx (hb hby d33_12_110) rfl rfl (predN _) rfl ?_
      refine s_iload (pc' := 115) X213.here hx (hb hby d33_12_113) rfl rfl ?_
      refine s_bipush (pc' := 117) (v := 45) X213.here hx (hb hby d33_12_115) rfl rfl ?_
      obtain ⟨cl214, Ar214, Aq214, As214, An214, Ah214, Ag214⟩ := id V213
      have mm215 : X.length ≤ (X.length) ∧ (X.length) + 1 + ((dig xl.toInt.natAbs k) :: (suf xl.toInt.natAbs k)).length ≤ N := (by (try simp only [List.length_cons]); omega)
      have in215 := inb_of (j := (Int32.ofNat (X.length))) As214 (inN (c := (X.length)) (N := N) (by omega) hN)
      obtain ⟨T215, h215, X215, e215, W215, st215⟩ := stB X213 hx hZ e213 Ar214 (j := (Int32.ofNat (X.length))) in215 (g := (mkF m 117 #[vi ii, .val (.int (Int32.ofNat (X ++ (dec xl)).length)), vr xt, s3, s4, .val (.int (Int32.ofNat (X.length))), vi 1] [(.int 45), (.int (Int32.ofNat (X.length))), (.ref xt)])) rfl rfl (hb hby d33_12_117)
      have V215 : Arv Z h215 xt kt .byte (Int32.ofNat N) (mid N X (X.length) ((45 : Int32) :: ((dig xl.toInt.natAbs k) :: (suf xl.toInt.natAbs k)))) (.int 0) := by
       have q := Arv.set Ar214 Aq214 As214 An214 Ah214 Ag214 (fits_nar_byte _) W215 (X.length) (Jvm.Free.XT.n32 (by omega)) (by rw [mid_len (by omega) (by omega)]; omega)
       rw [show ((45 : Int32)).toInt8.toInt32 = 45 from by decide, mid_set mm215.1] at q; exact q
      have K215 : Keep h0 h215 [xt] := K213.wr W215 (Or.inl (List.mem_of_getElem? (i := 0) rfl))
      have O215 : Old Z n0 h215 := O213.wr W215 ge_xt
      have N215 := Fr.snoc X215 N213 ge_xt
      refine Go.st st215 ?_
      show Go p.tables e below Kx _ (mkF m 118 _ [])
      refine s_iload (pc' := 120) X215.here hx (hb hby d33_12_118) rfl rfl ?_
      obtain ⟨fs, hr, hrun, hended, hW, hsame⟩ := X215.leave (v := (some (.int (Int32.ofNat (X.length))))) (fun h => by rw [Bd.returns] at h; cases h)
      refine Go.fin (retI X215 hx Bd.returns (hb hby d33_12_120) hr) (hF _ _ hrun hended ⟨_, _, rfl, ?_, ⟨_, rfl⟩, hW, hsame.mono (by decide) (by decide)⟩)
      ·
       show QHgc Z xl xt kt N X h0 n0 ((some (.int (Int32.ofNat (X.length)))) : Option Value) T215.heap _
       rw [e215]
       exact ⟨⟨_, rfl⟩, N215, K215, by rw [dec_n hx0 hnd, ← mid_end]; exact V215⟩
     ·
      have hd : (dec xl).length = k + 1 := by rw [dec_p hx0 hnd]; simp [suf_len]
      obtain rfl : cc = X.length + 1 := by omega
      show Go p.tables e below Kx _ (mkF m 22 _ [])
      refine s_iloadN (pc' := 23) XJ.here hx (hb hby d33_12_22) rfl rfl ?_
      refine s_bipush (pc' := 25) (v := (-100 : Int32)) XJ.here hx (hb hby d33_12_23) rfl rfl ?_
      refine s_icmpY (pc' := 72) XJ.here hx (hb hby d33_12_25) (tlt h1).2.2.1 (by decide) (by decide) ?_
      refine s_aloadN (pc' := 73) XJ.here hx (hb hby d33_12_72) rfl rfl rfl ?_
      refine s_iinc (pc' := 76) (Ls' := #[vi ii, .val (.int (Int32.ofNat (X ++ (dec xl)).length)), vr xt, s3, s4, .val (.int (Int32.ofNat (X.length))), vi 0]) (z := (Int32.ofNat (X.length))) XJ.here hx (hb hby d33_12_73) rfl rfl (predN _) rfl ?_
      refine s_iload (pc' := 78) XJ.here hx (hb hby d33_12_76) rfl rfl ?_
      obtain ⟨T216, X216, e216, st216⟩ := getS2 XJ hx hZ hown (host := "") (Or.inl (hv hw 146 rfl)) Via.refl eJ (SO.ext OJ.2) (g := (mkF m 78 #[vi ii, .val (.int (Int32.ofNat (X ++ (dec xl)).length)), vr xt, s3, s4, .val (.int (Int32.ofNat (X.length))), vi 0] [(.int (Int32.ofNat (X.length))), (.ref xt)])) rfl (hb hby d33_12_78)
      refine Go.st st216 ?_
      show Go p.tables e below Kx _ (mkF m 81 _ [(.ref xo), (.int (Int32.ofNat (X.length))), (.ref xt)])
      refine s_iloadN (pc' := 82) X216.here hx (hb hby d33_12_81) rfl rfl ?_
      refine s_ineg (pc' := 83) X216.here hx (hb hby d33_12_82) rfl rfl ?_
      obtain ⟨cl217, Ar217, Aq217, As217, An217, Ah217, Ag217⟩ := id (AO.ext OJ.2)
      have in218 := inb_of (j := (-ii)) As217 (tbl_in (neg_r hi hlt) hlt)
      have at218 : cl217.slots[((-ii)).toNatClampNeg]? = some (.int (dig xl.toInt.natAbs k)) := Ah217.at in218 (ones_at (neg_r hi hlt) hlt rfl _)
      refine Go.st (X216.baloadBytes hx (j := (-ii)) (v := (.int (dig xl.toInt.natAbs k))) (by rw [e216]; exact Ar217.1) (State.isArrayOf_alike hZ.alike Ar217.2.1) Ar217.2.2 in218 at218 (g := (mkF m 83 #[vi ii, .val (.int (Int32.ofNat (X ++ (dec xl)).length)), vr xt, s3, s4, .val (.int (Int32.ofNat (X.length))), vi 0] [(.int (-ii)), (.ref xo), (.int (Int32.ofNat (X.length))), (.ref xt)])) rfl rfl (hb hby d33_12_83)) ?_
      show Go p.tables e below Kx _ (mkF m 84 _ [(.int (dig xl.toInt.natAbs k)), (.int (Int32.ofNat (X.length))), (.ref xt)])
      obtain ⟨cl219, Ar219, Aq219, As219, An219, Ah219, Ag219⟩ := id AJ
      have mm220 : X.length ≤ (X.length) ∧ (X.length) + 1 + (suf xl.toInt.natAbs k).length ≤ N := (by (try simp only [List.length_cons]); omega)
      have in220 := inb_of (j := (Int32.ofNat (X.length))) As219 (inN (c := (X.length)) (N := N) (by omega) hN)
      obtain ⟨T220, h220, X220, e220, W220, st220⟩ := stB X216 hx hZ e216 Ar219 (j := (Int32.ofNat (X.length))) in220 (g := (mkF m 84 #[vi ii, .val (.int (Int32.ofNat (X ++ (dec xl)).length)), vr xt, s3, s4, .val (.int (Int32.ofNat (X.length))), vi 0] [(.int (dig xl.toInt.natAbs k)), (.int (Int32.ofNat (X.length))), (.ref xt)])) rfl rfl (hb hby d33_12_84)
      have V220 : Arv Z h220 xt kt .byte (Int32.ofNat N) (mid N X (X.length) ((dig xl.toInt.natAbs k) :: (suf xl.toInt.natAbs k))) (.int 0) := by
       have q := Arv.set Ar219 Aq219 As219 An219 Ah219 Ag219 (fits_nar_byte _) W220 (X.length) (Jvm.Free.XT.n32 (by omega)) (by rw [mid_len (by omega) (by omega)]; omega)
       rw [dig_b xl.toInt.natAbs k, mid_set mm220.1] at q; exact q
      have K220 : Keep h0 h220 [xt] := KJ.wr W220 (Or.inl (List.mem_of_getElem? (i := 0) rfl))
      have O220 : Old Z n0 h220 := OJ.wr W220 ge_xt
      have N220 := Fr.snoc X220 NJ ge_xt
      refine Go.st st220 ?_
      show Go p.tables e below Kx _ (mkF m 85 _ [])
      refine s_iloadN (pc' := 86) X220.here hx (hb hby d33_12_85) rfl rfl ?_
      refine s_bipush (pc' := 88) (v := (-9 : Int32)) X220.here hx (hb hby d33_12_86) rfl rfl ?_
      refine s_icmpY (pc' := 104) X220.here hx (hb hby d33_12_88) (flt h9).2.1 (by decide) (by decide) ?_
      refine s_iload (pc' := 106) X220.here hx (hb hby d33_12_104) rfl rfl ?_
      refine s_ifY (pc' := 118) X220.here hx (hb hby d33_12_106) ((if0 _ _).trans (teq (by decide)).1) (by decide) (by decide) ?_
      refine s_iload (pc' := 120) X220.here hx (hb hby d33_12_118) rfl rfl ?_
      obtain ⟨fs, hr, hrun, hended, hW, hsame⟩ := X220.leave (v := (some (.int (Int32.ofNat (X.length))))) (fun h => by rw [Bd.returns] at h; cases h)
      refine Go.fin (retI X220 hx Bd.returns (hb hby d33_12_120) hr) (hF _ _ hrun hended ⟨_, _, rfl, ?_, ⟨_, rfl⟩, hW, hsame.mono (by decide) (by decide)⟩)
      ·
       show QHgc Z xl xt kt N X h0 n0 ((some (.int (Int32.ofNat (X.length)))) : Option Value) T220.heap _
       rw [e220]
       exact ⟨⟨_, rfl⟩, N220, K220, by rw [dec_p hx0 hnd, ← mid_end]; exact V220⟩
   ·
    have hge := ge100 hi h1
    have hn3 := nd_ge3 h10 hge
    obtain ⟨c2, rfl⟩ : ∃ c2, cc = c2 + 1 + 1 := ⟨cc - 2, by omega⟩
    show Go p.tables e below Kx _ (mkF m 22 _ [])
    refine s_iloadN (pc' := 23) XJ.here hx (hb hby d33_12_22) rfl rfl ?_
    refine s_bipush (pc' := 25) (v := (-100 : Int32)) XJ.here hx (hb hby d33_12_23) rfl rfl ?_
    refine s_icmpN (pc' := 28) XJ.here hx (hb hby d33_12_25) rfl (flt h1).2.2.1 ?_
    refine s_iloadN (pc' := 29) XJ.here hx (hb hby d33_12_28) rfl rfl ?_
    refine s_bipush (pc' := 31) (v := 100) XJ.here hx (hb hby d33_12_29) rfl rfl ?_
    refine s_idiv (pc' := 32) XJ.here hx (hb hby d33_12_31) rfl (by decide) rfl ?_
    refine s_istoreN (pc' := 33) (Ls' := #[vi ii, .val (.int (Int32.ofNat (X ++ (dec xl)).length)), vr xt, .val (.int (ii / 100)), s4, .val (.int (Int32.ofNat (c2 + 1 + 1))), vi fl]) XJ.here hx (hb hby d33_12_32) rfl  (by rcases h3 with rfl | ⟨_, rfl⟩ <;> rcases h4 with rfl | ⟨_, rfl⟩ <;> rfl) ?_
    refine s_iloadN (pc' := 34) XJ.here hx (hb hby d33_12_33) rfl rfl ?_
    refine s_bipush (pc' := 36) (v := 100) XJ.here hx (hb hby d33_12_34) rfl rfl ?_
    refine s_imul (pc' := 37) XJ.here hx (hb hby d33_12_36) rfl rfl ?_
    refine s_iloadN (pc' := 38) XJ.here hx (hb hby d33_12_37) rfl rfl ?_
    refine s_isub (pc' := 39) XJ.here hx (hb hby d33_12_38) rfl rfl ?_
    refine s_istore (pc' := 41) (Ls' := #[vi ii, .val (.int (Int32.ofNat (X ++ (dec xl)).length)), vr xt, .val (.int (ii / 100)), .val (.int (((ii / 100) * 100) - ii)), .val (.int (Int32.ofNat (c2 + 1 + 1))), vi fl]) XJ.here hx (hb hby d33_12_39) rfl  (by rcases h4 with rfl | ⟨_, rfl⟩ <;> rfl) ?_
    refine s_iloadN (pc' := 42) XJ.here hx (hb hby d33_12_41) rfl rfl ?_
    refine s_istoreN (pc' := 43) (Ls' := #[.val (.int (ii / 100)), .val (.int (Int32.ofNat (X ++ (dec xl)).length)), vr xt, .val (.int (ii / 100)), .val (.int (((ii / 100) * 100) - ii)), .val (.int (Int32.ofNat (c2 + 1 + 1))), vi fl]) XJ.here hx (hb hby d33_12_42) rfl  rfl ?_
    refine s_aloadN (pc' := 44) XJ.here hx (hb hby d33_12_43) rfl rfl rfl ?_
    refine s_iinc (pc' := 47) (Ls' := #[.val (.int (ii / 100)), .val (.int (Int32.ofNat (X ++ (dec xl)).length)), vr xt, .val (.int (ii / 100)), .val (.int (((ii / 100) * 100) - ii)), .val (.int (Int32.ofNat (c2 + 1))), vi fl]) (z := (Int32.ofNat (c2 + 1))) XJ.here hx (hb hby d33_12_44) rfl rfl (predN _) rfl ?_
    refine s_iload (pc' := 49) XJ.here hx (hb hby d33_12_47) rfl rfl ?_
    obtain ⟨T221, X221, e221, st221⟩ := getS2 XJ hx hZ hown (host := "") (Or.inl (hv hw 146 rfl)) Via.refl eJ (SO.ext OJ.2) (g := (mkF m 49 #[.val (.int (ii / 100)), .val (.int (Int32.ofNat (X ++ (dec xl)).length)), vr xt, .val (.int (ii / 100)), .val (.int (((ii / 100) * 100) - ii)), .val (.int (Int32.ofNat (c2 + 1))), vi fl] [(.int (Int32.ofNat (c2 + 1))), (.ref xt)])) rfl (hb hby d33_12_49)
    refine Go.st st221 ?_
    show Go p.tables e below Kx _ (mkF m 52 _ [(.ref xo), (.int (Int32.ofNat (c2 + 1))), (.ref xt)])
    refine s_iload (pc' := 54) X221.here hx (hb hby d33_12_52) rfl rfl ?_
    obtain ⟨cl222, Ar222, Aq222, As222, An222, Ah222, Ag222⟩ := id (AO.ext OJ.2)
    have in223 := inb_of (j := (((ii / 100) * 100) - ii)) As222 (tbl_in (rnd_r hi hm) (Nat.mod_lt _ (by decide)))
    have at223 : cl222.slots[((((ii / 100) * 100) - ii)).toNatClampNeg]? = some (.int (dig xl.toInt.natAbs k)) := Ah222.at in223 (ones_at (rnd_r hi hm) (Nat.mod_lt _ (by decide)) o_eq2 _)
    refine Go.st (X221.baloadBytes hx (j := (((ii / 100) * 100) - ii)) (v := (.int (dig xl.toInt.natAbs k))) (by rw [e221]; exact Ar222.1) (State.isArrayOf_alike hZ.alike Ar222.2.1) Ar222.2.2 in223 at223 (g := (mkF m 54 #[.val (.int (ii / 100)), .val (.int (Int32.ofNat (X ++ (dec xl)).length)), vr xt, .val (.int (ii / 100)), .val (.int (((ii / 100) * 100) - ii)), .val (.int (Int32.ofNat (c2 + 1))), vi fl] [(.int (((ii / 100) * 100) - ii)), (.ref xo), (.int (Int32.ofNat (c2 + 1))), (.ref xt)])) rfl rfl (hb hby d33_12_54)) ?_
    show Go p.tables e below Kx _ (mkF m 55 _ [(.int (dig xl.toInt.natAbs k)), (.int (Int32.ofNat (c2 + 1))), (.ref xt)])
    obtain ⟨cl224, Ar224, Aq224, As224, An224, Ah224, Ag224⟩ := id AJ
    have mm225 : X.length ≤ (c2 + 1) ∧ (c2 + 1) + 1 + (suf xl.toInt.natAbs k).length ≤ N := (by omega)
    have in225 := inb_of (j := (Int32.ofNat (c2 + 1))) As224 (inN (c := (c2 + 1)) (N := N) (by omega) hN)
    obtain ⟨T225, h225, X225, e225, W225, st225⟩ := stB X221 hx hZ e221 Ar224 (j := (Int32.ofNat (c2 + 1))) in225 (g := (mkF m 55 #[.val (.int (ii / 100)), .val (.int (Int32.ofNat (X ++ (dec xl)).length)), vr xt, .val (.int (ii / 100)), .val (.int (((ii / 100) * 100) - ii)), .val (.int (Int32.ofNat (c2 + 1))), vi fl] [(.int (dig xl.toInt.natAbs k)), (.int (Int32.ofNat (c2 + 1))), (.ref xt)])) rfl rfl (hb hby d33_12_55)
    have V225 : Arv Z h225 xt kt .byte (Int32.ofNat N) (mid N X (c2 + 1) ((dig xl.toInt.natAbs k) :: (suf xl.toInt.natAbs k))) (.int 0) := by
     have q := Arv.set Ar224 Aq224 As224 An224 Ah224 Ag224 (fits_nar_byte _) W225 (c2 + 1) (Jvm.Free.XT.n32 (by omega)) (by rw [mid_len (by omega) (by omega)]; omega)
     rw [dig_b xl.toInt.natAbs k, mid_set mm225.1] at q; exact q
    have K225 : Keep h0 h225 [xt] := KJ.wr W225 (Or.inl (List.mem_of_getElem? (i := 0) rfl))
    have O225 : Old Z n0 h225 := OJ.wr W225 ge_xt
    have N225 := Fr.snoc X225 NJ ge_xt
    refine Go.st st225 ?_
    show Go p.tables e below Kx _ (mkF m 56 _ [])
    refine s_aloadN (pc' := 57) X225.here hx (hb hby d33_12_56) rfl rfl rfl ?_
    refine s_iinc (pc' := 60) (Ls' := #[.val (.int (ii / 100)), .val (.int (Int32.ofNat (X ++ (dec xl)).length)), vr xt, .val (.int (ii / 100)), .val (.int (((ii / 100) * 100) - ii)), .val (.int (Int32.ofNat c2)), vi fl]) (z := (Int32.ofNat c2)) X225.here hx (hb hby d33_12_57) rfl rfl (predN _) rfl ?_
    refine s_iload (pc' := 62) X225.here hx (hb hby d33_12_60) rfl rfl ?_
    obtain ⟨T226, X226, e226, st226⟩ := getS2 X225 hx hZ hown (host := "") (Or.inl (hv hw 232 rfl)) Via.refl e225 (SQ.ext O225.2) (g := (mkF m 62 #[.val (.int (ii / 100)), .val (.int (Int32.ofNat (X ++ (dec xl)).length)), vr xt, .val (.int (ii / 100)), .val (.int (((ii / 100) * 100) - ii)), .val (.int (Int32.ofNat c2)), vi fl] [(.int (Int32.ofNat c2)), (.ref xt)])) rfl (hb hby d33_12_62)
    refine Go.st st226 ?_
    show Go p.tables e below Kx _ (mkF m 65 _ [(.ref xq), (.int (Int32.ofNat c2)), (.ref xt)])
    refine s_iload (pc' := 67) X226.here hx (hb hby d33_12_65) rfl rfl ?_
    have f227 : Arv Z h225 xq kq .byte 100 TENS (.int 0) := ((AQ.ext OJ.2).other W225 nxq)
    obtain ⟨cl228, Ar228, Aq228, As228, An228, Ah228, Ag228⟩ := id f227
    have in229 := inb_of (j := (((ii / 100) * 100) - ii)) As228 (tbl_in (rnd_r hi hm) (Nat.mod_lt _ (by decide)))
    have at229 : cl228.slots[((((ii / 100) * 100) - ii)).toNatClampNeg]? = some (.int (dig xl.toInt.natAbs (k + 1))) := Ah228.at in229 (tens_at (rnd_r hi hm) (Nat.mod_lt _ (by decide)) t_eq2 _)
    refine Go.st (X226.baloadBytes hx (j := (((ii / 100) * 100) - ii)) (v := (.int (dig xl.toInt.natAbs (k + 1)))) (by rw [e226]; exact Ar228.1) (State.isArrayOf_alike hZ.alike Ar228.2.1) Ar228.2.2 in229 at229 (g := (mkF m 67 #[.val (.int (ii / 100)), .val (.int (Int32.ofNat (X ++ (dec xl)).length)), vr xt, .val (.int (ii / 100)), .val (.int (((ii / 100) * 100) - ii)), .val (.int (Int32.ofNat c2)), vi fl] [(.int (((ii / 100) * 100) - ii)), (.ref xq), (.int (Int32.ofNat c2)), (.ref xt)])) rfl rfl (hb hby d33_12_67)) ?_
    show Go p.tables e below Kx _ (mkF m 68 _ [(.int (dig xl.toInt.natAbs (k + 1))), (.int (Int32.ofNat c2)), (.ref xt)])
    obtain ⟨cl230, Ar230, Aq230, As230, An230, Ah230, Ag230⟩ := id V225
    have mm231 : X.length ≤ c2 ∧ c2 + 1 + ((dig xl.toInt.natAbs k) :: (suf xl.toInt.natAbs k)).length ≤ N := (by (try simp only [List.length_cons]); omega)
    have in231 := inb_of (j := (Int32.ofNat c2)) As230 (inN (c := c2) (N := N) (by omega) hN)
    obtain ⟨T231, h231, X231, e231, W231, st231⟩ := stB X226 hx hZ e226 Ar230 (j := (Int32.ofNat c2)) in231 (g := (mkF m 68 #[.val (.int (ii / 100)), .val (.int (Int32.ofNat (X ++ (dec xl)).length)), vr xt, .val (.int (ii / 100)), .val (.int (((ii / 100) * 100) - ii)), .val (.int (Int32.ofNat c2)), vi fl] [(.int (dig xl.toInt.natAbs (k + 1))), (.int (Int32.ofNat c2)), (.ref xt)])) rfl rfl (hb hby d33_12_68)
    have V231 : Arv Z h231 xt kt .byte (Int32.ofNat N) (mid N X c2 ((dig xl.toInt.natAbs (k + 1)) :: ((dig xl.toInt.natAbs k) :: (suf xl.toInt.natAbs k)))) (.int 0) := by
     have q := Arv.set Ar230 Aq230 As230 An230 Ah230 Ag230 (fits_nar_byte _) W231 c2 (Jvm.Free.XT.n32 (by omega)) (by rw [mid_len (by omega) (by omega)]; omega)
     rw [dig_b xl.toInt.natAbs (k + 1), mid_set mm231.1] at q; exact q
    have K231 : Keep h0 h231 [xt] := K225.wr W231 (Or.inl (List.mem_of_getElem? (i := 0) rfl))
    have O231 : Old Z n0 h231 := O225.wr W231 ge_xt
    have N231 := Fr.snoc X231 N225 ge_xt
    refine Go.st st231 ?_
    show Go p.tables e below Kx _ (mkF m 69 _ [])
    refine s_goto (pc' := 22) X231.here hx (hb hby d33_12_69) (by decide) (by decide) ?_
    exact ih (k + 2) c2 _ _ _ _ _ _ _ X231 N231 e231 K231 O231 (by rw [dpow2]; exact rnd_q hi) (lt_b hbd hge).1 (Or.inr (lt_b hbd hge).2) (by omega) hfl V231 (Or.inr ⟨_, rfl⟩) (Or.inr ⟨_, rfl⟩)
 show Go p.tables e below Kx _ (mkF m 3 _ [])
 refine s_iloadN (pc' := 4) X0.here hx (hb hby d33_12_3) rfl rfl ?_
 by_cases hc232 : xl < (0 : Int32)
 ·
  refine s_ifN (pc' := 7) X0.here hx (hb hby d33_12_4) rfl ((if0 _ _).trans (tlt hc232).2.1) ?_
  refine s_iconst (pc' := 8) (v := 1) X0.here hx (hb hby d33_12_7) rfl rfl ?_
  refine s_goto (pc' := 12) X0.here hx (hb hby d33_12_8) (by decide) (by decide) ?_
  refine s_istore (pc' := 14) (Ls' := #[vi xl, .val (.int (Int32.ofNat (X ++ (dec xl)).length)), vr xt, un, un, .val (.int (Int32.ofNat (X ++ (dec xl)).length)), vi 1]) X0.here hx (hb hby d33_12_12) rfl  rfl ?_
  refine s_iload (pc' := 16) X0.here hx (hb hby d33_12_14) rfl rfl ?_
  refine s_ifY (pc' := 22) X0.here hx (hb hby d33_12_16) ((if0 _ _).trans (feq (by decide)).2) (by decide) (by decide) ?_
  have M233 : Arv Z h0 xt kt .byte (Int32.ofNat N) (mid N X (X ++ (dec xl)).length (suf xl.toInt.natAbs 0)) (.int 0) := by rw [suf, mid_start (by omega) (by omega)]; exact Axt
  exact J (xl.toInt.natAbs + 1) 0 (X ++ (dec xl)).length _ _ _ _ _ _ _ X0 N0 e0 K0 X00 (by rw [Nat.pow_zero, Nat.div_one]; exact neg_abs hc232) (by rw [Nat.pow_zero, Nat.div_one]; omega) (Or.inl rfl) rfl (Or.inl ⟨rfl, hc232⟩) M233 (Or.inl rfl) (Or.inl rfl)
 ·
  refine s_ifY (pc' := 11) X0.here hx (hb hby d33_12_4) ((if0 _ _).trans (flt hc232).2.1) (by decide) (by decide) ?_
  refine s_iconst (pc' := 12) (v := 0) X0.here hx (hb hby d33_12_11) rfl rfl ?_
  refine s_istore (pc' := 14) (Ls' := #[vi xl, .val (.int (Int32.ofNat (X ++ (dec xl)).length)), vr xt, un, un, .val (.int (Int32.ofNat (X ++ (dec xl)).length)), vi 0]) X0.here hx (hb hby d33_12_12) rfl  rfl ?_
  refine s_iload (pc' := 16) X0.here hx (hb hby d33_12_14) rfl rfl ?_
  refine s_ifN (pc' := 19) X0.here hx (hb hby d33_12_16) rfl ((if0 _ _).trans (teq (by decide)).2) ?_
  refine s_iloadN (pc' := 20) X0.here hx (hb hby d33_12_19) rfl rfl ?_
  refine s_ineg (pc' := 21) X0.here hx (hb hby d33_12_20) rfl rfl ?_
  refine s_istoreN (pc' := 22) (Ls' := #[.val (.int (-xl)), .val (.int (Int32.ofNat (X ++ (dec xl)).length)), vr xt, un, un, .val (.int (Int32.ofNat (X ++ (dec xl)).length)), vi 0]) X0.here hx (hb hby d33_12_21) rfl  rfl ?_
  have M234 : Arv Z h0 xt kt .byte (Int32.ofNat N) (mid N X (X ++ (dec xl)).length (suf xl.toInt.natAbs 0)) (.int 0) := by rw [suf, mid_start (by omega) (by omega)]; exact Axt
  exact J (xl.toInt.natAbs + 1) 0 (X ++ (dec xl)).length _ _ _ _ _ _ _ X0 N0 e0 K0 X00 (by rw [Nat.pow_zero, Nat.div_one]; exact neg_abs' hc232) (by rw [Nat.pow_zero, Nat.div_one]; omega) (Or.inl rfl) rfl (Or.inr ⟨rfl, hc232⟩) M234 (Or.inl rfl) (Or.inl rfl)
theorem pd_13 : parseMethodDescriptor "(II[B)I" = some ⟨[.int, .int, (.array .byte)], some .int⟩ := by decide +kernel
theorem d68_32_30 : decode jdk_68_method_32_code 30 = .ok (.invokestatic 248, 3) := by decide +kernel
theorem d68_32_33 : decode jdk_68_method_32_code 33 = .ok (.pop, 1) := by decide +kernel
theorem d68_32_34 : decode jdk_68_method_32_code 34 = .ok (.goto 14, 3) := by decide +kernel
theorem d68_32_48 : decode jdk_68_method_32_code 48 = .ok (.aload_n 0, 1) := by decide +kernel
theorem d68_32_49 : decode jdk_68_method_32_code 49 = .ok (.iload_n 3, 1) := by decide +kernel
theorem d68_32_50 : decode jdk_68_method_32_code 50 = .ok (.putfield 79, 3) := by decide +kernel
theorem d68_32_53 : decode jdk_68_method_32_code 53 = .ok (.aload_n 0, 1) := by decide +kernel
theorem d68_32_54 : decode jdk_68_method_32_code 54 = .ok (.areturn, 1) := by decide +kernel
theorem d68_9_17 : decode jdk_68_method_9_code 17 = .ok (.aload_n 0, 1) := by decide +kernel
theorem d68_9_18 : decode jdk_68_method_9_code 18 = .ok (.aload_n 0, 1) := by decide +kernel
theorem d68_9_19 : decode jdk_68_method_9_code 19 = .ok (.getfield 15, 3) := by decide +kernel
theorem d68_9_22 : decode jdk_68_method_9_code 22 = .ok (.aload_n 0, 1) := by decide +kernel
theorem d68_9_23 : decode jdk_68_method_9_code 23 = .ok (.iload_n 1, 1) := by decide +kernel
theorem d68_10_0 : decode jdk_68_method_10_code 0 = .ok (.aload_n 0, 1) := by decide +kernel
theorem d68_10_1 : decode jdk_68_method_10_code 1 = .ok (.getfield 15, 3) := by decide +kernel
theorem d68_10_4 : decode jdk_68_method_10_code 4 = .ok (.arraylength, 1) := by decide +kernel
theorem d68_10_5 : decode jdk_68_method_10_code 5 = .ok (.istore_n 2, 1) := by decide +kernel
theorem d68_10_6 : decode jdk_68_method_10_code 6 = .ok (.iload_n 1, 1) := by decide +kernel
theorem d68_10_7 : decode jdk_68_method_10_code 7 = .ok (.aload_n 0, 1) := by decide +kernel
theorem d68_10_8 : decode jdk_68_method_10_code 8 = .ok (.getfield 22, 3) := by decide +kernel
theorem d68_10_11 : decode jdk_68_method_10_code 11 = .ok (.ishl, 1) := by decide +kernel
theorem d68_10_12 : decode jdk_68_method_10_code 12 = .ok (.istore_n 3, 1) := by decide +kernel
theorem d68_10_13 : decode jdk_68_method_10_code 13 = .ok (.iload_n 3, 1) := by decide +kernel
theorem d68_10_14 : decode jdk_68_method_10_code 14 = .ok (.iload_n 2, 1) := by decide +kernel
theorem d68_10_15 : decode jdk_68_method_10_code 15 = .ok (.isub, 1) := by decide +kernel
theorem d68_10_16 : decode jdk_68_method_10_code 16 = .ok (.istore 4, 2) := by decide +kernel
theorem d68_10_18 : decode jdk_68_method_10_code 18 = .ok (.iload_n 2, 1) := by decide +kernel
theorem d68_10_19 : decode jdk_68_method_10_code 19 = .ok (.iload 4, 2) := by decide +kernel
theorem d68_10_21 : decode jdk_68_method_10_code 21 = .ok (.iload_n 2, 1) := by decide +kernel
theorem d68_10_22 : decode jdk_68_method_10_code 22 = .ok (.iconst 2, 1) := by decide +kernel
theorem d68_10_23 : decode jdk_68_method_10_code 23 = .ok (.aload_n 0, 1) := by decide +kernel
theorem d68_10_24 : decode jdk_68_method_10_code 24 = .ok (.getfield 22, 3) := by decide +kernel
theorem d68_10_27 : decode jdk_68_method_10_code 27 = .ok (.ishl, 1) := by decide +kernel
theorem d68_10_28 : decode jdk_68_method_10_code 28 = .ok (.iadd, 1) := by decide +kernel
theorem pn_7 : plainName "jdk/internal/util/ArraysSupport" = true := by first | (simp [plainName, overriddenIn]; done) | decide +kernel
theorem d48_27_0 : decode jdk_48_method_27_code 0 = .ok (.iload_n 0, 1) := by decide +kernel
theorem d48_27_1 : decode jdk_48_method_27_code 1 = .ok (.iload_n 1, 1) := by decide +kernel
theorem d48_27_2 : decode jdk_48_method_27_code 2 = .ok (.iload_n 2, 1) := by decide +kernel
theorem d29_65_0 : decode jdk_29_method_65_code 0 = .ok (.iload_n 0, 1) := by decide +kernel
theorem d29_65_1 : decode jdk_29_method_65_code 1 = .ok (.iload_n 1, 1) := by decide +kernel
theorem d29_65_2 : decode jdk_29_method_65_code 2 = .ok (.if_icmp .lt 7, 3) := by decide +kernel
theorem d29_65_9 : decode jdk_29_method_65_code 9 = .ok (.iload_n 1, 1) := by decide +kernel
theorem d29_65_10 : decode jdk_29_method_65_code 10 = .ok (.ireturn, 1) := by decide +kernel
def QHmx (Z : State) (ja jb : Int32) (h0 : Heap) (n0 : Nat) (v : Option Value) (h : Heap) (L : List Loc) : Prop := v = some (.int jb) ∧ Fr n0 L ∧ h = h0
theorem rmHmx (l : Launch) (Z : State) (a0 : Array Value) (hw : ∀ d ∈ tables_1, d.before a0 Z = true) (ws : List Jvm.Cond) (ja jb : Int32) (h0 : Heap) (n0 : Nat) (X00 : Old Z n0 h0) (hlt : ja < jb) :
  MetFree l yN17 (head1 (Jvm.Cond.code yN17 jdk_29_method_65_code 2 (some .int) :: ws) ({ frames := 0, cells := 0, slots := 0, locals := 0 } : Room)) (fun aa U => aa = #[(.int ja), (.int jb)] ∧ Z.Warmed39 U.vm ∧ U.heap = h0) (fun _ _ _ _ _ => True) (fun _ U o U' => ∃ v L, o = .returned v ∧ QHmx Z ja jb h0 n0 v U'.heap L ∧ FrameEnd U o U' L ({ frames := 0, cells := 0, slots := 0, locals := 0 } : Room).cells ({ frames := 0, cells := 0, slots := 0, locals := 0 } : Room).slots) := by
 refine MetFree.of_bodySF (Jvm.Free.JP.mathPlain rfl (by decide +kernel)) hisR ?_
 intro p e s m args below meth c s₁ Bd hml0 hP hK
 obtain ⟨rfl, hZ, hh⟩ := hP
 have hx := Bd.exec
 have hby := Bd.bytes
 have hml : c.maxLocals = 2 := hml0
 have hown : s.vm.findClass "java/lang/Math" = some m.cls := findClass_of_methodNamed Bd.named
 have hnm := (name_of_methodNamed Bd.named Bd.method).1
 have X0 : Stand p l e ({ frames := 0, cells := 0, slots := 0, locals := 0 } : Room) s m #[(.int ja), (.int jb)] below meth c s₁ [] 0 0 := Stand.of_body Bd
 have e0 : s₁.heap = h0 := by rw [← hh, Bd.state]; rfl
 have N0 := Fr.nil n0
 have K0 := Keep.refl h0 []
 have ef : entryFrame m #[(.int ja), (.int jb)] 2 = mkF m 0 #[vi ja, vi jb] [] := by first | (simp [entryFrame, mkF, argsToLocals, Value.category]; done) | rfl
 rw [ef]
 refine fin_of fun Kx hF => ?_
 show Go p.tables e below Kx _ (mkF m 0 _ [])
 refine s_iloadN (pc' := 1) X0.here hx (hb hby d29_65_0) rfl rfl ?_
 refine s_iloadN (pc' := 2) X0.here hx (hb hby d29_65_1) rfl rfl ?_
 refine s_icmpY (pc' := 9) X0.here hx (hb hby d29_65_2) (tlt hlt).1 (by decide) (by decide) ?_
 refine s_iloadN (pc' := 10) X0.here hx (hb hby d29_65_9) rfl rfl ?_
 obtain ⟨fs, hr, hrun, hended, hW, hsame⟩ := X0.leave (v := (some (.int jb))) (fun h => by rw [Bd.returns] at h; cases h)
 refine Go.fin (retI X0 hx Bd.returns (hb hby d29_65_10) hr) (hF _ _ hrun hended ⟨_, _, rfl, ?_, ⟨_, rfl⟩, hW, hsame.mono (by decide) (by decide)⟩)
 ·
  show QHmx Z ja jb h0 n0 ((some (.int jb)) : Option Value) s₁.heap _
  rw [e0]
  exact ⟨rfl, N0, rfl⟩
theorem pd_14 : parseMethodDescriptor "(II)I" = some ⟨[.int, .int], some .int⟩ := by decide +kernel
theorem d48_27_3 : decode jdk_48_method_27_code 3 = .ok (.invokestatic 194, 3) := by decide +kernel
theorem d48_27_6 : decode jdk_48_method_27_code 6 = .ok (.iadd, 1) := by decide +kernel
theorem d48_27_7 : decode jdk_48_method_27_code 7 = .ok (.istore_n 3, 1) := by decide +kernel
theorem d48_27_8 : decode jdk_48_method_27_code 8 = .ok (.iconst 0, 1) := by decide +kernel
theorem d48_27_9 : decode jdk_48_method_27_code 9 = .ok (.iload_n 3, 1) := by decide +kernel
theorem d48_27_10 : decode jdk_48_method_27_code 10 = .ok (.if_icmp .ge 11, 3) := by decide +kernel
theorem d48_27_13 : decode jdk_48_method_27_code 13 = .ok (.iload_n 3, 1) := by decide +kernel
theorem d48_27_14 : decode jdk_48_method_27_code 14 = .ok (.ldc 200, 2) := by decide +kernel
theorem d48_27_16 : decode jdk_48_method_27_code 16 = .ok (.if_icmp .gt 5, 3) := by decide +kernel
theorem d48_27_19 : decode jdk_48_method_27_code 19 = .ok (.iload_n 3, 1) := by decide +kernel
theorem d48_27_20 : decode jdk_48_method_27_code 20 = .ok (.ireturn, 1) := by decide +kernel
def QHnl (Z : State) (ja : Int32) (h0 : Heap) (n0 : Nat) (v : Option Value) (h : Heap) (L : List Loc) : Prop := v = some (.int 34) ∧ Fr n0 L ∧ h = h0
theorem rmHnl (l : Launch) (Z : State) (a0 : Array Value) (hw : ∀ d ∈ tables_1, d.before a0 Z = true) (ws : List Jvm.Cond) (ja : Int32) (h0 : Heap) (n0 : Nat) (X00 : Old Z n0 h0) (hlt : ja < 18) :
  MetFree l yN39 (head1 (Jvm.Cond.code yN39 jdk_48_method_27_code 4 (some .int) :: ws) ({ frames := 1, cells := 0, slots := 0, locals := 14 } : Room)) (fun aa U => aa = #[(.int 16), (.int ja), (.int 18)] ∧ Z.Warmed39 U.vm ∧ U.heap = h0) (fun _ _ _ _ _ => True) (fun _ U o U' => ∃ v L, o = .returned v ∧ QHnl Z ja h0 n0 v U'.heap L ∧ FrameEnd U o U' L ({ frames := 1, cells := 0, slots := 0, locals := 14 } : Room).cells ({ frames := 1, cells := 0, slots := 0, locals := 14 } : Room).slots) := by
 refine MetFree.of_bodySF (plainFor_of_name pn_7) hisR ?_
 intro p e s m args below meth c s₁ Bd hml0 hP hK
 obtain ⟨rfl, hZ, hh⟩ := hP
 have hx := Bd.exec
 have hby := Bd.bytes
 have hml : c.maxLocals = 4 := hml0
 have hown : s.vm.findClass "jdk/internal/util/ArraysSupport" = some m.cls := findClass_of_methodNamed Bd.named
 have hnm := (name_of_methodNamed Bd.named Bd.method).1
 have X0 : Stand p l e ({ frames := 1, cells := 0, slots := 0, locals := 14 } : Room) s m #[(.int 16), (.int ja), (.int 18)] below meth c s₁ [] 0 0 := Stand.of_body Bd
 have e0 : s₁.heap = h0 := by rw [← hh, Bd.state]; rfl
 have N0 := Fr.nil n0
 have K0 := Keep.refl h0 []
 have ef : entryFrame m #[(.int 16), (.int ja), (.int 18)] 4 = mkF m 0 #[vi 16, vi ja, vi 18, un] [] := by first | (simp [entryFrame, mkF, argsToLocals, Value.category]; done) | rfl
 rw [ef]
 refine fin_of fun Kx hF => ?_
 show Go p.tables e below Kx _ (mkF m 0 _ [])
 refine s_iloadN (pc' := 1) X0.here hx (hb hby d48_27_0) rfl rfl ?_
 refine s_iloadN (pc' := 2) X0.here hx (hb hby d48_27_1) rfl rfl ?_
 refine s_iloadN (pc' := 3) X0.here hx (hb hby d48_27_2) rfl rfl ?_
 obtain ⟨_, T251, L251, X251, hQ251, st251⟩ := kS X0 hx hZ (y := yN17) hown (hv hw 251 rfl) (hv hw 252 rfl) (hv hw 186 rfl) (hv hw 253 rfl) (by decide) (rmHmx l Z a0 hw [] ja 18 h0 n0 X00 hlt) e0 (W := 1) (g := (mkF m 3 #[vi 16, vi ja, vi 18, un] [(.int 18), (.int ja), (.int 16)])) rfl (by rw [hml]; rfl) (argsL := [(.int ja), (.int 18)]) (rest := [(.int 16)]) (lenOf pd_14 rfl) rfl (by exact Nat.le_of_eq rfl) (hb hby d48_27_3) rfl (nb rfl) (nb rfl) (nb rfl) (nb rfl)
 obtain ⟨rfl, Nq251, hE251⟩ := hQ251
 have N251 := Fr.app N0 Nq251
 refine Go.st st251 ?_
 show Go p.tables e below Kx _ (mkF m 6 _ [(.int 18), (.int 16)])
 refine s_iadd (pc' := 7) (z := 34) X251.here hx (hb hby d48_27_6) rfl (by decide) ?_
 refine s_istoreN (pc' := 8) (Ls' := #[vi 16, vi ja, vi 18, vi 34]) X251.here hx (hb hby d48_27_7) rfl  rfl ?_
 refine s_iconst (pc' := 9) (v := 0) X251.here hx (hb hby d48_27_8) rfl rfl ?_
 refine s_iloadN (pc' := 10) X251.here hx (hb hby d48_27_9) rfl rfl ?_
 refine s_icmpN (pc' := 13) X251.here hx (hb hby d48_27_10) rfl (tlt (by decide)).2.1 ?_
 refine s_iloadN (pc' := 14) X251.here hx (hb hby d48_27_13) rfl rfl ?_
 refine Go.st (X251.ldcInt hx hown (mvT hZ (hv hw 254 rfl)) (g := (mkF m 14 #[vi 16, vi ja, vi 18, vi 34] [(.int 34)])) rfl (hb hby d48_27_14)) ?_
 show Go p.tables e below Kx _ (mkF m 16 _ [(.int 2147483639), (.int 34)])
 refine s_icmpN (pc' := 19) X251.here hx (hb hby d48_27_16) rfl (flt (by decide)).2.2.1 ?_
 refine s_iloadN (pc' := 20) X251.here hx (hb hby d48_27_19) rfl rfl ?_
 obtain ⟨fs, hr, hrun, hended, hW, hsame⟩ := X251.leave (v := (some (.int 34))) (fun h => by rw [Bd.returns] at h; cases h)
 refine Go.fin (retI X251 hx Bd.returns (hb hby d48_27_20) hr) (hF _ _ hrun hended ⟨_, _, rfl, ?_, ⟨_, rfl⟩, hW, hsame.mono (by decide) (by decide)⟩)
 ·
  show QHnl Z ja h0 n0 ((some (.int 34)) : Option Value) T251.heap _
  rw [hE251]
  exact ⟨rfl, N251, rfl⟩
theorem pd_15 : parseMethodDescriptor "(III)I" = some ⟨[.int, .int, .int], some .int⟩ := by decide +kernel
theorem d68_10_29 : decode jdk_68_method_10_code 29 = .ok (.invokestatic 114, 3) := by decide +kernel
theorem d68_10_32 : decode jdk_68_method_10_code 32 = .ok (.istore 5, 2) := by decide +kernel
theorem d68_10_34 : decode jdk_68_method_10_code 34 = .ok (.iload 5, 2) := by decide +kernel
theorem d68_10_36 : decode jdk_68_method_10_code 36 = .ok (.ldc 39, 2) := by decide +kernel
theorem d68_10_38 : decode jdk_68_method_10_code 38 = .ok (.if_icmp .ne 13, 3) := by decide +kernel
theorem d68_10_51 : decode jdk_68_method_10_code 51 = .ok (.iload 5, 2) := by decide +kernel
theorem d68_10_53 : decode jdk_68_method_10_code 53 = .ok (.aload_n 0, 1) := by decide +kernel
theorem d68_10_54 : decode jdk_68_method_10_code 54 = .ok (.getfield 22, 3) := by decide +kernel
theorem d68_10_57 : decode jdk_68_method_10_code 57 = .ok (.ishr, 1) := by decide +kernel
theorem d68_10_58 : decode jdk_68_method_10_code 58 = .ok (.ireturn, 1) := by decide +kernel
def QHnc (Z : State) (xb xt : Addr) (kt : ClassId) (X : List Int32) (mc : Int32) (h0 : Heap) (n0 : Nat) (v : Option Value) (h : Heap) (L : List Loc) : Prop := v = some (.int 34) ∧ Fr n0 L ∧ h = h0
theorem rmHnc (l : Launch) (Z : State) (a0 : Array Value) (hw : ∀ d ∈ tables_1, d.before a0 Z = true) (ws : List Jvm.Cond) (xb xt : Addr) (kt : ClassId) (X : List Int32) (mc : Int32) (h0 : Heap) (n0 : Nat) (X00 : Old Z n0 h0) (Vxb : Fld Z h0 xb "java/lang/AbstractStringBuilder" "value" "[B" (.ref xt)) (Cxb : Fld Z h0 xb "java/lang/AbstractStringBuilder" "coder" "B" (.int 0)) (Axt : Arv Z h0 xt kt .byte 16 (pad 16 X) (.int 0)) (hlt : (mc - 16) < 18) :
  MetFree l yN12 (head1 (Jvm.Cond.code yN12 jdk_68_method_10_code 6 (some .int) :: ws) ({ frames := 2, cells := 0, slots := 0, locals := 29 } : Room)) (fun aa U => aa = #[(.ref xb), (.int mc)] ∧ Z.Warmed39 U.vm ∧ U.heap = h0) (fun _ _ _ _ _ => True) (fun _ U o U' => ∃ v L, o = .returned v ∧ QHnc Z xb xt kt X mc h0 n0 v U'.heap L ∧ FrameEnd U o U' L ({ frames := 2, cells := 0, slots := 0, locals := 29 } : Room).cells ({ frames := 2, cells := 0, slots := 0, locals := 29 } : Room).slots) := by
 refine MetFree.of_bodySF (plainFor_of_name pn_4) hisR ?_
 intro p e s m args below meth c s₁ Bd hml0 hP hK
 obtain ⟨rfl, hZ, hh⟩ := hP
 have hx := Bd.exec
 have hby := Bd.bytes
 have hml : c.maxLocals = 6 := hml0
 have hown : s.vm.findClass "java/lang/AbstractStringBuilder" = some m.cls := findClass_of_methodNamed Bd.named
 have hnm := (name_of_methodNamed Bd.named Bd.method).1
 have X0 : Stand p l e ({ frames := 2, cells := 0, slots := 0, locals := 29 } : Room) s m #[(.ref xb), (.int mc)] below meth c s₁ [] 0 0 := Stand.of_body Bd
 have e0 : s₁.heap = h0 := by rw [← hh, Bd.state]; rfl
 have N0 := Fr.nil n0
 have K0 := Keep.refl h0 []
 have ef : entryFrame m #[(.ref xb), (.int mc)] 6 = mkF m 0 #[vr xb, vi mc, un, un, un, un] [] := by first | (simp [entryFrame, mkF, argsToLocals, Value.category]; done) | rfl
 rw [ef]
 refine fin_of fun Kx hF => ?_
 show Go p.tables e below Kx _ (mkF m 0 _ [])
 refine s_aloadN (pc' := 1) X0.here hx (hb hby d68_10_0) rfl rfl rfl ?_
 obtain ⟨T247, X247, e247, st247⟩ := getF X0 hx hZ hown (host := "") (Or.inl (hv hw 72 rfl)) Via.refl e0 Vxb (g := (mkF m 1 #[vr xb, vi mc, un, un, un, un] [(.ref xb)])) rfl rfl (hb hby d68_10_1)
 refine Go.st st247 ?_
 show Go p.tables e below Kx _ (mkF m 4 _ [(.ref xt)])
 obtain ⟨cl248, Ar248, Aq248, As248, An248, Ah248, Ag248⟩ := id Axt
 refine Go.st (X247.arraylength hx (by rw [e247]; exact Ar248.1) (State.isArrayOf_alike hZ.alike Ar248.2.1) (g := (mkF m 4 #[vr xb, vi mc, un, un, un, un] [(.ref xt)])) rfl rfl (hb hby d68_10_4)) ?_
 rw [len_of As248 An248]
 show Go p.tables e below Kx _ (mkF m 5 _ [(.int 16)])
 refine s_istoreN (pc' := 6) (Ls' := #[vr xb, vi mc, vi 16, un, un, un]) X247.here hx (hb hby d68_10_5) rfl  rfl ?_
 refine s_iloadN (pc' := 7) X247.here hx (hb hby d68_10_6) rfl rfl ?_
 refine s_aloadN (pc' := 8) X247.here hx (hb hby d68_10_7) rfl rfl rfl ?_
 obtain ⟨T249, X249, e249, st249⟩ := getF X247 hx hZ hown (host := "") (Or.inl (hv hw 74 rfl)) Via.refl e247 Cxb (g := (mkF m 8 #[vr xb, vi mc, vi 16, un, un, un] [(.ref xb), (.int mc)])) rfl rfl (hb hby d68_10_8)
 refine Go.st st249 ?_
 show Go p.tables e below Kx _ (mkF m 11 _ [(.int 0), (.int mc)])
 refine s_ishl (pc' := 12) (z := mc) X249.here hx (hb hby d68_10_11) rfl (shl0 _) ?_
 refine s_istoreN (pc' := 13) (Ls' := #[vr xb, vi mc, vi 16, vi mc, un, un]) X249.here hx (hb hby d68_10_12) rfl  rfl ?_
 refine s_iloadN (pc' := 14) X249.here hx (hb hby d68_10_13) rfl rfl ?_
 refine s_iloadN (pc' := 15) X249.here hx (hb hby d68_10_14) rfl rfl ?_
 refine s_isub (pc' := 16) X249.here hx (hb hby d68_10_15) rfl rfl ?_
 refine s_istore (pc' := 18) (Ls' := #[vr xb, vi mc, vi 16, vi mc, .val (.int (mc - 16)), un]) X249.here hx (hb hby d68_10_16) rfl  rfl ?_
 refine s_iloadN (pc' := 19) X249.here hx (hb hby d68_10_18) rfl rfl ?_
 refine s_iload (pc' := 21) X249.here hx (hb hby d68_10_19) rfl rfl ?_
 refine s_iloadN (pc' := 22) X249.here hx (hb hby d68_10_21) rfl rfl ?_
 refine s_iconst (pc' := 23) (v := 2) X249.here hx (hb hby d68_10_22) rfl rfl ?_
 refine s_aloadN (pc' := 24) X249.here hx (hb hby d68_10_23) rfl rfl rfl ?_
 obtain ⟨T250, X250, e250, st250⟩ := getF X249 hx hZ hown (host := "") (Or.inl (hv hw 74 rfl)) Via.refl e249 Cxb (g := (mkF m 24 #[vr xb, vi mc, vi 16, vi mc, .val (.int (mc - 16)), un] [(.ref xb), (.int 2), (.int 16), (.int (mc - 16)), (.int 16)])) rfl rfl (hb hby d68_10_24)
 refine Go.st st250 ?_
 show Go p.tables e below Kx _ (mkF m 27 _ [(.int 0), (.int 2), (.int 16), (.int (mc - 16)), (.int 16)])
 refine s_ishl (pc' := 28) (z := 2) X250.here hx (hb hby d68_10_27) rfl (by decide) ?_
 refine s_iadd (pc' := 29) (z := 18) X250.here hx (hb hby d68_10_28) rfl (by decide) ?_
 obtain ⟨_, T252, L252, X252, hQ252, st252⟩ := kS X250 hx hZ (y := yN39) hown (hv hw 247 rfl) (hv hw 248 rfl) (hv hw 249 rfl) (hv hw 250 rfl) (by decide) (rmHnl l Z a0 hw [] (mc - 16) h0 n0 X00 hlt) e250 (W := 0) (g := (mkF m 29 #[vr xb, vi mc, vi 16, vi mc, .val (.int (mc - 16)), un] [(.int 18), (.int (mc - 16)), (.int 16)])) rfl (by rw [hml]; rfl) (argsL := [(.int 16), (.int (mc - 16)), (.int 18)]) (rest := []) (lenOf pd_15 rfl) rfl (by exact Nat.le_of_eq rfl) (hb hby d68_10_29) rfl (nb rfl) (nb rfl) (nb rfl) (nb rfl)
 obtain ⟨rfl, Nq252, hE252⟩ := hQ252
 have N252 := Fr.app N0 Nq252
 refine Go.st st252 ?_
 show Go p.tables e below Kx _ (mkF m 32 _ [(.int 34)])
 refine s_istore (pc' := 34) (Ls' := #[vr xb, vi mc, vi 16, vi mc, .val (.int (mc - 16)), vi 34]) X252.here hx (hb hby d68_10_32) rfl  rfl ?_
 refine s_iload (pc' := 36) X252.here hx (hb hby d68_10_34) rfl rfl ?_
 refine Go.st (X252.ldcInt hx hown (mvT hZ (hv hw 255 rfl)) (g := (mkF m 36 #[vr xb, vi mc, vi 16, vi mc, .val (.int (mc - 16)), vi 34] [(.int 34)])) rfl (hb hby d68_10_36)) ?_
 show Go p.tables e below Kx _ (mkF m 38 _ [(.int 2147483647), (.int 34)])
 refine s_icmpY (pc' := 51) X252.here hx (hb hby d68_10_38) (feq (by decide)).2 (by decide) (by decide) ?_
 refine s_iload (pc' := 53) X252.here hx (hb hby d68_10_51) rfl rfl ?_
 refine s_aloadN (pc' := 54) X252.here hx (hb hby d68_10_53) rfl rfl rfl ?_
 obtain ⟨T253, X253, e253, st253⟩ := getF X252 hx hZ hown (host := "") (Or.inl (hv hw 74 rfl)) Via.refl hE252 Cxb (g := (mkF m 54 #[vr xb, vi mc, vi 16, vi mc, .val (.int (mc - 16)), vi 34] [(.ref xb), (.int 34)])) rfl rfl (hb hby d68_10_54)
 refine Go.st st253 ?_
 show Go p.tables e below Kx _ (mkF m 57 _ [(.int 0), (.int 34)])
 refine s_ishr (pc' := 58) (z := 34) X253.here hx (hb hby d68_10_57) rfl (by decide) ?_
 obtain ⟨fs, hr, hrun, hended, hW, hsame⟩ := X253.leave (v := (some (.int 34))) (fun h => by rw [Bd.returns] at h; cases h)
 refine Go.fin (retI X253 hx Bd.returns (hb hby d68_10_58) hr) (hF _ _ hrun hended ⟨_, _, rfl, ?_, ⟨_, rfl⟩, hW, hsame.mono (by decide) (by decide)⟩)
 ·
  show QHnc Z xb xt kt X mc h0 n0 ((some (.int 34)) : Option Value) T253.heap _
  rw [e253]
  exact ⟨rfl, N252, rfl⟩
theorem d68_9_24 : decode jdk_68_method_9_code 24 = .ok (.invokevirtual 104, 3) := by decide +kernel
theorem d68_9_27 : decode jdk_68_method_9_code 27 = .ok (.aload_n 0, 1) := by decide +kernel
theorem d68_9_28 : decode jdk_68_method_9_code 28 = .ok (.getfield 22, 3) := by decide +kernel
theorem d68_9_31 : decode jdk_68_method_9_code 31 = .ok (.ishl, 1) := by decide +kernel
theorem pn_8 : plainName "java/util/Arrays" = true := by first | (simp [plainName, overriddenIn]; done) | decide +kernel
theorem d65_121_0 : decode jdk_65_method_121_code 0 = .ok (.iload_n 1, 1) := by decide +kernel
theorem d65_121_1 : decode jdk_65_method_121_code 1 = .ok (.aload_n 0, 1) := by decide +kernel
theorem d65_121_2 : decode jdk_65_method_121_code 2 = .ok (.arraylength, 1) := by decide +kernel
theorem d65_121_3 : decode jdk_65_method_121_code 3 = .ok (.if_icmp .ne 11, 3) := by decide +kernel
theorem d65_121_14 : decode jdk_65_method_121_code 14 = .ok (.iload_n 1, 1) := by decide +kernel
theorem d65_121_15 : decode jdk_65_method_121_code 15 = .ok (.newarray .byte, 2) := by decide +kernel
theorem d65_121_17 : decode jdk_65_method_121_code 17 = .ok (.astore_n 2, 1) := by decide +kernel
theorem d65_121_18 : decode jdk_65_method_121_code 18 = .ok (.aload_n 0, 1) := by decide +kernel
theorem d65_121_19 : decode jdk_65_method_121_code 19 = .ok (.iconst 0, 1) := by decide +kernel
theorem d65_121_20 : decode jdk_65_method_121_code 20 = .ok (.aload_n 2, 1) := by decide +kernel
theorem d65_121_21 : decode jdk_65_method_121_code 21 = .ok (.iconst 0, 1) := by decide +kernel
theorem d65_121_22 : decode jdk_65_method_121_code 22 = .ok (.aload_n 0, 1) := by decide +kernel
theorem d65_121_23 : decode jdk_65_method_121_code 23 = .ok (.arraylength, 1) := by decide +kernel
theorem d65_121_24 : decode jdk_65_method_121_code 24 = .ok (.iload_n 1, 1) := by decide +kernel
theorem d29_69_0 : decode jdk_29_method_69_code 0 = .ok (.iload_n 0, 1) := by decide +kernel
theorem d29_69_1 : decode jdk_29_method_69_code 1 = .ok (.iload_n 1, 1) := by decide +kernel
theorem d29_69_2 : decode jdk_29_method_69_code 2 = .ok (.if_icmp .gt 7, 3) := by decide +kernel
theorem d29_69_5 : decode jdk_29_method_69_code 5 = .ok (.iload_n 0, 1) := by decide +kernel
theorem d29_69_6 : decode jdk_29_method_69_code 6 = .ok (.goto 4, 3) := by decide +kernel
theorem d29_69_10 : decode jdk_29_method_69_code 10 = .ok (.ireturn, 1) := by decide +kernel
def QKmin_16_34 (Z : State) (zz0 : Nat) (h0 : Heap) (n0 : Nat) (v : Option Value) (h : Heap) (L : List Loc) : Prop := v = some (.int 16) ∧ Fr n0 L ∧ h = h0
theorem rmKmin_16_34 (l : Launch) (Z : State) (a0 : Array Value) (hw : ∀ d ∈ tables_1, d.before a0 Z = true) (ws : List Jvm.Cond) (zz0 : Nat) (h0 : Heap) (n0 : Nat) (X00 : Old Z n0 h0)  :
  MetFree l yN18 (head1 (Jvm.Cond.code yN18 jdk_29_method_69_code 2 (some .int) :: ws) ({ frames := 0, cells := 0, slots := 0, locals := 0 } : Room)) (fun aa U => aa = #[(.int 16), (.int 34)] ∧ Z.Warmed39 U.vm ∧ U.heap = h0) (fun _ _ _ _ _ => True) (fun _ U o U' => ∃ v L, o = .returned v ∧ QKmin_16_34 Z zz0 h0 n0 v U'.heap L ∧ FrameEnd U o U' L ({ frames := 0, cells := 0, slots := 0, locals := 0 } : Room).cells ({ frames := 0, cells := 0, slots := 0, locals := 0 } : Room).slots) := by
 refine MetFree.of_bodySF (Jvm.Free.JP.mathPlain rfl (by decide +kernel)) hisR ?_
 intro p e s m args below meth c s₁ Bd hml0 hP hK
 obtain ⟨rfl, hZ, hh⟩ := hP
 have hx := Bd.exec
 have hby := Bd.bytes
 have hml : c.maxLocals = 2 := hml0
 have hown : s.vm.findClass "java/lang/Math" = some m.cls := findClass_of_methodNamed Bd.named
 have hnm := (name_of_methodNamed Bd.named Bd.method).1
 have X0 : Stand p l e ({ frames := 0, cells := 0, slots := 0, locals := 0 } : Room) s m #[(.int 16), (.int 34)] below meth c s₁ [] 0 0 := Stand.of_body Bd
 have e0 : s₁.heap = h0 := by rw [← hh, Bd.state]; rfl
 have N0 := Fr.nil n0
 have K0 := Keep.refl h0 []
 have ef : entryFrame m #[(.int 16), (.int 34)] 2 = mkF m 0 #[vi 16, vi 34] [] := by first | (simp [entryFrame, mkF, argsToLocals, Value.category]; done) | rfl
 rw [ef]
 refine fin_of fun Kx hF => ?_
 show Go p.tables e below Kx _ (mkF m 0 _ [])
 refine s_iloadN (pc' := 1) X0.here hx (hb hby d29_69_0) rfl rfl ?_
 refine s_iloadN (pc' := 2) X0.here hx (hb hby d29_69_1) rfl rfl ?_
 refine s_icmpN (pc' := 5) X0.here hx (hb hby d29_69_2) rfl (flt (by decide)).2.2.1 ?_
 refine s_iloadN (pc' := 6) X0.here hx (hb hby d29_69_5) rfl rfl ?_
 refine s_goto (pc' := 10) X0.here hx (hb hby d29_69_6) (by decide) (by decide) ?_
 obtain ⟨fs, hr, hrun, hended, hW, hsame⟩ := X0.leave (v := (some (.int 16))) (fun h => by rw [Bd.returns] at h; cases h)
 refine Go.fin (retI X0 hx Bd.returns (hb hby d29_69_10) hr) (hF _ _ hrun hended ⟨_, _, rfl, ?_, ⟨_, rfl⟩, hW, hsame.mono (by decide) (by decide)⟩)
 ·
  show QKmin_16_34 Z zz0 h0 n0 ((some (.int 16)) : Option Value) s₁.heap _
  rw [e0]
  exact ⟨rfl, N0, rfl⟩
theorem d65_121_25 : decode jdk_65_method_121_code 25 = .ok (.invokestatic 304, 3) := by decide +kernel
theorem d65_121_28 : decode jdk_65_method_121_code 28 = .ok (.invokestatic 150, 3) := by decide +kernel
theorem d65_121_31 : decode jdk_65_method_121_code 31 = .ok (.aload_n 2, 1) := by decide +kernel
theorem d65_121_32 : decode jdk_65_method_121_code 32 = .ok (.areturn, 1) := by decide +kernel
def QHcg (Z : State) (xt : Addr) (kt : ClassId) (X : List Int32) (h0 : Heap) (n0 : Nat) (v : Option Value) (h : Heap) (L : List Loc) : Prop := ∃ (t : Addr) (k : ClassId), v = some (.ref t) ∧ Fr n0 L ∧ Keep h0 h [] ∧ h0.size ≤ t ∧ Exa Z h t "[B" ∧ Arv Z h t k .byte (Int32.ofNat 34) (pad 34 X) (.int 0)
theorem rmHcg (l : Launch) (Z : State) (a0 : Array Value) (hw : ∀ d ∈ tables_1, d.before a0 Z = true) (ws : List Jvm.Cond) (xt : Addr) (kt : ClassId) (X : List Int32) (h0 : Heap) (n0 : Nat) (X00 : Old Z n0 h0) (Axt : Arv Z h0 xt kt .byte 16 (pad 16 X) (.int 0)) (hX : X.length ≤ 16) :
  MetFree l yN36 (head1 (Jvm.Cond.code yN36 jdk_65_method_121_code 3 (some (.array .byte)) :: ws) ({ frames := 1, cells := 1, slots := 34, locals := 18 } : Room)) (fun aa U => aa = #[(.ref xt), (.int 34)] ∧ Z.Warmed39 U.vm ∧ U.heap = h0) (fun _ _ _ _ _ => True) (fun _ U o U' => ∃ v L, o = .returned v ∧ QHcg Z xt kt X h0 n0 v U'.heap L ∧ FrameEnd U o U' L ({ frames := 1, cells := 1, slots := 34, locals := 18 } : Room).cells ({ frames := 1, cells := 1, slots := 34, locals := 18 } : Room).slots) := by
 refine MetFree.of_bodySF (plainFor_of_name pn_8) hisR ?_
 intro p e s m args below meth c s₁ Bd hml0 hP hK
 obtain ⟨rfl, hZ, hh⟩ := hP
 have hx := Bd.exec
 have hby := Bd.bytes
 have hml : c.maxLocals = 3 := hml0
 have hown : s.vm.findClass "java/util/Arrays" = some m.cls := findClass_of_methodNamed Bd.named
 have hnm := (name_of_methodNamed Bd.named Bd.method).1
 have X0 : Stand p l e ({ frames := 1, cells := 1, slots := 34, locals := 18 } : Room) s m #[(.ref xt), (.int 34)] below meth c s₁ [] 0 0 := Stand.of_body Bd
 have e0 : s₁.heap = h0 := by rw [← hh, Bd.state]; rfl
 have N0 := Fr.nil n0
 have K0 := Keep.refl h0 []
 have ef : entryFrame m #[(.ref xt), (.int 34)] 3 = mkF m 0 #[vr xt, vi 34, un] [] := by first | (simp [entryFrame, mkF, argsToLocals, Value.category]; done) | rfl
 rw [ef]
 refine fin_of fun Kx hF => ?_
 show Go p.tables e below Kx _ (mkF m 0 _ [])
 refine s_iloadN (pc' := 1) X0.here hx (hb hby d65_121_0) rfl rfl ?_
 refine s_aloadN (pc' := 2) X0.here hx (hb hby d65_121_1) rfl rfl rfl ?_
 obtain ⟨cl256, Ar256, Aq256, As256, An256, Ah256, Ag256⟩ := id Axt
 refine Go.st (X0.arraylength hx (by rw [e0]; exact Ar256.1) (State.isArrayOf_alike hZ.alike Ar256.2.1) (g := (mkF m 2 #[vr xt, vi 34, un] [(.ref xt), (.int 34)])) rfl rfl (hb hby d65_121_2)) ?_
 rw [len_of As256 An256]
 show Go p.tables e below Kx _ (mkF m 3 _ [(.int 16), (.int 34)])
 refine s_icmpY (pc' := 14) X0.here hx (hb hby d65_121_3) (feq (by decide)).2 (by decide) (by decide) ?_
 refine s_iloadN (pc' := 15) X0.here hx (hb hby d65_121_14) rfl rfl ?_
 obtain ⟨T257, h257, k257, X257, e257, E257, A257, B257, st257⟩ := newPE X0 hx hZ (hv hw 19 rfl) e0 (g := (mkF m 15 #[vr xt, vi 34, un] [(.int 34)])) rfl (hb hby d65_121_15) rfl (by decide) (cap := 34) (by decide) (by decide) (by decide) (by decide) (ad := "[B") (by decide)
 obtain ⟨b257, g257⟩ : ∃ z, z = h0.size := ⟨_, rfl⟩
 rw [← g257] at A257 B257 st257
 have sz257 : h0.size ≤ b257 := Nat.le_trans K0.1 (Nat.le_of_eq g257.symm)
 have ge257 : n0 ≤ b257 := Nat.le_trans (X00.1 ▸ X00.2.1) (Nat.le_of_eq g257.symm)
 have K257 : Keep h0 h257 [] := K0.ext E257
 have O257 : Old Z n0 h257 := X00.ext E257
 have V257 : Arv Z h257 b257 k257 .byte 34 [(.int 0), (.int 0), (.int 0), (.int 0), (.int 0), (.int 0), (.int 0), (.int 0), (.int 0), (.int 0), (.int 0), (.int 0), (.int 0), (.int 0), (.int 0), (.int 0), (.int 0), (.int 0), (.int 0), (.int 0), (.int 0), (.int 0), (.int 0), (.int 0), (.int 0), (.int 0), (.int 0), (.int 0), (.int 0), (.int 0), (.int 0), (.int 0), (.int 0), (.int 0)] (.int 0) := (Arv.new A257 (by decide)).pad (pad_rep [] (.int 0) 34)
 refine Go.st st257 ?_
 show Go p.tables e below Kx _ (mkF m 17 _ [(.ref b257)])
 have V258 : Arv Z h257 b257 k257 .byte (Int32.ofNat 34) (pad 34 ([] : List Int32)) (.int 0) := V257
 refine s_astoreN (pc' := 18) (Ls' := #[vr xt, vi 34, vr b257]) X257.here hx (hb hby d65_121_17) rfl rfl rfl ?_
 refine s_aloadN (pc' := 19) X257.here hx (hb hby d65_121_18) rfl rfl rfl ?_
 refine s_iconst (pc' := 20) (v := 0) X257.here hx (hb hby d65_121_19) rfl rfl ?_
 refine s_aloadN (pc' := 21) X257.here hx (hb hby d65_121_20) rfl rfl rfl ?_
 refine s_iconst (pc' := 22) (v := 0) X257.here hx (hb hby d65_121_21) rfl rfl ?_
 refine s_aloadN (pc' := 23) X257.here hx (hb hby d65_121_22) rfl rfl rfl ?_
 have f259 : Arv Z h257 xt kt .byte 16 (pad 16 X) (.int 0) := (Axt.ext E257)
 obtain ⟨cl260, Ar260, Aq260, As260, An260, Ah260, Ag260⟩ := id f259
 refine Go.st (X257.arraylength hx (by rw [e257]; exact Ar260.1) (State.isArrayOf_alike hZ.alike Ar260.2.1) (g := (mkF m 23 #[vr xt, vi 34, vr b257] [(.ref xt), (.int 0), (.ref b257), (.int 0), (.ref xt)])) rfl rfl (hb hby d65_121_23)) ?_
 rw [len_of As260 An260]
 show Go p.tables e below Kx _ (mkF m 24 _ [(.int 16), (.int 0), (.ref b257), (.int 0), (.ref xt)])
 refine s_iloadN (pc' := 25) X257.here hx (hb hby d65_121_24) rfl rfl ?_
 obtain ⟨_, T261, L261, X261, hQ261, st261⟩ := kS X257 hx hZ (y := yN18) hown (hv hw 184 rfl) (hv hw 185 rfl) (hv hw 186 rfl) (hv hw 187 rfl) (by decide) (rmKmin_16_34 l Z a0 hw [] 0 h257 n0 O257 ) e257 (W := 4) (g := (mkF m 25 #[vr xt, vi 34, vr b257] [(.int 34), (.int 16), (.int 0), (.ref b257), (.int 0), (.ref xt)])) rfl (by rw [hml]; rfl) (argsL := [(.int 16), (.int 34)]) (rest := [(.int 0), (.ref b257), (.int 0), (.ref xt)]) (lenOf pd_14 rfl) rfl (by exact Nat.le_of_eq rfl) (hb hby d65_121_25) rfl (nb rfl) (nb rfl) (nb rfl) (nb rfl)
 obtain ⟨rfl, Nq261, hE261⟩ := hQ261
 have N261 := Fr.app N0 Nq261
 refine Go.st st261 ?_
 show Go p.tables e below Kx _ (mkF m 28 _ [(.int 16), (.int 0), (.ref b257), (.int 0), (.ref xt)])
 obtain ⟨T262, h262, L262, X262, e262, N262, KK262, V262, st262⟩ := cpGrow X261 hx hZ hown (hv hw 188 rfl) (hv hw 122 rfl) (hv hw 120 rfl) (hv hw 121 rfl) hE261 (n := 16) (n' := 34) (by decide) (by decide) hX f259 V258 N261 ge257 (g := (mkF m 28 #[vr xt, vi 34, vr b257] [(.int 16), (.int 0), (.ref b257), (.int 0), (.ref xt)])) rfl (by rw [hml]; rfl) rfl (hb hby d65_121_28) (by decide) (W := 0) (by exact Nat.le_of_eq rfl) (by decide)
 have K262 : Keep h0 h262 [] := K257.trans KK262 (allS (P := fun zz => zz ∈ [] ∨ h0.size ≤ zz) (Or.inr sz257) all0)
 have O262 : Old Z n0 h262 := O257.keep KK262 (allS ge257 all0)
 refine Go.st st262 ?_
 show Go p.tables e below Kx _ (mkF m 31 _ [])
 refine s_aloadN (pc' := 32) X262.here hx (hb hby d65_121_31) rfl rfl rfl ?_
 have f263 : Exa Z h262 b257 "[B" := (B257.keep KK262)
 obtain ⟨fs, hr, hrun, hended, hW, hsame⟩ := X262.leave (v := (some (.ref b257))) (fun h => by rw [Bd.returns] at h; cases h)
 refine Go.fin (retOut X262 hx Bd.returns rfl (Or.inr (Or.inr (Or.inr (Or.inr ⟨rfl, rfl, rfl⟩)))) (hb hby d65_121_32) hr) (hF _ _ hrun hended ⟨_, _, rfl, ?_, ⟨_, rfl⟩, hW, hsame.mono (by decide) (by decide)⟩)
 ·
  show QHcg Z xt kt X h0 n0 ((some (.ref b257)) : Option Value) T262.heap _
  rw [e262]
  exact ⟨_, _, rfl, N262, K262, sz257, f263, V262⟩
theorem pd_16 : parseMethodDescriptor "([BI)[B" = some ⟨[(.array .byte), .int], some (.array .byte)⟩ := by decide +kernel
theorem d68_9_32 : decode jdk_68_method_9_code 32 = .ok (.invokestatic 108, 3) := by decide +kernel
theorem d68_9_35 : decode jdk_68_method_9_code 35 = .ok (.putfield 15, 3) := by decide +kernel
def QHeg (Z : State) (xb xt : Addr) (kt : ClassId) (X : List Int32) (mc ct : Int32) (h0 : Heap) (n0 : Nat) (v : Option Value) (h : Heap) (L : List Loc) : Prop := v = none ∧ Fr n0 L ∧ Keep h0 h [xb] ∧ Exa Z h xb "java/lang/StringBuilder" ∧ Fld Z h xb "java/lang/AbstractStringBuilder" "coder" "B" (.int 0) ∧ Fld Z h xb "java/lang/AbstractStringBuilder" "count" "I" (.int ct) ∧ ∃ (t : Addr) (k : ClassId), h0.size ≤ t ∧ Exa Z h t "[B" ∧ Fld Z h xb "java/lang/AbstractStringBuilder" "value" "[B" (.ref t) ∧ Arv Z h t k .byte (Int32.ofNat 34) (pad 34 X) (.int 0)
theorem rmHeg (l : Launch) (Z : State) (a0 : Array Value) (hw : ∀ d ∈ tables_1, d.before a0 Z = true) (ws : List Jvm.Cond) (xb xt : Addr) (kt : ClassId) (X : List Int32) (mc ct : Int32) (h0 : Heap) (n0 : Nat) (X00 : Old Z n0 h0) (Exb : Exa Z h0 xb "java/lang/StringBuilder") (Vxb : Fld Z h0 xb "java/lang/AbstractStringBuilder" "value" "[B" (.ref xt)) (Cxb : Fld Z h0 xb "java/lang/AbstractStringBuilder" "coder" "B" (.int 0)) (Nxb : Fld Z h0 xb "java/lang/AbstractStringBuilder" "count" "I" (.int ct)) (Axt : Arv Z h0 xt kt .byte 16 (pad 16 X) (.int 0)) (ge_xb : n0 ≤ xb) (hX : X.length ≤ 16) (hgt : 0 < (mc - 16)) (hlt : (mc - 16) < 18) :
  MetFree l yN7 (head1 (Jvm.Cond.code yN7 jdk_68_method_9_code 3 none :: ws) ({ frames := 3, cells := 1, slots := 34, locals := 48 } : Room)) (fun aa U => aa = #[(.ref xb), (.int mc)] ∧ Z.Warmed39 U.vm ∧ U.heap = h0) (fun _ _ _ _ _ => True) (fun _ U o U' => ∃ v L, o = .returned v ∧ QHeg Z xb xt kt X mc ct h0 n0 v U'.heap L ∧ FrameEnd U o U' L ({ frames := 3, cells := 1, slots := 34, locals := 48 } : Room).cells ({ frames := 3, cells := 1, slots := 34, locals := 48 } : Room).slots) := by
 refine MetFree.of_bodySF (plainFor_of_name pn_4) hisR ?_
 intro p e s m args below meth c s₁ Bd hml0 hP hK
 obtain ⟨rfl, hZ, hh⟩ := hP
 have hx := Bd.exec
 have hby := Bd.bytes
 have hml : c.maxLocals = 3 := hml0
 have hown : s.vm.findClass "java/lang/AbstractStringBuilder" = some m.cls := findClass_of_methodNamed Bd.named
 have hnm := (name_of_methodNamed Bd.named Bd.method).1
 have X0 : Stand p l e ({ frames := 3, cells := 1, slots := 34, locals := 48 } : Room) s m #[(.ref xb), (.int mc)] below meth c s₁ [] 0 0 := Stand.of_body Bd
 have e0 : s₁.heap = h0 := by rw [← hh, Bd.state]; rfl
 have N0 := Fr.nil n0
 have K0 := Keep.refl h0 [xb]
 have ef : entryFrame m #[(.ref xb), (.int mc)] 3 = mkF m 0 #[vr xb, vi mc, un] [] := by first | (simp [entryFrame, mkF, argsToLocals, Value.category]; done) | rfl
 rw [ef]
 refine fin_of fun Kx hF => ?_
 show Go p.tables e below Kx _ (mkF m 0 _ [])
 refine s_aloadN (pc' := 1) X0.here hx (hb hby d68_9_0) rfl rfl rfl ?_
 obtain ⟨T243, X243, e243, st243⟩ := getF X0 hx hZ hown (host := "") (Or.inl (hv hw 72 rfl)) Via.refl e0 Vxb (g := (mkF m 1 #[vr xb, vi mc, un] [(.ref xb)])) rfl rfl (hb hby d68_9_1)
 refine Go.st st243 ?_
 show Go p.tables e below Kx _ (mkF m 4 _ [(.ref xt)])
 obtain ⟨cl244, Ar244, Aq244, As244, An244, Ah244, Ag244⟩ := id Axt
 refine Go.st (X243.arraylength hx (by rw [e243]; exact Ar244.1) (State.isArrayOf_alike hZ.alike Ar244.2.1) (g := (mkF m 4 #[vr xb, vi mc, un] [(.ref xt)])) rfl rfl (hb hby d68_9_4)) ?_
 rw [len_of As244 An244]
 show Go p.tables e below Kx _ (mkF m 5 _ [(.int 16)])
 refine s_aloadN (pc' := 6) X243.here hx (hb hby d68_9_5) rfl rfl rfl ?_
 obtain ⟨T245, X245, e245, st245⟩ := getF X243 hx hZ hown (host := "") (Or.inl (hv hw 74 rfl)) Via.refl e243 Cxb (g := (mkF m 6 #[vr xb, vi mc, un] [(.ref xb), (.int 16)])) rfl rfl (hb hby d68_9_6)
 refine Go.st st245 ?_
 show Go p.tables e below Kx _ (mkF m 9 _ [(.int 0), (.int 16)])
 refine s_ishr (pc' := 10) (z := 16) X245.here hx (hb hby d68_9_9) rfl (by decide) ?_
 refine s_istoreN (pc' := 11) (Ls' := #[vr xb, vi mc, vi 16]) X245.here hx (hb hby d68_9_10) rfl  rfl ?_
 refine s_iloadN (pc' := 12) X245.here hx (hb hby d68_9_11) rfl rfl ?_
 refine s_iloadN (pc' := 13) X245.here hx (hb hby d68_9_12) rfl rfl ?_
 refine s_isub (pc' := 14) X245.here hx (hb hby d68_9_13) rfl rfl ?_
 refine s_ifN (pc' := 17) X245.here hx (hb hby d68_9_14) rfl ((if0 _ _).trans (tlt hgt).2.2.2) ?_
 refine s_aloadN (pc' := 18) X245.here hx (hb hby d68_9_17) rfl rfl rfl ?_
 refine s_aloadN (pc' := 19) X245.here hx (hb hby d68_9_18) rfl rfl rfl ?_
 obtain ⟨T246, X246, e246, st246⟩ := getF X245 hx hZ hown (host := "") (Or.inl (hv hw 72 rfl)) Via.refl e245 Vxb (g := (mkF m 19 #[vr xb, vi mc, vi 16] [(.ref xb), (.ref xb)])) rfl rfl (hb hby d68_9_19)
 refine Go.st st246 ?_
 show Go p.tables e below Kx _ (mkF m 22 _ [(.ref xt), (.ref xb)])
 refine s_aloadN (pc' := 23) X246.here hx (hb hby d68_9_22) rfl rfl rfl ?_
 refine s_iloadN (pc' := 24) X246.here hx (hb hby d68_9_23) rfl rfl ?_
 obtain ⟨_, T254, L254, X254, hQ254, st254⟩ := kV X246 hx hZ (y := yN12) hown (hv hw 242 rfl) (decl_of (hv hw 243 rfl) (hv hw 246 rfl)) (notFace_of_selects (args := #[]) (mvT hZ (hv hw 245 rfl))) (hv hw 245 rfl) (hv hw 243 rfl) (hv hw 68 rfl) (hv hw 246 rfl) (by decide) (rmHnc l Z a0 hw [] xb xt kt X mc h0 n0 X00 Vxb Cxb Axt hlt) e246 Exb (W := 2) (g := (mkF m 24 #[vr xb, vi mc, vi 16] [(.int mc), (.ref xb), (.ref xt), (.ref xb)])) rfl (by rw [hml]; rfl) (argsL := [(.int mc)]) (rest := [(.ref xt), (.ref xb)]) (lenOf pd_11 rfl) rfl (by exact Nat.le_of_eq rfl) (hb hby d68_9_24) rfl (nb rfl) (nb rfl) (nb rfl) (nb rfl)
 obtain ⟨rfl, Nq254, hE254⟩ := hQ254
 have N254 := Fr.app N0 Nq254
 refine Go.tr st254 ?_
 show Go p.tables e below Kx _ (mkF m 27 _ [(.int 34), (.ref xt), (.ref xb)])
 refine s_aloadN (pc' := 28) X254.here hx (hb hby d68_9_27) rfl rfl rfl ?_
 obtain ⟨T255, X255, e255, st255⟩ := getF X254 hx hZ hown (host := "") (Or.inl (hv hw 74 rfl)) Via.refl hE254 Cxb (g := (mkF m 28 #[vr xb, vi mc, vi 16] [(.ref xb), (.int 34), (.ref xt), (.ref xb)])) rfl rfl (hb hby d68_9_28)
 refine Go.st st255 ?_
 show Go p.tables e below Kx _ (mkF m 31 _ [(.int 0), (.int 34), (.ref xt), (.ref xb)])
 refine s_ishl (pc' := 32) (z := 34) X255.here hx (hb hby d68_9_31) rfl (by decide) ?_
 obtain ⟨_, T264, L264, X264, hQ264, st264⟩ := kS X255 hx hZ (y := yN36) hown (hv hw 256 rfl) (hv hw 257 rfl) (hv hw 176 rfl) (hv hw 258 rfl) (by decide) (rmHcg l Z a0 hw [] xt kt X h0 n0 X00 Axt hX) e255 (W := 1) (g := (mkF m 32 #[vr xb, vi mc, vi 16] [(.int 34), (.ref xt), (.ref xb)])) rfl (by rw [hml]; rfl) (argsL := [(.ref xt), (.int 34)]) (rest := [(.ref xb)]) (lenOf pd_16 rfl) rfl (by exact Nat.le_of_eq rfl) (hb hby d68_9_32) rfl (nb rfl) (nb rfl) (nb rfl) (nb rfl)
 obtain ⟨t264, kt264, rfl, Nq264, Kq264, le264, q0_264, q1_264⟩ := hQ264
 have sz264 : h0.size ≤ t264 := Nat.le_trans K0.1 le264
 have ge264 : n0 ≤ t264 := Nat.le_trans (X00.1 ▸ X00.2.1) le264
 have N264 := Fr.app N254 Nq264
 have K264 : Keep h0 T264.heap [xb] := K0.trans Kq264 all0
 have O264 : Old Z n0 T264.heap := X00.keep Kq264 all0
 refine Go.st st264 ?_
 show Go p.tables e below Kx _ (mkF m 35 _ [(.ref t264), (.ref xb)])
 have f265 : Fld Z T264.heap xb "java/lang/AbstractStringBuilder" "value" "[B" (.ref xt) := (Vxb.keep Kq264 nin0)
 have f266 : Exa Z T264.heap xb "java/lang/StringBuilder" := (Exb.keep Kq264)
 obtain ⟨T267, h267, X267, e267, W267, st267⟩ := putF X264 hx hZ hown (host := "") (Or.inl (hv hw 72 rfl)) Via.refl rfl f265 f266 (Or.inl (hv hw 73 rfl)) (hv hw 59 rfl) (ty := (.array .byte)) (by decide) rfl rfl (g := (mkF m 35 #[vr xb, vi mc, vi 16] [(.ref t264), (.ref xb)])) rfl rfl (hb hby d68_9_35)
 have Fw267 : Fld Z h267 xb "java/lang/AbstractStringBuilder" "value" "[B" (.ref t264) := f265.same W267
 have K267 : Keep h0 h267 [xb] := K264.wr W267 (Or.inl (List.mem_of_getElem? (i := 0) rfl))
 have O267 : Old Z n0 h267 := O264.wr W267 ge_xb
 have N267 := Fr.snoc X267 N264 ge_xb
 refine Go.st st267 ?_
 show Go p.tables e below Kx _ (mkF m 38 _ [])
 have f268 : Exa Z h267 xb "java/lang/StringBuilder" := (f266.wr W267)
 have f269 : Fld Z h267 xb "java/lang/AbstractStringBuilder" "coder" "B" (.int 0) := ((Cxb.keep Kq264 nin0).other W267 (Or.inr (slot_ne (Or.inl (hv hw 75 rfl)) (Or.inl (hv hw 73 rfl)) (by decide) (t := .byte) (t' := (.array .byte)) (by decide) (by decide))))
 have f270 : Fld Z h267 xb "java/lang/AbstractStringBuilder" "count" "I" (.int ct) := ((Nxb.keep Kq264 nin0).other W267 (Or.inr (slot_ne (Or.inl (hv hw 97 rfl)) (Or.inl (hv hw 73 rfl)) (by decide) (t := .int) (t' := (.array .byte)) (by decide) (by decide))))
 have f271 : Exa Z h267 t264 "[B" := (q0_264.wr W267)
 have f272 : Arv Z h267 t264 kt264 .byte (Int32.ofNat 34) (pad 34 X) (.int 0) := (q1_264.other W267 (Ne.symm (Nat.ne_of_lt (Nat.lt_of_lt_of_le Exb.lt le264))))
 obtain ⟨fs, hr, hrun, hended, hW, hsame⟩ := X267.leave (v := none) (fun _ => rfl)
 refine Go.fin (X267.returnOut hx Bd.returns (hb hby d68_9_38) hr) (hF _ _ hrun hended ⟨_, _, rfl, ?_, ⟨_, rfl⟩, hW, hsame.mono (by decide) (by decide)⟩)
 ·
  show QHeg Z xb xt kt X mc ct h0 n0 (none : Option Value) T267.heap _
  rw [e267]
  exact ⟨rfl, N267, K267, f268, f269, f270, t264, _, sz264, f271, Fw267, f272⟩
def QHi0 (Z : State) (xb xt : Addr) (kt : ClassId) (X : List Int32) (xl : Int32) (h0 : Heap) (n0 : Nat) (v : Option Value) (h : Heap) (L : List Loc) : Prop := v = some (.ref xb) ∧ Fr n0 L ∧ Keep h0 h [xb, xt] ∧ Exa Z h xb "java/lang/StringBuilder" ∧ Fld Z h xb "java/lang/AbstractStringBuilder" "coder" "B" (.int 0) ∧ Fld Z h xb "java/lang/AbstractStringBuilder" "count" "I" (.int (Int32.ofNat (X ++ (dec xl)).length)) ∧ ∃ (t : Addr) (k : ClassId), Fld Z h xb "java/lang/AbstractStringBuilder" "value" "[B" (.ref t) ∧ ((t = xt ∧ Arv Z h t k .byte (Int32.ofNat 16) (pad 16 (X ++ (dec xl))) (.int 0) ∧ X.length + (dec xl).length ≤ 16) ∨ (h0.size ≤ t ∧ Exa Z h t "[B" ∧ Arv Z h t k .byte (Int32.ofNat 34) (pad 34 (X ++ (dec xl))) (.int 0)))
theorem rmHi0 (l : Launch) (Z : State) (a0 : Array Value) (hw : ∀ d ∈ tables_1, d.before a0 Z = true) (ws : List Jvm.Cond) (xb xt : Addr) (kt : ClassId) (X : List Int32) (xl : Int32) (h0 : Heap) (n0 : Nat) (X00 : Old Z n0 h0) (G1 : Int32) (S1 : Sta Z Z.heap "java/lang/String" "COMPACT_STRINGS" "Z" (.int G1)) (P1 : ¬ G1 = 0) (xo xq : Addr) (ko kq : ClassId) (SO : Sta Z Z.heap "java/lang/Integer" "DigitOnes" "[B" (.ref xo)) (SQ : Sta Z Z.heap "java/lang/Integer" "DigitTens" "[B" (.ref xq)) (AO : Arv Z Z.heap xo ko .byte 100 ONES (.int 0)) (AQ : Arv Z Z.heap xq kq .byte 100 TENS (.int 0)) (Exb : Exa Z h0 xb "java/lang/StringBuilder") (Vxb : Fld Z h0 xb "java/lang/AbstractStringBuilder" "value" "[B" (.ref xt)) (Cxb : Fld Z h0 xb "java/lang/AbstractStringBuilder" "coder" "B" (.int 0)) (Nxb : Fld Z h0 xb "java/lang/AbstractStringBuilder" "count" "I" (.int (Int32.ofNat X.length))) (Axt : Arv Z h0 xt kt .byte (Int32.ofNat 16) (pad 16 X) (.int 0)) (ge_xb : n0 ≤ xb) (ge_xt : n0 ≤ xt) (nbt : xb ≠ xt) (hX : X.length ≤ 16) (hg3 : X.length + (dec xl).length ≤ 30) :
  MetFree l yN5 (head1 (Jvm.Cond.code yN5 jdk_68_method_32_code 4 (some (.object "java/lang/AbstractStringBuilder")) :: ws) ({ frames := 4, cells := 1, slots := 34, locals := 62 } : Room)) (fun aa U => aa = #[(.ref xb), (.int xl)] ∧ Z.Warmed39 U.vm ∧ U.heap = h0) (fun _ _ _ _ _ => True) (fun _ U o U' => ∃ v L, o = .returned v ∧ QHi0 Z xb xt kt X xl h0 n0 v U'.heap L ∧ FrameEnd U o U' L ({ frames := 4, cells := 1, slots := 34, locals := 62 } : Room).cells ({ frames := 4, cells := 1, slots := 34, locals := 62 } : Room).slots) := by
 refine MetFree.of_bodySF (plainFor_of_name pn_4) hisR ?_
 intro p e s m args below meth c s₁ Bd hml0 hP hK
 obtain ⟨rfl, hZ, hh⟩ := hP
 have hx := Bd.exec
 have hby := Bd.bytes
 have hml : c.maxLocals = 4 := hml0
 have hown : s.vm.findClass "java/lang/AbstractStringBuilder" = some m.cls := findClass_of_methodNamed Bd.named
 have hnm := (name_of_methodNamed Bd.named Bd.method).1
 have X0 : Stand p l e ({ frames := 4, cells := 1, slots := 34, locals := 62 } : Room) s m #[(.ref xb), (.int xl)] below meth c s₁ [] 0 0 := Stand.of_body Bd
 have e0 : s₁.heap = h0 := by rw [← hh, Bd.state]; rfl
 have N0 := Fr.nil n0
 have K0 := Keep.refl h0 [xb, xt]
 have ef : entryFrame m #[(.ref xb), (.int xl)] 4 = mkF m 0 #[vr xb, vi xl, un, un] [] := by first | (simp [entryFrame, mkF, argsToLocals, Value.category]; done) | rfl
 rw [ef]
 refine fin_of fun Kx hF => ?_
 show Go p.tables e below Kx _ (mkF m 0 _ [])
 refine s_aloadN (pc' := 1) X0.here hx (hb hby d68_32_0) rfl rfl rfl ?_
 obtain ⟨T168, X168, e168, st168⟩ := getF X0 hx hZ hown (host := "") (Or.inl (hv hw 96 rfl)) Via.refl e0 Nxb (g := (mkF m 1 #[vr xb, vi xl, un, un] [(.ref xb)])) rfl rfl (hb hby d68_32_1)
 refine Go.st st168 ?_
 show Go p.tables e below Kx _ (mkF m 4 _ [(.int (Int32.ofNat X.length))])
 refine s_istoreN (pc' := 5) (Ls' := #[vr xb, vi xl, .val (.int (Int32.ofNat X.length)), un]) X168.here hx (hb hby d68_32_4) rfl  rfl ?_
 refine s_iloadN (pc' := 6) X168.here hx (hb hby d68_32_5) rfl rfl ?_
 refine s_iloadN (pc' := 7) X168.here hx (hb hby d68_32_6) rfl rfl ?_
 obtain ⟨_, T179, L179, X179, hQ179, st179⟩ := kS X168 hx hZ (y := yN15) hown (hv hw 134 rfl) (hv hw 135 rfl) (hv hw 136 rfl) (hv hw 137 rfl) (by decide) (rmHss l Z a0 hw [] xl h0 n0 X00 ) e168 (W := 1) (g := (mkF m 7 #[vr xb, vi xl, .val (.int (Int32.ofNat X.length)), un] [(.int xl), (.int (Int32.ofNat X.length))])) rfl (by rw [hml]; rfl) (argsL := [(.int xl)]) (rest := [(.int (Int32.ofNat X.length))]) (lenOf pd_11 rfl) rfl (by exact Nat.le_of_eq rfl) (hb hby d68_32_7) rfl (nb rfl) (nb rfl) (nb rfl) (nb rfl)
 obtain ⟨rfl, Nq179, hE179⟩ := hQ179
 have N179 := Fr.app N0 Nq179
 refine Go.st st179 ?_
 show Go p.tables e below Kx _ (mkF m 10 _ [(.int (Int32.ofNat (dec xl).length)), (.int (Int32.ofNat X.length))])
 refine s_iadd (pc' := 11) (z := (Int32.ofNat (X ++ (dec xl)).length)) X179.here hx (hb hby d68_32_10) rfl (lapp _ _) ?_
 refine s_istoreN (pc' := 12) (Ls' := #[vr xb, vi xl, .val (.int (Int32.ofNat X.length)), .val (.int (Int32.ofNat (X ++ (dec xl)).length))]) X179.here hx (hb hby d68_32_11) rfl  rfl ?_
 refine s_aloadN (pc' := 13) X179.here hx (hb hby d68_32_12) rfl rfl rfl ?_
 refine s_iloadN (pc' := 14) X179.here hx (hb hby d68_32_13) rfl rfl ?_
 by_cases hcap : X.length + (dec xl).length ≤ 16
 ·
  obtain ⟨_, T180, L180, X180, hQ180, st180⟩ := kV X179 hx hZ (y := yN7) hown (hv hw 98 rfl) (decl_of (hv hw 99 rfl) (hv hw 102 rfl)) (notFace_of_selects (args := #[]) (mvT hZ (hv hw 101 rfl))) (hv hw 101 rfl) (hv hw 99 rfl) (hv hw 68 rfl) (hv hw 102 rfl) (by decide) (rmHe l Z a0 hw [] xb xt _ 16 X (Int32.ofNat (X ++ (dec xl)).length) h0 n0 X00 Vxb Cxb Axt (capN hcap (by decide))) hE179 Exb (W := 0) (g := (mkF m 14 #[vr xb, vi xl, .val (.int (Int32.ofNat X.length)), .val (.int (Int32.ofNat (X ++ (dec xl)).length))] [(.int (Int32.ofNat (X ++ (dec xl)).length)), (.ref xb)])) rfl (by rw [hml]; rfl) (argsL := [(.int (Int32.ofNat (X ++ (dec xl)).length))]) (rest := []) (lenOf pd_3 rfl) rfl (by exact Nat.le_of_eq rfl) (hb hby d68_32_14) rfl (nb rfl) (nb rfl) (nb rfl) (nb rfl)
  obtain ⟨rfl, Nq180, hE180⟩ := hQ180
  have N180 := Fr.app N179 Nq180
  refine Go.tr st180 ?_
  show Go p.tables e below Kx _ (mkF m 17 _ [])
  refine s_aloadN (pc' := 18) X180.here hx (hb hby d68_32_17) rfl rfl rfl ?_
  obtain ⟨_, T183, L183, X183, hQ183, st183⟩ := kV X180 hx hZ (y := yN10) hown (hv hw 138 rfl) (hv hw 139 rfl) (notFace_of_selects (args := #[]) (mvT hZ (hv hw 141 rfl))) (hv hw 141 rfl) (hv hw 140 rfl) (hv hw 68 rfl) (hv hw 142 rfl) (by decide) (rmKbl l Z a0 hw [] xb h0 n0 X00 G1 S1 P1 Cxb) hE180 Exb (W := 0) (g := (mkF m 18 #[vr xb, vi xl, .val (.int (Int32.ofNat X.length)), .val (.int (Int32.ofNat (X ++ (dec xl)).length))] [(.ref xb)])) rfl (by rw [hml]; rfl) (argsL := []) (rest := []) (lenOf pd_12 rfl) rfl (by exact Nat.le_of_eq rfl) (hb hby d68_32_18) rfl (nb rfl) (nb rfl) (nb rfl) (nb rfl)
  obtain ⟨rfl, Nq183, hE183⟩ := hQ183
  have N183 := Fr.app N180 Nq183
  refine Go.tr st183 ?_
  show Go p.tables e below Kx _ (mkF m 21 _ [(.int 1)])
  refine s_ifN (pc' := 24) X183.here hx (hb hby d68_32_21) rfl ((if0 _ _).trans (feq (by decide)).1) ?_
  refine s_iloadN (pc' := 25) X183.here hx (hb hby d68_32_24) rfl rfl ?_
  refine s_iloadN (pc' := 26) X183.here hx (hb hby d68_32_25) rfl rfl ?_
  refine s_aloadN (pc' := 27) X183.here hx (hb hby d68_32_26) rfl rfl rfl ?_
  obtain ⟨T184, X184, e184, st184⟩ := getF X183 hx hZ hown (host := "") (Or.inl (hv hw 72 rfl)) Via.refl hE183 Vxb (g := (mkF m 27 #[vr xb, vi xl, .val (.int (Int32.ofNat X.length)), .val (.int (Int32.ofNat (X ++ (dec xl)).length))] [(.ref xb), (.int (Int32.ofNat (X ++ (dec xl)).length)), (.int xl)])) rfl rfl (hb hby d68_32_27)
  refine Go.st st184 ?_
  show Go p.tables e below Kx _ (mkF m 30 _ [(.ref xt), (.int (Int32.ofNat (X ++ (dec xl)).length)), (.int xl)])
  obtain ⟨_, T235, L235, X235, hQ235, st235⟩ := kS X184 hx hZ (y := yN14) hown (hv hw 143 rfl) (hv hw 144 rfl) (hv hw 136 rfl) (hv hw 145 rfl) (by decide) (rmHgc l Z a0 hw [] xl xt kt 16 X h0 n0 X00 xo xq ko kq SO SQ AO AQ ge_xt Axt (by decide) hcap) e184 (W := 0) (g := (mkF m 30 #[vr xb, vi xl, .val (.int (Int32.ofNat X.length)), .val (.int (Int32.ofNat (X ++ (dec xl)).length))] [(.ref xt), (.int (Int32.ofNat (X ++ (dec xl)).length)), (.int xl)])) rfl (by rw [hml]; rfl) (argsL := [(.int xl), (.int (Int32.ofNat (X ++ (dec xl)).length)), (.ref xt)]) (rest := []) (lenOf pd_13 rfl) rfl (by exact Nat.le_of_eq rfl) (hb hby d68_32_30) rfl (nb rfl) (nb rfl) (nb rfl) (nb rfl)
  obtain ⟨⟨r235, rfl⟩, Nq235, Kq235, q1_235⟩ := hQ235
  have N235 := Fr.app N183 Nq235
  have K235 : Keep h0 T235.heap [xb, xt] := K0.trans Kq235 (allS (P := fun zz => zz ∈ [xb, xt] ∨ h0.size ≤ zz) (Or.inl (List.mem_of_getElem? (i := 1) rfl)) all0)
  have O235 : Old Z n0 T235.heap := X00.keep Kq235 (allS ge_xt all0)
  refine Go.st st235 ?_
  show Go p.tables e below Kx _ (mkF m 33 _ [(.int r235)])
  refine s_pop (pc' := 34) X235.here hx (hb hby d68_32_33) rfl rfl ?_
  refine s_goto (pc' := 48) X235.here hx (hb hby d68_32_34) (by decide) (by decide) ?_
  refine s_aloadN (pc' := 49) X235.here hx (hb hby d68_32_48) rfl rfl rfl ?_
  refine s_iloadN (pc' := 50) X235.here hx (hb hby d68_32_49) rfl rfl ?_
  have f236 : Fld Z T235.heap xb "java/lang/AbstractStringBuilder" "count" "I" (.int (Int32.ofNat X.length)) := (Nxb.keep Kq235 (ninS nbt nin0))
  have f237 : Exa Z T235.heap xb "java/lang/StringBuilder" := (Exb.keep Kq235)
  obtain ⟨T238, h238, X238, e238, W238, st238⟩ := putF X235 hx hZ hown (host := "") (Or.inl (hv hw 96 rfl)) Via.refl rfl f236 f237 (Or.inl (hv hw 97 rfl)) (hv hw 59 rfl) (ty := .int) (by decide) rfl rfl (g := (mkF m 50 #[vr xb, vi xl, .val (.int (Int32.ofNat X.length)), .val (.int (Int32.ofNat (X ++ (dec xl)).length))] [(.int (Int32.ofNat (X ++ (dec xl)).length)), (.ref xb)])) rfl rfl (hb hby d68_32_50)
  have Fw238 : Fld Z h238 xb "java/lang/AbstractStringBuilder" "count" "I" (.int (Int32.ofNat (X ++ (dec xl)).length)) := f236.same W238
  have K238 : Keep h0 h238 [xb, xt] := K235.wr W238 (Or.inl (List.mem_of_getElem? (i := 0) rfl))
  have O238 : Old Z n0 h238 := O235.wr W238 ge_xb
  have N238 := Fr.snoc X238 N235 ge_xb
  refine Go.st st238 ?_
  show Go p.tables e below Kx _ (mkF m 53 _ [])
  refine s_aloadN (pc' := 54) X238.here hx (hb hby d68_32_53) rfl rfl rfl ?_
  have f239 : Arv Z h238 xt kt .byte (Int32.ofNat 16) (pad 16 (X ++ (dec xl))) (.int 0) := (q1_235.other W238 (Ne.symm nbt))
  have f240 : Exa Z h238 xb "java/lang/StringBuilder" := (f237.wr W238)
  have f241 : Fld Z h238 xb "java/lang/AbstractStringBuilder" "coder" "B" (.int 0) := ((Cxb.keep Kq235 (ninS nbt nin0)).other W238 (Or.inr (slot_ne (Or.inl (hv hw 75 rfl)) (Or.inl (hv hw 97 rfl)) (by decide) (t := .byte) (t' := .int) (by decide) (by decide))))
  have f242 : Fld Z h238 xb "java/lang/AbstractStringBuilder" "value" "[B" (.ref xt) := ((Vxb.keep Kq235 (ninS nbt nin0)).other W238 (Or.inr (slot_ne (Or.inl (hv hw 73 rfl)) (Or.inl (hv hw 97 rfl)) (by decide) (t := (.array .byte)) (t' := .int) (by decide) (by decide))))
  obtain ⟨fs, hr, hrun, hended, hW, hsame⟩ := X238.leave (v := (some (.ref xb))) (fun h => by rw [Bd.returns] at h; cases h)
  refine Go.fin (retOut X238 hx Bd.returns rfl (Or.inr (Or.inr (Or.inr (Or.inr ⟨rfl, rfl, rfl⟩)))) (hb hby d68_32_54) hr) (hF _ _ hrun hended ⟨_, _, rfl, ?_, ⟨_, rfl⟩, hW, hsame.mono (by decide) (by decide)⟩)
  ·
   show QHi0 Z xb xt kt X xl h0 n0 ((some (.ref xb)) : Option Value) T238.heap _
   rw [e238]
   exact ⟨rfl, N238, K238, f240, f241, Fw238, _, _, f242, Or.inl ⟨rfl, f239, hcap⟩⟩
 ·
  obtain ⟨_, T273, L273, X273, hQ273, st273⟩ := kV X179 hx hZ (y := yN7) hown (hv hw 98 rfl) (decl_of (hv hw 99 rfl) (hv hw 102 rfl)) (notFace_of_selects (args := #[]) (mvT hZ (hv hw 101 rfl))) (hv hw 101 rfl) (hv hw 99 rfl) (hv hw 68 rfl) (hv hw 102 rfl) (by decide) (rmHeg l Z a0 hw [] xb xt _ X (Int32.ofNat (X ++ (dec xl)).length) (Int32.ofNat X.length) h0 n0 X00 Exb Vxb Cxb Nxb Axt ge_xb hX (grow16 hcap hg3).1 (grow16 hcap hg3).2) hE179 Exb (W := 0) (g := (mkF m 14 #[vr xb, vi xl, .val (.int (Int32.ofNat X.length)), .val (.int (Int32.ofNat (X ++ (dec xl)).length))] [(.int (Int32.ofNat (X ++ (dec xl)).length)), (.ref xb)])) rfl (by rw [hml]; rfl) (argsL := [(.int (Int32.ofNat (X ++ (dec xl)).length))]) (rest := []) (lenOf pd_3 rfl) rfl (by exact Nat.le_of_eq rfl) (hb hby d68_32_14) rfl (nb rfl) (nb rfl) (nb rfl) (nb rfl)
  obtain ⟨rfl, Nq273, Kq273, q1_273, q3_273, q4_273, t273, kt273, le273, q0_273, q2_273, q5_273⟩ := hQ273
  have sz273 : h0.size ≤ t273 := Nat.le_trans K0.1 le273
  have ge273 : n0 ≤ t273 := Nat.le_trans (X00.1 ▸ X00.2.1) le273
  have N273 := Fr.app N179 Nq273
  have K273 : Keep h0 T273.heap [xb, xt] := K0.trans Kq273 (allS (P := fun zz => zz ∈ [xb, xt] ∨ h0.size ≤ zz) (Or.inl (List.mem_of_getElem? (i := 0) rfl)) all0)
  have O273 : Old Z n0 T273.heap := X00.keep Kq273 (allS ge_xb all0)
  refine Go.tr st273 ?_
  show Go p.tables e below Kx _ (mkF m 17 _ [])
  refine s_aloadN (pc' := 18) X273.here hx (hb hby d68_32_17) rfl rfl rfl ?_
  obtain ⟨_, T274, L274, X274, hQ274, st274⟩ := kV X273 hx hZ (y := yN10) hown (hv hw 138 rfl) (hv hw 139 rfl) (notFace_of_selects (args := #[]) (mvT hZ (hv hw 141 rfl))) (hv hw 141 rfl) (hv hw 140 rfl) (hv hw 68 rfl) (hv hw 142 rfl) (by decide) (rmKbl l Z a0 hw [] xb T273.heap n0 O273 G1 S1 P1 q3_273) rfl q1_273 (W := 0) (g := (mkF m 18 #[vr xb, vi xl, .val (.int (Int32.ofNat X.length)), .val (.int (Int32.ofNat (X ++ (dec xl)).length))] [(.ref xb)])) rfl (by rw [hml]; rfl) (argsL := []) (rest := []) (lenOf pd_12 rfl) rfl (by exact Nat.le_of_eq rfl) (hb hby d68_32_18) rfl (nb rfl) (nb rfl) (nb rfl) (nb rfl)
  obtain ⟨rfl, Nq274, hE274⟩ := hQ274
  have N274 := Fr.app N273 Nq274
  refine Go.tr st274 ?_
  show Go p.tables e below Kx _ (mkF m 21 _ [(.int 1)])
  refine s_ifN (pc' := 24) X274.here hx (hb hby d68_32_21) rfl ((if0 _ _).trans (feq (by decide)).1) ?_
  refine s_iloadN (pc' := 25) X274.here hx (hb hby d68_32_24) rfl rfl ?_
  refine s_iloadN (pc' := 26) X274.here hx (hb hby d68_32_25) rfl rfl ?_
  refine s_aloadN (pc' := 27) X274.here hx (hb hby d68_32_26) rfl rfl rfl ?_
  obtain ⟨T275, X275, e275, st275⟩ := getF X274 hx hZ hown (host := "") (Or.inl (hv hw 72 rfl)) Via.refl hE274 q2_273 (g := (mkF m 27 #[vr xb, vi xl, .val (.int (Int32.ofNat X.length)), .val (.int (Int32.ofNat (X ++ (dec xl)).length))] [(.ref xb), (.int (Int32.ofNat (X ++ (dec xl)).length)), (.int xl)])) rfl rfl (hb hby d68_32_27)
  refine Go.st st275 ?_
  show Go p.tables e below Kx _ (mkF m 30 _ [(.ref t273), (.int (Int32.ofNat (X ++ (dec xl)).length)), (.int xl)])
  obtain ⟨_, T276, L276, X276, hQ276, st276⟩ := kS X275 hx hZ (y := yN14) hown (hv hw 143 rfl) (hv hw 144 rfl) (hv hw 136 rfl) (hv hw 145 rfl) (by decide) (rmHgc l Z a0 hw [] xl t273 kt273 34 X T273.heap n0 O273 xo xq ko kq SO SQ AO AQ ge273 q5_273 (by decide) (Nat.le_trans hg3 (by decide))) e275 (W := 0) (g := (mkF m 30 #[vr xb, vi xl, .val (.int (Int32.ofNat X.length)), .val (.int (Int32.ofNat (X ++ (dec xl)).length))] [(.ref t273), (.int (Int32.ofNat (X ++ (dec xl)).length)), (.int xl)])) rfl (by rw [hml]; rfl) (argsL := [(.int xl), (.int (Int32.ofNat (X ++ (dec xl)).length)), (.ref t273)]) (rest := []) (lenOf pd_13 rfl) rfl (by exact Nat.le_of_eq rfl) (hb hby d68_32_30) rfl (nb rfl) (nb rfl) (nb rfl) (nb rfl)
  obtain ⟨⟨r276, rfl⟩, Nq276, Kq276, q1_276⟩ := hQ276
  have N276 := Fr.app N274 Nq276
  have K276 : Keep h0 T276.heap [xb, xt] := K273.trans Kq276 (allS (P := fun zz => zz ∈ [xb, xt] ∨ h0.size ≤ zz) (Or.inr sz273) all0)
  have O276 : Old Z n0 T276.heap := O273.keep Kq276 (allS ge273 all0)
  refine Go.st st276 ?_
  show Go p.tables e below Kx _ (mkF m 33 _ [(.int r276)])
  refine s_pop (pc' := 34) X276.here hx (hb hby d68_32_33) rfl rfl ?_
  refine s_goto (pc' := 48) X276.here hx (hb hby d68_32_34) (by decide) (by decide) ?_
  refine s_aloadN (pc' := 49) X276.here hx (hb hby d68_32_48) rfl rfl rfl ?_
  refine s_iloadN (pc' := 50) X276.here hx (hb hby d68_32_49) rfl rfl ?_
  have f277 : Fld Z T276.heap xb "java/lang/AbstractStringBuilder" "count" "I" (.int (Int32.ofNat X.length)) := (q4_273.keep Kq276 (ninS (Nat.ne_of_lt (Nat.lt_of_lt_of_le Exb.lt le273)) nin0))
  have f278 : Exa Z T276.heap xb "java/lang/StringBuilder" := (q1_273.keep Kq276)
  obtain ⟨T279, h279, X279, e279, W279, st279⟩ := putF X276 hx hZ hown (host := "") (Or.inl (hv hw 96 rfl)) Via.refl rfl f277 f278 (Or.inl (hv hw 97 rfl)) (hv hw 59 rfl) (ty := .int) (by decide) rfl rfl (g := (mkF m 50 #[vr xb, vi xl, .val (.int (Int32.ofNat X.length)), .val (.int (Int32.ofNat (X ++ (dec xl)).length))] [(.int (Int32.ofNat (X ++ (dec xl)).length)), (.ref xb)])) rfl rfl (hb hby d68_32_50)
  have Fw279 : Fld Z h279 xb "java/lang/AbstractStringBuilder" "count" "I" (.int (Int32.ofNat (X ++ (dec xl)).length)) := f277.same W279
  have K279 : Keep h0 h279 [xb, xt] := K276.wr W279 (Or.inl (List.mem_of_getElem? (i := 0) rfl))
  have O279 : Old Z n0 h279 := O276.wr W279 ge_xb
  have N279 := Fr.snoc X279 N276 ge_xb
  refine Go.st st279 ?_
  show Go p.tables e below Kx _ (mkF m 53 _ [])
  refine s_aloadN (pc' := 54) X279.here hx (hb hby d68_32_53) rfl rfl rfl ?_
  have f280 : Exa Z h279 t273 "[B" := ((q0_273.keep Kq276).wr W279)
  have f281 : Arv Z h279 t273 kt273 .byte (Int32.ofNat 34) (pad 34 (X ++ (dec xl))) (.int 0) := (q1_276.other W279 (Ne.symm (Nat.ne_of_lt (Nat.lt_of_lt_of_le Exb.lt le273))))
  have f282 : Exa Z h279 xb "java/lang/StringBuilder" := (f278.wr W279)
  have f283 : Fld Z h279 xb "java/lang/AbstractStringBuilder" "coder" "B" (.int 0) := ((q3_273.keep Kq276 (ninS (Nat.ne_of_lt (Nat.lt_of_lt_of_le Exb.lt le273)) nin0)).other W279 (Or.inr (slot_ne (Or.inl (hv hw 75 rfl)) (Or.inl (hv hw 97 rfl)) (by decide) (t := .byte) (t' := .int) (by decide) (by decide))))
  have f284 : Fld Z h279 xb "java/lang/AbstractStringBuilder" "value" "[B" (.ref t273) := ((q2_273.keep Kq276 (ninS (Nat.ne_of_lt (Nat.lt_of_lt_of_le Exb.lt le273)) nin0)).other W279 (Or.inr (slot_ne (Or.inl (hv hw 73 rfl)) (Or.inl (hv hw 97 rfl)) (by decide) (t := (.array .byte)) (t' := .int) (by decide) (by decide))))
  obtain ⟨fs, hr, hrun, hended, hW, hsame⟩ := X279.leave (v := (some (.ref xb))) (fun h => by rw [Bd.returns] at h; cases h)
  refine Go.fin (retOut X279 hx Bd.returns rfl (Or.inr (Or.inr (Or.inr (Or.inr ⟨rfl, rfl, rfl⟩)))) (hb hby d68_32_54) hr) (hF _ _ hrun hended ⟨_, _, rfl, ?_, ⟨_, rfl⟩, hW, hsame.mono (by decide) (by decide)⟩)
  ·
   show QHi0 Z xb xt kt X xl h0 n0 ((some (.ref xb)) : Option Value) T279.heap _
   rw [e279]
   exact ⟨rfl, N279, K279, f282, f283, Fw279, _, _, f284, Or.inr ⟨sz273, f280, f281⟩⟩
theorem pd_17 : parseMethodDescriptor "(I)Ljava/lang/AbstractStringBuilder;" = some ⟨[.int], some (.object "java/lang/AbstractStringBuilder")⟩ := by decide +kernel
theorem d67_15_2 : decode jdk_67_method_15_code 2 = .ok (.invokespecial 53, 3) := by decide +kernel
theorem d67_15_5 : decode jdk_67_method_15_code 5 = .ok (.pop, 1) := by decide +kernel
theorem d67_15_6 : decode jdk_67_method_15_code 6 = .ok (.aload_n 0, 1) := by decide +kernel
theorem d67_15_7 : decode jdk_67_method_15_code 7 = .ok (.areturn, 1) := by decide +kernel
def QHi1 (Z : State) (xb xt : Addr) (kt : ClassId) (X : List Int32) (xl : Int32) (h0 : Heap) (n0 : Nat) (v : Option Value) (h : Heap) (L : List Loc) : Prop := v = some (.ref xb) ∧ Fr n0 L ∧ Keep h0 h [xb, xt] ∧ Exa Z h xb "java/lang/StringBuilder" ∧ Fld Z h xb "java/lang/AbstractStringBuilder" "coder" "B" (.int 0) ∧ Fld Z h xb "java/lang/AbstractStringBuilder" "count" "I" (.int (Int32.ofNat (X ++ (dec xl)).length)) ∧ ∃ (t : Addr) (k : ClassId), Fld Z h xb "java/lang/AbstractStringBuilder" "value" "[B" (.ref t) ∧ ((t = xt ∧ Arv Z h t k .byte (Int32.ofNat 16) (pad 16 (X ++ (dec xl))) (.int 0) ∧ X.length + (dec xl).length ≤ 16) ∨ (h0.size ≤ t ∧ Exa Z h t "[B" ∧ Arv Z h t k .byte (Int32.ofNat 34) (pad 34 (X ++ (dec xl))) (.int 0)))
theorem rmHi1 (l : Launch) (Z : State) (a0 : Array Value) (hw : ∀ d ∈ tables_1, d.before a0 Z = true) (ws : List Jvm.Cond) (xb xt : Addr) (kt : ClassId) (X : List Int32) (xl : Int32) (h0 : Heap) (n0 : Nat) (X00 : Old Z n0 h0) (G1 : Int32) (S1 : Sta Z Z.heap "java/lang/String" "COMPACT_STRINGS" "Z" (.int G1)) (P1 : ¬ G1 = 0) (xo xq : Addr) (ko kq : ClassId) (SO : Sta Z Z.heap "java/lang/Integer" "DigitOnes" "[B" (.ref xo)) (SQ : Sta Z Z.heap "java/lang/Integer" "DigitTens" "[B" (.ref xq)) (AO : Arv Z Z.heap xo ko .byte 100 ONES (.int 0)) (AQ : Arv Z Z.heap xq kq .byte 100 TENS (.int 0)) (Exb : Exa Z h0 xb "java/lang/StringBuilder") (Vxb : Fld Z h0 xb "java/lang/AbstractStringBuilder" "value" "[B" (.ref xt)) (Cxb : Fld Z h0 xb "java/lang/AbstractStringBuilder" "coder" "B" (.int 0)) (Nxb : Fld Z h0 xb "java/lang/AbstractStringBuilder" "count" "I" (.int (Int32.ofNat X.length))) (Axt : Arv Z h0 xt kt .byte (Int32.ofNat 16) (pad 16 X) (.int 0)) (ge_xb : n0 ≤ xb) (ge_xt : n0 ≤ xt) (nbt : xb ≠ xt) (hX : X.length ≤ 16) (hg3 : X.length + (dec xl).length ≤ 30) :
  MetFree l yN30 (head1 (Jvm.Cond.code yN30 jdk_67_method_15_code 2 (some (.object "java/lang/StringBuilder")) :: ws) ({ frames := 5, cells := 1, slots := 34, locals := 77 } : Room)) (fun aa U => aa = #[(.ref xb), (.int xl)] ∧ Z.Warmed39 U.vm ∧ U.heap = h0) (fun _ _ _ _ _ => True) (fun _ U o U' => ∃ v L, o = .returned v ∧ QHi1 Z xb xt kt X xl h0 n0 v U'.heap L ∧ FrameEnd U o U' L ({ frames := 5, cells := 1, slots := 34, locals := 77 } : Room).cells ({ frames := 5, cells := 1, slots := 34, locals := 77 } : Room).slots) := by
 refine MetFree.of_bodySF (plainFor_of_name pn_3) hisR ?_
 intro p e s m args below meth c s₁ Bd hml0 hP hK
 obtain ⟨rfl, hZ, hh⟩ := hP
 have hx := Bd.exec
 have hby := Bd.bytes
 have hml : c.maxLocals = 2 := hml0
 have hown : s.vm.findClass "java/lang/StringBuilder" = some m.cls := findClass_of_methodNamed Bd.named
 have hnm := (name_of_methodNamed Bd.named Bd.method).1
 have X0 : Stand p l e ({ frames := 5, cells := 1, slots := 34, locals := 77 } : Room) s m #[(.ref xb), (.int xl)] below meth c s₁ [] 0 0 := Stand.of_body Bd
 have e0 : s₁.heap = h0 := by rw [← hh, Bd.state]; rfl
 have N0 := Fr.nil n0
 have K0 := Keep.refl h0 [xb, xt]
 have ef : entryFrame m #[(.ref xb), (.int xl)] 2 = mkF m 0 #[vr xb, vi xl] [] := by first | (simp [entryFrame, mkF, argsToLocals, Value.category]; done) | rfl
 rw [ef]
 refine fin_of fun Kx hF => ?_
 show Go p.tables e below Kx _ (mkF m 0 _ [])
 refine s_aloadN (pc' := 1) X0.here hx (hb hby d67_15_0) rfl rfl rfl ?_
 refine s_iloadN (pc' := 2) X0.here hx (hb hby d67_15_1) rfl rfl ?_
 obtain ⟨_, _, ⟨T285, L285, k285, n285⟩, -, X285, ⟨Lc285, hQ285, l285, y285, z285⟩, st285⟩ := superBack X0 hx hZ (y := yN5) hown (hv hw 130 rfl) (same_of (y := yN5) (z := yN7) (by decide) (hv hw 131 rfl) rfl (hv hw 101 rfl)) (hv hw 131 rfl) (hv hw 83 rfl) (by decide) (backOf (W := 0) (rmHi0 l Z a0 hw [] xb xt kt X xl h0 n0 X00 G1 S1 P1 xo xq ko kq SO SQ AO AQ Exb Vxb Cxb Nxb Axt ge_xb ge_xt nbt hX hg3) hZ (hv hw 133 rfl) (hv hw 68 rfl) (by decide) (by decide)) e0 (Ins.self Exb) (g := (mkF m 2 #[vr xb, vi xl] [(.int xl), (.ref xb)])) rfl (by rw [hml]; rfl) (hv hw 133 rfl) (argsL := [(.int xl)]) (rest := []) (lenOf pd_17 rfl) rfl (by exact Nat.le_of_eq rfl) (hb hby d67_15_2) (fun _ _ => ⟨rfl, e0, (by decide : 0 + 1 ≤ _), (by decide : 0 + 34 ≤ _)⟩)
 dsimp only [Pt.U, Pt.locs, Pt.cells, Pt.slots] at X285 l285 y285 z285 st285 hQ285
 rw [l285, y285, z285] at X285
 obtain ⟨rfl, Nq285, Kq285, hR285⟩ := hQ285
 have N285 := Fr.app N0 Nq285
 have K285 : Keep h0 T285.heap [xb, xt] := K0.trans Kq285 (allS (P := fun zz => zz ∈ [xb, xt] ∨ h0.size ≤ zz) (Or.inl (List.mem_of_getElem? (i := 0) rfl)) (allS (P := fun zz => zz ∈ [xb, xt] ∨ h0.size ≤ zz) (Or.inl (List.mem_of_getElem? (i := 1) rfl)) all0))
 have O285 : Old Z n0 T285.heap := X00.keep Kq285 (allS ge_xb (allS ge_xt all0))
 refine Go.tr st285 ?_
 show Go p.tables e below Kx _ (mkF m 5 _ [(.ref xb)])
 refine s_pop (pc' := 6) X285.here hx (hb hby d67_15_5) rfl rfl ?_
 refine s_aloadN (pc' := 7) X285.here hx (hb hby d67_15_6) rfl rfl rfl ?_
 obtain ⟨fs, hr, hrun, hended, hW, hsame⟩ := X285.leave (v := (some (.ref xb))) (fun h => by rw [Bd.returns] at h; cases h)
 refine Go.fin (retOut X285 hx Bd.returns rfl (Or.inr (Or.inr (Or.inr (Or.inr ⟨rfl, rfl, rfl⟩)))) (hb hby d67_15_7) hr) (hF _ _ hrun hended ⟨_, _, rfl, ?_, ⟨_, rfl⟩, hW, hsame.mono (by decide) (by decide)⟩)
 ·
  show QHi1 Z xb xt kt X xl h0 n0 ((some (.ref xb)) : Option Value) T285.heap _
  skip
  exact ⟨rfl, N285, K285, hR285⟩
theorem pd_18 : parseMethodDescriptor "(I)Ljava/lang/StringBuilder;" = some ⟨[.int], some (.object "java/lang/StringBuilder")⟩ := by decide +kernel
theorem p81_2_35 : decode prog_81_method_2_code 35 = .ok (.invokevirtual 34, 3) := by decide +kernel
theorem p81_2_38 : decode prog_81_method_2_code 38 = .ok (.ldc 37, 2) := by decide +kernel
theorem p81_2_40 : decode prog_81_method_2_code 40 = .ok (.invokevirtual 26, 3) := by decide +kernel
theorem d67_42_0 : decode jdk_67_method_42_code 0 = .ok (.new 18, 3) := by decide +kernel
theorem d67_42_3 : decode jdk_67_method_42_code 3 = .ok (.dup, 1) := by decide +kernel
theorem d67_42_4 : decode jdk_67_method_42_code 4 = .ok (.aload_n 0, 1) := by decide +kernel
theorem d42_53_0 : decode jdk_42_method_53_code 0 = .ok (.aload_n 0, 1) := by decide +kernel
theorem d42_53_1 : decode jdk_42_method_53_code 1 = .ok (.aload_n 1, 1) := by decide +kernel
theorem d42_53_2 : decode jdk_42_method_53_code 2 = .ok (.aconst_null, 1) := by decide +kernel
theorem d42_150_0 : decode jdk_42_method_150_code 0 = .ok (.aload_n 0, 1) := by decide +kernel
theorem d42_150_1 : decode jdk_42_method_150_code 1 = .ok (.invokespecial 1, 3) := by decide +kernel
theorem d42_150_4 : decode jdk_42_method_150_code 4 = .ok (.aload_n 1, 1) := by decide +kernel
theorem d68_64_0 : decode jdk_68_method_64_code 0 = .ok (.aload_n 0, 1) := by decide +kernel
theorem d68_64_1 : decode jdk_68_method_64_code 1 = .ok (.getfield 15, 3) := by decide +kernel
theorem d68_64_4 : decode jdk_68_method_64_code 4 = .ok (.areturn, 1) := by decide +kernel
def QKgv (Z : State) (xb xt : Addr) (h0 : Heap) (n0 : Nat) (v : Option Value) (h : Heap) (L : List Loc) : Prop := v = some (.ref xt) ∧ Fr n0 L ∧ h = h0
theorem rmKgv (l : Launch) (Z : State) (a0 : Array Value) (hw : ∀ d ∈ tables_1, d.before a0 Z = true) (ws : List Jvm.Cond) (xb xt : Addr) (h0 : Heap) (n0 : Nat) (X00 : Old Z n0 h0) (Vxb : Fld Z h0 xb "java/lang/AbstractStringBuilder" "value" "[B" (.ref xt)) :
  MetFree l yN8 (head1 (Jvm.Cond.code yN8 jdk_68_method_64_code 1 (some (.array .byte)) :: ws) ({ frames := 0, cells := 0, slots := 0, locals := 0 } : Room)) (fun aa U => aa = #[(.ref xb)] ∧ Z.Warmed39 U.vm ∧ U.heap = h0) (fun _ _ _ _ _ => True) (fun _ U o U' => ∃ v L, o = .returned v ∧ QKgv Z xb xt h0 n0 v U'.heap L ∧ FrameEnd U o U' L ({ frames := 0, cells := 0, slots := 0, locals := 0 } : Room).cells ({ frames := 0, cells := 0, slots := 0, locals := 0 } : Room).slots) := by
 refine MetFree.of_bodySF (plainFor_of_name pn_4) hisR ?_
 intro p e s m args below meth c s₁ Bd hml0 hP hK
 obtain ⟨rfl, hZ, hh⟩ := hP
 have hx := Bd.exec
 have hby := Bd.bytes
 have hml : c.maxLocals = 1 := hml0
 have hown : s.vm.findClass "java/lang/AbstractStringBuilder" = some m.cls := findClass_of_methodNamed Bd.named
 have hnm := (name_of_methodNamed Bd.named Bd.method).1
 have X0 : Stand p l e ({ frames := 0, cells := 0, slots := 0, locals := 0 } : Room) s m #[(.ref xb)] below meth c s₁ [] 0 0 := Stand.of_body Bd
 have e0 : s₁.heap = h0 := by rw [← hh, Bd.state]; rfl
 have N0 := Fr.nil n0
 have K0 := Keep.refl h0 []
 have ef : entryFrame m #[(.ref xb)] 1 = mkF m 0 #[vr xb] [] := by first | (simp [entryFrame, mkF, argsToLocals, Value.category]; done) | rfl
 rw [ef]
 refine fin_of fun Kx hF => ?_
 show Go p.tables e below Kx _ (mkF m 0 _ [])
 refine s_aloadN (pc' := 1) X0.here hx (hb hby d68_64_0) rfl rfl rfl ?_
 obtain ⟨T303, X303, e303, st303⟩ := getF X0 hx hZ hown (host := "") (Or.inl (hv hw 72 rfl)) Via.refl e0 Vxb (g := (mkF m 1 #[vr xb] [(.ref xb)])) rfl rfl (hb hby d68_64_1)
 refine Go.st st303 ?_
 show Go p.tables e below Kx _ (mkF m 4 _ [(.ref xt)])
 obtain ⟨fs, hr, hrun, hended, hW, hsame⟩ := X303.leave (v := (some (.ref xt))) (fun h => by rw [Bd.returns] at h; cases h)
 refine Go.fin (retOut X303 hx Bd.returns rfl (Or.inr (Or.inr (Or.inr (Or.inr ⟨rfl, rfl, rfl⟩)))) (hb hby d68_64_4) hr) (hF _ _ hrun hended ⟨_, _, rfl, ?_, ⟨_, rfl⟩, hW, hsame.mono (by decide) (by decide)⟩)
 ·
  show QKgv Z xb xt h0 n0 ((some (.ref xt)) : Option Value) T303.heap _
  rw [e303]
  exact ⟨rfl, N0, rfl⟩
theorem pd_19 : parseMethodDescriptor "()[B" = some ⟨[], some (.array .byte)⟩ := by decide +kernel
theorem d42_150_5 : decode jdk_42_method_150_code 5 = .ok (.invokevirtual 552, 3) := by decide +kernel
theorem d42_150_8 : decode jdk_42_method_150_code 8 = .ok (.astore_n 3, 1) := by decide +kernel
theorem d42_150_9 : decode jdk_42_method_150_code 9 = .ok (.aload_n 1, 1) := by decide +kernel
theorem d67_93_0 : decode jdk_67_method_93_code 0 = .ok (.aload_n 0, 1) := by decide +kernel
theorem d68_6_0 : decode jdk_68_method_6_code 0 = .ok (.aload_n 0, 1) := by decide +kernel
theorem d68_6_1 : decode jdk_68_method_6_code 1 = .ok (.getfield 79, 3) := by decide +kernel
theorem d68_6_4 : decode jdk_68_method_6_code 4 = .ok (.ireturn, 1) := by decide +kernel
def QGb0 (Z : State) (xb : Addr) (nb : Int32) (h0 : Heap) (n0 : Nat) (v : Option Value) (h : Heap) (L : List Loc) : Prop := v = some (.int nb) ∧ Fr n0 L ∧ h = h0
theorem rmGb0 (l : Launch) (Z : State) (a0 : Array Value) (hw : ∀ d ∈ tables_1, d.before a0 Z = true) (ws : List Jvm.Cond) (xb : Addr) (nb : Int32) (h0 : Heap) (n0 : Nat) (X00 : Old Z n0 h0) (Exb : Exa Z h0 xb "java/lang/StringBuilder") (Nxb : Fld Z h0 xb "java/lang/AbstractStringBuilder" "count" "I" (.int nb)) :
  MetFree l yN11 (head1 (Jvm.Cond.code yN11 jdk_68_method_6_code 1 (some .int) :: ws) ({ frames := 0, cells := 0, slots := 0, locals := 0 } : Room)) (fun aa U => aa = #[(.ref xb)] ∧ Z.Warmed39 U.vm ∧ U.heap = h0) (fun _ _ _ _ _ => True) (fun _ U o U' => ∃ v L, o = .returned v ∧ QGb0 Z xb nb h0 n0 v U'.heap L ∧ FrameEnd U o U' L ({ frames := 0, cells := 0, slots := 0, locals := 0 } : Room).cells ({ frames := 0, cells := 0, slots := 0, locals := 0 } : Room).slots) := by
 refine MetFree.of_bodySF (plainFor_of_name pn_4) hisR ?_
 intro p e s m args below meth c s₁ Bd hml0 hP hK
 obtain ⟨rfl, hZ, hh⟩ := hP
 have hx := Bd.exec
 have hby := Bd.bytes
 have hml : c.maxLocals = 1 := hml0
 have hown : s.vm.findClass "java/lang/AbstractStringBuilder" = some m.cls := findClass_of_methodNamed Bd.named
 have hnm := (name_of_methodNamed Bd.named Bd.method).1
 have X0 : Stand p l e ({ frames := 0, cells := 0, slots := 0, locals := 0 } : Room) s m #[(.ref xb)] below meth c s₁ [] 0 0 := Stand.of_body Bd
 have e0 : s₁.heap = h0 := by rw [← hh, Bd.state]; rfl
 have N0 := Fr.nil n0
 have K0 := Keep.refl h0 []
 have ef : entryFrame m #[(.ref xb)] 1 = mkF m 0 #[vr xb] [] := by first | (simp [entryFrame, mkF, argsToLocals, Value.category]; done) | rfl
 rw [ef]
 refine fin_of fun Kx hF => ?_
 show Go p.tables e below Kx _ (mkF m 0 _ [])
 refine s_aloadN (pc' := 1) X0.here hx (hb hby d68_6_0) rfl rfl rfl ?_
 obtain ⟨T305, X305, e305, st305⟩ := getF X0 hx hZ hown (host := "") (Or.inl (hv hw 96 rfl)) Via.refl e0 Nxb (g := (mkF m 1 #[vr xb] [(.ref xb)])) rfl rfl (hb hby d68_6_1)
 refine Go.st st305 ?_
 show Go p.tables e below Kx _ (mkF m 4 _ [(.int nb)])
 obtain ⟨fs, hr, hrun, hended, hW, hsame⟩ := X305.leave (v := (some (.int nb))) (fun h => by rw [Bd.returns] at h; cases h)
 refine Go.fin (retI X305 hx Bd.returns (hb hby d68_6_4) hr) (hF _ _ hrun hended ⟨_, _, rfl, ?_, ⟨_, rfl⟩, hW, hsame.mono (by decide) (by decide)⟩)
 ·
  show QGb0 Z xb nb h0 n0 ((some (.int nb)) : Option Value) T305.heap _
  rw [e305]
  exact ⟨rfl, N0, rfl⟩
theorem d67_93_1 : decode jdk_67_method_93_code 1 = .ok (.invokespecial 343, 3) := by decide +kernel
theorem d67_93_4 : decode jdk_67_method_93_code 4 = .ok (.ireturn, 1) := by decide +kernel
def QGb1 (Z : State) (xb : Addr) (nb : Int32) (h0 : Heap) (n0 : Nat) (v : Option Value) (h : Heap) (L : List Loc) : Prop := v = some (.int nb) ∧ Fr n0 L ∧ h = h0
theorem rmGb1 (l : Launch) (Z : State) (a0 : Array Value) (hw : ∀ d ∈ tables_1, d.before a0 Z = true) (ws : List Jvm.Cond) (xb : Addr) (nb : Int32) (h0 : Heap) (n0 : Nat) (X00 : Old Z n0 h0) (Exb : Exa Z h0 xb "java/lang/StringBuilder") (Nxb : Fld Z h0 xb "java/lang/AbstractStringBuilder" "count" "I" (.int nb)) :
  MetFree l yN32 (head1 (Jvm.Cond.code yN32 jdk_67_method_93_code 1 (some .int) :: ws) ({ frames := 1, cells := 0, slots := 0, locals := 12 } : Room)) (fun aa U => aa = #[(.ref xb)] ∧ Z.Warmed39 U.vm ∧ U.heap = h0) (fun _ _ _ _ _ => True) (fun _ U o U' => ∃ v L, o = .returned v ∧ QGb1 Z xb nb h0 n0 v U'.heap L ∧ FrameEnd U o U' L ({ frames := 1, cells := 0, slots := 0, locals := 12 } : Room).cells ({ frames := 1, cells := 0, slots := 0, locals := 12 } : Room).slots) := by
 refine MetFree.of_bodySF (plainFor_of_name pn_3) hisR ?_
 intro p e s m args below meth c s₁ Bd hml0 hP hK
 obtain ⟨rfl, hZ, hh⟩ := hP
 have hx := Bd.exec
 have hby := Bd.bytes
 have hml : c.maxLocals = 1 := hml0
 have hown : s.vm.findClass "java/lang/StringBuilder" = some m.cls := findClass_of_methodNamed Bd.named
 have hnm := (name_of_methodNamed Bd.named Bd.method).1
 have X0 : Stand p l e ({ frames := 1, cells := 0, slots := 0, locals := 12 } : Room) s m #[(.ref xb)] below meth c s₁ [] 0 0 := Stand.of_body Bd
 have e0 : s₁.heap = h0 := by rw [← hh, Bd.state]; rfl
 have N0 := Fr.nil n0
 have K0 := Keep.refl h0 []
 have ef : entryFrame m #[(.ref xb)] 1 = mkF m 0 #[vr xb] [] := by first | (simp [entryFrame, mkF, argsToLocals, Value.category]; done) | rfl
 rw [ef]
 refine fin_of fun Kx hF => ?_
 show Go p.tables e below Kx _ (mkF m 0 _ [])
 refine s_aloadN (pc' := 1) X0.here hx (hb hby d67_93_0) rfl rfl rfl ?_
 obtain ⟨_, _, ⟨T306, L306, k306, n306⟩, -, X306, ⟨Lc306, hQ306, l306, y306, z306⟩, st306⟩ := superBack X0 hx hZ (y := yN11) hown (hv hw 171 rfl) (same_of (y := yN11) (z := yN7) (by decide) (hv hw 167 rfl) rfl (hv hw 101 rfl)) (hv hw 167 rfl) (hv hw 83 rfl) (by decide) (backOf (W := 0) (rmGb0 l Z a0 hw [] xb nb h0 n0 X00 Exb Nxb) hZ (hv hw 172 rfl) (hv hw 68 rfl) (by decide) (by decide)) e0 (Ins.self Exb) (g := (mkF m 1 #[vr xb] [(.ref xb)])) rfl (by rw [hml]; rfl) (hv hw 172 rfl) (argsL := []) (rest := []) (lenOf pd_5 rfl) rfl (by exact Nat.le_of_eq rfl) (hb hby d67_93_1) (fun _ _ => ⟨rfl, e0, (by decide : 0 + 0 ≤ _), (by decide : 0 + 0 ≤ _)⟩)
 dsimp only [Pt.U, Pt.locs, Pt.cells, Pt.slots] at X306 l306 y306 z306 st306 hQ306
 rw [l306, y306, z306] at X306
 obtain ⟨rfl, Nq306, hE306⟩ := hQ306
 have N306 := Fr.app N0 Nq306
 refine Go.tr st306 ?_
 show Go p.tables e below Kx _ (mkF m 4 _ [(.int nb)])
 obtain ⟨fs, hr, hrun, hended, hW, hsame⟩ := X306.leave (v := (some (.int nb))) (fun h => by rw [Bd.returns] at h; cases h)
 refine Go.fin (retI X306 hx Bd.returns (hb hby d67_93_4) hr) (hF _ _ hrun hended ⟨_, _, rfl, ?_, ⟨_, rfl⟩, hW, hsame.mono (by decide) (by decide)⟩)
 ·
  show QGb1 Z xb nb h0 n0 ((some (.int nb)) : Option Value) T306.heap _
  rw [hE306]
  exact ⟨rfl, N306, rfl⟩
theorem d42_150_10 : decode jdk_42_method_150_code 10 = .ok (.invokevirtual 549, 3) := by decide +kernel
theorem d42_150_13 : decode jdk_42_method_150_code 13 = .ok (.istore 4, 2) := by decide +kernel
theorem d42_150_15 : decode jdk_42_method_150_code 15 = .ok (.aload_n 1, 1) := by decide +kernel
theorem d42_150_16 : decode jdk_42_method_150_code 16 = .ok (.invokevirtual 1047, 3) := by decide +kernel
theorem d42_150_19 : decode jdk_42_method_150_code 19 = .ok (.ifCond .eq 22, 3) := by decide +kernel
theorem d42_150_22 : decode jdk_42_method_150_code 22 = .ok (.aload_n 0, 1) := by decide +kernel
theorem d42_150_23 : decode jdk_42_method_150_code 23 = .ok (.iconst 0, 1) := by decide +kernel
theorem d42_150_24 : decode jdk_42_method_150_code 24 = .ok (.putfield 15, 3) := by decide +kernel
theorem d42_150_27 : decode jdk_42_method_150_code 27 = .ok (.aload_n 0, 1) := by decide +kernel
theorem d42_150_28 : decode jdk_42_method_150_code 28 = .ok (.aload_n 3, 1) := by decide +kernel
theorem d42_150_29 : decode jdk_42_method_150_code 29 = .ok (.iconst 0, 1) := by decide +kernel
theorem d42_150_30 : decode jdk_42_method_150_code 30 = .ok (.iload 4, 2) := by decide +kernel
theorem d65_132_0 : decode jdk_65_method_132_code 0 = .ok (.iload_n 1, 1) := by decide +kernel
theorem d65_132_1 : decode jdk_65_method_132_code 1 = .ok (.ifCond .ne 9, 3) := by decide +kernel
theorem d65_132_4 : decode jdk_65_method_132_code 4 = .ok (.iload_n 2, 1) := by decide +kernel
theorem d65_132_5 : decode jdk_65_method_132_code 5 = .ok (.aload_n 0, 1) := by decide +kernel
theorem d65_132_6 : decode jdk_65_method_132_code 6 = .ok (.arraylength, 1) := by decide +kernel
theorem d65_132_7 : decode jdk_65_method_132_code 7 = .ok (.if_icmp .eq 10, 3) := by decide +kernel
theorem d65_132_17 : decode jdk_65_method_132_code 17 = .ok (.aload_n 0, 1) := by decide +kernel
theorem d65_132_18 : decode jdk_65_method_132_code 18 = .ok (.invokevirtual 310, 3) := by decide +kernel
theorem d65_132_21 : decode jdk_65_method_132_code 21 = .ok (.checkcast 311, 3) := by decide +kernel
theorem d65_132_24 : decode jdk_65_method_132_code 24 = .ok (.areturn, 1) := by decide +kernel
theorem d65_132_10 : decode jdk_65_method_132_code 10 = .ok (.aload_n 0, 1) := by decide +kernel
theorem d65_132_11 : decode jdk_65_method_132_code 11 = .ok (.iload_n 1, 1) := by decide +kernel
theorem d65_132_12 : decode jdk_65_method_132_code 12 = .ok (.iload_n 2, 1) := by decide +kernel
theorem d65_133_0 : decode jdk_65_method_133_code 0 = .ok (.iload_n 1, 1) := by decide +kernel
theorem d65_133_1 : decode jdk_65_method_133_code 1 = .ok (.iload_n 2, 1) := by decide +kernel
theorem d65_131_0 : decode jdk_65_method_131_code 0 = .ok (.iload_n 1, 1) := by decide +kernel
theorem d65_131_1 : decode jdk_65_method_131_code 1 = .ok (.iload_n 0, 1) := by decide +kernel
theorem d65_131_2 : decode jdk_65_method_131_code 2 = .ok (.if_icmp .ge 35, 3) := by decide +kernel
theorem d65_131_37 : decode jdk_65_method_131_code 37 = .ok (.return_, 1) := by decide +kernel
def QGck (Z : State) (jb : Int32) (h0 : Heap) (n0 : Nat) (v : Option Value) (h : Heap) (L : List Loc) : Prop := v = none ∧ Fr n0 L ∧ h = h0
theorem rmGck (l : Launch) (Z : State) (a0 : Array Value) (hw : ∀ d ∈ tables_1, d.before a0 Z = true) (ws : List Jvm.Cond) (jb : Int32) (h0 : Heap) (n0 : Nat) (X00 : Old Z n0 h0) (hlt : ¬ jb < 0) :
  MetFree l yN35 (head1 (Jvm.Cond.code yN35 jdk_65_method_131_code 2 none :: ws) ({ frames := 0, cells := 0, slots := 0, locals := 0 } : Room)) (fun aa U => aa = #[(.int 0), (.int jb)] ∧ Z.Warmed39 U.vm ∧ U.heap = h0) (fun _ _ _ _ _ => True) (fun _ U o U' => ∃ v L, o = .returned v ∧ QGck Z jb h0 n0 v U'.heap L ∧ FrameEnd U o U' L ({ frames := 0, cells := 0, slots := 0, locals := 0 } : Room).cells ({ frames := 0, cells := 0, slots := 0, locals := 0 } : Room).slots) := by
 refine MetFree.of_bodySF (plainFor_of_name pn_8) hisR ?_
 intro p e s m args below meth c s₁ Bd hml0 hP hK
 obtain ⟨rfl, hZ, hh⟩ := hP
 have hx := Bd.exec
 have hby := Bd.bytes
 have hml : c.maxLocals = 2 := hml0
 have hown : s.vm.findClass "java/util/Arrays" = some m.cls := findClass_of_methodNamed Bd.named
 have hnm := (name_of_methodNamed Bd.named Bd.method).1
 have X0 : Stand p l e ({ frames := 0, cells := 0, slots := 0, locals := 0 } : Room) s m #[(.int 0), (.int jb)] below meth c s₁ [] 0 0 := Stand.of_body Bd
 have e0 : s₁.heap = h0 := by rw [← hh, Bd.state]; rfl
 have N0 := Fr.nil n0
 have K0 := Keep.refl h0 []
 have ef : entryFrame m #[(.int 0), (.int jb)] 2 = mkF m 0 #[vi 0, vi jb] [] := by first | (simp [entryFrame, mkF, argsToLocals, Value.category]; done) | rfl
 rw [ef]
 refine fin_of fun Kx hF => ?_
 show Go p.tables e below Kx _ (mkF m 0 _ [])
 refine s_iloadN (pc' := 1) X0.here hx (hb hby d65_131_0) rfl rfl ?_
 refine s_iloadN (pc' := 2) X0.here hx (hb hby d65_131_1) rfl rfl ?_
 refine s_icmpY (pc' := 37) X0.here hx (hb hby d65_131_2) (flt hlt).2.1 (by decide) (by decide) ?_
 obtain ⟨fs, hr, hrun, hended, hW, hsame⟩ := X0.leave (v := none) (fun _ => rfl)
 refine Go.fin (X0.returnOut hx Bd.returns (hb hby d65_131_37) hr) (hF _ _ hrun hended ⟨_, _, rfl, ?_, ⟨_, rfl⟩, hW, hsame.mono (by decide) (by decide)⟩)
 ·
  show QGck Z jb h0 n0 (none : Option Value) s₁.heap _
  rw [e0]
  exact ⟨rfl, N0, rfl⟩
theorem pd_20 : parseMethodDescriptor "(II)V" = some ⟨[.int, .int], none⟩ := by decide +kernel
theorem d65_133_2 : decode jdk_65_method_133_code 2 = .ok (.invokestatic 343, 3) := by decide +kernel
theorem d65_133_5 : decode jdk_65_method_133_code 5 = .ok (.iload_n 2, 1) := by decide +kernel
theorem d65_133_6 : decode jdk_65_method_133_code 6 = .ok (.iload_n 1, 1) := by decide +kernel
theorem d65_133_7 : decode jdk_65_method_133_code 7 = .ok (.isub, 1) := by decide +kernel
theorem d65_133_8 : decode jdk_65_method_133_code 8 = .ok (.istore_n 3, 1) := by decide +kernel
theorem d65_133_9 : decode jdk_65_method_133_code 9 = .ok (.iload_n 3, 1) := by decide +kernel
theorem d65_133_10 : decode jdk_65_method_133_code 10 = .ok (.newarray .byte, 2) := by decide +kernel
theorem d65_133_12 : decode jdk_65_method_133_code 12 = .ok (.astore 4, 2) := by decide +kernel
theorem d65_133_14 : decode jdk_65_method_133_code 14 = .ok (.aload_n 0, 1) := by decide +kernel
theorem d65_133_15 : decode jdk_65_method_133_code 15 = .ok (.iload_n 1, 1) := by decide +kernel
theorem d65_133_16 : decode jdk_65_method_133_code 16 = .ok (.aload 4, 2) := by decide +kernel
theorem d65_133_18 : decode jdk_65_method_133_code 18 = .ok (.iconst 0, 1) := by decide +kernel
theorem d65_133_19 : decode jdk_65_method_133_code 19 = .ok (.aload_n 0, 1) := by decide +kernel
theorem d65_133_20 : decode jdk_65_method_133_code 20 = .ok (.arraylength, 1) := by decide +kernel
theorem d65_133_21 : decode jdk_65_method_133_code 21 = .ok (.iload_n 1, 1) := by decide +kernel
theorem d65_133_22 : decode jdk_65_method_133_code 22 = .ok (.isub, 1) := by decide +kernel
theorem d65_133_23 : decode jdk_65_method_133_code 23 = .ok (.iload_n 3, 1) := by decide +kernel
theorem d29_69_9 : decode jdk_29_method_69_code 9 = .ok (.iload_n 1, 1) := by decide +kernel
def QGmin (Z : State) (ja jb : Int32) (h0 : Heap) (n0 : Nat) (v : Option Value) (h : Heap) (L : List Loc) : Prop := v = some (.int jb) ∧ Fr n0 L ∧ h = h0
theorem rmGmin (l : Launch) (Z : State) (a0 : Array Value) (hw : ∀ d ∈ tables_1, d.before a0 Z = true) (ws : List Jvm.Cond) (ja jb : Int32) (h0 : Heap) (n0 : Nat) (X00 : Old Z n0 h0) (hlt : jb < ja) :
  MetFree l yN18 (head1 (Jvm.Cond.code yN18 jdk_29_method_69_code 2 (some .int) :: ws) ({ frames := 0, cells := 0, slots := 0, locals := 0 } : Room)) (fun aa U => aa = #[(.int ja), (.int jb)] ∧ Z.Warmed39 U.vm ∧ U.heap = h0) (fun _ _ _ _ _ => True) (fun _ U o U' => ∃ v L, o = .returned v ∧ QGmin Z ja jb h0 n0 v U'.heap L ∧ FrameEnd U o U' L ({ frames := 0, cells := 0, slots := 0, locals := 0 } : Room).cells ({ frames := 0, cells := 0, slots := 0, locals := 0 } : Room).slots) := by
 refine MetFree.of_bodySF (Jvm.Free.JP.mathPlain rfl (by decide +kernel)) hisR ?_
 intro p e s m args below meth c s₁ Bd hml0 hP hK
 obtain ⟨rfl, hZ, hh⟩ := hP
 have hx := Bd.exec
 have hby := Bd.bytes
 have hml : c.maxLocals = 2 := hml0
 have hown : s.vm.findClass "java/lang/Math" = some m.cls := findClass_of_methodNamed Bd.named
 have hnm := (name_of_methodNamed Bd.named Bd.method).1
 have X0 : Stand p l e ({ frames := 0, cells := 0, slots := 0, locals := 0 } : Room) s m #[(.int ja), (.int jb)] below meth c s₁ [] 0 0 := Stand.of_body Bd
 have e0 : s₁.heap = h0 := by rw [← hh, Bd.state]; rfl
 have N0 := Fr.nil n0
 have K0 := Keep.refl h0 []
 have ef : entryFrame m #[(.int ja), (.int jb)] 2 = mkF m 0 #[vi ja, vi jb] [] := by first | (simp [entryFrame, mkF, argsToLocals, Value.category]; done) | rfl
 rw [ef]
 refine fin_of fun Kx hF => ?_
 show Go p.tables e below Kx _ (mkF m 0 _ [])
 refine s_iloadN (pc' := 1) X0.here hx (hb hby d29_69_0) rfl rfl ?_
 refine s_iloadN (pc' := 2) X0.here hx (hb hby d29_69_1) rfl rfl ?_
 refine s_icmpY (pc' := 9) X0.here hx (hb hby d29_69_2) (tlt hlt).2.2.1 (by decide) (by decide) ?_
 refine s_iloadN (pc' := 10) X0.here hx (hb hby d29_69_9) rfl rfl ?_
 obtain ⟨fs, hr, hrun, hended, hW, hsame⟩ := X0.leave (v := (some (.int jb))) (fun h => by rw [Bd.returns] at h; cases h)
 refine Go.fin (retI X0 hx Bd.returns (hb hby d29_69_10) hr) (hF _ _ hrun hended ⟨_, _, rfl, ?_, ⟨_, rfl⟩, hW, hsame.mono (by decide) (by decide)⟩)
 ·
  show QGmin Z ja jb h0 n0 ((some (.int jb)) : Option Value) s₁.heap _
  rw [e0]
  exact ⟨rfl, N0, rfl⟩
theorem d65_133_24 : decode jdk_65_method_133_code 24 = .ok (.invokestatic 304, 3) := by decide +kernel
theorem d65_133_27 : decode jdk_65_method_133_code 27 = .ok (.invokestatic 150, 3) := by decide +kernel
theorem d65_133_30 : decode jdk_65_method_133_code 30 = .ok (.aload 4, 2) := by decide +kernel
theorem d65_133_32 : decode jdk_65_method_133_code 32 = .ok (.areturn, 1) := by decide +kernel
def QHq (Z : State) (xt : Addr) (kt : ClassId) (N : Nat) (X : List Int32) (h0 : Heap) (n0 : Nat) (v : Option Value) (h : Heap) (L : List Loc) : Prop := ∃ (t : Addr) (k : ClassId), v = some (.ref t) ∧ Fr n0 L ∧ Keep h0 h [] ∧ h0.size ≤ t ∧ Exa Z h t "[B" ∧ Arv Z h t k .byte (Int32.ofNat X.length) (X.map Value.int) (.int 0)
theorem rmHq (l : Launch) (Z : State) (a0 : Array Value) (hw : ∀ d ∈ tables_1, d.before a0 Z = true) (ws : List Jvm.Cond) (xt : Addr) (kt : ClassId) (N : Nat) (X : List Int32) (h0 : Heap) (n0 : Nat) (X00 : Old Z n0 h0) (Axt : Arv Z h0 xt kt .byte (Int32.ofNat N) (pad N X) (.int 0)) (hN : N ≤ 34) (hlt : X.length < N) :
  MetFree l yN38 (head1 (Jvm.Cond.code yN38 jdk_65_method_133_code 5 (some (.array .byte)) :: ws) ({ frames := 1, cells := 1, slots := 34, locals := 18 } : Room)) (fun aa U => aa = #[(.ref xt), (.int 0), (.int (Int32.ofNat X.length))] ∧ Z.Warmed39 U.vm ∧ U.heap = h0) (fun _ _ _ _ _ => True) (fun _ U o U' => ∃ v L, o = .returned v ∧ QHq Z xt kt N X h0 n0 v U'.heap L ∧ FrameEnd U o U' L ({ frames := 1, cells := 1, slots := 34, locals := 18 } : Room).cells ({ frames := 1, cells := 1, slots := 34, locals := 18 } : Room).slots) := by
 refine MetFree.of_bodySF (plainFor_of_name pn_8) hisR ?_
 intro p e s m args below meth c s₁ Bd hml0 hP hK
 obtain ⟨rfl, hZ, hh⟩ := hP
 have hx := Bd.exec
 have hby := Bd.bytes
 have hml : c.maxLocals = 5 := hml0
 have hown : s.vm.findClass "java/util/Arrays" = some m.cls := findClass_of_methodNamed Bd.named
 have hnm := (name_of_methodNamed Bd.named Bd.method).1
 have X0 : Stand p l e ({ frames := 1, cells := 1, slots := 34, locals := 18 } : Room) s m #[(.ref xt), (.int 0), (.int (Int32.ofNat X.length))] below meth c s₁ [] 0 0 := Stand.of_body Bd
 have e0 : s₁.heap = h0 := by rw [← hh, Bd.state]; rfl
 have N0 := Fr.nil n0
 have K0 := Keep.refl h0 []
 have ef : entryFrame m #[(.ref xt), (.int 0), (.int (Int32.ofNat X.length))] 5 = mkF m 0 #[vr xt, vi 0, .val (.int (Int32.ofNat X.length)), un, un] [] := by first | (simp [entryFrame, mkF, argsToLocals, Value.category]; done) | rfl
 rw [ef]
 refine fin_of fun Kx hF => ?_
 show Go p.tables e below Kx _ (mkF m 0 _ [])
 have hl := Nat.le_of_lt hlt
 have hN4 : N ≤ 4000 := by omega
 have lX4 : X.length ≤ 4000 := by omega
 show Go p.tables e below Kx _ (mkF m 0 _ [])
 refine s_iloadN (pc' := 1) X0.here hx (hb hby d65_133_0) rfl rfl ?_
 refine s_iloadN (pc' := 2) X0.here hx (hb hby d65_133_1) rfl rfl ?_
 obtain ⟨_, T315, L315, X315, hQ315, st315⟩ := kS X0 hx hZ (y := yN35) hown (hv hw 181 rfl) (hv hw 182 rfl) (hv hw 176 rfl) (hv hw 183 rfl) (by decide) (rmGck l Z a0 hw [] (Int32.ofNat X.length) h0 n0 X00 (nn0 lX4)) e0 (W := 0) (g := (mkF m 2 #[vr xt, vi 0, .val (.int (Int32.ofNat X.length)), un, un] [(.int (Int32.ofNat X.length)), (.int 0)])) rfl (by rw [hml]; rfl) (argsL := [(.int 0), (.int (Int32.ofNat X.length))]) (rest := []) (lenOf pd_20 rfl) rfl (by exact Nat.le_of_eq rfl) (hb hby d65_133_2) rfl (nb rfl) (nb rfl) (nb rfl) (nb rfl)
 obtain ⟨rfl, Nq315, hE315⟩ := hQ315
 have N315 := Fr.app N0 Nq315
 refine Go.st st315 ?_
 show Go p.tables e below Kx _ (mkF m 5 _ [])
 refine s_iloadN (pc' := 6) X315.here hx (hb hby d65_133_5) rfl rfl ?_
 refine s_iloadN (pc' := 7) X315.here hx (hb hby d65_133_6) rfl rfl ?_
 refine s_isub (pc' := 8) (z := (Int32.ofNat X.length)) X315.here hx (hb hby d65_133_7) rfl (Int32.sub_zero _) ?_
 refine s_istoreN (pc' := 9) (Ls' := #[vr xt, vi 0, .val (.int (Int32.ofNat X.length)), .val (.int (Int32.ofNat X.length)), un]) X315.here hx (hb hby d65_133_8) rfl  rfl ?_
 refine s_iloadN (pc' := 10) X315.here hx (hb hby d65_133_9) rfl rfl ?_
 obtain ⟨T316, h316, k316, X316, e316, E316, A316, B316, st316⟩ := newPE X315 hx hZ (hv hw 19 rfl) hE315 (g := (mkF m 10 #[vr xt, vi 0, .val (.int (Int32.ofNat X.length)), .val (.int (Int32.ofNat X.length)), un] [(.int (Int32.ofNat X.length))])) rfl (hb hby d65_133_10) rfl (nn0 lX4) (cap := 34) (by rw [nl lX4]; omega) (by decide) (by decide) (by decide) (ad := "[B") (by decide)
 obtain ⟨b316, g316⟩ : ∃ z, z = h0.size := ⟨_, rfl⟩
 rw [← g316] at A316 B316 st316
 have sz316 : h0.size ≤ b316 := Nat.le_trans K0.1 (Nat.le_of_eq g316.symm)
 have ge316 : n0 ≤ b316 := Nat.le_trans (X00.1 ▸ X00.2.1) (Nat.le_of_eq g316.symm)
 have K316 : Keep h0 h316 [] := K0.ext E316
 have O316 : Old Z n0 h316 := X00.ext E316
 have V316 : Arv Z h316 b316 k316 .byte (Int32.ofNat X.length) (pad X.length []) (.int 0) := newPad (n := X.length) A316 lX4
 refine Go.st st316 ?_
 show Go p.tables e below Kx _ (mkF m 12 _ [(.ref b316)])
 refine s_astore (pc' := 14) (Ls' := #[vr xt, vi 0, .val (.int (Int32.ofNat X.length)), .val (.int (Int32.ofNat X.length)), vr b316]) X316.here hx (hb hby d65_133_12) rfl rfl rfl ?_
 refine s_aloadN (pc' := 15) X316.here hx (hb hby d65_133_14) rfl rfl rfl ?_
 refine s_iloadN (pc' := 16) X316.here hx (hb hby d65_133_15) rfl rfl ?_
 refine s_aload (pc' := 18) X316.here hx (hb hby d65_133_16) rfl rfl rfl ?_
 refine s_iconst (pc' := 19) (v := 0) X316.here hx (hb hby d65_133_18) rfl rfl ?_
 refine s_aloadN (pc' := 20) X316.here hx (hb hby d65_133_19) rfl rfl rfl ?_
 have f317 : Arv Z h316 xt kt .byte (Int32.ofNat N) (pad N X) (.int 0) := (Axt.ext E316)
 obtain ⟨cl318, Ar318, Aq318, As318, An318, Ah318, Ag318⟩ := id f317
 refine Go.st (X316.arraylength hx (by rw [e316]; exact Ar318.1) (State.isArrayOf_alike hZ.alike Ar318.2.1) (g := (mkF m 20 #[vr xt, vi 0, .val (.int (Int32.ofNat X.length)), .val (.int (Int32.ofNat X.length)), vr b316] [(.ref xt), (.int 0), (.ref b316), (.int 0), (.ref xt)])) rfl rfl (hb hby d65_133_20)) ?_
 rw [len_of As318 An318]
 show Go p.tables e below Kx _ (mkF m 21 _ [(.int (Int32.ofNat N)), (.int 0), (.ref b316), (.int 0), (.ref xt)])
 refine s_iloadN (pc' := 22) X316.here hx (hb hby d65_133_21) rfl rfl ?_
 refine s_isub (pc' := 23) (z := (Int32.ofNat N)) X316.here hx (hb hby d65_133_22) rfl (Int32.sub_zero _) ?_
 refine s_iloadN (pc' := 24) X316.here hx (hb hby d65_133_23) rfl rfl ?_
 obtain ⟨_, T319, L319, X319, hQ319, st319⟩ := kS X316 hx hZ (y := yN18) hown (hv hw 184 rfl) (hv hw 185 rfl) (hv hw 186 rfl) (hv hw 187 rfl) (by decide) (rmGmin l Z a0 hw [] (Int32.ofNat N) (Int32.ofNat X.length) h316 n0 O316 (inpad hlt hN4).2) e316 (W := 4) (g := (mkF m 24 #[vr xt, vi 0, .val (.int (Int32.ofNat X.length)), .val (.int (Int32.ofNat X.length)), vr b316] [(.int (Int32.ofNat X.length)), (.int (Int32.ofNat N)), (.int 0), (.ref b316), (.int 0), (.ref xt)])) rfl (by rw [hml]; rfl) (argsL := [(.int (Int32.ofNat N)), (.int (Int32.ofNat X.length))]) (rest := [(.int 0), (.ref b316), (.int 0), (.ref xt)]) (lenOf pd_14 rfl) rfl (by exact Nat.le_of_eq rfl) (hb hby d65_133_24) rfl (nb rfl) (nb rfl) (nb rfl) (nb rfl)
 obtain ⟨rfl, Nq319, hE319⟩ := hQ319
 have N319 := Fr.app N315 Nq319
 refine Go.st st319 ?_
 show Go p.tables e below Kx _ (mkF m 27 _ [(.int (Int32.ofNat X.length)), (.int 0), (.ref b316), (.int 0), (.ref xt)])
 obtain ⟨T320, h320, L320, X320, e320, N320, KK320, V320, st320⟩ := cpPre X319 hx hZ hown (hv hw 188 rfl) (hv hw 122 rfl) (hv hw 120 rfl) (hv hw 121 rfl) hE319 lX4 hN4 hl f317 V316 N319 ge316 (g := (mkF m 27 #[vr xt, vi 0, .val (.int (Int32.ofNat X.length)), .val (.int (Int32.ofNat X.length)), vr b316] [(.int (Int32.ofNat X.length)), (.int 0), (.ref b316), (.int 0), (.ref xt)])) rfl (by rw [hml]; rfl) rfl (hb hby d65_133_27) (by decide) (W := 0) (by exact Nat.le_of_eq rfl) (by decide)
 have K320 : Keep h0 h320 [] := K316.trans KK320 (allS (P := fun zz => zz ∈ [] ∨ h0.size ≤ zz) (Or.inr sz316) all0)
 have O320 : Old Z n0 h320 := O316.keep KK320 (allS ge316 all0)
 refine Go.st st320 ?_
 show Go p.tables e below Kx _ (mkF m 30 _ [])
 refine s_aload (pc' := 32) X320.here hx (hb hby d65_133_30) rfl rfl rfl ?_
 have f321 : Exa Z h320 b316 "[B" := (B316.keep KK320)
 obtain ⟨fs, hr, hrun, hended, hW, hsame⟩ := X320.leave (v := (some (.ref b316))) (fun h => by rw [Bd.returns] at h; cases h)
 refine Go.fin (retOut X320 hx Bd.returns rfl (Or.inr (Or.inr (Or.inr (Or.inr ⟨rfl, rfl, rfl⟩)))) (hb hby d65_133_32) hr) (hF _ _ hrun hended ⟨_, _, rfl, ?_, ⟨_, rfl⟩, hW, hsame.mono (by decide) (by decide)⟩)
 ·
  show QHq Z xt kt N X h0 n0 ((some (.ref b316)) : Option Value) T320.heap _
  rw [e320]
  exact ⟨_, _, rfl, N320, K320, sz316, f321, V320⟩
theorem pd_21 : parseMethodDescriptor "([BII)[B" = some ⟨[(.array .byte), .int, .int], some (.array .byte)⟩ := by decide +kernel
theorem d65_132_13 : decode jdk_65_method_132_code 13 = .ok (.invokestatic 339, 3) := by decide +kernel
theorem d65_132_16 : decode jdk_65_method_132_code 16 = .ok (.areturn, 1) := by decide +kernel
def QHr (Z : State) (xt : Addr) (kt : ClassId) (N : Nat) (X : List Int32) (h0 : Heap) (n0 : Nat) (v : Option Value) (h : Heap) (L : List Loc) : Prop := ∃ (t : Addr) (k : ClassId), v = some (.ref t) ∧ Fr n0 L ∧ Keep h0 h [] ∧ h0.size ≤ t ∧ Exa Z h t "[B" ∧ Arv Z h t k .byte (Int32.ofNat X.length) (X.map Value.int) (.int 0)
theorem rmHr (l : Launch) (Z : State) (a0 : Array Value) (hw : ∀ d ∈ tables_1, d.before a0 Z = true) (ws : List Jvm.Cond) (xt : Addr) (kt : ClassId) (N : Nat) (X : List Int32) (h0 : Heap) (n0 : Nat) (X00 : Old Z n0 h0) (Bxt : Exa Z h0 xt "[B") (Axt : Arv Z h0 xt kt .byte (Int32.ofNat N) (pad N X) (.int 0)) (hN : N ≤ 34) (hl : X.length ≤ N) :
  MetFree l yN37 (head1 (Jvm.Cond.code yN37 jdk_65_method_132_code 3 (some (.array .byte)) :: ws) ({ frames := 2, cells := 1, slots := 34, locals := 34 } : Room)) (fun aa U => aa = #[(.ref xt), (.int 0), (.int (Int32.ofNat X.length))] ∧ Z.Warmed39 U.vm ∧ U.heap = h0) (fun _ _ _ _ _ => True) (fun _ U o U' => ∃ v L, o = .returned v ∧ QHr Z xt kt N X h0 n0 v U'.heap L ∧ FrameEnd U o U' L ({ frames := 2, cells := 1, slots := 34, locals := 34 } : Room).cells ({ frames := 2, cells := 1, slots := 34, locals := 34 } : Room).slots) := by
 refine MetFree.of_bodySF (plainFor_of_name pn_8) hisR ?_
 intro p e s m args below meth c s₁ Bd hml0 hP hK
 obtain ⟨rfl, hZ, hh⟩ := hP
 have hx := Bd.exec
 have hby := Bd.bytes
 have hml : c.maxLocals = 3 := hml0
 have hown : s.vm.findClass "java/util/Arrays" = some m.cls := findClass_of_methodNamed Bd.named
 have hnm := (name_of_methodNamed Bd.named Bd.method).1
 have X0 : Stand p l e ({ frames := 2, cells := 1, slots := 34, locals := 34 } : Room) s m #[(.ref xt), (.int 0), (.int (Int32.ofNat X.length))] below meth c s₁ [] 0 0 := Stand.of_body Bd
 have e0 : s₁.heap = h0 := by rw [← hh, Bd.state]; rfl
 have N0 := Fr.nil n0
 have K0 := Keep.refl h0 []
 have ef : entryFrame m #[(.ref xt), (.int 0), (.int (Int32.ofNat X.length))] 3 = mkF m 0 #[vr xt, vi 0, .val (.int (Int32.ofNat X.length))] [] := by first | (simp [entryFrame, mkF, argsToLocals, Value.category]; done) | rfl
 rw [ef]
 refine fin_of fun Kx hF => ?_
 show Go p.tables e below Kx _ (mkF m 0 _ [])
 have hN4 : N ≤ 4000 := by omega
 have lX4 : X.length ≤ 4000 := by omega
 show Go p.tables e below Kx _ (mkF m 0 _ [])
 refine s_iloadN (pc' := 1) X0.here hx (hb hby d65_132_0) rfl rfl ?_
 refine s_ifN (pc' := 4) X0.here hx (hb hby d65_132_1) rfl ((if0 _ _).trans (teq (by decide)).2) ?_
 refine s_iloadN (pc' := 5) X0.here hx (hb hby d65_132_4) rfl rfl ?_
 refine s_aloadN (pc' := 6) X0.here hx (hb hby d65_132_5) rfl rfl rfl ?_
 obtain ⟨cl310, Ar310, Aq310, As310, An310, Ah310, Ag310⟩ := id Axt
 refine Go.st (X0.arraylength hx (by rw [e0]; exact Ar310.1) (State.isArrayOf_alike hZ.alike Ar310.2.1) (g := (mkF m 6 #[vr xt, vi 0, .val (.int (Int32.ofNat X.length))] [(.ref xt), (.int (Int32.ofNat X.length))])) rfl rfl (hb hby d65_132_6)) ?_
 rw [len_of As310 An310]
 show Go p.tables e below Kx _ (mkF m 7 _ [(.int (Int32.ofNat N)), (.int (Int32.ofNat X.length))])
 by_cases hc311 : (Int32.ofNat X.length) = (Int32.ofNat N)
 ·
  refine s_icmpY (pc' := 17) X0.here hx (hb hby d65_132_7) (teq hc311).1 (by decide) (by decide) ?_
  have V312 : Arv Z h0 xt kt .byte (Int32.ofNat X.length) (X.map Value.int) (.int 0) := pad_full Axt (n_eq hl hN4 hc311)
  refine s_aloadN (pc' := 18) X0.here hx (hb hby d65_132_17) rfl rfl rfl ?_
  obtain ⟨T313, h313, X313, e313, E313, C313, A313, st313⟩ := cloneH X0 hx hZ hown (hv hw 233 rfl) (hv hw 234 rfl) (hv hw 238 rfl) (hv hw 236 rfl) (hv hw 237 rfl) (hv hw 239 rfl) e0 V312.arh Bxt (g := (mkF m 18 #[vr xt, vi 0, .val (.int (Int32.ofNat X.length))] [(.ref xt)])) rfl (by rw [hml]; rfl) rfl (hb hby d65_132_18) (by decide) (W := 0) (by exact Nat.le_of_eq rfl) (by decide) (cap := 34) (by rw [nl lX4]; omega) (by decide) (by decide)
  obtain ⟨b313, g313⟩ : ∃ z, z = h0.size := ⟨_, rfl⟩
  rw [← g313] at C313 A313 st313
  have sz313 : h0.size ≤ b313 := Nat.le_trans K0.1 (Nat.le_of_eq g313.symm)
  have ge313 : n0 ≤ b313 := Nat.le_trans (X00.1 ▸ X00.2.1) (Nat.le_of_eq g313.symm)
  have K313 : Keep h0 h313 [] := K0.ext E313
  have O313 : Old Z n0 h313 := X00.ext E313
  have V313 : Arv Z h313 b313 kt .byte (Int32.ofNat X.length) (X.map Value.int) (.int 0) := C313
  refine Go.st st313 ?_
  show Go p.tables e below Kx _ (mkF m 21 _ [(.ref b313)])
  obtain ⟨T314, X314, e314, st314⟩ := castY X313 hx hZ hown (hv hw 240 rfl) e313 (Ins.self A313) (g := (mkF m 21 #[vr xt, vi 0, .val (.int (Int32.ofNat X.length))] [(.ref b313)])) rfl rfl (hb hby d65_132_21)
  refine Go.st st314 ?_
  show Go p.tables e below Kx _ (mkF m 24 _ [(.ref b313)])
  obtain ⟨fs, hr, hrun, hended, hW, hsame⟩ := X314.leave (v := (some (.ref b313))) (fun h => by rw [Bd.returns] at h; cases h)
  refine Go.fin (retOut X314 hx Bd.returns rfl (Or.inr (Or.inr (Or.inr (Or.inr ⟨rfl, rfl, rfl⟩)))) (hb hby d65_132_24) hr) (hF _ _ hrun hended ⟨_, _, rfl, ?_, ⟨_, rfl⟩, hW, hsame.mono (by decide) (by decide)⟩)
  ·
   show QHr Z xt kt N X h0 n0 ((some (.ref b313)) : Option Value) T314.heap _
   rw [e314]
   exact ⟨_, _, rfl, N0, K313, sz313, A313, V313⟩
 ·
  refine s_icmpN (pc' := 10) X0.here hx (hb hby d65_132_7) rfl (feq hc311).1 ?_
  refine s_aloadN (pc' := 11) X0.here hx (hb hby d65_132_10) rfl rfl rfl ?_
  refine s_iloadN (pc' := 12) X0.here hx (hb hby d65_132_11) rfl rfl ?_
  refine s_iloadN (pc' := 13) X0.here hx (hb hby d65_132_12) rfl rfl ?_
  obtain ⟨_, T322, L322, X322, hQ322, st322⟩ := kS X0 hx hZ (y := yN38) hown (hv hw 178 rfl) (hv hw 179 rfl) (hv hw 176 rfl) (hv hw 180 rfl) (by decide) (rmHq l Z a0 hw [] xt kt N X h0 n0 X00 Axt hN (n_lt hl hc311)) e0 (W := 0) (g := (mkF m 13 #[vr xt, vi 0, .val (.int (Int32.ofNat X.length))] [(.int (Int32.ofNat X.length)), (.int 0), (.ref xt)])) rfl (by rw [hml]; rfl) (argsL := [(.ref xt), (.int 0), (.int (Int32.ofNat X.length))]) (rest := []) (lenOf pd_21 rfl) rfl (by exact Nat.le_of_eq rfl) (hb hby d65_132_13) rfl (nb rfl) (nb rfl) (nb rfl) (nb rfl)
  obtain ⟨t322, kt322, rfl, Nq322, Kq322, le322, q0_322, q1_322⟩ := hQ322
  have sz322 : h0.size ≤ t322 := Nat.le_trans K0.1 le322
  have ge322 : n0 ≤ t322 := Nat.le_trans (X00.1 ▸ X00.2.1) le322
  have N322 := Fr.app N0 Nq322
  have K322 : Keep h0 T322.heap [] := K0.trans Kq322 all0
  have O322 : Old Z n0 T322.heap := X00.keep Kq322 all0
  refine Go.st st322 ?_
  show Go p.tables e below Kx _ (mkF m 16 _ [(.ref t322)])
  obtain ⟨fs, hr, hrun, hended, hW, hsame⟩ := X322.leave (v := (some (.ref t322))) (fun h => by rw [Bd.returns] at h; cases h)
  refine Go.fin (retOut X322 hx Bd.returns rfl (Or.inr (Or.inr (Or.inr (Or.inr ⟨rfl, rfl, rfl⟩)))) (hb hby d65_132_16) hr) (hF _ _ hrun hended ⟨_, _, rfl, ?_, ⟨_, rfl⟩, hW, hsame.mono (by decide) (by decide)⟩)
  ·
   show QHr Z xt kt N X h0 n0 ((some (.ref t322)) : Option Value) T322.heap _
   skip
   exact ⟨_, _, rfl, N322, K322, sz322, q0_322, q1_322⟩
theorem d42_150_32 : decode jdk_42_method_150_code 32 = .ok (.invokestatic 54, 3) := by decide +kernel
theorem d42_150_35 : decode jdk_42_method_150_code 35 = .ok (.putfield 9, 3) := by decide +kernel
theorem d42_150_38 : decode jdk_42_method_150_code 38 = .ok (.goto 59, 3) := by decide +kernel
theorem d42_150_97 : decode jdk_42_method_150_code 97 = .ok (.return_, 1) := by decide +kernel
def QHt0 (Z : State) (xs xb xt : Addr) (kt : ClassId) (N : Nat) (X : List Int32) (h0 : Heap) (n0 : Nat) (v : Option Value) (h : Heap) (L : List Loc) : Prop := v = none ∧ Fr n0 L ∧ Keep h0 h [xs] ∧ Exa Z h xs "java/lang/String" ∧ Fld Z h xs "java/lang/String" "coder" "B" (.int 0) ∧ ∃ (t : Addr) (k : ClassId), h0.size ≤ t ∧ Exa Z h t "[B" ∧ Fld Z h xs "java/lang/String" "value" "[B" (.ref t) ∧ Arv Z h t k .byte (Int32.ofNat X.length) (X.map Value.int) (.int 0)
theorem rmHt0 (l : Launch) (Z : State) (a0 : Array Value) (hw : ∀ d ∈ tables_1, d.before a0 Z = true) (ws : List Jvm.Cond) (xs xb xt : Addr) (kt : ClassId) (N : Nat) (X : List Int32) (h0 : Heap) (n0 : Nat) (X00 : Old Z n0 h0) (G1 : Int32) (S1 : Sta Z Z.heap "java/lang/String" "COMPACT_STRINGS" "Z" (.int G1)) (P1 : ¬ G1 = 0) (Bxt : Exa Z h0 xt "[B") (Exb : Exa Z h0 xb "java/lang/StringBuilder") (Vxb : Fld Z h0 xb "java/lang/AbstractStringBuilder" "value" "[B" (.ref xt)) (Cxb : Fld Z h0 xb "java/lang/AbstractStringBuilder" "coder" "B" (.int 0)) (Nxb : Fld Z h0 xb "java/lang/AbstractStringBuilder" "count" "I" (.int (Int32.ofNat X.length))) (Axt : Arv Z h0 xt kt .byte (Int32.ofNat N) (pad N X) (.int 0)) (hN : N ≤ 34) (hl : X.length ≤ N) (ge_xs : n0 ≤ xs) (nsb : xs ≠ xb) (nst : xs ≠ xt) (Exs : Exa Z h0 xs "java/lang/String") (Vxs : Fld Z h0 xs "java/lang/String" "value" "[B" .null) (Cxs : Fld Z h0 xs "java/lang/String" "coder" "B" (.int 0)) :
  MetFree l yN20 (head1 (Jvm.Cond.code yN20 jdk_42_method_150_code 5 none :: ws) ({ frames := 3, cells := 1, slots := 34, locals := 49 } : Room)) (fun aa U => aa = #[(.ref xs), (.ref xb), .null] ∧ Z.Warmed39 U.vm ∧ U.heap = h0) (fun _ _ _ _ _ => True) (fun _ U o U' => ∃ v L, o = .returned v ∧ QHt0 Z xs xb xt kt N X h0 n0 v U'.heap L ∧ FrameEnd U o U' L ({ frames := 3, cells := 1, slots := 34, locals := 49 } : Room).cells ({ frames := 3, cells := 1, slots := 34, locals := 49 } : Room).slots) := by
 refine MetFree.of_bodySF (plainFor_of_name pn_5) hisR ?_
 intro p e s m args below meth c s₁ Bd hml0 hP hK
 obtain ⟨rfl, hZ, hh⟩ := hP
 have hx := Bd.exec
 have hby := Bd.bytes
 have hml : c.maxLocals = 5 := hml0
 have hown : s.vm.findClass "java/lang/String" = some m.cls := findClass_of_methodNamed Bd.named
 have hnm := (name_of_methodNamed Bd.named Bd.method).1
 have X0 : Stand p l e ({ frames := 3, cells := 1, slots := 34, locals := 49 } : Room) s m #[(.ref xs), (.ref xb), .null] below meth c s₁ [] 0 0 := Stand.of_body Bd
 have e0 : s₁.heap = h0 := by rw [← hh, Bd.state]; rfl
 have N0 := Fr.nil n0
 have K0 := Keep.refl h0 [xs]
 have ef : entryFrame m #[(.ref xs), (.ref xb), .null] 5 = mkF m 0 #[vr xs, vr xb, .val .null, un, un] [] := by first | (simp [entryFrame, mkF, argsToLocals, Value.category]; done) | rfl
 rw [ef]
 refine fin_of fun Kx hF => ?_
 show Go p.tables e below Kx _ (mkF m 0 _ [])
 have hN4 : N ≤ 4000 := by omega
 have lX4 : X.length ≤ 4000 := by omega
 show Go p.tables e below Kx _ (mkF m 0 _ [])
 refine s_aloadN (pc' := 1) X0.here hx (hb hby d42_150_0) rfl rfl rfl ?_
 obtain ⟨T302, X302, e302, st302⟩ := initO X0 hx hZ hown (hv hw 11 rfl) (hv hw 12 rfl) (hv hw 13 rfl) e0 (g := (mkF m 1 #[vr xs, vr xb, .val .null, un, un] [(.ref xs)])) rfl (by rw [hml]; rfl) rfl (hb hby d42_150_1) (by decide) (W := 0) (by exact Nat.le_of_eq rfl) (by decide)
 refine Go.st st302 ?_
 show Go p.tables e below Kx _ (mkF m 4 _ [])
 refine s_aloadN (pc' := 5) X302.here hx (hb hby d42_150_4) rfl rfl rfl ?_
 obtain ⟨_, T304, L304, X304, hQ304, st304⟩ := kV X302 hx hZ (y := yN8) hown (hv hw 160 rfl) (hv hw 161 rfl) (notFace_of_selects (args := #[]) (mvT hZ (hv hw 163 rfl))) (hv hw 163 rfl) (hv hw 162 rfl) (hv hw 68 rfl) (hv hw 164 rfl) (by decide) (rmKgv l Z a0 hw [] xb xt h0 n0 X00 Vxb) e302 Exb (W := 0) (g := (mkF m 5 #[vr xs, vr xb, .val .null, un, un] [(.ref xb)])) rfl (by rw [hml]; rfl) (argsL := []) (rest := []) (lenOf pd_19 rfl) rfl (by exact Nat.le_of_eq rfl) (hb hby d42_150_5) rfl (nb rfl) (nb rfl) (nb rfl) (nb rfl)
 obtain ⟨rfl, Nq304, hE304⟩ := hQ304
 have N304 := Fr.app N0 Nq304
 refine Go.tr st304 ?_
 show Go p.tables e below Kx _ (mkF m 8 _ [(.ref xt)])
 refine s_astoreN (pc' := 9) (Ls' := #[vr xs, vr xb, .val .null, vr xt, un]) X304.here hx (hb hby d42_150_8) rfl rfl rfl ?_
 refine s_aloadN (pc' := 10) X304.here hx (hb hby d42_150_9) rfl rfl rfl ?_
 obtain ⟨_, T307, L307, X307, hQ307, st307⟩ := kV X304 hx hZ (y := yN11) (z := yN32) hown (hv hw 165 rfl) (hv hw 166 rfl) (nf_of (args := #[]) (z := yN7) rfl (mvT hZ (hv hw 101 rfl))) (hv hw 168 rfl) (hv hw 169 rfl) (hv hw 60 rfl) (hv hw 170 rfl) (by decide) (rmGb1 l Z a0 hw [] xb (Int32.ofNat X.length) h0 n0 X00 Exb Nxb) hE304 Exb (W := 0) (g := (mkF m 10 #[vr xs, vr xb, .val .null, vr xt, un] [(.ref xb)])) rfl (by rw [hml]; rfl) (argsL := []) (rest := []) (lenOf pd_5 rfl) rfl (by exact Nat.le_of_eq rfl) (hb hby d42_150_10) rfl (nb rfl) (nb rfl) (nb rfl) (nb rfl)
 obtain ⟨rfl, Nq307, hE307⟩ := hQ307
 have N307 := Fr.app N304 Nq307
 refine Go.tr st307 ?_
 show Go p.tables e below Kx _ (mkF m 13 _ [(.int (Int32.ofNat X.length))])
 refine s_istore (pc' := 15) (Ls' := #[vr xs, vr xb, .val .null, vr xt, .val (.int (Int32.ofNat X.length))]) X307.here hx (hb hby d42_150_13) rfl  rfl ?_
 refine s_aloadN (pc' := 16) X307.here hx (hb hby d42_150_15) rfl rfl rfl ?_
 obtain ⟨_, T308, L308, X308, hQ308, st308⟩ := kV X307 hx hZ (y := yN10) hown (hv hw 173 rfl) (hv hw 139 rfl) (notFace_of_selects (args := #[]) (mvT hZ (hv hw 141 rfl))) (hv hw 141 rfl) (hv hw 140 rfl) (hv hw 68 rfl) (hv hw 142 rfl) (by decide) (rmKbl l Z a0 hw [] xb h0 n0 X00 G1 S1 P1 Cxb) hE307 Exb (W := 0) (g := (mkF m 16 #[vr xs, vr xb, .val .null, vr xt, .val (.int (Int32.ofNat X.length))] [(.ref xb)])) rfl (by rw [hml]; rfl) (argsL := []) (rest := []) (lenOf pd_12 rfl) rfl (by exact Nat.le_of_eq rfl) (hb hby d42_150_16) rfl (nb rfl) (nb rfl) (nb rfl) (nb rfl)
 obtain ⟨rfl, Nq308, hE308⟩ := hQ308
 have N308 := Fr.app N307 Nq308
 refine Go.tr st308 ?_
 show Go p.tables e below Kx _ (mkF m 19 _ [(.int 1)])
 refine s_ifN (pc' := 22) X308.here hx (hb hby d42_150_19) rfl ((if0 _ _).trans (feq (by decide)).1) ?_
 refine s_aloadN (pc' := 23) X308.here hx (hb hby d42_150_22) rfl rfl rfl ?_
 refine s_iconst (pc' := 24) (v := 0) X308.here hx (hb hby d42_150_23) rfl rfl ?_
 obtain ⟨T309, h309, X309, e309, W309, st309⟩ := putFN X308 hx hZ hown (hv hw 26 rfl) Via.refl hE308 Cxs Exs (Or.inr ⟨(hv hw 27 rfl), rfl, hnm⟩) (hv hw 1 rfl) (ty := .byte) (v' := (.int 0)) (by decide) (by decide) (by decide) (g := (mkF m 24 #[vr xs, vr xb, .val .null, vr xt, .val (.int (Int32.ofNat X.length))] [(.int 0), (.ref xs)])) rfl rfl (hb hby d42_150_24)
 have Fw309 : Fld Z h309 xs "java/lang/String" "coder" "B" (.int 0) := Cxs.same W309
 have K309 : Keep h0 h309 [xs] := K0.wr W309 (Or.inl (List.mem_of_getElem? (i := 0) rfl))
 have O309 : Old Z n0 h309 := X00.wr W309 ge_xs
 have N309 := Fr.snoc X309 N308 ge_xs
 refine Go.st st309 ?_
 show Go p.tables e below Kx _ (mkF m 27 _ [])
 refine s_aloadN (pc' := 28) X309.here hx (hb hby d42_150_27) rfl rfl rfl ?_
 refine s_aloadN (pc' := 29) X309.here hx (hb hby d42_150_28) rfl rfl rfl ?_
 refine s_iconst (pc' := 30) (v := 0) X309.here hx (hb hby d42_150_29) rfl rfl ?_
 refine s_iload (pc' := 32) X309.here hx (hb hby d42_150_30) rfl rfl ?_
 have f323 : Exa Z h309 xt "[B" := (Bxt.wr W309)
 have f324 : Arv Z h309 xt kt .byte (Int32.ofNat N) (pad N X) (.int 0) := (Axt.other W309 (Ne.symm nst))
 obtain ⟨_, T325, L325, X325, hQ325, st325⟩ := kS X309 hx hZ (y := yN37) hown (hv hw 174 rfl) (hv hw 175 rfl) (hv hw 176 rfl) (hv hw 177 rfl) (by decide) (rmHr l Z a0 hw [] xt _ N X h309 n0 O309 f323 f324 hN hl) e309 (W := 1) (g := (mkF m 32 #[vr xs, vr xb, .val .null, vr xt, .val (.int (Int32.ofNat X.length))] [(.int (Int32.ofNat X.length)), (.int 0), (.ref xt), (.ref xs)])) rfl (by rw [hml]; rfl) (argsL := [(.ref xt), (.int 0), (.int (Int32.ofNat X.length))]) (rest := [(.ref xs)]) (lenOf pd_21 rfl) rfl (by exact Nat.le_of_eq rfl) (hb hby d42_150_32) rfl (nb rfl) (nb rfl) (nb rfl) (nb rfl)
 obtain ⟨t325, kt325, rfl, Nq325, Kq325, le325, q0_325, q1_325⟩ := hQ325
 have sz325 : h0.size ≤ t325 := Nat.le_trans K309.1 le325
 have ge325 : n0 ≤ t325 := Nat.le_trans (O309.1 ▸ O309.2.1) le325
 have N325 := Fr.app N309 Nq325
 have K325 : Keep h0 T325.heap [xs] := K309.trans Kq325 all0
 have O325 : Old Z n0 T325.heap := O309.keep Kq325 all0
 refine Go.st st325 ?_
 show Go p.tables e below Kx _ (mkF m 35 _ [(.ref t325), (.ref xs)])
 have f326 : Fld Z T325.heap xs "java/lang/String" "value" "[B" .null := ((Vxs.other W309 (Or.inr (slot_ne (Or.inr (hv hw 29 rfl)) (Or.inr (hv hw 27 rfl)) (by decide) (t := (.array .byte)) (t' := .byte) (by decide) (by decide)))).keep Kq325 nin0)
 have f327 : Exa Z T325.heap xs "java/lang/String" := ((Exs.wr W309).keep Kq325)
 obtain ⟨T328, h328, X328, e328, W328, st328⟩ := putF X325 hx hZ hown (host := "") (Or.inl (hv hw 28 rfl)) Via.refl rfl f326 f327 (Or.inr ⟨(hv hw 29 rfl), rfl, hnm⟩) (hv hw 1 rfl) (ty := (.array .byte)) (by decide) rfl rfl (g := (mkF m 35 #[vr xs, vr xb, .val .null, vr xt, .val (.int (Int32.ofNat X.length))] [(.ref t325), (.ref xs)])) rfl rfl (hb hby d42_150_35)
 have Fw328 : Fld Z h328 xs "java/lang/String" "value" "[B" (.ref t325) := f326.same W328
 have K328 : Keep h0 h328 [xs] := K325.wr W328 (Or.inl (List.mem_of_getElem? (i := 0) rfl))
 have O328 : Old Z n0 h328 := O325.wr W328 ge_xs
 have N328 := Fr.snoc X328 N325 ge_xs
 refine Go.st st328 ?_
 show Go p.tables e below Kx _ (mkF m 38 _ [])
 refine s_goto (pc' := 97) X328.here hx (hb hby d42_150_38) (by decide) (by decide) ?_
 have f329 : Exa Z h328 xs "java/lang/String" := (f327.wr W328)
 have f330 : Fld Z h328 xs "java/lang/String" "coder" "B" (.int 0) := ((Fw309.keep Kq325 nin0).other W328 (Or.inr (slot_ne (Or.inr (hv hw 27 rfl)) (Or.inr (hv hw 29 rfl)) (by decide) (t := .byte) (t' := (.array .byte)) (by decide) (by decide))))
 have f331 : Exa Z h328 t325 "[B" := (q0_325.wr W328)
 have f332 : Arv Z h328 t325 kt325 .byte (Int32.ofNat X.length) (X.map Value.int) (.int 0) := (q1_325.other W328 (Ne.symm (Nat.ne_of_lt (Nat.lt_of_lt_of_le (Nat.lt_of_lt_of_le Exs.lt (Nat.le_of_eq W309.size.symm)) le325))))
 obtain ⟨fs, hr, hrun, hended, hW, hsame⟩ := X328.leave (v := none) (fun _ => rfl)
 refine Go.fin (X328.returnOut hx Bd.returns (hb hby d42_150_97) hr) (hF _ _ hrun hended ⟨_, _, rfl, ?_, ⟨_, rfl⟩, hW, hsame.mono (by decide) (by decide)⟩)
 ·
  show QHt0 Z xs xb xt kt N X h0 n0 (none : Option Value) T328.heap _
  rw [e328]
  exact ⟨rfl, N328, K328, f329, f330, t325, _, sz325, f331, Fw328, f332⟩
theorem pd_22 : parseMethodDescriptor "(Ljava/lang/AbstractStringBuilder;Ljava/lang/Void;)V" = some ⟨[(.object "java/lang/AbstractStringBuilder"), (.object "java/lang/Void")], none⟩ := by decide +kernel
theorem d42_53_3 : decode jdk_42_method_53_code 3 = .ok (.invokespecial 489, 3) := by decide +kernel
theorem d42_53_6 : decode jdk_42_method_53_code 6 = .ok (.return_, 1) := by decide +kernel
def QHt1 (Z : State) (xs xb xt : Addr) (kt : ClassId) (N : Nat) (X : List Int32) (h0 : Heap) (n0 : Nat) (v : Option Value) (h : Heap) (L : List Loc) : Prop := v = none ∧ Fr n0 L ∧ Keep h0 h [xs] ∧ Exa Z h xs "java/lang/String" ∧ Fld Z h xs "java/lang/String" "coder" "B" (.int 0) ∧ ∃ (t : Addr) (k : ClassId), h0.size ≤ t ∧ Exa Z h t "[B" ∧ Fld Z h xs "java/lang/String" "value" "[B" (.ref t) ∧ Arv Z h t k .byte (Int32.ofNat X.length) (X.map Value.int) (.int 0)
theorem rmHt1 (l : Launch) (Z : State) (a0 : Array Value) (hw : ∀ d ∈ tables_1, d.before a0 Z = true) (ws : List Jvm.Cond) (xs xb xt : Addr) (kt : ClassId) (N : Nat) (X : List Int32) (h0 : Heap) (n0 : Nat) (X00 : Old Z n0 h0) (G1 : Int32) (S1 : Sta Z Z.heap "java/lang/String" "COMPACT_STRINGS" "Z" (.int G1)) (P1 : ¬ G1 = 0) (Bxt : Exa Z h0 xt "[B") (Exb : Exa Z h0 xb "java/lang/StringBuilder") (Vxb : Fld Z h0 xb "java/lang/AbstractStringBuilder" "value" "[B" (.ref xt)) (Cxb : Fld Z h0 xb "java/lang/AbstractStringBuilder" "coder" "B" (.int 0)) (Nxb : Fld Z h0 xb "java/lang/AbstractStringBuilder" "count" "I" (.int (Int32.ofNat X.length))) (Axt : Arv Z h0 xt kt .byte (Int32.ofNat N) (pad N X) (.int 0)) (hN : N ≤ 34) (hl : X.length ≤ N) (ge_xs : n0 ≤ xs) (nsb : xs ≠ xb) (nst : xs ≠ xt) (Exs : Exa Z h0 xs "java/lang/String") (Vxs : Fld Z h0 xs "java/lang/String" "value" "[B" .null) (Cxs : Fld Z h0 xs "java/lang/String" "coder" "B" (.int 0)) :
  MetFree l yN21 (head1 (Jvm.Cond.code yN21 jdk_42_method_53_code 2 none :: ws) ({ frames := 4, cells := 1, slots := 34, locals := 65 } : Room)) (fun aa U => aa = #[(.ref xs), (.ref xb)] ∧ Z.Warmed39 U.vm ∧ U.heap = h0) (fun _ _ _ _ _ => True) (fun _ U o U' => ∃ v L, o = .returned v ∧ QHt1 Z xs xb xt kt N X h0 n0 v U'.heap L ∧ FrameEnd U o U' L ({ frames := 4, cells := 1, slots := 34, locals := 65 } : Room).cells ({ frames := 4, cells := 1, slots := 34, locals := 65 } : Room).slots) := by
 refine MetFree.of_bodySF (plainFor_of_name pn_5) hisR ?_
 intro p e s m args below meth c s₁ Bd hml0 hP hK
 obtain ⟨rfl, hZ, hh⟩ := hP
 have hx := Bd.exec
 have hby := Bd.bytes
 have hml : c.maxLocals = 2 := hml0
 have hown : s.vm.findClass "java/lang/String" = some m.cls := findClass_of_methodNamed Bd.named
 have hnm := (name_of_methodNamed Bd.named Bd.method).1
 have X0 : Stand p l e ({ frames := 4, cells := 1, slots := 34, locals := 65 } : Room) s m #[(.ref xs), (.ref xb)] below meth c s₁ [] 0 0 := Stand.of_body Bd
 have e0 : s₁.heap = h0 := by rw [← hh, Bd.state]; rfl
 have N0 := Fr.nil n0
 have K0 := Keep.refl h0 [xs]
 have ef : entryFrame m #[(.ref xs), (.ref xb)] 2 = mkF m 0 #[vr xs, vr xb] [] := by first | (simp [entryFrame, mkF, argsToLocals, Value.category]; done) | rfl
 rw [ef]
 refine fin_of fun Kx hF => ?_
 show Go p.tables e below Kx _ (mkF m 0 _ [])
 have hN4 : N ≤ 4000 := by omega
 have lX4 : X.length ≤ 4000 := by omega
 show Go p.tables e below Kx _ (mkF m 0 _ [])
 refine s_aloadN (pc' := 1) X0.here hx (hb hby d42_53_0) rfl rfl rfl ?_
 refine s_aloadN (pc' := 2) X0.here hx (hb hby d42_53_1) rfl rfl rfl ?_
 refine s_aconst_null (pc' := 3) X0.here hx (hb hby d42_53_2) rfl ?_
 obtain ⟨_, T333, L333, X333, hQ333, st333⟩ := kI X0 hx hZ (y := yN20) rfl hown (hv hw 157 rfl) (hv hw 158 rfl) (hv hw 2 rfl) (hv hw 159 rfl) (by decide) (rmHt0 l Z a0 hw [] xs xb xt _ N X h0 n0 X00 G1 S1 P1 Bxt Exb Vxb Cxb Nxb Axt hN hl ge_xs nsb nst Exs Vxs Cxs) e0 (a := xs) (W := 0) (g := (mkF m 3 #[vr xs, vr xb] [.null, (.ref xb), (.ref xs)])) rfl (by rw [hml]; rfl) (argsL := [(.ref xb), .null]) (rest := []) (lenOf pd_22 rfl) rfl (by exact Nat.le_of_eq rfl) (hb hby d42_53_3) rfl (nb rfl) (nb rfl) (nb rfl) (nb rfl)
 obtain ⟨rfl, Nq333, Kq333, q1_333, q2_333, t333, kt333, le333, q0_333, q3_333, q4_333⟩ := hQ333
 have sz333 : h0.size ≤ t333 := Nat.le_trans K0.1 le333
 have ge333 : n0 ≤ t333 := Nat.le_trans (X00.1 ▸ X00.2.1) le333
 have N333 := Fr.app N0 Nq333
 have K333 : Keep h0 T333.heap [xs] := K0.trans Kq333 (allS (P := fun zz => zz ∈ [xs] ∨ h0.size ≤ zz) (Or.inl (List.mem_of_getElem? (i := 0) rfl)) all0)
 have O333 : Old Z n0 T333.heap := X00.keep Kq333 (allS ge_xs all0)
 refine Go.tr st333 ?_
 show Go p.tables e below Kx _ (mkF m 6 _ [])
 obtain ⟨fs, hr, hrun, hended, hW, hsame⟩ := X333.leave (v := none) (fun _ => rfl)
 refine Go.fin (X333.returnOut hx Bd.returns (hb hby d42_53_6) hr) (hF _ _ hrun hended ⟨_, _, rfl, ?_, ⟨_, rfl⟩, hW, hsame.mono (by decide) (by decide)⟩)
 ·
  show QHt1 Z xs xb xt kt N X h0 n0 (none : Option Value) T333.heap _
  skip
  exact ⟨rfl, N333, K333, q1_333, q2_333, t333, _, sz333, q0_333, q3_333, q4_333⟩
theorem pd_23 : parseMethodDescriptor "(Ljava/lang/StringBuilder;)V" = some ⟨[(.object "java/lang/StringBuilder")], none⟩ := by decide +kernel
theorem d67_42_5 : decode jdk_67_method_42_code 5 = .ok (.invokespecial 137, 3) := by decide +kernel
theorem d67_42_8 : decode jdk_67_method_42_code 8 = .ok (.areturn, 1) := by decide +kernel
def QHts (Z : State) (xb xt : Addr) (kt : ClassId) (N : Nat) (X : List Int32) (h0 : Heap) (n0 : Nat) (v : Option Value) (h : Heap) (L : List Loc) : Prop := ∃ (y t : Addr) (k : ClassId), v = some (.ref y) ∧ Fr n0 L ∧ Keep h0 h [] ∧ h0.size ≤ y ∧ h0.size ≤ t ∧ Exa Z h t "[B" ∧ Exa Z h y "java/lang/String" ∧ Fld Z h y "java/lang/String" "coder" "B" (.int 0) ∧ Fld Z h y "java/lang/String" "value" "[B" (.ref t) ∧ Arv Z h t k .byte (Int32.ofNat X.length) (X.map Value.int) (.int 0)
theorem rmHts (l : Launch) (Z : State) (a0 : Array Value) (hw : ∀ d ∈ tables_1, d.before a0 Z = true) (ws : List Jvm.Cond) (xb xt : Addr) (kt : ClassId) (N : Nat) (X : List Int32) (h0 : Heap) (n0 : Nat) (X00 : Old Z n0 h0) (G1 : Int32) (S1 : Sta Z Z.heap "java/lang/String" "COMPACT_STRINGS" "Z" (.int G1)) (P1 : ¬ G1 = 0) (Bxt : Exa Z h0 xt "[B") (Exb : Exa Z h0 xb "java/lang/StringBuilder") (Vxb : Fld Z h0 xb "java/lang/AbstractStringBuilder" "value" "[B" (.ref xt)) (Cxb : Fld Z h0 xb "java/lang/AbstractStringBuilder" "coder" "B" (.int 0)) (Nxb : Fld Z h0 xb "java/lang/AbstractStringBuilder" "count" "I" (.int (Int32.ofNat X.length))) (Axt : Arv Z h0 xt kt .byte (Int32.ofNat N) (pad N X) (.int 0)) (hN : N ≤ 34) (hl : X.length ≤ N) :
  MetFree l yN33 (head1 (Jvm.Cond.code yN33 jdk_67_method_42_code 1 (some (.object "java/lang/String")) :: ws) ({ frames := 5, cells := 2, slots := 38, locals := 79 } : Room)) (fun aa U => aa = #[(.ref xb)] ∧ Z.Warmed39 U.vm ∧ U.heap = h0) (fun _ _ _ _ _ => True) (fun _ U o U' => ∃ v L, o = .returned v ∧ QHts Z xb xt kt N X h0 n0 v U'.heap L ∧ FrameEnd U o U' L ({ frames := 5, cells := 2, slots := 38, locals := 79 } : Room).cells ({ frames := 5, cells := 2, slots := 38, locals := 79 } : Room).slots) := by
 refine MetFree.of_bodySF (plainFor_of_name pn_3) hisR ?_
 intro p e s m args below meth c s₁ Bd hml0 hP hK
 obtain ⟨rfl, hZ, hh⟩ := hP
 have hx := Bd.exec
 have hby := Bd.bytes
 have hml : c.maxLocals = 1 := hml0
 have hown : s.vm.findClass "java/lang/StringBuilder" = some m.cls := findClass_of_methodNamed Bd.named
 have hnm := (name_of_methodNamed Bd.named Bd.method).1
 have X0 : Stand p l e ({ frames := 5, cells := 2, slots := 38, locals := 79 } : Room) s m #[(.ref xb)] below meth c s₁ [] 0 0 := Stand.of_body Bd
 have e0 : s₁.heap = h0 := by rw [← hh, Bd.state]; rfl
 have N0 := Fr.nil n0
 have K0 := Keep.refl h0 []
 have ef : entryFrame m #[(.ref xb)] 1 = mkF m 0 #[vr xb] [] := by first | (simp [entryFrame, mkF, argsToLocals, Value.category]; done) | rfl
 rw [ef]
 refine fin_of fun Kx hF => ?_
 show Go p.tables e below Kx _ (mkF m 0 _ [])
 have hN4 : N ≤ 4000 := by omega
 have lX4 : X.length ≤ 4000 := by omega
 show Go p.tables e below Kx _ (mkF m 0 _ [])
 obtain ⟨T301, h301, X301, e301, E301, A301, D301, -, st301⟩ := newO X0 hx hZ hown (hv hw 153 rfl) (hv hw 1 rfl) (hv hw 2 rfl) e0 (g := (mkF m 0 #[vr xb] [])) rfl (hb hby d67_42_0) (by decide) (by decide)
 obtain ⟨b301, g301⟩ : ∃ z, z = h0.size := ⟨_, rfl⟩
 rw [← g301] at A301 D301 st301
 have sz301 : h0.size ≤ b301 := Nat.le_trans K0.1 (Nat.le_of_eq g301.symm)
 have ge301 : n0 ≤ b301 := Nat.le_trans (X00.1 ▸ X00.2.1) (Nat.le_of_eq g301.symm)
 have K301 : Keep h0 h301 [] := K0.ext E301
 have O301 : Old Z n0 h301 := X00.ext E301
 have F301_coder : Fld Z h301 b301 "java/lang/String" "coder" "B" (.int 0) := D301 (Or.inr (hv hw 27 rfl)) (ty := .byte) (by decide)
 have F301_value : Fld Z h301 b301 "java/lang/String" "value" "[B" .null := D301 (Or.inr (hv hw 29 rfl)) (ty := (.array .byte)) (by decide)
 refine Go.st st301 ?_
 show Go p.tables e below Kx _ (mkF m 3 _ [(.ref b301)])
 refine s_dup (pc' := 4) X301.here hx (hb hby d67_42_3) rfl rfl ?_
 refine s_aloadN (pc' := 5) X301.here hx (hb hby d67_42_4) rfl rfl rfl ?_
 have f334 : Exa Z h301 xt "[B" := (Bxt.ext E301)
 have f335 : Exa Z h301 xb "java/lang/StringBuilder" := (Exb.ext E301)
 have f336 : Fld Z h301 xb "java/lang/AbstractStringBuilder" "value" "[B" (.ref xt) := (Vxb.ext E301)
 have f337 : Fld Z h301 xb "java/lang/AbstractStringBuilder" "coder" "B" (.int 0) := (Cxb.ext E301)
 have f338 : Fld Z h301 xb "java/lang/AbstractStringBuilder" "count" "I" (.int (Int32.ofNat X.length)) := (Nxb.ext E301)
 have f339 : Arv Z h301 xt kt .byte (Int32.ofNat N) (pad N X) (.int 0) := (Axt.ext E301)
 obtain ⟨_, T340, L340, X340, hQ340, st340⟩ := kI X301 hx hZ (y := yN21) rfl hown (hv hw 154 rfl) (hv hw 155 rfl) (hv hw 2 rfl) (hv hw 156 rfl) (by decide) (rmHt1 l Z a0 hw [] b301 xb xt _ N X h301 n0 O301 G1 S1 P1 f334 f335 f336 f337 f338 f339 hN hl ge301 (Ne.symm (Nat.ne_of_lt (Nat.lt_of_lt_of_le Exb.lt (Nat.le_of_eq g301.symm)))) (Ne.symm (Nat.ne_of_lt (Nat.lt_of_lt_of_le Axt.lt (Nat.le_of_eq g301.symm)))) A301 F301_value F301_coder) e301 (a := b301) (W := 1) (g := (mkF m 5 #[vr xb] [(.ref xb), (.ref b301), (.ref b301)])) rfl (by rw [hml]; rfl) (argsL := [(.ref xb)]) (rest := [(.ref b301)]) (lenOf pd_23 rfl) rfl (by exact Nat.le_of_eq rfl) (hb hby d67_42_5) rfl (nb rfl) (nb rfl) (nb rfl) (nb rfl)
 obtain ⟨rfl, Nq340, Kq340, q1_340, q2_340, t340, kt340, le340, q0_340, q3_340, q4_340⟩ := hQ340
 have sz340 : h0.size ≤ t340 := Nat.le_trans K301.1 le340
 have ge340 : n0 ≤ t340 := Nat.le_trans (O301.1 ▸ O301.2.1) le340
 have N340 := Fr.app N0 Nq340
 have K340 : Keep h0 T340.heap [] := K301.trans Kq340 (allS (P := fun zz => zz ∈ [] ∨ h0.size ≤ zz) (Or.inr sz301) all0)
 have O340 : Old Z n0 T340.heap := O301.keep Kq340 (allS ge301 all0)
 refine Go.tr st340 ?_
 show Go p.tables e below Kx _ (mkF m 8 _ [(.ref b301)])
 obtain ⟨fs, hr, hrun, hended, hW, hsame⟩ := X340.leave (v := (some (.ref b301))) (fun h => by rw [Bd.returns] at h; cases h)
 refine Go.fin (retOut X340 hx Bd.returns rfl (Or.inr (Or.inr (Or.inr (Or.inr ⟨rfl, rfl, rfl⟩)))) (hb hby d67_42_8) hr) (hF _ _ hrun hended ⟨_, _, rfl, ?_, ⟨_, rfl⟩, hW, hsame.mono (by decide) (by decide)⟩)
 ·
  show QHts Z xb xt kt N X h0 n0 ((some (.ref b301)) : Option Value) T340.heap _
  skip
  exact ⟨_, _, _, rfl, N340, K340, sz301, sz340, q0_340, q1_340, q2_340, q3_340, q4_340⟩
theorem pd_24 : parseMethodDescriptor "()Ljava/lang/String;" = some ⟨[], some (.object "java/lang/String")⟩ := by decide +kernel
theorem p81_2_43 : decode prog_81_method_2_code 43 = .ok (.invokevirtual 39, 3) := by decide +kernel
theorem p81_2_46 : decode prog_81_method_2_code 46 = .ok (.areturn, 1) := by decide +kernel
def QHag (Z : State) (xb xt xy yb : Addr) (ky kt : ClassId) (X us : List Int32) (h0 : Heap) (n0 : Nat) (v : Option Value) (h : Heap) (L : List Loc) : Prop := v = some (.ref xb) ∧ Fr n0 L ∧ Keep h0 h [xb, xt] ∧ Exa Z h xb "java/lang/StringBuilder" ∧ Fld Z h xb "java/lang/AbstractStringBuilder" "coder" "B" (.int 0) ∧ Fld Z h xb "java/lang/AbstractStringBuilder" "count" "I" (.int (Int32.ofNat (X ++ us).length)) ∧ ∃ (t : Addr) (k : ClassId), h0.size ≤ t ∧ Exa Z h t "[B" ∧ Fld Z h xb "java/lang/AbstractStringBuilder" "value" "[B" (.ref t) ∧ Arv Z h t k .byte (Int32.ofNat 34) (pad 34 (X ++ us)) (.int 0)
theorem rmHag (l : Launch) (Z : State) (a0 : Array Value) (hw : ∀ d ∈ tables_1, d.before a0 Z = true) (ws : List Jvm.Cond) (xb xt xy yb : Addr) (ky kt : ClassId) (X us : List Int32) (h0 : Heap) (n0 : Nat) (X00 : Old Z n0 h0) (G1 : Int32) (S1 : Sta Z Z.heap "java/lang/String" "COMPACT_STRINGS" "Z" (.int G1)) (P1 : ¬ G1 = 0) (Exb : Exa Z h0 xb "java/lang/StringBuilder") (Vxb : Fld Z h0 xb "java/lang/AbstractStringBuilder" "value" "[B" (.ref xt)) (Cxb : Fld Z h0 xb "java/lang/AbstractStringBuilder" "coder" "B" (.int 0)) (Nxb : Fld Z h0 xb "java/lang/AbstractStringBuilder" "count" "I" (.int (Int32.ofNat X.length))) (Axt : Arv Z h0 xt kt .byte 16 (pad 16 X) (.int 0)) (Exy : Exa Z h0 xy "java/lang/String") (Cxy : Fld Z h0 xy "java/lang/String" "coder" "B" (.int 0)) (Vxy : Fld Z h0 xy "java/lang/String" "value" "[B" (.ref yb)) (Axy : Arv Z h0 yb ky .byte (Int32.ofNat us.length) (us.map Value.int) (.int 0)) (ge_xb : n0 ≤ xb) (ge_xt : n0 ≤ xt) (nbt : xb ≠ xt) (hX : X.length ≤ 16) (hgr : ¬ X.length + us.length ≤ 16) (hg3 : X.length + us.length ≤ 30) (nyx : xy ≠ xb) (nbx : yb ≠ xb) :
  MetFree l yN6 (head1 (Jvm.Cond.code yN6 jdk_68_method_22_code 3 (some (.object "java/lang/AbstractStringBuilder")) :: ws) ({ frames := 4, cells := 1, slots := 34, locals := 62 } : Room)) (fun aa U => aa = #[(.ref xb), (.ref xy)] ∧ Z.Warmed39 U.vm ∧ U.heap = h0) (fun _ _ _ _ _ => True) (fun _ U o U' => ∃ v L, o = .returned v ∧ QHag Z xb xt xy yb ky kt X us h0 n0 v U'.heap L ∧ FrameEnd U o U' L ({ frames := 4, cells := 1, slots := 34, locals := 62 } : Room).cells ({ frames := 4, cells := 1, slots := 34, locals := 62 } : Room).slots) := by
 refine MetFree.of_bodySF (plainFor_of_name pn_4) hisR ?_
 intro p e s m args below meth c s₁ Bd hml0 hP hK
 obtain ⟨rfl, hZ, hh⟩ := hP
 have hx := Bd.exec
 have hby := Bd.bytes
 have hml : c.maxLocals = 3 := hml0
 have hown : s.vm.findClass "java/lang/AbstractStringBuilder" = some m.cls := findClass_of_methodNamed Bd.named
 have hnm := (name_of_methodNamed Bd.named Bd.method).1
 have X0 : Stand p l e ({ frames := 4, cells := 1, slots := 34, locals := 62 } : Room) s m #[(.ref xb), (.ref xy)] below meth c s₁ [] 0 0 := Stand.of_body Bd
 have e0 : s₁.heap = h0 := by rw [← hh, Bd.state]; rfl
 have N0 := Fr.nil n0
 have K0 := Keep.refl h0 [xb, xt]
 have ef : entryFrame m #[(.ref xb), (.ref xy)] 3 = mkF m 0 #[vr xb, vr xy, un] [] := by first | (simp [entryFrame, mkF, argsToLocals, Value.category]; done) | rfl
 rw [ef]
 refine fin_of fun Kx hF => ?_
 show Go p.tables e below Kx _ (mkF m 0 _ [])
 have lX4 : X.length ≤ 4000 := by omega
 have lu4 : us.length ≤ 4000 := by omega
 have hc34 : X.length + us.length ≤ 34 := by omega
 show Go p.tables e below Kx _ (mkF m 0 _ [])
 refine s_aloadN (pc' := 1) X0.here hx (hb hby d68_22_0) rfl rfl rfl ?_
 refine s_ifnonnullY (pc' := 9) X0.here hx (hb hby d68_22_1) (by decide) (by decide) ?_
 refine s_aloadN (pc' := 10) X0.here hx (hb hby d68_22_9) rfl rfl rfl ?_
 obtain ⟨_, T352, L352, X352, hQ352, st352⟩ := kV X0 hx hZ (y := yN28) hown (hv hw 86 rfl) (hv hw 87 rfl) (notFace_of_selects (args := #[]) (mvT hZ (hv hw 89 rfl))) (hv hw 89 rfl) (hv hw 88 rfl) (hv hw 2 rfl) (hv hw 90 rfl) (by decide) (rmGl l Z a0 hw [] xy yb _ us h0 n0 X00 G1 S1 P1 Exy Cxy Vxy Axy) e0 Exy (W := 0) (g := (mkF m 10 #[vr xb, vr xy, un] [(.ref xy)])) rfl (by rw [hml]; rfl) (argsL := []) (rest := []) (lenOf pd_5 rfl) rfl (by exact Nat.le_of_eq rfl) (hb hby d68_22_10) rfl (nb rfl) (nb rfl) (nb rfl) (nb rfl)
 obtain ⟨rfl, Nq352, hE352⟩ := hQ352
 have N352 := Fr.app N0 Nq352
 refine Go.tr st352 ?_
 show Go p.tables e below Kx _ (mkF m 13 _ [(.int (Int32.ofNat us.length))])
 refine s_istoreN (pc' := 14) (Ls' := #[vr xb, vr xy, .val (.int (Int32.ofNat us.length))]) X352.here hx (hb hby d68_22_13) rfl  rfl ?_
 refine s_aloadN (pc' := 15) X352.here hx (hb hby d68_22_14) rfl rfl rfl ?_
 refine s_aloadN (pc' := 16) X352.here hx (hb hby d68_22_15) rfl rfl rfl ?_
 obtain ⟨T353, X353, e353, st353⟩ := getF X352 hx hZ hown (host := "") (Or.inl (hv hw 96 rfl)) Via.refl hE352 Nxb (g := (mkF m 16 #[vr xb, vr xy, .val (.int (Int32.ofNat us.length))] [(.ref xb), (.ref xb)])) rfl rfl (hb hby d68_22_16)
 refine Go.st st353 ?_
 show Go p.tables e below Kx _ (mkF m 19 _ [(.int (Int32.ofNat X.length)), (.ref xb)])
 refine s_iloadN (pc' := 20) X353.here hx (hb hby d68_22_19) rfl rfl ?_
 refine s_iadd (pc' := 21) (z := (Int32.ofNat (X ++ us).length)) X353.here hx (hb hby d68_22_20) rfl (lapp _ _) ?_
 obtain ⟨_, T354, L354, X354, hQ354, st354⟩ := kV X353 hx hZ (y := yN7) hown (hv hw 98 rfl) (decl_of (hv hw 99 rfl) (hv hw 102 rfl)) (notFace_of_selects (args := #[]) (mvT hZ (hv hw 101 rfl))) (hv hw 101 rfl) (hv hw 99 rfl) (hv hw 68 rfl) (hv hw 102 rfl) (by decide) (rmHeg l Z a0 hw [] xb xt _ X (Int32.ofNat (X ++ us).length) (Int32.ofNat X.length) h0 n0 X00 Exb Vxb Cxb Nxb Axt ge_xb hX (grow16 hgr hg3).1 (grow16 hgr hg3).2) e353 Exb (W := 0) (g := (mkF m 21 #[vr xb, vr xy, .val (.int (Int32.ofNat us.length))] [(.int (Int32.ofNat (X ++ us).length)), (.ref xb)])) rfl (by rw [hml]; rfl) (argsL := [(.int (Int32.ofNat (X ++ us).length))]) (rest := []) (lenOf pd_3 rfl) rfl (by exact Nat.le_of_eq rfl) (hb hby d68_22_21) rfl (nb rfl) (nb rfl) (nb rfl) (nb rfl)
 obtain ⟨rfl, Nq354, Kq354, q1_354, q3_354, q4_354, t354, kt354, le354, q0_354, q2_354, q5_354⟩ := hQ354
 have sz354 : h0.size ≤ t354 := Nat.le_trans K0.1 le354
 have ge354 : n0 ≤ t354 := Nat.le_trans (X00.1 ▸ X00.2.1) le354
 have N354 := Fr.app N352 Nq354
 have K354 : Keep h0 T354.heap [xb, xt] := K0.trans Kq354 (allS (P := fun zz => zz ∈ [xb, xt] ∨ h0.size ≤ zz) (Or.inl (List.mem_of_getElem? (i := 0) rfl)) all0)
 have O354 : Old Z n0 T354.heap := X00.keep Kq354 (allS ge_xb all0)
 refine Go.tr st354 ?_
 show Go p.tables e below Kx _ (mkF m 24 _ [])
 refine s_aloadN (pc' := 25) X354.here hx (hb hby d68_22_24) rfl rfl rfl ?_
 refine s_aloadN (pc' := 26) X354.here hx (hb hby d68_22_25) rfl rfl rfl ?_
 obtain ⟨T355, X355, e355, st355⟩ := getF X354 hx hZ hown (host := "") (Or.inl (hv hw 96 rfl)) Via.refl rfl q4_354 (g := (mkF m 26 #[vr xb, vr xy, .val (.int (Int32.ofNat us.length))] [(.ref xb), (.ref xb)])) rfl rfl (hb hby d68_22_26)
 refine Go.st st355 ?_
 show Go p.tables e below Kx _ (mkF m 29 _ [(.int (Int32.ofNat X.length)), (.ref xb)])
 refine s_aloadN (pc' := 30) X355.here hx (hb hby d68_22_29) rfl rfl rfl ?_
 have f356 : Exa Z T354.heap xy "java/lang/String" := (Exy.keep Kq354)
 have f357 : Fld Z T354.heap xy "java/lang/String" "coder" "B" (.int 0) := (Cxy.keep Kq354 (ninS nyx nin0))
 have f358 : Fld Z T354.heap xy "java/lang/String" "value" "[B" (.ref yb) := (Vxy.keep Kq354 (ninS nyx nin0))
 have f359 : Arv Z T354.heap yb ky .byte (Int32.ofNat us.length) (us.map Value.int) (.int 0) := (Axy.keep Kq354 (ninS nbx nin0))
 obtain ⟨_, T360, L360, X360, hQ360, st360⟩ := kV X355 hx hZ (y := yN13) hown (hv hw 103 rfl) (decl_of (hv hw 104 rfl) (hv hw 107 rfl)) (notFace_of_selects (args := #[]) (mvT hZ (hv hw 106 rfl))) (hv hw 106 rfl) (hv hw 104 rfl) (hv hw 68 rfl) (hv hw 107 rfl) (by decide) (rmHp l Z a0 hw [] xb t354 xy yb _ _ 34 X us T354.heap n0 O354 G1 S1 P1 q1_354 q2_354 q3_354 q5_354 f356 f357 f358 f359 ge354 (by decide) hc34) e355 q1_354 (W := 0) (g := (mkF m 30 #[vr xb, vr xy, .val (.int (Int32.ofNat us.length))] [(.ref xy), (.int (Int32.ofNat X.length)), (.ref xb)])) rfl (by rw [hml]; rfl) (argsL := [(.int (Int32.ofNat X.length)), (.ref xy)]) (rest := []) (lenOf pd_8 rfl) rfl (by exact Nat.le_of_eq rfl) (hb hby d68_22_30) rfl (nb rfl) (nb rfl) (nb rfl) (nb rfl)
 obtain ⟨rfl, Nq360, Kq360, q1_360⟩ := hQ360
 have N360 := Fr.app N354 Nq360
 have K360 : Keep h0 T360.heap [xb, xt] := K354.trans Kq360 (allS (P := fun zz => zz ∈ [xb, xt] ∨ h0.size ≤ zz) (Or.inr sz354) all0)
 have O360 : Old Z n0 T360.heap := O354.keep Kq360 (allS ge354 all0)
 refine Go.tr st360 ?_
 show Go p.tables e below Kx _ (mkF m 33 _ [])
 refine s_aloadN (pc' := 34) X360.here hx (hb hby d68_22_33) rfl rfl rfl ?_
 refine s_dup (pc' := 35) X360.here hx (hb hby d68_22_34) rfl rfl ?_
 have f361 : Fld Z T360.heap xb "java/lang/AbstractStringBuilder" "count" "I" (.int (Int32.ofNat X.length)) := (q4_354.keep Kq360 (ninS (Nat.ne_of_lt (Nat.lt_of_lt_of_le Exb.lt le354)) nin0))
 obtain ⟨T362, X362, e362, st362⟩ := getF X360 hx hZ hown (host := "") (Or.inl (hv hw 96 rfl)) Via.refl rfl f361 (g := (mkF m 35 #[vr xb, vr xy, .val (.int (Int32.ofNat us.length))] [(.ref xb), (.ref xb)])) rfl rfl (hb hby d68_22_35)
 refine Go.st st362 ?_
 show Go p.tables e below Kx _ (mkF m 38 _ [(.int (Int32.ofNat X.length)), (.ref xb)])
 refine s_iloadN (pc' := 39) X362.here hx (hb hby d68_22_38) rfl rfl ?_
 refine s_iadd (pc' := 40) (z := (Int32.ofNat (X ++ us).length)) X362.here hx (hb hby d68_22_39) rfl (lapp _ _) ?_
 have f363 : Exa Z T360.heap xb "java/lang/StringBuilder" := (q1_354.keep Kq360)
 obtain ⟨T364, h364, X364, e364, W364, st364⟩ := putF X362 hx hZ hown (host := "") (Or.inl (hv hw 96 rfl)) Via.refl e362 f361 f363 (Or.inl (hv hw 97 rfl)) (hv hw 59 rfl) (ty := .int) (by decide) rfl rfl (g := (mkF m 40 #[vr xb, vr xy, .val (.int (Int32.ofNat us.length))] [(.int (Int32.ofNat (X ++ us).length)), (.ref xb)])) rfl rfl (hb hby d68_22_40)
 have Fw364 : Fld Z h364 xb "java/lang/AbstractStringBuilder" "count" "I" (.int (Int32.ofNat (X ++ us).length)) := f361.same W364
 have K364 : Keep h0 h364 [xb, xt] := K360.wr W364 (Or.inl (List.mem_of_getElem? (i := 0) rfl))
 have O364 : Old Z n0 h364 := O360.wr W364 ge_xb
 have N364 := Fr.snoc X364 N360 ge_xb
 refine Go.st st364 ?_
 show Go p.tables e below Kx _ (mkF m 43 _ [])
 refine s_aloadN (pc' := 44) X364.here hx (hb hby d68_22_43) rfl rfl rfl ?_
 have f365 : Exa Z h364 xb "java/lang/StringBuilder" := (f363.wr W364)
 have f366 : Fld Z h364 xb "java/lang/AbstractStringBuilder" "coder" "B" (.int 0) := ((q3_354.keep Kq360 (ninS (Nat.ne_of_lt (Nat.lt_of_lt_of_le Exb.lt le354)) nin0)).other W364 (Or.inr (slot_ne (Or.inl (hv hw 75 rfl)) (Or.inl (hv hw 97 rfl)) (by decide) (t := .byte) (t' := .int) (by decide) (by decide))))
 have f367 : Exa Z h364 t354 "[B" := ((q0_354.keep Kq360).wr W364)
 have f368 : Fld Z h364 xb "java/lang/AbstractStringBuilder" "value" "[B" (.ref t354) := ((q2_354.keep Kq360 (ninS (Nat.ne_of_lt (Nat.lt_of_lt_of_le Exb.lt le354)) nin0)).other W364 (Or.inr (slot_ne (Or.inl (hv hw 73 rfl)) (Or.inl (hv hw 97 rfl)) (by decide) (t := (.array .byte)) (t' := .int) (by decide) (by decide))))
 have f369 : Arv Z h364 t354 kt354 .byte (Int32.ofNat 34) (pad 34 (X ++ us)) (.int 0) := (q1_360.other W364 (Ne.symm (Nat.ne_of_lt (Nat.lt_of_lt_of_le Exb.lt le354))))
 obtain ⟨fs, hr, hrun, hended, hW, hsame⟩ := X364.leave (v := (some (.ref xb))) (fun h => by rw [Bd.returns] at h; cases h)
 refine Go.fin (retOut X364 hx Bd.returns rfl (Or.inr (Or.inr (Or.inr (Or.inr ⟨rfl, rfl, rfl⟩)))) (hb hby d68_22_44) hr) (hF _ _ hrun hended ⟨_, _, rfl, ?_, ⟨_, rfl⟩, hW, hsame.mono (by decide) (by decide)⟩)
 ·
  show QHag Z xb xt xy yb ky kt X us h0 n0 ((some (.ref xb)) : Option Value) T364.heap _
  rw [e364]
  exact ⟨rfl, N364, K364, f365, f366, Fw364, t354, _, sz354, f367, f368, f369⟩
def QHsg (Z : State) (xb xt xy yb : Addr) (ky kt : ClassId) (X us : List Int32) (h0 : Heap) (n0 : Nat) (v : Option Value) (h : Heap) (L : List Loc) : Prop := v = some (.ref xb) ∧ Fr n0 L ∧ Keep h0 h [xb, xt] ∧ Exa Z h xb "java/lang/StringBuilder" ∧ Fld Z h xb "java/lang/AbstractStringBuilder" "coder" "B" (.int 0) ∧ Fld Z h xb "java/lang/AbstractStringBuilder" "count" "I" (.int (Int32.ofNat (X ++ us).length)) ∧ ∃ (t : Addr) (k : ClassId), h0.size ≤ t ∧ Exa Z h t "[B" ∧ Fld Z h xb "java/lang/AbstractStringBuilder" "value" "[B" (.ref t) ∧ Arv Z h t k .byte (Int32.ofNat 34) (pad 34 (X ++ us)) (.int 0)
theorem rmHsg (l : Launch) (Z : State) (a0 : Array Value) (hw : ∀ d ∈ tables_1, d.before a0 Z = true) (ws : List Jvm.Cond) (xb xt xy yb : Addr) (ky kt : ClassId) (X us : List Int32) (h0 : Heap) (n0 : Nat) (X00 : Old Z n0 h0) (G1 : Int32) (S1 : Sta Z Z.heap "java/lang/String" "COMPACT_STRINGS" "Z" (.int G1)) (P1 : ¬ G1 = 0) (Exb : Exa Z h0 xb "java/lang/StringBuilder") (Vxb : Fld Z h0 xb "java/lang/AbstractStringBuilder" "value" "[B" (.ref xt)) (Cxb : Fld Z h0 xb "java/lang/AbstractStringBuilder" "coder" "B" (.int 0)) (Nxb : Fld Z h0 xb "java/lang/AbstractStringBuilder" "count" "I" (.int (Int32.ofNat X.length))) (Axt : Arv Z h0 xt kt .byte 16 (pad 16 X) (.int 0)) (Exy : Exa Z h0 xy "java/lang/String") (Cxy : Fld Z h0 xy "java/lang/String" "coder" "B" (.int 0)) (Vxy : Fld Z h0 xy "java/lang/String" "value" "[B" (.ref yb)) (Axy : Arv Z h0 yb ky .byte (Int32.ofNat us.length) (us.map Value.int) (.int 0)) (ge_xb : n0 ≤ xb) (ge_xt : n0 ≤ xt) (nbt : xb ≠ xt) (hX : X.length ≤ 16) (hgr : ¬ X.length + us.length ≤ 16) (hg3 : X.length + us.length ≤ 30) (nyx : xy ≠ xb) (nbx : yb ≠ xb) :
  MetFree l yN31 (head1 (Jvm.Cond.code yN31 jdk_67_method_7_code 2 (some (.object "java/lang/StringBuilder")) :: ws) ({ frames := 5, cells := 1, slots := 34, locals := 76 } : Room)) (fun aa U => aa = #[(.ref xb), (.ref xy)] ∧ Z.Warmed39 U.vm ∧ U.heap = h0) (fun _ _ _ _ _ => True) (fun _ U o U' => ∃ v L, o = .returned v ∧ QHsg Z xb xt xy yb ky kt X us h0 n0 v U'.heap L ∧ FrameEnd U o U' L ({ frames := 5, cells := 1, slots := 34, locals := 76 } : Room).cells ({ frames := 5, cells := 1, slots := 34, locals := 76 } : Room).slots) := by
 refine MetFree.of_bodySF (plainFor_of_name pn_3) hisR ?_
 intro p e s m args below meth c s₁ Bd hml0 hP hK
 obtain ⟨rfl, hZ, hh⟩ := hP
 have hx := Bd.exec
 have hby := Bd.bytes
 have hml : c.maxLocals = 2 := hml0
 have hown : s.vm.findClass "java/lang/StringBuilder" = some m.cls := findClass_of_methodNamed Bd.named
 have hnm := (name_of_methodNamed Bd.named Bd.method).1
 have X0 : Stand p l e ({ frames := 5, cells := 1, slots := 34, locals := 76 } : Room) s m #[(.ref xb), (.ref xy)] below meth c s₁ [] 0 0 := Stand.of_body Bd
 have e0 : s₁.heap = h0 := by rw [← hh, Bd.state]; rfl
 have N0 := Fr.nil n0
 have K0 := Keep.refl h0 [xb, xt]
 have ef : entryFrame m #[(.ref xb), (.ref xy)] 2 = mkF m 0 #[vr xb, vr xy] [] := by first | (simp [entryFrame, mkF, argsToLocals, Value.category]; done) | rfl
 rw [ef]
 refine fin_of fun Kx hF => ?_
 show Go p.tables e below Kx _ (mkF m 0 _ [])
 have lX4 : X.length ≤ 4000 := by omega
 have lu4 : us.length ≤ 4000 := by omega
 have hc34 : X.length + us.length ≤ 34 := by omega
 show Go p.tables e below Kx _ (mkF m 0 _ [])
 refine s_aloadN (pc' := 1) X0.here hx (hb hby d67_7_0) rfl rfl rfl ?_
 refine s_aloadN (pc' := 2) X0.here hx (hb hby d67_7_1) rfl rfl rfl ?_
 obtain ⟨_, _, ⟨T370, L370, k370, n370⟩, -, X370, ⟨Lc370, hQ370, l370, y370, z370⟩, st370⟩ := superBack X0 hx hZ (y := yN6) hown (hv hw 81 rfl) (same_of (y := yN6) (z := yN7) (by decide) (hv hw 82 rfl) rfl (hv hw 101 rfl)) (hv hw 82 rfl) (hv hw 83 rfl) (by decide) (backOf (W := 0) (rmHag l Z a0 hw [] xb xt xy yb _ _ X us h0 n0 X00 G1 S1 P1 Exb Vxb Cxb Nxb Axt Exy Cxy Vxy Axy ge_xb ge_xt nbt hX hgr hg3 nyx nbx) hZ (hv hw 85 rfl) (hv hw 68 rfl) (by decide) (by decide)) e0 (Ins.self Exb) (g := (mkF m 2 #[vr xb, vr xy] [(.ref xy), (.ref xb)])) rfl (by rw [hml]; rfl) (hv hw 85 rfl) (argsL := [(.ref xy)]) (rest := []) (lenOf pd_9 rfl) rfl (by exact Nat.le_of_eq rfl) (hb hby d67_7_2) (fun _ _ => ⟨rfl, e0, (by decide : 0 + 1 ≤ _), (by decide : 0 + 34 ≤ _)⟩)
 dsimp only [Pt.U, Pt.locs, Pt.cells, Pt.slots] at X370 l370 y370 z370 st370 hQ370
 rw [l370, y370, z370] at X370
 obtain ⟨rfl, Nq370, Kq370, q1_370, q3_370, q4_370, t370, kt370, le370, q0_370, q2_370, q5_370⟩ := hQ370
 have sz370 : h0.size ≤ t370 := Nat.le_trans K0.1 le370
 have ge370 : n0 ≤ t370 := Nat.le_trans (X00.1 ▸ X00.2.1) le370
 have N370 := Fr.app N0 Nq370
 have K370 : Keep h0 T370.heap [xb, xt] := K0.trans Kq370 (allS (P := fun zz => zz ∈ [xb, xt] ∨ h0.size ≤ zz) (Or.inl (List.mem_of_getElem? (i := 0) rfl)) (allS (P := fun zz => zz ∈ [xb, xt] ∨ h0.size ≤ zz) (Or.inl (List.mem_of_getElem? (i := 1) rfl)) all0))
 have O370 : Old Z n0 T370.heap := X00.keep Kq370 (allS ge_xb (allS ge_xt all0))
 refine Go.tr st370 ?_
 show Go p.tables e below Kx _ (mkF m 5 _ [(.ref xb)])
 refine s_pop (pc' := 6) X370.here hx (hb hby d67_7_5) rfl rfl ?_
 refine s_aloadN (pc' := 7) X370.here hx (hb hby d67_7_6) rfl rfl rfl ?_
 obtain ⟨fs, hr, hrun, hended, hW, hsame⟩ := X370.leave (v := (some (.ref xb))) (fun h => by rw [Bd.returns] at h; cases h)
 refine Go.fin (retOut X370 hx Bd.returns rfl (Or.inr (Or.inr (Or.inr (Or.inr ⟨rfl, rfl, rfl⟩)))) (hb hby d67_7_7) hr) (hF _ _ hrun hended ⟨_, _, rfl, ?_, ⟨_, rfl⟩, hW, hsame.mono (by decide) (by decide)⟩)
 ·
  show QHsg Z xb xt xy yb ky kt X us h0 n0 ((some (.ref xb)) : Option Value) T370.heap _
  skip
  exact ⟨rfl, N370, K370, q1_370, q3_370, q4_370, t370, _, sz370, q0_370, q2_370, q5_370⟩
def QHci (Z : State) (xd yv ys : Addr) (bv bs : Nat) (cv cs : List Int32) (xl : Int32) (h0 : Heap) (n0 : Nat) (v : Option Value) (h : Heap) (L : List Loc) : Prop := ∃ (y t : Addr) (k : ClassId), v = some (.ref y) ∧ Fr n0 L ∧ Keep h0 h [] ∧ Exa Z h y "java/lang/String" ∧ Fld Z h y "java/lang/String" "coder" "B" (.int 0) ∧ Fld Z h y "java/lang/String" "value" "[B" (.ref t) ∧ Arv Z h t k .byte (Int32.ofNat ((((((([] : List Int32) ++ (i8s cv)) ++ [(32 : Int32), (40 : Int32)]) ++ (i8s cs)) ++ [(44 : Int32), (32 : Int32), (108 : Int32), (105 : Int32), (110 : Int32), (101 : Int32), (32 : Int32)]) ++ (dec xl)) ++ [(41 : Int32)]).length) (((((((([] : List Int32) ++ (i8s cv)) ++ [(32 : Int32), (40 : Int32)]) ++ (i8s cs)) ++ [(44 : Int32), (32 : Int32), (108 : Int32), (105 : Int32), (110 : Int32), (101 : Int32), (32 : Int32)]) ++ (dec xl)) ++ [(41 : Int32)]).map Value.int) (.int 0)
theorem rmHci (l : Launch) (Z : State) (a0 : Array Value) (hw : ∀ d ∈ tables_1, d.before a0 Z = true) (ws : List Jvm.Cond) (xd yv ys : Addr) (bv bs : Nat) (cv cs : List Int32) (xl : Int32) (h0 : Heap) (n0 : Nat) (X00 : Old Z n0 h0) (hEL : EW Z a0 consts_1) (wS : ∀ a ∈ Bundle.stringAtoms, a.before a0 Z = true) (G1 : Int32) (S1 : Sta Z Z.heap "java/lang/String" "COMPACT_STRINGS" "Z" (.int G1)) (P1 : ¬ G1 = 0) (xo xq : Addr) (ko kq : ClassId) (SO : Sta Z Z.heap "java/lang/Integer" "DigitOnes" "[B" (.ref xo)) (SQ : Sta Z Z.heap "java/lang/Integer" "DigitTens" "[B" (.ref xq)) (AO : Arv Z Z.heap xo ko .byte 100 ONES (.int 0)) (AQ : Arv Z Z.heap xq kq .byte 100 TENS (.int 0)) (Exd : Exa Z h0 xd "com/example/syndica/syndica/Term") (F1 : Fld Z h0 xd "com/example/syndica/syndica/Term" "value" "Ljava/lang/String;" (.ref yv)) (F2 : Fld Z h0 xd "com/example/syndica/syndica/Term" "section" "Ljava/lang/String;" (.ref ys)) (F3 : Fld Z h0 xd "com/example/syndica/syndica/Term" "line" "I" (.int xl)) (TV : Str Z h0 bv yv cv) (TS : Str Z h0 bs ys cs) (hv2 : cv.length = 2) (hs2 : cs.length = 2) :
  MetFree l yN1 (head1 (Jvm.Cond.code yN1 prog_81_method_2_code 1 (some (.object "java/lang/String")) :: ws) ({ frames := 6, cells := 12, slots := 200, locals := 91 } : Room)) (fun aa U => aa = #[(.ref xd)] ∧ Z.Warmed39 U.vm ∧ U.heap = h0 ∧ CHv Z consts_1 U.vm h0) (fun _ _ _ _ _ => True) (fun _ U o U' => ∃ v L, o = .returned v ∧ QHci Z xd yv ys bv bs cv cs xl h0 n0 v U'.heap L ∧ CHr Z consts_1 U.vm U.heap U'.vm U'.heap ∧ ReturnedEndW U o U' L ({ frames := 6, cells := 12, slots := 200, locals := 91 } : Room).cells ({ frames := 6, cells := 12, slots := 200, locals := 91 } : Room).slots) := by
 refine MetFree.of_bodySF (plainFor_of_name pn_1) hisR ?_
 intro p e s m args below meth c s₁ Bd hml0 hP hK
 obtain ⟨rfl, hZ, hh, H0⟩ := hP
 have hx := Bd.exec
 have hby := Bd.bytes
 have hml : c.maxLocals = 1 := hml0
 have hown : s.vm.findClass "com/example/syndica/syndica/Term" = some m.cls := findClass_of_methodNamed Bd.named
 have hnm := (name_of_methodNamed Bd.named Bd.method).1
 have X0 : Stand p l e ({ frames := 6, cells := 12, slots := 200, locals := 91 } : Room) (s.setVm s.vm) m #[(.ref xd)] below meth c s₁ [] 0 0 := Stand.of_body Bd
 have e0 : s₁.heap = h0 := by rw [← hh, Bd.state]; rfl
 have N0 := Fr.nil n0
 have K0 := Keep.refl h0 []
 have hS0 : s.Since s.vm h0.size := (State.WarmedH.refl s).since _
 have hk0 := Nat.le_refl h0.size
 have C0 : CHr Z consts_1 s.vm h0 s.vm h0 := CHr.refl H0
 have ef : entryFrame m #[(.ref xd)] 1 = mkF m 0 #[vr xd] [] := by first | (simp [entryFrame, mkF, argsToLocals, Value.category]; done) | rfl
 rw [ef]
 refine fin_of fun Kx hF => ?_
 show Go p.tables e below Kx _ (mkF m 0 _ [])
 obtain ⟨-, sEyv, sCyv, ⟨sbyv, skyv, -, sFyv, sAyv⟩, spyv, slyv⟩ := id TV
 have sVyv : Arv Z h0 sbyv skyv .byte (Int32.ofNat (i8s cv).length) ((i8s cv).map Value.int) (.int 0) := i8arv sAyv
 obtain ⟨-, sEys, sCys, ⟨sbys, skys, -, sFys, sAys⟩, spys, slys⟩ := id TS
 have sVys : Arv Z h0 sbys skys .byte (Int32.ofNat (i8s cs).length) ((i8s cs).map Value.int) (.int 0) := i8arv sAys
 have hdl := dec_len xl
 have k0 : ([] : List Int32).length + (i8s cv).length ≤ 16 := by simp only [List.length_append, List.length_nil, List.length_cons, i8s_len]; omega
 have k1 : (([] : List Int32) ++ (i8s cv)).length + [(32 : Int32), (40 : Int32)].length ≤ 16 := by simp only [List.length_append, List.length_nil, List.length_cons, i8s_len]; omega
 have k2 : ((([] : List Int32) ++ (i8s cv)) ++ [(32 : Int32), (40 : Int32)]).length + (i8s cs).length ≤ 16 := by simp only [List.length_append, List.length_nil, List.length_cons, i8s_len]; omega
 have k3 : (((([] : List Int32) ++ (i8s cv)) ++ [(32 : Int32), (40 : Int32)]) ++ (i8s cs)).length + [(44 : Int32), (32 : Int32), (108 : Int32), (105 : Int32), (110 : Int32), (101 : Int32), (32 : Int32)].length ≤ 16 := by simp only [List.length_append, List.length_nil, List.length_cons, i8s_len]; omega
 have kx : ((((([] : List Int32) ++ (i8s cv)) ++ [(32 : Int32), (40 : Int32)]) ++ (i8s cs)) ++ [(44 : Int32), (32 : Int32), (108 : Int32), (105 : Int32), (110 : Int32), (101 : Int32), (32 : Int32)]).length ≤ 16 := by simp only [List.length_append, List.length_nil, List.length_cons, i8s_len]; omega
 have kg : ((((([] : List Int32) ++ (i8s cv)) ++ [(32 : Int32), (40 : Int32)]) ++ (i8s cs)) ++ [(44 : Int32), (32 : Int32), (108 : Int32), (105 : Int32), (110 : Int32), (101 : Int32), (32 : Int32)]).length + (dec xl).length ≤ 30 := by simp only [List.length_append, List.length_nil, List.length_cons, i8s_len]; omega
 have kh : (((((([] : List Int32) ++ (i8s cv)) ++ [(32 : Int32), (40 : Int32)]) ++ (i8s cs)) ++ [(44 : Int32), (32 : Int32), (108 : Int32), (105 : Int32), (110 : Int32), (101 : Int32), (32 : Int32)]) ++ (dec xl)).length + [(41 : Int32)].length ≤ 30 := by simp only [List.length_append, List.length_nil, List.length_cons, i8s_len]; omega
 have ky : ((((((([] : List Int32) ++ (i8s cv)) ++ [(32 : Int32), (40 : Int32)]) ++ (i8s cs)) ++ [(44 : Int32), (32 : Int32), (108 : Int32), (105 : Int32), (110 : Int32), (101 : Int32), (32 : Int32)]) ++ (dec xl)) ++ [(41 : Int32)]).length ≤ 34 := by simp only [List.length_append, List.length_nil, List.length_cons, i8s_len]; omega
 have ke : (((((([] : List Int32) ++ (i8s cv)) ++ [(32 : Int32), (40 : Int32)]) ++ (i8s cs)) ++ [(44 : Int32), (32 : Int32), (108 : Int32), (105 : Int32), (110 : Int32), (101 : Int32), (32 : Int32)]) ++ (dec xl)).length = ((((([] : List Int32) ++ (i8s cv)) ++ [(32 : Int32), (40 : Int32)]) ++ (i8s cs)) ++ [(44 : Int32), (32 : Int32), (108 : Int32), (105 : Int32), (110 : Int32), (101 : Int32), (32 : Int32)]).length + (dec xl).length := List.length_append
 have kf : ((((((([] : List Int32) ++ (i8s cv)) ++ [(32 : Int32), (40 : Int32)]) ++ (i8s cs)) ++ [(44 : Int32), (32 : Int32), (108 : Int32), (105 : Int32), (110 : Int32), (101 : Int32), (32 : Int32)]) ++ (dec xl)) ++ [(41 : Int32)]).length = (((((([] : List Int32) ++ (i8s cv)) ++ [(32 : Int32), (40 : Int32)]) ++ (i8s cs)) ++ [(44 : Int32), (32 : Int32), (108 : Int32), (105 : Int32), (110 : Int32), (101 : Int32), (32 : Int32)]) ++ (dec xl)).length + [(41 : Int32)].length := List.length_append
 show Go p.tables e below Kx _ (mkF m 0 _ [])
 obtain ⟨T70, h70, X70, e70, E70, A70, D70, -, st70⟩ := newO X0 hx hZ hown (hv hw 58 rfl) (hv hw 59 rfl) (hv hw 60 rfl) e0 (g := (mkF m 0 #[vr xd] [])) rfl (hb hby p81_2_0) (by decide) (by decide)
 obtain ⟨b70, g70⟩ : ∃ z, z = h0.size := ⟨_, rfl⟩
 rw [← g70] at A70 D70 st70
 have sz70 : h0.size ≤ b70 := Nat.le_trans K0.1 (Nat.le_of_eq g70.symm)
 have ge70 : n0 ≤ b70 := Nat.le_trans (X00.1 ▸ X00.2.1) (Nat.le_of_eq g70.symm)
 have sn70 : Safe Z consts_1 s.vm h0 b70 := Safe.new (Nat.le_of_eq g70.symm)
 have K70 : Keep h0 h70 [] := K0.ext E70
 have O70 : Old Z n0 h70 := X00.ext E70
 have sf71 : Safe Z consts_1 s.vm h70 b70 := (Safe.ext E70 H0 sn70)
 have H70 : CHv Z consts_1 s.vm h70 := H0.ext E70
 have C70 : CHr Z consts_1 s.vm h0 s.vm h70 := C0.trans (CHr.ext E70 H0)
 have hk70 := Nat.le_trans hk0 E70.1
 have F70_value : Fld Z h70 b70 "java/lang/AbstractStringBuilder" "value" "[B" .null := D70 (Or.inl (hv hw 73 rfl)) (ty := (.array .byte)) (by decide)
 have F70_coder : Fld Z h70 b70 "java/lang/AbstractStringBuilder" "coder" "B" (.int 0) := D70 (Or.inl (hv hw 75 rfl)) (ty := .byte) (by decide)
 have F70_count : Fld Z h70 b70 "java/lang/AbstractStringBuilder" "count" "I" (.int 0) := D70 (Or.inl (hv hw 97 rfl)) (ty := .int) (by decide)
 refine Go.st st70 ?_
 show Go p.tables e below Kx _ (mkF m 3 _ [(.ref b70)])
 refine s_dup (pc' := 4) X70.here hx (hb hby p81_2_3) rfl rfl ?_
 obtain ⟨_, T87, L87, X87, hQ87, st87⟩ := kI X70 hx hZ (y := yN29) rfl hown (hv hw 61 rfl) (hv hw 62 rfl) (hv hw 60 rfl) (hv hw 63 rfl) (by decide) (rmHn1 l Z a0 hw [] b70 h70 n0 O70 G1 S1 P1 ge70 A70 F70_value F70_coder F70_count) e70 (a := b70) (W := 1) (g := (mkF m 4 #[vr xd] [(.ref b70), (.ref b70)])) rfl (by rw [hml]; rfl) (argsL := []) (rest := [(.ref b70)]) (lenOf pd_1 rfl) rfl (by exact Nat.le_of_eq rfl) (hb hby p81_2_4) rfl (nb rfl) (nb rfl) (nb rfl) (nb rfl)
 obtain ⟨rfl, Nq87, Kq87, q1_87, t87, kt87, le87, q0_87, q2_87, q3_87, q4_87, q5_87⟩ := hQ87
 have sz87 : h0.size ≤ t87 := Nat.le_trans K70.1 le87
 have ge87 : n0 ≤ t87 := Nat.le_trans (O70.1 ▸ O70.2.1) le87
 have sn87 : Safe Z consts_1 s.vm h70 t87 := Safe.new le87
 have N87 := Fr.app N0 Nq87
 have K87 : Keep h0 T87.heap [] := K70.trans Kq87 (allS (P := fun zz => zz ∈ [] ∨ h0.size ≤ zz) (Or.inr sz70) all0)
 have O87 : Old Z n0 T87.heap := O70.keep Kq87 (allS ge70 all0)
 have sf88 : Safe Z consts_1 s.vm T87.heap b70 := (Safe.keep Kq87 (sfS sf71 sf0) H70 sf71)
 have sf89 : Safe Z consts_1 s.vm T87.heap t87 := (Safe.keep Kq87 (sfS sf71 sf0) H70 sn87)
 have H87 : CHv Z consts_1 s.vm T87.heap := H70.keep Kq87 (sfS sf71 sf0)
 have C87 : CHr Z consts_1 s.vm h0 s.vm T87.heap := C70.trans (CHr.keep Kq87 (sfS sf71 sf0) H70)
 have hk87 := Nat.le_trans hk70 Kq87.1
 refine Go.tr st87 ?_
 show Go p.tables e below Kx _ (mkF m 7 _ [(.ref b70)])
 refine s_aloadN (pc' := 8) X87.here hx (hb hby p81_2_7) rfl rfl rfl ?_
 have f90 : Fld Z T87.heap xd "com/example/syndica/syndica/Term" "value" "Ljava/lang/String;" (.ref yv) := ((F1.ext E70).keep Kq87 (ninS (Nat.ne_of_lt (Nat.lt_of_lt_of_le Exd.lt (Nat.le_of_eq g70.symm))) nin0))
 obtain ⟨T91, X91, e91, st91⟩ := getF X87 hx hZ hown (host := "") (Or.inl (hv hw 47 rfl)) Via.refl rfl f90 (g := (mkF m 8 #[vr xd] [(.ref xd), (.ref b70)])) rfl rfl (hb hby p81_2_8)
 refine Go.st st91 ?_
 show Go p.tables e below Kx _ (mkF m 11 _ [(.ref yv), (.ref b70)])
 have f126 : Exa Z T87.heap yv "java/lang/String" := ((sEyv.ext E70).keep Kq87)
 have f127 : Fld Z T87.heap yv "java/lang/String" "coder" "B" (.int 0) := ((sCyv.ext E70).keep Kq87 (ninS (Nat.ne_of_lt (Nat.lt_of_lt_of_le sEyv.lt (Nat.le_of_eq g70.symm))) nin0))
 have f128 : Fld Z T87.heap yv "java/lang/String" "value" "[B" (.ref sbyv) := ((sFyv.ext E70).keep Kq87 (ninS (Nat.ne_of_lt (Nat.lt_of_lt_of_le sEyv.lt (Nat.le_of_eq g70.symm))) nin0))
 have f129 : Arv Z T87.heap sbyv skyv .byte (Int32.ofNat (i8s cv).length) ((i8s cv).map Value.int) (.int 0) := ((sVyv.ext E70).keep Kq87 (ninS (Nat.ne_of_lt (Nat.lt_of_lt_of_le sVyv.lt (Nat.le_of_eq g70.symm))) nin0))
 obtain ⟨_, T130, L130, X130, hQ130, st130⟩ := kV X91 hx hZ (y := yN31) hown (hv hw 76 rfl) (hv hw 77 rfl) (notFace_of_selects (args := #[]) (mvT hZ (hv hw 79 rfl))) (hv hw 79 rfl) (hv hw 78 rfl) (hv hw 60 rfl) (hv hw 80 rfl) (by decide) (rmHs l Z a0 hw [] b70 t87 yv sbyv _ _ 16 ([] : List Int32) (i8s cv) T87.heap n0 O87 G1 S1 P1 q1_87 q2_87 q3_87 q4_87 q5_87 f126 f127 f128 f129 ge70 ge87 (Nat.ne_of_lt (Nat.lt_of_lt_of_le A70.lt le87)) (by decide) k0) e91 q1_87 (W := 0) (g := (mkF m 11 #[vr xd] [(.ref yv), (.ref b70)])) rfl (by rw [hml]; rfl) (argsL := [(.ref yv)]) (rest := []) (lenOf pd_10 rfl) rfl (by exact Nat.le_of_eq rfl) (hb hby p81_2_11) rfl (nb rfl) (nb rfl) (nb rfl) (nb rfl)
 obtain ⟨rfl, Nq130, Kq130, q1_130, q2_130, q3_130, q4_130, q5_130⟩ := hQ130
 have N130 := Fr.app N87 Nq130
 have K130 : Keep h0 T130.heap [] := K87.trans Kq130 (allS (P := fun zz => zz ∈ [] ∨ h0.size ≤ zz) (Or.inr sz70) (allS (P := fun zz => zz ∈ [] ∨ h0.size ≤ zz) (Or.inr sz87) all0))
 have O130 : Old Z n0 T130.heap := O87.keep Kq130 (allS ge70 (allS ge87 all0))
 have sf131 : Safe Z consts_1 s.vm T130.heap b70 := (Safe.keep Kq130 (sfS sf88 (sfS sf89 sf0)) H87 sf88)
 have sf132 : Safe Z consts_1 s.vm T130.heap t87 := (Safe.keep Kq130 (sfS sf88 (sfS sf89 sf0)) H87 sf89)
 have H130 : CHv Z consts_1 s.vm T130.heap := H87.keep Kq130 (sfS sf88 (sfS sf89 sf0))
 have C130 : CHr Z consts_1 s.vm h0 s.vm T130.heap := C87.trans (CHr.keep Kq130 (sfS sf88 (sfS sf89 sf0)) H87)
 have hk130 := Nat.le_trans hk87 Kq130.1
 refine Go.tr st130 ?_
 show Go p.tables e below Kx _ (mkF m 14 _ [(.ref b70)])
 obtain ⟨a133, T133, h133, k1133, b133, k133, X133, e133, E133, hS133, hk133, hZ133, hown133, A133, FC133, FV133, V133, la133, lb133, Cr133, Lt133, sx133, st133⟩ := ldcCH X130 hx hZ hown (hv hw 123 rfl) wS rfl hS0 hk130 hEL (List.mem_of_getElem? (i := 0) rfl) H130 (vs := [(.int 32), (.int 40)]) (z := 2) (by decide) (by decide) (by decide) (g := (mkF m 14 #[vr xd] [(.ref b70)])) rfl (hb hby p81_2_14) (n := 8) (by decide) (by decide) (by decide) (by decide)
 have sf134 : Safe Z consts_1 T133.vm h133 b70 := Cr133.safe (Nat.lt_of_lt_of_le A70.lt (Nat.le_trans Kq87.1 Kq130.1)) sf131
 have sf135 : Safe Z consts_1 T133.vm h133 t87 := Cr133.safe (Nat.lt_of_lt_of_le q5_87.lt Kq130.1) sf132
 have C133 := C130.trans Cr133
 have K133 : Keep h0 h133 [] := K130.ext E133
 have O133 : Old Z n0 h133 := O130.ext E133
 refine Go.st st133 ?_
 show Go p.tables e below Kx _ (mkF m 16 _ [(.ref a133), (.ref b70)])
 have V136 : Arv Z h133 b133 k133 .byte (Int32.ofNat [(32 : Int32), (40 : Int32)].length) ([(32 : Int32), (40 : Int32)].map Value.int) (.int 0) := V133
 have f137 : Exa Z h133 b70 "java/lang/StringBuilder" := (q1_130.ext E133)
 have f138 : Fld Z h133 b70 "java/lang/AbstractStringBuilder" "value" "[B" (.ref t87) := (q2_130.ext E133)
 have f139 : Fld Z h133 b70 "java/lang/AbstractStringBuilder" "coder" "B" (.int 0) := (q3_130.ext E133)
 have f140 : Fld Z h133 b70 "java/lang/AbstractStringBuilder" "count" "I" (.int (Int32.ofNat (([] : List Int32) ++ (i8s cv)).length)) := (q4_130.ext E133)
 have f141 : Arv Z h133 t87 kt87 .byte (Int32.ofNat 16) (pad 16 (([] : List Int32) ++ (i8s cv))) (.int 0) := (q5_130.ext E133)
 obtain ⟨_, T142, L142, X142, hQ142, st142⟩ := kV X133 hx hZ133 (y := yN31) hown133 (hv hw 76 rfl) (hv hw 77 rfl) (notFace_of_selects (args := #[]) (mvT hZ133 (hv hw 79 rfl))) (hv hw 79 rfl) (hv hw 78 rfl) (hv hw 60 rfl) (hv hw 80 rfl) (by decide) (rmHs l Z a0 hw [] b70 t87 a133 b133 _ _ 16 (([] : List Int32) ++ (i8s cv)) [(32 : Int32), (40 : Int32)] h133 n0 O133 G1 S1 P1 f137 f138 f139 f140 f141 A133 FC133 FV133 V136 ge70 ge87 (Nat.ne_of_lt (Nat.lt_of_lt_of_le A70.lt le87)) (by decide) k1) e133 f137 (W := 0) (g := (mkF m 16 #[vr xd] [(.ref a133), (.ref b70)])) rfl (by rw [hml]; rfl) (argsL := [(.ref a133)]) (rest := []) (lenOf pd_10 rfl) rfl (by exact Nat.le_of_eq rfl) (hb hby p81_2_16) rfl (nb rfl) (nb rfl) (nb rfl) (nb rfl)
 obtain ⟨rfl, Nq142, Kq142, q1_142, q2_142, q3_142, q4_142, q5_142⟩ := hQ142
 have N142 := Fr.app N130 Nq142
 have K142 : Keep h0 T142.heap [] := K133.trans Kq142 (allS (P := fun zz => zz ∈ [] ∨ h0.size ≤ zz) (Or.inr sz70) (allS (P := fun zz => zz ∈ [] ∨ h0.size ≤ zz) (Or.inr sz87) all0))
 have O142 : Old Z n0 T142.heap := O133.keep Kq142 (allS ge70 (allS ge87 all0))
 have sf143 : Safe Z consts_1 T133.vm T142.heap b70 := (Safe.keep Kq142 (sfS sf134 (sfS sf135 sf0)) Cr133.1 sf134)
 have sf144 : Safe Z consts_1 T133.vm T142.heap t87 := (Safe.keep Kq142 (sfS sf134 (sfS sf135 sf0)) Cr133.1 sf135)
 have H142 : CHv Z consts_1 T133.vm T142.heap := Cr133.1.keep Kq142 (sfS sf134 (sfS sf135 sf0))
 have C142 : CHr Z consts_1 s.vm h0 T133.vm T142.heap := C133.trans (CHr.keep Kq142 (sfS sf134 (sfS sf135 sf0)) Cr133.1)
 have hk142 := Nat.le_trans hk133 Kq142.1
 refine Go.tr st142 ?_
 show Go p.tables e below Kx _ (mkF m 19 _ [(.ref b70)])
 refine s_aloadN (pc' := 20) X142.here hx (hb hby p81_2_19) rfl rfl rfl ?_
 have f145 : Fld Z T142.heap xd "com/example/syndica/syndica/Term" "section" "Ljava/lang/String;" (.ref ys) := (((((F2.ext E70).keep Kq87 (ninS (Nat.ne_of_lt (Nat.lt_of_lt_of_le Exd.lt (Nat.le_of_eq g70.symm))) nin0)).keep Kq130 (ninS (Nat.ne_of_lt (Nat.lt_of_lt_of_le Exd.lt (Nat.le_of_eq g70.symm))) (ninS (Nat.ne_of_lt (Nat.lt_of_lt_of_le (Nat.lt_of_lt_of_le Exd.lt E70.1) le87)) nin0))).ext E133).keep Kq142 (ninS (Nat.ne_of_lt (Nat.lt_of_lt_of_le Exd.lt (Nat.le_of_eq g70.symm))) (ninS (Nat.ne_of_lt (Nat.lt_of_lt_of_le (Nat.lt_of_lt_of_le Exd.lt E70.1) le87)) nin0)))
 obtain ⟨T146, X146, e146, st146⟩ := getF X142 hx hZ133 hown133 (host := "") (Or.inl (hv hw 49 rfl)) Via.refl rfl f145 (g := (mkF m 20 #[vr xd] [(.ref xd), (.ref b70)])) rfl rfl (hb hby p81_2_20)
 refine Go.st st146 ?_
 show Go p.tables e below Kx _ (mkF m 23 _ [(.ref ys), (.ref b70)])
 have f147 : Exa Z T142.heap ys "java/lang/String" := (((((sEys.ext E70).keep Kq87).keep Kq130).ext E133).keep Kq142)
 have f148 : Fld Z T142.heap ys "java/lang/String" "coder" "B" (.int 0) := (((((sCys.ext E70).keep Kq87 (ninS (Nat.ne_of_lt (Nat.lt_of_lt_of_le sEys.lt (Nat.le_of_eq g70.symm))) nin0)).keep Kq130 (ninS (Nat.ne_of_lt (Nat.lt_of_lt_of_le sEys.lt (Nat.le_of_eq g70.symm))) (ninS (Nat.ne_of_lt (Nat.lt_of_lt_of_le (Nat.lt_of_lt_of_le sEys.lt E70.1) le87)) nin0))).ext E133).keep Kq142 (ninS (Nat.ne_of_lt (Nat.lt_of_lt_of_le sEys.lt (Nat.le_of_eq g70.symm))) (ninS (Nat.ne_of_lt (Nat.lt_of_lt_of_le (Nat.lt_of_lt_of_le sEys.lt E70.1) le87)) nin0)))
 have f149 : Fld Z T142.heap ys "java/lang/String" "value" "[B" (.ref sbys) := (((((sFys.ext E70).keep Kq87 (ninS (Nat.ne_of_lt (Nat.lt_of_lt_of_le sEys.lt (Nat.le_of_eq g70.symm))) nin0)).keep Kq130 (ninS (Nat.ne_of_lt (Nat.lt_of_lt_of_le sEys.lt (Nat.le_of_eq g70.symm))) (ninS (Nat.ne_of_lt (Nat.lt_of_lt_of_le (Nat.lt_of_lt_of_le sEys.lt E70.1) le87)) nin0))).ext E133).keep Kq142 (ninS (Nat.ne_of_lt (Nat.lt_of_lt_of_le sEys.lt (Nat.le_of_eq g70.symm))) (ninS (Nat.ne_of_lt (Nat.lt_of_lt_of_le (Nat.lt_of_lt_of_le sEys.lt E70.1) le87)) nin0)))
 have f150 : Arv Z T142.heap sbys skys .byte (Int32.ofNat (i8s cs).length) ((i8s cs).map Value.int) (.int 0) := (((((sVys.ext E70).keep Kq87 (ninS (Nat.ne_of_lt (Nat.lt_of_lt_of_le sVys.lt (Nat.le_of_eq g70.symm))) nin0)).keep Kq130 (ninS (Nat.ne_of_lt (Nat.lt_of_lt_of_le sVys.lt (Nat.le_of_eq g70.symm))) (ninS (Nat.ne_of_lt (Nat.lt_of_lt_of_le (Nat.lt_of_lt_of_le sVys.lt E70.1) le87)) nin0))).ext E133).keep Kq142 (ninS (Nat.ne_of_lt (Nat.lt_of_lt_of_le sVys.lt (Nat.le_of_eq g70.symm))) (ninS (Nat.ne_of_lt (Nat.lt_of_lt_of_le (Nat.lt_of_lt_of_le sVys.lt E70.1) le87)) nin0)))
 obtain ⟨_, T151, L151, X151, hQ151, st151⟩ := kV X146 hx hZ133 (y := yN31) hown133 (hv hw 76 rfl) (hv hw 77 rfl) (notFace_of_selects (args := #[]) (mvT hZ133 (hv hw 79 rfl))) (hv hw 79 rfl) (hv hw 78 rfl) (hv hw 60 rfl) (hv hw 80 rfl) (by decide) (rmHs l Z a0 hw [] b70 t87 ys sbys _ _ 16 ((([] : List Int32) ++ (i8s cv)) ++ [(32 : Int32), (40 : Int32)]) (i8s cs) T142.heap n0 O142 G1 S1 P1 q1_142 q2_142 q3_142 q4_142 q5_142 f147 f148 f149 f150 ge70 ge87 (Nat.ne_of_lt (Nat.lt_of_lt_of_le A70.lt le87)) (by decide) k2) e146 q1_142 (W := 0) (g := (mkF m 23 #[vr xd] [(.ref ys), (.ref b70)])) rfl (by rw [hml]; rfl) (argsL := [(.ref ys)]) (rest := []) (lenOf pd_10 rfl) rfl (by exact Nat.le_of_eq rfl) (hb hby p81_2_23) rfl (nb rfl) (nb rfl) (nb rfl) (nb rfl)
 obtain ⟨rfl, Nq151, Kq151, q1_151, q2_151, q3_151, q4_151, q5_151⟩ := hQ151
 have N151 := Fr.app N142 Nq151
 have K151 : Keep h0 T151.heap [] := K142.trans Kq151 (allS (P := fun zz => zz ∈ [] ∨ h0.size ≤ zz) (Or.inr sz70) (allS (P := fun zz => zz ∈ [] ∨ h0.size ≤ zz) (Or.inr sz87) all0))
 have O151 : Old Z n0 T151.heap := O142.keep Kq151 (allS ge70 (allS ge87 all0))
 have sf152 : Safe Z consts_1 T133.vm T151.heap b70 := (Safe.keep Kq151 (sfS sf143 (sfS sf144 sf0)) H142 sf143)
 have sf153 : Safe Z consts_1 T133.vm T151.heap t87 := (Safe.keep Kq151 (sfS sf143 (sfS sf144 sf0)) H142 sf144)
 have H151 : CHv Z consts_1 T133.vm T151.heap := H142.keep Kq151 (sfS sf143 (sfS sf144 sf0))
 have C151 : CHr Z consts_1 s.vm h0 T133.vm T151.heap := C142.trans (CHr.keep Kq151 (sfS sf143 (sfS sf144 sf0)) H142)
 have hk151 := Nat.le_trans hk142 Kq151.1
 refine Go.tr st151 ?_
 show Go p.tables e below Kx _ (mkF m 26 _ [(.ref b70)])
 obtain ⟨a154, T154, h154, k1154, b154, k154, X154, e154, E154, hS154, hk154, hZ154, hown154, A154, FC154, FV154, V154, la154, lb154, Cr154, Lt154, sx154, st154⟩ := ldcCH X151 hx hZ133 hown133 (hv hw 124 rfl) wS rfl hS133 hk151 hEL (List.mem_of_getElem? (i := 1) rfl) H151 (vs := [(.int 44), (.int 32), (.int 108), (.int 105), (.int 110), (.int 101), (.int 32)]) (z := 7) (by decide) (by decide) (by decide) (g := (mkF m 26 #[vr xd] [(.ref b70)])) rfl (hb hby p81_2_26) (n := 28) (by decide) (by decide) (by decide) (by decide)
 have sf155 : Safe Z consts_1 T154.vm h154 b70 := Cr154.safe (Nat.lt_of_lt_of_le A70.lt (Nat.le_trans (Nat.le_trans (Nat.le_trans (Nat.le_trans Kq87.1 Kq130.1) E133.1) Kq142.1) Kq151.1)) sf152
 have sf156 : Safe Z consts_1 T154.vm h154 t87 := Cr154.safe (Nat.lt_of_lt_of_le q5_87.lt (Nat.le_trans (Nat.le_trans (Nat.le_trans Kq130.1 E133.1) Kq142.1) Kq151.1)) sf153
 have C154 := C151.trans Cr154
 have K154 : Keep h0 h154 [] := K151.ext E154
 have O154 : Old Z n0 h154 := O151.ext E154
 refine Go.st st154 ?_
 show Go p.tables e below Kx _ (mkF m 28 _ [(.ref a154), (.ref b70)])
 have V157 : Arv Z h154 b154 k154 .byte (Int32.ofNat [(44 : Int32), (32 : Int32), (108 : Int32), (105 : Int32), (110 : Int32), (101 : Int32), (32 : Int32)].length) ([(44 : Int32), (32 : Int32), (108 : Int32), (105 : Int32), (110 : Int32), (101 : Int32), (32 : Int32)].map Value.int) (.int 0) := V154
 have f158 : Exa Z h154 b70 "java/lang/StringBuilder" := (q1_151.ext E154)
 have f159 : Fld Z h154 b70 "java/lang/AbstractStringBuilder" "value" "[B" (.ref t87) := (q2_151.ext E154)
 have f160 : Fld Z h154 b70 "java/lang/AbstractStringBuilder" "coder" "B" (.int 0) := (q3_151.ext E154)
 have f161 : Fld Z h154 b70 "java/lang/AbstractStringBuilder" "count" "I" (.int (Int32.ofNat (((([] : List Int32) ++ (i8s cv)) ++ [(32 : Int32), (40 : Int32)]) ++ (i8s cs)).length)) := (q4_151.ext E154)
 have f162 : Arv Z h154 t87 kt87 .byte (Int32.ofNat 16) (pad 16 (((([] : List Int32) ++ (i8s cv)) ++ [(32 : Int32), (40 : Int32)]) ++ (i8s cs))) (.int 0) := (q5_151.ext E154)
 obtain ⟨_, T163, L163, X163, hQ163, st163⟩ := kV X154 hx hZ154 (y := yN31) hown154 (hv hw 76 rfl) (hv hw 77 rfl) (notFace_of_selects (args := #[]) (mvT hZ154 (hv hw 79 rfl))) (hv hw 79 rfl) (hv hw 78 rfl) (hv hw 60 rfl) (hv hw 80 rfl) (by decide) (rmHs l Z a0 hw [] b70 t87 a154 b154 _ _ 16 (((([] : List Int32) ++ (i8s cv)) ++ [(32 : Int32), (40 : Int32)]) ++ (i8s cs)) [(44 : Int32), (32 : Int32), (108 : Int32), (105 : Int32), (110 : Int32), (101 : Int32), (32 : Int32)] h154 n0 O154 G1 S1 P1 f158 f159 f160 f161 f162 A154 FC154 FV154 V157 ge70 ge87 (Nat.ne_of_lt (Nat.lt_of_lt_of_le A70.lt le87)) (by decide) k3) e154 f158 (W := 0) (g := (mkF m 28 #[vr xd] [(.ref a154), (.ref b70)])) rfl (by rw [hml]; rfl) (argsL := [(.ref a154)]) (rest := []) (lenOf pd_10 rfl) rfl (by exact Nat.le_of_eq rfl) (hb hby p81_2_28) rfl (nb rfl) (nb rfl) (nb rfl) (nb rfl)
 obtain ⟨rfl, Nq163, Kq163, q1_163, q2_163, q3_163, q4_163, q5_163⟩ := hQ163
 have N163 := Fr.app N151 Nq163
 have K163 : Keep h0 T163.heap [] := K154.trans Kq163 (allS (P := fun zz => zz ∈ [] ∨ h0.size ≤ zz) (Or.inr sz70) (allS (P := fun zz => zz ∈ [] ∨ h0.size ≤ zz) (Or.inr sz87) all0))
 have O163 : Old Z n0 T163.heap := O154.keep Kq163 (allS ge70 (allS ge87 all0))
 have sf164 : Safe Z consts_1 T154.vm T163.heap b70 := (Safe.keep Kq163 (sfS sf155 (sfS sf156 sf0)) Cr154.1 sf155)
 have sf165 : Safe Z consts_1 T154.vm T163.heap t87 := (Safe.keep Kq163 (sfS sf155 (sfS sf156 sf0)) Cr154.1 sf156)
 have H163 : CHv Z consts_1 T154.vm T163.heap := Cr154.1.keep Kq163 (sfS sf155 (sfS sf156 sf0))
 have C163 : CHr Z consts_1 s.vm h0 T154.vm T163.heap := C154.trans (CHr.keep Kq163 (sfS sf155 (sfS sf156 sf0)) Cr154.1)
 have hk163 := Nat.le_trans hk154 Kq163.1
 refine Go.tr st163 ?_
 show Go p.tables e below Kx _ (mkF m 31 _ [(.ref b70)])
 refine s_aloadN (pc' := 32) X163.here hx (hb hby p81_2_31) rfl rfl rfl ?_
 have f166 : Fld Z T163.heap xd "com/example/syndica/syndica/Term" "line" "I" (.int xl) := ((((((((F3.ext E70).keep Kq87 (ninS (Nat.ne_of_lt (Nat.lt_of_lt_of_le Exd.lt (Nat.le_of_eq g70.symm))) nin0)).keep Kq130 (ninS (Nat.ne_of_lt (Nat.lt_of_lt_of_le Exd.lt (Nat.le_of_eq g70.symm))) (ninS (Nat.ne_of_lt (Nat.lt_of_lt_of_le (Nat.lt_of_lt_of_le Exd.lt E70.1) le87)) nin0))).ext E133).keep Kq142 (ninS (Nat.ne_of_lt (Nat.lt_of_lt_of_le Exd.lt (Nat.le_of_eq g70.symm))) (ninS (Nat.ne_of_lt (Nat.lt_of_lt_of_le (Nat.lt_of_lt_of_le Exd.lt E70.1) le87)) nin0))).keep Kq151 (ninS (Nat.ne_of_lt (Nat.lt_of_lt_of_le Exd.lt (Nat.le_of_eq g70.symm))) (ninS (Nat.ne_of_lt (Nat.lt_of_lt_of_le (Nat.lt_of_lt_of_le Exd.lt E70.1) le87)) nin0))).ext E154).keep Kq163 (ninS (Nat.ne_of_lt (Nat.lt_of_lt_of_le Exd.lt (Nat.le_of_eq g70.symm))) (ninS (Nat.ne_of_lt (Nat.lt_of_lt_of_le (Nat.lt_of_lt_of_le Exd.lt E70.1) le87)) nin0)))
 obtain ⟨T167, X167, e167, st167⟩ := getF X163 hx hZ154 hown154 (host := "") (Or.inl (hv hw 51 rfl)) Via.refl rfl f166 (g := (mkF m 32 #[vr xd] [(.ref xd), (.ref b70)])) rfl rfl (hb hby p81_2_32)
 refine Go.st st167 ?_
 show Go p.tables e below Kx _ (mkF m 35 _ [(.int xl), (.ref b70)])
 obtain ⟨_, T286, L286, X286, hQ286, st286⟩ := kV X167 hx hZ154 (y := yN30) hown154 (hv hw 125 rfl) (hv hw 126 rfl) (notFace_of_selects (args := #[]) (mvT hZ154 (hv hw 128 rfl))) (hv hw 128 rfl) (hv hw 127 rfl) (hv hw 60 rfl) (hv hw 129 rfl) (by decide) (rmHi1 l Z a0 hw [] b70 t87 _ ((((([] : List Int32) ++ (i8s cv)) ++ [(32 : Int32), (40 : Int32)]) ++ (i8s cs)) ++ [(44 : Int32), (32 : Int32), (108 : Int32), (105 : Int32), (110 : Int32), (101 : Int32), (32 : Int32)]) xl T163.heap n0 O163 G1 S1 P1 xo xq ko kq SO SQ AO AQ q1_163 q2_163 q3_163 q4_163 q5_163 ge70 ge87 (Nat.ne_of_lt (Nat.lt_of_lt_of_le A70.lt le87)) kx kg) e167 q1_163 (W := 0) (g := (mkF m 35 #[vr xd] [(.int xl), (.ref b70)])) rfl (by rw [hml]; rfl) (argsL := [(.int xl)]) (rest := []) (lenOf pd_18 rfl) rfl (by exact Nat.le_of_eq rfl) (hb hby p81_2_35) rfl (nb rfl) (nb rfl) (nb rfl) (nb rfl)
 obtain ⟨rfl, Nq286, Kq286, q1_286, q3_286, q4_286, t286, kt286, q2_286, hor286⟩ := hQ286
 rcases hor286 with ⟨et286, q5_286, hle286⟩ | ⟨le286, q0_286, q5_286⟩
 ·
  rw [et286] at q2_286 q5_286
  have N286 := Fr.app N163 Nq286
  have K286 : Keep h0 T286.heap [] := K163.trans Kq286 (allS (P := fun zz => zz ∈ [] ∨ h0.size ≤ zz) (Or.inr sz70) (allS (P := fun zz => zz ∈ [] ∨ h0.size ≤ zz) (Or.inr sz87) all0))
  have O286 : Old Z n0 T286.heap := O163.keep Kq286 (allS ge70 (allS ge87 all0))
  have sf287 : Safe Z consts_1 T154.vm T286.heap b70 := (Safe.keep Kq286 (sfS sf164 (sfS sf165 sf0)) H163 sf164)
  have sf288 : Safe Z consts_1 T154.vm T286.heap t87 := (Safe.keep Kq286 (sfS sf164 (sfS sf165 sf0)) H163 sf165)
  have H286 : CHv Z consts_1 T154.vm T286.heap := H163.keep Kq286 (sfS sf164 (sfS sf165 sf0))
  have C286 : CHr Z consts_1 s.vm h0 T154.vm T286.heap := C163.trans (CHr.keep Kq286 (sfS sf164 (sfS sf165 sf0)) H163)
  have hk286 := Nat.le_trans hk163 Kq286.1
  refine Go.tr st286 ?_
  show Go p.tables e below Kx _ (mkF m 38 _ [(.ref b70)])
  obtain ⟨a289, T289, h289, k1289, b289, k289, X289, e289, E289, hS289, hk289, hZ289, hown289, A289, FC289, FV289, V289, la289, lb289, Cr289, Lt289, sx289, st289⟩ := ldcCH X286 hx hZ154 hown154 (hv hw 147 rfl) wS rfl hS154 hk286 hEL (List.mem_of_getElem? (i := 2) rfl) H286 (vs := [(.int 41)]) (z := 1) (by decide) (by decide) (by decide) (g := (mkF m 38 #[vr xd] [(.ref b70)])) rfl (hb hby p81_2_38) (n := 4) (by decide) (by decide) (by decide) (by decide)
  have sf290 : Safe Z consts_1 T289.vm h289 b70 := Cr289.safe (Nat.lt_of_lt_of_le A70.lt (Nat.le_trans (Nat.le_trans (Nat.le_trans (Nat.le_trans (Nat.le_trans (Nat.le_trans (Nat.le_trans Kq87.1 Kq130.1) E133.1) Kq142.1) Kq151.1) E154.1) Kq163.1) Kq286.1)) sf287
  have sf291 : Safe Z consts_1 T289.vm h289 t87 := Cr289.safe (Nat.lt_of_lt_of_le q5_87.lt (Nat.le_trans (Nat.le_trans (Nat.le_trans (Nat.le_trans (Nat.le_trans (Nat.le_trans Kq130.1 E133.1) Kq142.1) Kq151.1) E154.1) Kq163.1) Kq286.1)) sf288
  have C289 := C286.trans Cr289
  have K289 : Keep h0 h289 [] := K286.ext E289
  have O289 : Old Z n0 h289 := O286.ext E289
  refine Go.st st289 ?_
  show Go p.tables e below Kx _ (mkF m 40 _ [(.ref a289), (.ref b70)])
  have V292 : Arv Z h289 b289 k289 .byte (Int32.ofNat [(41 : Int32)].length) ([(41 : Int32)].map Value.int) (.int 0) := V289
  by_cases hB : (((((([] : List Int32) ++ (i8s cv)) ++ [(32 : Int32), (40 : Int32)]) ++ (i8s cs)) ++ [(44 : Int32), (32 : Int32), (108 : Int32), (105 : Int32), (110 : Int32), (101 : Int32), (32 : Int32)]) ++ (dec xl)).length + [(41 : Int32)].length ≤ 16
  ·
   have f293 : Exa Z h289 b70 "java/lang/StringBuilder" := (q1_286.ext E289)
   have f294 : Fld Z h289 b70 "java/lang/AbstractStringBuilder" "value" "[B" (.ref t87) := (q2_286.ext E289)
   have f295 : Fld Z h289 b70 "java/lang/AbstractStringBuilder" "coder" "B" (.int 0) := (q3_286.ext E289)
   have f296 : Fld Z h289 b70 "java/lang/AbstractStringBuilder" "count" "I" (.int (Int32.ofNat (((((([] : List Int32) ++ (i8s cv)) ++ [(32 : Int32), (40 : Int32)]) ++ (i8s cs)) ++ [(44 : Int32), (32 : Int32), (108 : Int32), (105 : Int32), (110 : Int32), (101 : Int32), (32 : Int32)]) ++ (dec xl)).length)) := (q4_286.ext E289)
   have f297 : Arv Z h289 t87 kt286 .byte (Int32.ofNat 16) (pad 16 (((((([] : List Int32) ++ (i8s cv)) ++ [(32 : Int32), (40 : Int32)]) ++ (i8s cs)) ++ [(44 : Int32), (32 : Int32), (108 : Int32), (105 : Int32), (110 : Int32), (101 : Int32), (32 : Int32)]) ++ (dec xl))) (.int 0) := (q5_286.ext E289)
   obtain ⟨_, T298, L298, X298, hQ298, st298⟩ := kV X289 hx hZ289 (y := yN31) hown289 (hv hw 76 rfl) (hv hw 77 rfl) (notFace_of_selects (args := #[]) (mvT hZ289 (hv hw 79 rfl))) (hv hw 79 rfl) (hv hw 78 rfl) (hv hw 60 rfl) (hv hw 80 rfl) (by decide) (rmHs l Z a0 hw [] b70 t87 a289 b289 _ _ 16 (((((([] : List Int32) ++ (i8s cv)) ++ [(32 : Int32), (40 : Int32)]) ++ (i8s cs)) ++ [(44 : Int32), (32 : Int32), (108 : Int32), (105 : Int32), (110 : Int32), (101 : Int32), (32 : Int32)]) ++ (dec xl)) [(41 : Int32)] h289 n0 O289 G1 S1 P1 f293 f294 f295 f296 f297 A289 FC289 FV289 V292 ge70 ge87 (Nat.ne_of_lt (Nat.lt_of_lt_of_le A70.lt le87)) (by decide) hB) e289 f293 (W := 0) (g := (mkF m 40 #[vr xd] [(.ref a289), (.ref b70)])) rfl (by rw [hml]; rfl) (argsL := [(.ref a289)]) (rest := []) (lenOf pd_10 rfl) rfl (by exact Nat.le_of_eq rfl) (hb hby p81_2_40) rfl (nb rfl) (nb rfl) (nb rfl) (nb rfl)
   obtain ⟨rfl, Nq298, Kq298, q1_298, q2_298, q3_298, q4_298, q5_298⟩ := hQ298
   have N298 := Fr.app N286 Nq298
   have K298 : Keep h0 T298.heap [] := K289.trans Kq298 (allS (P := fun zz => zz ∈ [] ∨ h0.size ≤ zz) (Or.inr sz70) (allS (P := fun zz => zz ∈ [] ∨ h0.size ≤ zz) (Or.inr sz87) all0))
   have O298 : Old Z n0 T298.heap := O289.keep Kq298 (allS ge70 (allS ge87 all0))
   have sf299 : Safe Z consts_1 T289.vm T298.heap b70 := (Safe.keep Kq298 (sfS sf290 (sfS sf291 sf0)) Cr289.1 sf290)
   have sf300 : Safe Z consts_1 T289.vm T298.heap t87 := (Safe.keep Kq298 (sfS sf290 (sfS sf291 sf0)) Cr289.1 sf291)
   have H298 : CHv Z consts_1 T289.vm T298.heap := Cr289.1.keep Kq298 (sfS sf290 (sfS sf291 sf0))
   have C298 : CHr Z consts_1 s.vm h0 T289.vm T298.heap := C289.trans (CHr.keep Kq298 (sfS sf290 (sfS sf291 sf0)) Cr289.1)
   have hk298 := Nat.le_trans hk289 Kq298.1
   refine Go.tr st298 ?_
   show Go p.tables e below Kx _ (mkF m 43 _ [(.ref b70)])
   have f341 : Exa Z T298.heap t87 "[B" := (((((((((q0_87.keep Kq130).ext E133).keep Kq142).keep Kq151).ext E154).keep Kq163).keep Kq286).ext E289).keep Kq298)
   obtain ⟨_, T342, L342, X342, hQ342, st342⟩ := kV X298 hx hZ289 (y := yN33) hown289 (hv hw 148 rfl) (hv hw 149 rfl) (notFace_of_selects (args := #[]) (mvT hZ289 (hv hw 151 rfl))) (hv hw 151 rfl) (hv hw 150 rfl) (hv hw 60 rfl) (hv hw 152 rfl) (by decide) (rmHts l Z a0 hw [] b70 t87 _ 16 ((((((([] : List Int32) ++ (i8s cv)) ++ [(32 : Int32), (40 : Int32)]) ++ (i8s cs)) ++ [(44 : Int32), (32 : Int32), (108 : Int32), (105 : Int32), (110 : Int32), (101 : Int32), (32 : Int32)]) ++ (dec xl)) ++ [(41 : Int32)]) T298.heap n0 O298 G1 S1 P1 f341 q1_298 q2_298 q3_298 q4_298 q5_298 (by decide) (Nat.le_trans (Nat.le_of_eq kf) hB)) rfl q1_298 (W := 0) (g := (mkF m 43 #[vr xd] [(.ref b70)])) rfl (by rw [hml]; rfl) (argsL := []) (rest := []) (lenOf pd_24 rfl) rfl (by exact Nat.le_of_eq rfl) (hb hby p81_2_43) rfl (nb rfl) (nb rfl) (nb rfl) (nb rfl)
   obtain ⟨y342, t342, kt342, rfl, Nq342, Kq342, ly342, le342, q0_342, q1_342, q2_342, q3_342, q4_342⟩ := hQ342
   have sz342 : h0.size ≤ t342 := Nat.le_trans K298.1 le342
   have ge342 : n0 ≤ t342 := Nat.le_trans (O298.1 ▸ O298.2.1) le342
   have sn342 : Safe Z consts_1 T289.vm T298.heap t342 := Safe.new le342
   have sz342y : h0.size ≤ y342 := Nat.le_trans K298.1 ly342
   have ge342y : n0 ≤ y342 := Nat.le_trans (O298.1 ▸ O298.2.1) ly342
   have sn342y : Safe Z consts_1 T289.vm T298.heap y342 := Safe.new ly342
   have N342 := Fr.app N298 Nq342
   have K342 : Keep h0 T342.heap [] := K298.trans Kq342 all0
   have O342 : Old Z n0 T342.heap := O298.keep Kq342 all0
   have sf343 : Safe Z consts_1 T289.vm T342.heap b70 := (Safe.keep Kq342 sf0 H298 sf299)
   have sf344 : Safe Z consts_1 T289.vm T342.heap t87 := (Safe.keep Kq342 sf0 H298 sf300)
   have sf345 : Safe Z consts_1 T289.vm T342.heap t342 := (Safe.keep Kq342 sf0 H298 sn342)
   have sf346 : Safe Z consts_1 T289.vm T342.heap y342 := (Safe.keep Kq342 sf0 H298 sn342y)
   have H342 : CHv Z consts_1 T289.vm T342.heap := H298.keep Kq342 sf0
   have C342 : CHr Z consts_1 s.vm h0 T289.vm T342.heap := C298.trans (CHr.keep Kq342 sf0 H298)
   have hk342 := Nat.le_trans hk298 Kq342.1
   refine Go.tr st342 ?_
   show Go p.tables e below Kx _ (mkF m 46 _ [(.ref y342)])
   obtain ⟨fs, hr, hrun, hended, hRW⟩ := X342.leaveW hS289 hk342 (v := (some (.ref y342))) (fun h => by rw [Bd.returns] at h; cases h)
   have hCx := C342.trans (CHv.at X342 hZ289 hEL H342)
   refine Go.fin (retOut X342 hx Bd.returns rfl (Or.inr (Or.inr (Or.inr (Or.inr ⟨rfl, rfl, rfl⟩)))) (hb hby p81_2_46) hr) (hF _ _ hrun hended ⟨_, _, rfl, ?_, ?_, hRW.1, hRW.2.1, hRW.2.2.1, hRW.2.2.2.mono (by decide) (by decide)⟩)
   ·
    show QHci Z xd yv ys bv bs cv cs xl h0 n0 ((some (.ref y342)) : Option Value) T342.heap _
    skip
    exact ⟨_, _, _, rfl, N342, K342, q1_342, q2_342, q3_342, q4_342⟩
   ·
    show CHr Z consts_1 s.vm s.heap T342.vm T342.heap
    rw [hh]; exact hCx
  ·
   have f347 : Exa Z h289 b70 "java/lang/StringBuilder" := (q1_286.ext E289)
   have f348 : Fld Z h289 b70 "java/lang/AbstractStringBuilder" "value" "[B" (.ref t87) := (q2_286.ext E289)
   have f349 : Fld Z h289 b70 "java/lang/AbstractStringBuilder" "coder" "B" (.int 0) := (q3_286.ext E289)
   have f350 : Fld Z h289 b70 "java/lang/AbstractStringBuilder" "count" "I" (.int (Int32.ofNat (((((([] : List Int32) ++ (i8s cv)) ++ [(32 : Int32), (40 : Int32)]) ++ (i8s cs)) ++ [(44 : Int32), (32 : Int32), (108 : Int32), (105 : Int32), (110 : Int32), (101 : Int32), (32 : Int32)]) ++ (dec xl)).length)) := (q4_286.ext E289)
   have f351 : Arv Z h289 t87 kt286 .byte (Int32.ofNat 16) (pad 16 (((((([] : List Int32) ++ (i8s cv)) ++ [(32 : Int32), (40 : Int32)]) ++ (i8s cs)) ++ [(44 : Int32), (32 : Int32), (108 : Int32), (105 : Int32), (110 : Int32), (101 : Int32), (32 : Int32)]) ++ (dec xl))) (.int 0) := (q5_286.ext E289)
   obtain ⟨_, T371, L371, X371, hQ371, st371⟩ := kV X289 hx hZ289 (y := yN31) hown289 (hv hw 76 rfl) (hv hw 77 rfl) (notFace_of_selects (args := #[]) (mvT hZ289 (hv hw 79 rfl))) (hv hw 79 rfl) (hv hw 78 rfl) (hv hw 60 rfl) (hv hw 80 rfl) (by decide) (rmHsg l Z a0 hw [] b70 t87 a289 b289 _ _ (((((([] : List Int32) ++ (i8s cv)) ++ [(32 : Int32), (40 : Int32)]) ++ (i8s cs)) ++ [(44 : Int32), (32 : Int32), (108 : Int32), (105 : Int32), (110 : Int32), (101 : Int32), (32 : Int32)]) ++ (dec xl)) [(41 : Int32)] h289 n0 O289 G1 S1 P1 f347 f348 f349 f350 f351 A289 FC289 FV289 V292 ge70 ge87 (Nat.ne_of_lt (Nat.lt_of_lt_of_le A70.lt le87)) (Nat.le_trans (Nat.le_of_eq ke) hle286) hB kh (Ne.symm (sx289 _ sf290).1) (Ne.symm (sx289 _ sf290).2)) e289 f347 (W := 0) (g := (mkF m 40 #[vr xd] [(.ref a289), (.ref b70)])) rfl (by rw [hml]; rfl) (argsL := [(.ref a289)]) (rest := []) (lenOf pd_10 rfl) rfl (by exact Nat.le_of_eq rfl) (hb hby p81_2_40) rfl (nb rfl) (nb rfl) (nb rfl) (nb rfl)
   obtain ⟨rfl, Nq371, Kq371, q1_371, q3_371, q4_371, t371, kt371, le371, q0_371, q2_371, q5_371⟩ := hQ371
   have sz371 : h0.size ≤ t371 := Nat.le_trans K289.1 le371
   have ge371 : n0 ≤ t371 := Nat.le_trans (O289.1 ▸ O289.2.1) le371
   have sn371 : Safe Z consts_1 T289.vm h289 t371 := Safe.new le371
   have N371 := Fr.app N286 Nq371
   have K371 : Keep h0 T371.heap [] := K289.trans Kq371 (allS (P := fun zz => zz ∈ [] ∨ h0.size ≤ zz) (Or.inr sz70) (allS (P := fun zz => zz ∈ [] ∨ h0.size ≤ zz) (Or.inr sz87) all0))
   have O371 : Old Z n0 T371.heap := O289.keep Kq371 (allS ge70 (allS ge87 all0))
   have sf372 : Safe Z consts_1 T289.vm T371.heap b70 := (Safe.keep Kq371 (sfS sf290 (sfS sf291 sf0)) Cr289.1 sf290)
   have sf373 : Safe Z consts_1 T289.vm T371.heap t87 := (Safe.keep Kq371 (sfS sf290 (sfS sf291 sf0)) Cr289.1 sf291)
   have sf374 : Safe Z consts_1 T289.vm T371.heap t371 := (Safe.keep Kq371 (sfS sf290 (sfS sf291 sf0)) Cr289.1 sn371)
   have H371 : CHv Z consts_1 T289.vm T371.heap := Cr289.1.keep Kq371 (sfS sf290 (sfS sf291 sf0))
   have C371 : CHr Z consts_1 s.vm h0 T289.vm T371.heap := C289.trans (CHr.keep Kq371 (sfS sf290 (sfS sf291 sf0)) Cr289.1)
   have hk371 := Nat.le_trans hk289 Kq371.1
   refine Go.tr st371 ?_
   show Go p.tables e below Kx _ (mkF m 43 _ [(.ref b70)])
   obtain ⟨_, T375, L375, X375, hQ375, st375⟩ := kV X371 hx hZ289 (y := yN33) hown289 (hv hw 148 rfl) (hv hw 149 rfl) (notFace_of_selects (args := #[]) (mvT hZ289 (hv hw 151 rfl))) (hv hw 151 rfl) (hv hw 150 rfl) (hv hw 60 rfl) (hv hw 152 rfl) (by decide) (rmHts l Z a0 hw [] b70 t371 _ 34 ((((((([] : List Int32) ++ (i8s cv)) ++ [(32 : Int32), (40 : Int32)]) ++ (i8s cs)) ++ [(44 : Int32), (32 : Int32), (108 : Int32), (105 : Int32), (110 : Int32), (101 : Int32), (32 : Int32)]) ++ (dec xl)) ++ [(41 : Int32)]) T371.heap n0 O371 G1 S1 P1 q0_371 q1_371 q2_371 q3_371 q4_371 q5_371 (by decide) ky) rfl q1_371 (W := 0) (g := (mkF m 43 #[vr xd] [(.ref b70)])) rfl (by rw [hml]; rfl) (argsL := []) (rest := []) (lenOf pd_24 rfl) rfl (by exact Nat.le_of_eq rfl) (hb hby p81_2_43) rfl (nb rfl) (nb rfl) (nb rfl) (nb rfl)
   obtain ⟨y375, t375, kt375, rfl, Nq375, Kq375, ly375, le375, q0_375, q1_375, q2_375, q3_375, q4_375⟩ := hQ375
   have sz375 : h0.size ≤ t375 := Nat.le_trans K371.1 le375
   have ge375 : n0 ≤ t375 := Nat.le_trans (O371.1 ▸ O371.2.1) le375
   have sn375 : Safe Z consts_1 T289.vm T371.heap t375 := Safe.new le375
   have sz375y : h0.size ≤ y375 := Nat.le_trans K371.1 ly375
   have ge375y : n0 ≤ y375 := Nat.le_trans (O371.1 ▸ O371.2.1) ly375
   have sn375y : Safe Z consts_1 T289.vm T371.heap y375 := Safe.new ly375
   have N375 := Fr.app N371 Nq375
   have K375 : Keep h0 T375.heap [] := K371.trans Kq375 all0
   have O375 : Old Z n0 T375.heap := O371.keep Kq375 all0
   have sf376 : Safe Z consts_1 T289.vm T375.heap b70 := (Safe.keep Kq375 sf0 H371 sf372)
   have sf377 : Safe Z consts_1 T289.vm T375.heap t87 := (Safe.keep Kq375 sf0 H371 sf373)
   have sf378 : Safe Z consts_1 T289.vm T375.heap t371 := (Safe.keep Kq375 sf0 H371 sf374)
   have sf379 : Safe Z consts_1 T289.vm T375.heap t375 := (Safe.keep Kq375 sf0 H371 sn375)
   have sf380 : Safe Z consts_1 T289.vm T375.heap y375 := (Safe.keep Kq375 sf0 H371 sn375y)
   have H375 : CHv Z consts_1 T289.vm T375.heap := H371.keep Kq375 sf0
   have C375 : CHr Z consts_1 s.vm h0 T289.vm T375.heap := C371.trans (CHr.keep Kq375 sf0 H371)
   have hk375 := Nat.le_trans hk371 Kq375.1
   refine Go.tr st375 ?_
   show Go p.tables e below Kx _ (mkF m 46 _ [(.ref y375)])
   obtain ⟨fs, hr, hrun, hended, hRW⟩ := X375.leaveW hS289 hk375 (v := (some (.ref y375))) (fun h => by rw [Bd.returns] at h; cases h)
   have hCx := C375.trans (CHv.at X375 hZ289 hEL H375)
   refine Go.fin (retOut X375 hx Bd.returns rfl (Or.inr (Or.inr (Or.inr (Or.inr ⟨rfl, rfl, rfl⟩)))) (hb hby p81_2_46) hr) (hF _ _ hrun hended ⟨_, _, rfl, ?_, ?_, hRW.1, hRW.2.1, hRW.2.2.1, hRW.2.2.2.mono (by decide) (by decide)⟩)
   ·
    show QHci Z xd yv ys bv bs cv cs xl h0 n0 ((some (.ref y375)) : Option Value) T375.heap _
    skip
    exact ⟨_, _, _, rfl, N375, K375, q1_375, q2_375, q3_375, q4_375⟩
   ·
    show CHr Z consts_1 s.vm s.heap T375.vm T375.heap
    rw [hh]; exact hCx
 ·
  have sz286 : h0.size ≤ t286 := Nat.le_trans K163.1 le286
  have ge286 : n0 ≤ t286 := Nat.le_trans (O163.1 ▸ O163.2.1) le286
  have sn286 : Safe Z consts_1 T154.vm T163.heap t286 := Safe.new le286
  have N286 := Fr.app N163 Nq286
  have K286 : Keep h0 T286.heap [] := K163.trans Kq286 (allS (P := fun zz => zz ∈ [] ∨ h0.size ≤ zz) (Or.inr sz70) (allS (P := fun zz => zz ∈ [] ∨ h0.size ≤ zz) (Or.inr sz87) all0))
  have O286 : Old Z n0 T286.heap := O163.keep Kq286 (allS ge70 (allS ge87 all0))
  have sf381 : Safe Z consts_1 T154.vm T286.heap b70 := (Safe.keep Kq286 (sfS sf164 (sfS sf165 sf0)) H163 sf164)
  have sf382 : Safe Z consts_1 T154.vm T286.heap t87 := (Safe.keep Kq286 (sfS sf164 (sfS sf165 sf0)) H163 sf165)
  have sf383 : Safe Z consts_1 T154.vm T286.heap t286 := (Safe.keep Kq286 (sfS sf164 (sfS sf165 sf0)) H163 sn286)
  have H286 : CHv Z consts_1 T154.vm T286.heap := H163.keep Kq286 (sfS sf164 (sfS sf165 sf0))
  have C286 : CHr Z consts_1 s.vm h0 T154.vm T286.heap := C163.trans (CHr.keep Kq286 (sfS sf164 (sfS sf165 sf0)) H163)
  have hk286 := Nat.le_trans hk163 Kq286.1
  refine Go.tr st286 ?_
  show Go p.tables e below Kx _ (mkF m 38 _ [(.ref b70)])
  obtain ⟨a384, T384, h384, k1384, b384, k384, X384, e384, E384, hS384, hk384, hZ384, hown384, A384, FC384, FV384, V384, la384, lb384, Cr384, Lt384, sx384, st384⟩ := ldcCH X286 hx hZ154 hown154 (hv hw 147 rfl) wS rfl hS154 hk286 hEL (List.mem_of_getElem? (i := 2) rfl) H286 (vs := [(.int 41)]) (z := 1) (by decide) (by decide) (by decide) (g := (mkF m 38 #[vr xd] [(.ref b70)])) rfl (hb hby p81_2_38) (n := 4) (by decide) (by decide) (by decide) (by decide)
  have sf385 : Safe Z consts_1 T384.vm h384 b70 := Cr384.safe (Nat.lt_of_lt_of_le A70.lt (Nat.le_trans (Nat.le_trans (Nat.le_trans (Nat.le_trans (Nat.le_trans (Nat.le_trans (Nat.le_trans Kq87.1 Kq130.1) E133.1) Kq142.1) Kq151.1) E154.1) Kq163.1) Kq286.1)) sf381
  have sf386 : Safe Z consts_1 T384.vm h384 t87 := Cr384.safe (Nat.lt_of_lt_of_le q5_87.lt (Nat.le_trans (Nat.le_trans (Nat.le_trans (Nat.le_trans (Nat.le_trans (Nat.le_trans Kq130.1 E133.1) Kq142.1) Kq151.1) E154.1) Kq163.1) Kq286.1)) sf382
  have sf387 : Safe Z consts_1 T384.vm h384 t286 := Cr384.safe q5_286.lt sf383
  have C384 := C286.trans Cr384
  have K384 : Keep h0 h384 [] := K286.ext E384
  have O384 : Old Z n0 h384 := O286.ext E384
  refine Go.st st384 ?_
  show Go p.tables e below Kx _ (mkF m 40 _ [(.ref a384), (.ref b70)])
  have V388 : Arv Z h384 b384 k384 .byte (Int32.ofNat [(41 : Int32)].length) ([(41 : Int32)].map Value.int) (.int 0) := V384
  have f389 : Exa Z h384 b70 "java/lang/StringBuilder" := (q1_286.ext E384)
  have f390 : Fld Z h384 b70 "java/lang/AbstractStringBuilder" "value" "[B" (.ref t286) := (q2_286.ext E384)
  have f391 : Fld Z h384 b70 "java/lang/AbstractStringBuilder" "coder" "B" (.int 0) := (q3_286.ext E384)
  have f392 : Fld Z h384 b70 "java/lang/AbstractStringBuilder" "count" "I" (.int (Int32.ofNat (((((([] : List Int32) ++ (i8s cv)) ++ [(32 : Int32), (40 : Int32)]) ++ (i8s cs)) ++ [(44 : Int32), (32 : Int32), (108 : Int32), (105 : Int32), (110 : Int32), (101 : Int32), (32 : Int32)]) ++ (dec xl)).length)) := (q4_286.ext E384)
  have f393 : Arv Z h384 t286 kt286 .byte (Int32.ofNat 34) (pad 34 (((((([] : List Int32) ++ (i8s cv)) ++ [(32 : Int32), (40 : Int32)]) ++ (i8s cs)) ++ [(44 : Int32), (32 : Int32), (108 : Int32), (105 : Int32), (110 : Int32), (101 : Int32), (32 : Int32)]) ++ (dec xl))) (.int 0) := (q5_286.ext E384)
  obtain ⟨_, T394, L394, X394, hQ394, st394⟩ := kV X384 hx hZ384 (y := yN31) hown384 (hv hw 76 rfl) (hv hw 77 rfl) (notFace_of_selects (args := #[]) (mvT hZ384 (hv hw 79 rfl))) (hv hw 79 rfl) (hv hw 78 rfl) (hv hw 60 rfl) (hv hw 80 rfl) (by decide) (rmHs l Z a0 hw [] b70 t286 a384 b384 _ _ 34 (((((([] : List Int32) ++ (i8s cv)) ++ [(32 : Int32), (40 : Int32)]) ++ (i8s cs)) ++ [(44 : Int32), (32 : Int32), (108 : Int32), (105 : Int32), (110 : Int32), (101 : Int32), (32 : Int32)]) ++ (dec xl)) [(41 : Int32)] h384 n0 O384 G1 S1 P1 f389 f390 f391 f392 f393 A384 FC384 FV384 V388 ge70 ge286 (Nat.ne_of_lt (Nat.lt_of_lt_of_le (Nat.lt_of_lt_of_le A70.lt (Nat.le_trans (Nat.le_trans (Nat.le_trans (Nat.le_trans (Nat.le_trans (Nat.le_trans Kq87.1 Kq130.1) E133.1) Kq142.1) Kq151.1) E154.1) Kq163.1)) le286)) (by decide) (Nat.le_trans kh (by decide))) e384 f389 (W := 0) (g := (mkF m 40 #[vr xd] [(.ref a384), (.ref b70)])) rfl (by rw [hml]; rfl) (argsL := [(.ref a384)]) (rest := []) (lenOf pd_10 rfl) rfl (by exact Nat.le_of_eq rfl) (hb hby p81_2_40) rfl (nb rfl) (nb rfl) (nb rfl) (nb rfl)
  obtain ⟨rfl, Nq394, Kq394, q1_394, q2_394, q3_394, q4_394, q5_394⟩ := hQ394
  have N394 := Fr.app N286 Nq394
  have K394 : Keep h0 T394.heap [] := K384.trans Kq394 (allS (P := fun zz => zz ∈ [] ∨ h0.size ≤ zz) (Or.inr sz70) (allS (P := fun zz => zz ∈ [] ∨ h0.size ≤ zz) (Or.inr sz286) all0))
  have O394 : Old Z n0 T394.heap := O384.keep Kq394 (allS ge70 (allS ge286 all0))
  have sf395 : Safe Z consts_1 T384.vm T394.heap b70 := (Safe.keep Kq394 (sfS sf385 (sfS sf387 sf0)) Cr384.1 sf385)
  have sf396 : Safe Z consts_1 T384.vm T394.heap t87 := (Safe.keep Kq394 (sfS sf385 (sfS sf387 sf0)) Cr384.1 sf386)
  have sf397 : Safe Z consts_1 T384.vm T394.heap t286 := (Safe.keep Kq394 (sfS sf385 (sfS sf387 sf0)) Cr384.1 sf387)
  have H394 : CHv Z consts_1 T384.vm T394.heap := Cr384.1.keep Kq394 (sfS sf385 (sfS sf387 sf0))
  have C394 : CHr Z consts_1 s.vm h0 T384.vm T394.heap := C384.trans (CHr.keep Kq394 (sfS sf385 (sfS sf387 sf0)) Cr384.1)
  have hk394 := Nat.le_trans hk384 Kq394.1
  refine Go.tr st394 ?_
  show Go p.tables e below Kx _ (mkF m 43 _ [(.ref b70)])
  have f398 : Exa Z T394.heap t286 "[B" := ((q0_286.ext E384).keep Kq394)
  obtain ⟨_, T399, L399, X399, hQ399, st399⟩ := kV X394 hx hZ384 (y := yN33) hown384 (hv hw 148 rfl) (hv hw 149 rfl) (notFace_of_selects (args := #[]) (mvT hZ384 (hv hw 151 rfl))) (hv hw 151 rfl) (hv hw 150 rfl) (hv hw 60 rfl) (hv hw 152 rfl) (by decide) (rmHts l Z a0 hw [] b70 t286 _ 34 ((((((([] : List Int32) ++ (i8s cv)) ++ [(32 : Int32), (40 : Int32)]) ++ (i8s cs)) ++ [(44 : Int32), (32 : Int32), (108 : Int32), (105 : Int32), (110 : Int32), (101 : Int32), (32 : Int32)]) ++ (dec xl)) ++ [(41 : Int32)]) T394.heap n0 O394 G1 S1 P1 f398 q1_394 q2_394 q3_394 q4_394 q5_394 (by decide) ky) rfl q1_394 (W := 0) (g := (mkF m 43 #[vr xd] [(.ref b70)])) rfl (by rw [hml]; rfl) (argsL := []) (rest := []) (lenOf pd_24 rfl) rfl (by exact Nat.le_of_eq rfl) (hb hby p81_2_43) rfl (nb rfl) (nb rfl) (nb rfl) (nb rfl)
  obtain ⟨y399, t399, kt399, rfl, Nq399, Kq399, ly399, le399, q0_399, q1_399, q2_399, q3_399, q4_399⟩ := hQ399
  have sz399 : h0.size ≤ t399 := Nat.le_trans K394.1 le399
  have ge399 : n0 ≤ t399 := Nat.le_trans (O394.1 ▸ O394.2.1) le399
  have sn399 : Safe Z consts_1 T384.vm T394.heap t399 := Safe.new le399
  have sz399y : h0.size ≤ y399 := Nat.le_trans K394.1 ly399
  have ge399y : n0 ≤ y399 := Nat.le_trans (O394.1 ▸ O394.2.1) ly399
  have sn399y : Safe Z consts_1 T384.vm T394.heap y399 := Safe.new ly399
  have N399 := Fr.app N394 Nq399
  have K399 : Keep h0 T399.heap [] := K394.trans Kq399 all0
  have O399 : Old Z n0 T399.heap := O394.keep Kq399 all0
  have sf400 : Safe Z consts_1 T384.vm T399.heap b70 := (Safe.keep Kq399 sf0 H394 sf395)
  have sf401 : Safe Z consts_1 T384.vm T399.heap t87 := (Safe.keep Kq399 sf0 H394 sf396)
  have sf402 : Safe Z consts_1 T384.vm T399.heap t286 := (Safe.keep Kq399 sf0 H394 sf397)
  have sf403 : Safe Z consts_1 T384.vm T399.heap t399 := (Safe.keep Kq399 sf0 H394 sn399)
  have sf404 : Safe Z consts_1 T384.vm T399.heap y399 := (Safe.keep Kq399 sf0 H394 sn399y)
  have H399 : CHv Z consts_1 T384.vm T399.heap := H394.keep Kq399 sf0
  have C399 : CHr Z consts_1 s.vm h0 T384.vm T399.heap := C394.trans (CHr.keep Kq399 sf0 H394)
  have hk399 := Nat.le_trans hk394 Kq399.1
  refine Go.tr st399 ?_
  show Go p.tables e below Kx _ (mkF m 46 _ [(.ref y399)])
  obtain ⟨fs, hr, hrun, hended, hRW⟩ := X399.leaveW hS384 hk399 (v := (some (.ref y399))) (fun h => by rw [Bd.returns] at h; cases h)
  have hCx := C399.trans (CHv.at X399 hZ384 hEL H399)
  refine Go.fin (retOut X399 hx Bd.returns rfl (Or.inr (Or.inr (Or.inr (Or.inr ⟨rfl, rfl, rfl⟩)))) (hb hby p81_2_46) hr) (hF _ _ hrun hended ⟨_, _, rfl, ?_, ?_, hRW.1, hRW.2.1, hRW.2.2.1, hRW.2.2.2.mono (by decide) (by decide)⟩)
  ·
   show QHci Z xd yv ys bv bs cv cs xl h0 n0 ((some (.ref y399)) : Option Value) T399.heap _
   skip
   exact ⟨_, _, _, rfl, N399, K399, q1_399, q2_399, q3_399, q4_399⟩
  ·
   show CHr Z consts_1 s.vm s.heap T399.vm T399.heap
   rw [hh]; exact hCx
theorem d29_61_0 : decode jdk_29_method_61_code 0 = .ok (.lload_n 0, 1) := by decide +kernel
theorem d29_61_1 : decode jdk_29_method_61_code 1 = .ok (.lconst 0, 1) := by decide +kernel
theorem d29_61_2 : decode jdk_29_method_61_code 2 = .ok (.lcmp, 1) := by decide +kernel
theorem d29_61_3 : decode jdk_29_method_61_code 3 = .ok (.ifCond .ge 8, 3) := by decide +kernel
theorem d29_61_6 : decode jdk_29_method_61_code 6 = .ok (.lload_n 0, 1) := by decide +kernel
theorem d29_61_7 : decode jdk_29_method_61_code 7 = .ok (.lneg, 1) := by decide +kernel
theorem d29_61_8 : decode jdk_29_method_61_code 8 = .ok (.goto 4, 3) := by decide +kernel
theorem d29_61_12 : decode jdk_29_method_61_code 12 = .ok (.lreturn, 1) := by decide +kernel
theorem d29_61_11 : decode jdk_29_method_61_code 11 = .ok (.lload_n 0, 1) := by decide +kernel
def QHab (Z : State) (xl : Int32) (h0 : Heap) (n0 : Nat) (v : Option Value) (h : Heap) (L : List Loc) : Prop := (∃ r : Int64, v = some (.long r) ∧ r.toInt = (xl.toInt.natAbs : Int)) ∧ Fr n0 L ∧ h = h0
theorem rmHab (l : Launch) (Z : State) (a0 : Array Value) (hw : ∀ d ∈ tables_1, d.before a0 Z = true) (ws : List Jvm.Cond) (xl : Int32) (h0 : Heap) (n0 : Nat) (X00 : Old Z n0 h0)  :
  MetFree l yN16 (head1 (Jvm.Cond.code yN16 jdk_29_method_61_code 2 (some .long) :: ws) ({ frames := 0, cells := 0, slots := 0, locals := 0 } : Room)) (fun aa U => aa = #[(.long (xl.toInt64))] ∧ Z.Warmed39 U.vm ∧ U.heap = h0) (fun _ _ _ _ _ => True) (fun _ U o U' => ∃ v L, o = .returned v ∧ QHab Z xl h0 n0 v U'.heap L ∧ FrameEnd U o U' L ({ frames := 0, cells := 0, slots := 0, locals := 0 } : Room).cells ({ frames := 0, cells := 0, slots := 0, locals := 0 } : Room).slots) := by
 refine MetFree.of_bodySF (Jvm.Free.JP.mathPlain rfl (by decide +kernel)) hisR ?_
 intro p e s m args below meth c s₁ Bd hml0 hP hK
 obtain ⟨rfl, hZ, hh⟩ := hP
 have hx := Bd.exec
 have hby := Bd.bytes
 have hml : c.maxLocals = 2 := hml0
 have hown : s.vm.findClass "java/lang/Math" = some m.cls := findClass_of_methodNamed Bd.named
 have hnm := (name_of_methodNamed Bd.named Bd.method).1
 have X0 : Stand p l e ({ frames := 0, cells := 0, slots := 0, locals := 0 } : Room) s m #[(.long (xl.toInt64))] below meth c s₁ [] 0 0 := Stand.of_body Bd
 have e0 : s₁.heap = h0 := by rw [← hh, Bd.state]; rfl
 have N0 := Fr.nil n0
 have K0 := Keep.refl h0 []
 have ef : entryFrame m #[(.long (xl.toInt64))] 2 = mkF m 0 #[.val (.long (xl.toInt64)), sn] [] := by first | (simp [entryFrame, mkF, argsToLocals, Value.category]; done) | rfl
 rw [ef]
 refine fin_of fun Kx hF => ?_
 show Go p.tables e below Kx _ (mkF m 0 _ [])
 refine s_lloadN (pc' := 1) X0.here hx (hb hby d29_61_0) rfl rfl ?_
 refine s_lconst (pc' := 2) (v := (0 : Int64)) X0.here hx (hb hby d29_61_1) rfl rfl ?_
 refine s_lcmp (pc' := 3) X0.here hx (hb hby d29_61_2) rfl rfl ?_
 by_cases hc409 : (lcmpW (xl.toInt64) (0 : Int64)) < (0 : Int32)
 ·
  refine s_ifN (pc' := 6) X0.here hx (hb hby d29_61_3) rfl ((if0 _ _).trans (tlt hc409).2.1) ?_
  refine s_lloadN (pc' := 7) X0.here hx (hb hby d29_61_6) rfl rfl ?_
  refine s_lneg (pc' := 8) X0.here hx (hb hby d29_61_7) rfl rfl ?_
  refine s_goto (pc' := 12) X0.here hx (hb hby d29_61_8) (by decide) (by decide) ?_
  obtain ⟨fs, hr, hrun, hended, hW, hsame⟩ := X0.leave (v := (some (.long (-(xl.toInt64))))) (fun h => by rw [Bd.returns] at h; cases h)
  refine Go.fin (retOut X0 hx Bd.returns rfl (Or.inr (Or.inl ⟨rfl, rfl, _, rfl⟩)) (hb hby d29_61_12) hr) (hF _ _ hrun hended ⟨_, _, rfl, ?_, ⟨_, rfl⟩, hW, hsame.mono (by decide) (by decide)⟩)
  ·
   show QHab Z xl h0 n0 ((some (.long (-(xl.toInt64)))) : Option Value) s₁.heap _
   rw [e0]
   exact ⟨⟨_, rfl, abs_n hc409⟩, N0, rfl⟩
 ·
  refine s_ifY (pc' := 11) X0.here hx (hb hby d29_61_3) ((if0 _ _).trans (flt hc409).2.1) (by decide) (by decide) ?_
  refine s_lloadN (pc' := 12) X0.here hx (hb hby d29_61_11) rfl rfl ?_
  obtain ⟨fs, hr, hrun, hended, hW, hsame⟩ := X0.leave (v := (some (.long (xl.toInt64)))) (fun h => by rw [Bd.returns] at h; cases h)
  refine Go.fin (retOut X0 hx Bd.returns rfl (Or.inr (Or.inl ⟨rfl, rfl, _, rfl⟩)) (hb hby d29_61_12) hr) (hF _ _ hrun hended ⟨_, _, rfl, ?_, ⟨_, rfl⟩, hW, hsame.mono (by decide) (by decide)⟩)
  ·
   show QHab Z xl h0 n0 ((some (.long (xl.toInt64))) : Option Value) s₁.heap _
   rw [e0]
   exact ⟨⟨_, rfl, abs_p hc409⟩, N0, rfl⟩
theorem pd_25 : parseMethodDescriptor "(J)J" = some ⟨[.long], some .long⟩ := by decide +kernel
theorem d_m3_0 : decode method_3_code 0 = .ok (.lload_n 0, 1) := by decide +kernel
theorem d_m3_1 : decode method_3_code 1 = .ok (.ldc2_w 47, 3) := by decide +kernel
theorem d_m3_4 : decode method_3_code 4 = .ok (.lcmp, 1) := by decide +kernel
theorem d_m3_5 : decode method_3_code 5 = .ok (.ifCond .ge 5, 3) := by decide +kernel
theorem d_m3_8 : decode method_3_code 8 = .ok (.iconst 1, 1) := by decide +kernel
theorem d_m3_9 : decode method_3_code 9 = .ok (.ireturn, 1) := by decide +kernel
theorem d_m3_10 : decode method_3_code 10 = .ok (.lload_n 0, 1) := by decide +kernel
theorem d_m3_11 : decode method_3_code 11 = .ok (.ldc2_w 49, 3) := by decide +kernel
theorem d_m3_14 : decode method_3_code 14 = .ok (.lcmp, 1) := by decide +kernel
theorem d_m3_15 : decode method_3_code 15 = .ok (.ifCond .ge 5, 3) := by decide +kernel
theorem d_m3_18 : decode method_3_code 18 = .ok (.iconst 2, 1) := by decide +kernel
theorem d_m3_19 : decode method_3_code 19 = .ok (.ireturn, 1) := by decide +kernel
theorem d_m3_20 : decode method_3_code 20 = .ok (.lload_n 0, 1) := by decide +kernel
theorem d_m3_21 : decode method_3_code 21 = .ok (.ldc2_w 51, 3) := by decide +kernel
theorem d_m3_24 : decode method_3_code 24 = .ok (.lcmp, 1) := by decide +kernel
theorem d_m3_25 : decode method_3_code 25 = .ok (.ifCond .ge 5, 3) := by decide +kernel
theorem d_m3_28 : decode method_3_code 28 = .ok (.iconst 3, 1) := by decide +kernel
theorem d_m3_29 : decode method_3_code 29 = .ok (.ireturn, 1) := by decide +kernel
theorem d_m3_30 : decode method_3_code 30 = .ok (.lload_n 0, 1) := by decide +kernel
theorem d_m3_31 : decode method_3_code 31 = .ok (.ldc2_w 53, 3) := by decide +kernel
theorem d_m3_34 : decode method_3_code 34 = .ok (.lcmp, 1) := by decide +kernel
theorem d_m3_35 : decode method_3_code 35 = .ok (.ifCond .ge 5, 3) := by decide +kernel
theorem d_m3_38 : decode method_3_code 38 = .ok (.iconst 4, 1) := by decide +kernel
theorem d_m3_39 : decode method_3_code 39 = .ok (.ireturn, 1) := by decide +kernel
theorem d_m3_40 : decode method_3_code 40 = .ok (.lload_n 0, 1) := by decide +kernel
theorem d_m3_41 : decode method_3_code 41 = .ok (.ldc2_w 55, 3) := by decide +kernel
theorem d_m3_44 : decode method_3_code 44 = .ok (.lcmp, 1) := by decide +kernel
theorem d_m3_45 : decode method_3_code 45 = .ok (.ifCond .ge 5, 3) := by decide +kernel
theorem d_m3_48 : decode method_3_code 48 = .ok (.iconst 5, 1) := by decide +kernel
theorem d_m3_49 : decode method_3_code 49 = .ok (.ireturn, 1) := by decide +kernel
theorem d_m3_50 : decode method_3_code 50 = .ok (.lload_n 0, 1) := by decide +kernel
theorem d_m3_51 : decode method_3_code 51 = .ok (.ldc2_w 57, 3) := by decide +kernel
theorem d_m3_54 : decode method_3_code 54 = .ok (.lcmp, 1) := by decide +kernel
theorem d_m3_55 : decode method_3_code 55 = .ok (.ifCond .ge 6, 3) := by decide +kernel
theorem d_m3_58 : decode method_3_code 58 = .ok (.bipush 6, 2) := by decide +kernel
theorem d_m3_60 : decode method_3_code 60 = .ok (.ireturn, 1) := by decide +kernel
theorem d_m3_61 : decode method_3_code 61 = .ok (.lload_n 0, 1) := by decide +kernel
theorem d_m3_62 : decode method_3_code 62 = .ok (.ldc2_w 59, 3) := by decide +kernel
theorem d_m3_65 : decode method_3_code 65 = .ok (.lcmp, 1) := by decide +kernel
theorem d_m3_66 : decode method_3_code 66 = .ok (.ifCond .ge 6, 3) := by decide +kernel
theorem d_m3_69 : decode method_3_code 69 = .ok (.bipush 7, 2) := by decide +kernel
theorem d_m3_71 : decode method_3_code 71 = .ok (.ireturn, 1) := by decide +kernel
theorem d_m3_72 : decode method_3_code 72 = .ok (.lload_n 0, 1) := by decide +kernel
theorem d_m3_73 : decode method_3_code 73 = .ok (.ldc2_w 61, 3) := by decide +kernel
theorem d_m3_76 : decode method_3_code 76 = .ok (.lcmp, 1) := by decide +kernel
theorem d_m3_77 : decode method_3_code 77 = .ok (.ifCond .ge 6, 3) := by decide +kernel
theorem d_m3_80 : decode method_3_code 80 = .ok (.bipush 8, 2) := by decide +kernel
theorem d_m3_82 : decode method_3_code 82 = .ok (.ireturn, 1) := by decide +kernel
theorem d_m3_83 : decode method_3_code 83 = .ok (.lload_n 0, 1) := by decide +kernel
theorem d_m3_84 : decode method_3_code 84 = .ok (.ldc2_w 63, 3) := by decide +kernel
theorem d_m3_87 : decode method_3_code 87 = .ok (.lcmp, 1) := by decide +kernel
theorem d_m3_88 : decode method_3_code 88 = .ok (.ifCond .ge 6, 3) := by decide +kernel
theorem d_m3_91 : decode method_3_code 91 = .ok (.bipush 9, 2) := by decide +kernel
theorem d_m3_93 : decode method_3_code 93 = .ok (.ireturn, 1) := by decide +kernel
theorem d_m3_94 : decode method_3_code 94 = .ok (.bipush 10, 2) := by decide +kernel
theorem d_m3_96 : decode method_3_code 96 = .ok (.ireturn, 1) := by decide +kernel
def QHdi (Z : State) (ml : Int64) (n : Nat) (h0 : Heap) (n0 : Nat) (v : Option Value) (h : Heap) (L : List Loc) : Prop := v = some (.int (Int32.ofNat (nd n))) ∧ Fr n0 L ∧ h = h0
theorem rmHdi (l : Launch) (Z : State) (a0 : Array Value) (hw : ∀ d ∈ tables_1, d.before a0 Z = true) (ws : List Jvm.Cond) (ml : Int64) (n : Nat) (h0 : Heap) (n0 : Nat) (X00 : Old Z n0 h0) (hm : ml.toInt = (n : Int)) (hn : n < 10000000000) :
  MetFree l yN3 (head1 (Jvm.Cond.code yN3 method_3_code 2 (some .int) :: ws) ({ frames := 0, cells := 0, slots := 0, locals := 0 } : Room)) (fun aa U => aa = #[(.long ml)] ∧ Z.Warmed39 U.vm ∧ U.heap = h0) (fun _ _ _ _ _ => True) (fun _ U o U' => ∃ v L, o = .returned v ∧ QHdi Z ml n h0 n0 v U'.heap L ∧ FrameEnd U o U' L ({ frames := 0, cells := 0, slots := 0, locals := 0 } : Room).cells ({ frames := 0, cells := 0, slots := 0, locals := 0 } : Room).slots) := by
 refine MetFree.of_bodySF (plainFor_of_name pn_0) hisR ?_
 intro p e s m args below meth c s₁ Bd hml0 hP hK
 obtain ⟨rfl, hZ, hh⟩ := hP
 have hx := Bd.exec
 have hby := Bd.bytes
 have hml : c.maxLocals = 2 := hml0
 have hown : s.vm.findClass "com/example/syndica/syndica/TermCitedPinLaw" = some m.cls := findClass_of_methodNamed Bd.named
 have hnm := (name_of_methodNamed Bd.named Bd.method).1
 have X0 : Stand p l e ({ frames := 0, cells := 0, slots := 0, locals := 0 } : Room) s m #[(.long ml)] below meth c s₁ [] 0 0 := Stand.of_body Bd
 have e0 : s₁.heap = h0 := by rw [← hh, Bd.state]; rfl
 have N0 := Fr.nil n0
 have K0 := Keep.refl h0 []
 have ef : entryFrame m #[(.long ml)] 2 = mkF m 0 #[.val (.long ml), sn] [] := by first | (simp [entryFrame, mkF, argsToLocals, Value.category]; done) | rfl
 rw [ef]
 refine fin_of fun Kx hF => ?_
 show Go p.tables e below Kx _ (mkF m 0 _ [])
 refine s_lloadN (pc' := 1) X0.here hx (hb hby d_m3_0) rfl rfl ?_
 refine Go.st (X0.ldc2Long hx hown (mvT hZ (hv hw 196 rfl)) (g := (mkF m 1 #[.val (.long ml), sn] [(.long ml)])) rfl (hb hby d_m3_1)) ?_
 show Go p.tables e below Kx _ (mkF m 4 _ [(.long (10 : Int64)), (.long ml)])
 refine s_lcmp (pc' := 5) X0.here hx (hb hby d_m3_4) rfl rfl ?_
 by_cases hc411 : (lcmpW ml (10 : Int64)) < (0 : Int32)
 ·
  refine s_ifN (pc' := 8) X0.here hx (hb hby d_m3_5) rfl ((if0 _ _).trans (tlt hc411).2.1) ?_
  refine s_iconst (pc' := 9) (v := 1) X0.here hx (hb hby d_m3_8) rfl rfl ?_
  obtain ⟨fs, hr, hrun, hended, hW, hsame⟩ := X0.leave (v := (some (.int 1))) (fun h => by rw [Bd.returns] at h; cases h)
  refine Go.fin (retI X0 hx Bd.returns (hb hby d_m3_9) hr) (hF _ _ hrun hended ⟨_, _, rfl, ?_, ⟨_, rfl⟩, hW, hsame.mono (by decide) (by decide)⟩)
  ·
   show QHdi Z ml n h0 n0 ((some (.int 1)) : Option Value) s₁.heap _
   rw [e0]
   exact ⟨congrArg (fun z => some (Value.int z)) (by rw [nd_eq hn (K := 1) ⟨lc_up hm (K := 1) (by decide) hc411, Or.inl rfl⟩]; rfl), N0, rfl⟩
 ·
  refine s_ifY (pc' := 10) X0.here hx (hb hby d_m3_5) ((if0 _ _).trans (flt hc411).2.1) (by decide) (by decide) ?_
  refine s_lloadN (pc' := 11) X0.here hx (hb hby d_m3_10) rfl rfl ?_
  refine Go.st (X0.ldc2Long hx hown (mvT hZ (hv hw 224 rfl)) (g := (mkF m 11 #[.val (.long ml), sn] [(.long ml)])) rfl (hb hby d_m3_11)) ?_
  show Go p.tables e below Kx _ (mkF m 14 _ [(.long (100 : Int64)), (.long ml)])
  refine s_lcmp (pc' := 15) X0.here hx (hb hby d_m3_14) rfl rfl ?_
  by_cases hc412 : (lcmpW ml (100 : Int64)) < (0 : Int32)
  ·
   refine s_ifN (pc' := 18) X0.here hx (hb hby d_m3_15) rfl ((if0 _ _).trans (tlt hc412).2.1) ?_
   refine s_iconst (pc' := 19) (v := 2) X0.here hx (hb hby d_m3_18) rfl rfl ?_
   obtain ⟨fs, hr, hrun, hended, hW, hsame⟩ := X0.leave (v := (some (.int 2))) (fun h => by rw [Bd.returns] at h; cases h)
   refine Go.fin (retI X0 hx Bd.returns (hb hby d_m3_19) hr) (hF _ _ hrun hended ⟨_, _, rfl, ?_, ⟨_, rfl⟩, hW, hsame.mono (by decide) (by decide)⟩)
   ·
    show QHdi Z ml n h0 n0 ((some (.int 2)) : Option Value) s₁.heap _
    rw [e0]
    exact ⟨congrArg (fun z => some (Value.int z)) (by rw [nd_eq hn (K := 2) ⟨lc_up hm (K := 2) (by decide) hc412, Or.inr ⟨by decide, lc_dn hm (K := 1) (by decide) hc411⟩⟩]; rfl), N0, rfl⟩
  ·
   refine s_ifY (pc' := 20) X0.here hx (hb hby d_m3_15) ((if0 _ _).trans (flt hc412).2.1) (by decide) (by decide) ?_
   refine s_lloadN (pc' := 21) X0.here hx (hb hby d_m3_20) rfl rfl ?_
   refine Go.st (X0.ldc2Long hx hown (mvT hZ (hv hw 225 rfl)) (g := (mkF m 21 #[.val (.long ml), sn] [(.long ml)])) rfl (hb hby d_m3_21)) ?_
   show Go p.tables e below Kx _ (mkF m 24 _ [(.long (1000 : Int64)), (.long ml)])
   refine s_lcmp (pc' := 25) X0.here hx (hb hby d_m3_24) rfl rfl ?_
   by_cases hc413 : (lcmpW ml (1000 : Int64)) < (0 : Int32)
   ·
    refine s_ifN (pc' := 28) X0.here hx (hb hby d_m3_25) rfl ((if0 _ _).trans (tlt hc413).2.1) ?_
    refine s_iconst (pc' := 29) (v := 3) X0.here hx (hb hby d_m3_28) rfl rfl ?_
    obtain ⟨fs, hr, hrun, hended, hW, hsame⟩ := X0.leave (v := (some (.int 3))) (fun h => by rw [Bd.returns] at h; cases h)
    refine Go.fin (retI X0 hx Bd.returns (hb hby d_m3_29) hr) (hF _ _ hrun hended ⟨_, _, rfl, ?_, ⟨_, rfl⟩, hW, hsame.mono (by decide) (by decide)⟩)
    ·
     show QHdi Z ml n h0 n0 ((some (.int 3)) : Option Value) s₁.heap _
     rw [e0]
     exact ⟨congrArg (fun z => some (Value.int z)) (by rw [nd_eq hn (K := 3) ⟨lc_up hm (K := 3) (by decide) hc413, Or.inr ⟨by decide, lc_dn hm (K := 2) (by decide) hc412⟩⟩]; rfl), N0, rfl⟩
   ·
    refine s_ifY (pc' := 30) X0.here hx (hb hby d_m3_25) ((if0 _ _).trans (flt hc413).2.1) (by decide) (by decide) ?_
    refine s_lloadN (pc' := 31) X0.here hx (hb hby d_m3_30) rfl rfl ?_
    refine Go.st (X0.ldc2Long hx hown (mvT hZ (hv hw 226 rfl)) (g := (mkF m 31 #[.val (.long ml), sn] [(.long ml)])) rfl (hb hby d_m3_31)) ?_
    show Go p.tables e below Kx _ (mkF m 34 _ [(.long (10000 : Int64)), (.long ml)])
    refine s_lcmp (pc' := 35) X0.here hx (hb hby d_m3_34) rfl rfl ?_
    by_cases hc414 : (lcmpW ml (10000 : Int64)) < (0 : Int32)
    ·
     refine s_ifN (pc' := 38) X0.here hx (hb hby d_m3_35) rfl ((if0 _ _).trans (tlt hc414).2.1) ?_
     refine s_iconst (pc' := 39) (v := 4) X0.here hx (hb hby d_m3_38) rfl rfl ?_
     obtain ⟨fs, hr, hrun, hended, hW, hsame⟩ := X0.leave (v := (some (.int 4))) (fun h => by rw [Bd.returns] at h; cases h)
     refine Go.fin (retI X0 hx Bd.returns (hb hby d_m3_39) hr) (hF _ _ hrun hended ⟨_, _, rfl, ?_, ⟨_, rfl⟩, hW, hsame.mono (by decide) (by decide)⟩)
     ·
      show QHdi Z ml n h0 n0 ((some (.int 4)) : Option Value) s₁.heap _
      rw [e0]
      exact ⟨congrArg (fun z => some (Value.int z)) (by rw [nd_eq hn (K := 4) ⟨lc_up hm (K := 4) (by decide) hc414, Or.inr ⟨by decide, lc_dn hm (K := 3) (by decide) hc413⟩⟩]; rfl), N0, rfl⟩
    ·
     refine s_ifY (pc' := 40) X0.here hx (hb hby d_m3_35) ((if0 _ _).trans (flt hc414).2.1) (by decide) (by decide) ?_
     refine s_lloadN (pc' := 41) X0.here hx (hb hby d_m3_40) rfl rfl ?_
     refine Go.st (X0.ldc2Long hx hown (mvT hZ (hv hw 227 rfl)) (g := (mkF m 41 #[.val (.long ml), sn] [(.long ml)])) rfl (hb hby d_m3_41)) ?_
     show Go p.tables e below Kx _ (mkF m 44 _ [(.long (100000 : Int64)), (.long ml)])
     refine s_lcmp (pc' := 45) X0.here hx (hb hby d_m3_44) rfl rfl ?_
     by_cases hc415 : (lcmpW ml (100000 : Int64)) < (0 : Int32)
     ·
      refine s_ifN (pc' := 48) X0.here hx (hb hby d_m3_45) rfl ((if0 _ _).trans (tlt hc415).2.1) ?_
      refine s_iconst (pc' := 49) (v := 5) X0.here hx (hb hby d_m3_48) rfl rfl ?_
      obtain ⟨fs, hr, hrun, hended, hW, hsame⟩ := X0.leave (v := (some (.int 5))) (fun h => by rw [Bd.returns] at h; cases h)
      refine Go.fin (retI X0 hx Bd.returns (hb hby d_m3_49) hr) (hF _ _ hrun hended ⟨_, _, rfl, ?_, ⟨_, rfl⟩, hW, hsame.mono (by decide) (by decide)⟩)
      ·
       show QHdi Z ml n h0 n0 ((some (.int 5)) : Option Value) s₁.heap _
       rw [e0]
       exact ⟨congrArg (fun z => some (Value.int z)) (by rw [nd_eq hn (K := 5) ⟨lc_up hm (K := 5) (by decide) hc415, Or.inr ⟨by decide, lc_dn hm (K := 4) (by decide) hc414⟩⟩]; rfl), N0, rfl⟩
     ·
      refine s_ifY (pc' := 50) X0.here hx (hb hby d_m3_45) ((if0 _ _).trans (flt hc415).2.1) (by decide) (by decide) ?_
      refine s_lloadN (pc' := 51) X0.here hx (hb hby d_m3_50) rfl rfl ?_
      refine Go.st (X0.ldc2Long hx hown (mvT hZ (hv hw 228 rfl)) (g := (mkF m 51 #[.val (.long ml), sn] [(.long ml)])) rfl (hb hby d_m3_51)) ?_
      show Go p.tables e below Kx _ (mkF m 54 _ [(.long (1000000 : Int64)), (.long ml)])
      refine s_lcmp (pc' := 55) X0.here hx (hb hby d_m3_54) rfl rfl ?_
      by_cases hc416 : (lcmpW ml (1000000 : Int64)) < (0 : Int32)
      ·
       refine s_ifN (pc' := 58) X0.here hx (hb hby d_m3_55) rfl ((if0 _ _).trans (tlt hc416).2.1) ?_
       refine s_bipush (pc' := 60) (v := 6) X0.here hx (hb hby d_m3_58) rfl rfl ?_
       obtain ⟨fs, hr, hrun, hended, hW, hsame⟩ := X0.leave (v := (some (.int 6))) (fun h => by rw [Bd.returns] at h; cases h)
       refine Go.fin (retI X0 hx Bd.returns (hb hby d_m3_60) hr) (hF _ _ hrun hended ⟨_, _, rfl, ?_, ⟨_, rfl⟩, hW, hsame.mono (by decide) (by decide)⟩)
       ·
        show QHdi Z ml n h0 n0 ((some (.int 6)) : Option Value) s₁.heap _
        rw [e0]
        exact ⟨congrArg (fun z => some (Value.int z)) (by rw [nd_eq hn (K := 6) ⟨lc_up hm (K := 6) (by decide) hc416, Or.inr ⟨by decide, lc_dn hm (K := 5) (by decide) hc415⟩⟩]; rfl), N0, rfl⟩
      ·
       refine s_ifY (pc' := 61) X0.here hx (hb hby d_m3_55) ((if0 _ _).trans (flt hc416).2.1) (by decide) (by decide) ?_
       refine s_lloadN (pc' := 62) X0.here hx (hb hby d_m3_61) rfl rfl ?_
       refine Go.st (X0.ldc2Long hx hown (mvT hZ (hv hw 229 rfl)) (g := (mkF m 62 #[.val (.long ml), sn] [(.long ml)])) rfl (hb hby d_m3_62)) ?_
       show Go p.tables e below Kx _ (mkF m 65 _ [(.long (10000000 : Int64)), (.long ml)])
       refine s_lcmp (pc' := 66) X0.here hx (hb hby d_m3_65) rfl rfl ?_
       by_cases hc417 : (lcmpW ml (10000000 : Int64)) < (0 : Int32)
       ·
        refine s_ifN (pc' := 69) X0.here hx (hb hby d_m3_66) rfl ((if0 _ _).trans (tlt hc417).2.1) ?_
        refine s_bipush (pc' := 71) (v := 7) X0.here hx (hb hby d_m3_69) rfl rfl ?_
        obtain ⟨fs, hr, hrun, hended, hW, hsame⟩ := X0.leave (v := (some (.int 7))) (fun h => by rw [Bd.returns] at h; cases h)
        refine Go.fin (retI X0 hx Bd.returns (hb hby d_m3_71) hr) (hF _ _ hrun hended ⟨_, _, rfl, ?_, ⟨_, rfl⟩, hW, hsame.mono (by decide) (by decide)⟩)
        ·
         show QHdi Z ml n h0 n0 ((some (.int 7)) : Option Value) s₁.heap _
         rw [e0]
         exact ⟨congrArg (fun z => some (Value.int z)) (by rw [nd_eq hn (K := 7) ⟨lc_up hm (K := 7) (by decide) hc417, Or.inr ⟨by decide, lc_dn hm (K := 6) (by decide) hc416⟩⟩]; rfl), N0, rfl⟩
       ·
        refine s_ifY (pc' := 72) X0.here hx (hb hby d_m3_66) ((if0 _ _).trans (flt hc417).2.1) (by decide) (by decide) ?_
        refine s_lloadN (pc' := 73) X0.here hx (hb hby d_m3_72) rfl rfl ?_
        refine Go.st (X0.ldc2Long hx hown (mvT hZ (hv hw 230 rfl)) (g := (mkF m 73 #[.val (.long ml), sn] [(.long ml)])) rfl (hb hby d_m3_73)) ?_
        show Go p.tables e below Kx _ (mkF m 76 _ [(.long (100000000 : Int64)), (.long ml)])
        refine s_lcmp (pc' := 77) X0.here hx (hb hby d_m3_76) rfl rfl ?_
        by_cases hc418 : (lcmpW ml (100000000 : Int64)) < (0 : Int32)
        ·
         refine s_ifN (pc' := 80) X0.here hx (hb hby d_m3_77) rfl ((if0 _ _).trans (tlt hc418).2.1) ?_
         refine s_bipush (pc' := 82) (v := 8) X0.here hx (hb hby d_m3_80) rfl rfl ?_
         obtain ⟨fs, hr, hrun, hended, hW, hsame⟩ := X0.leave (v := (some (.int 8))) (fun h => by rw [Bd.returns] at h; cases h)
         refine Go.fin (retI X0 hx Bd.returns (hb hby d_m3_82) hr) (hF _ _ hrun hended ⟨_, _, rfl, ?_, ⟨_, rfl⟩, hW, hsame.mono (by decide) (by decide)⟩)
         ·
          show QHdi Z ml n h0 n0 ((some (.int 8)) : Option Value) s₁.heap _
          rw [e0]
          exact ⟨congrArg (fun z => some (Value.int z)) (by rw [nd_eq hn (K := 8) ⟨lc_up hm (K := 8) (by decide) hc418, Or.inr ⟨by decide, lc_dn hm (K := 7) (by decide) hc417⟩⟩]; rfl), N0, rfl⟩
        ·
         refine s_ifY (pc' := 83) X0.here hx (hb hby d_m3_77) ((if0 _ _).trans (flt hc418).2.1) (by decide) (by decide) ?_
         refine s_lloadN (pc' := 84) X0.here hx (hb hby d_m3_83) rfl rfl ?_
         refine Go.st (X0.ldc2Long hx hown (mvT hZ (hv hw 231 rfl)) (g := (mkF m 84 #[.val (.long ml), sn] [(.long ml)])) rfl (hb hby d_m3_84)) ?_
         show Go p.tables e below Kx _ (mkF m 87 _ [(.long (1000000000 : Int64)), (.long ml)])
         refine s_lcmp (pc' := 88) X0.here hx (hb hby d_m3_87) rfl rfl ?_
         by_cases hc419 : (lcmpW ml (1000000000 : Int64)) < (0 : Int32)
         ·
          refine s_ifN (pc' := 91) X0.here hx (hb hby d_m3_88) rfl ((if0 _ _).trans (tlt hc419).2.1) ?_
          refine s_bipush (pc' := 93) (v := 9) X0.here hx (hb hby d_m3_91) rfl rfl ?_
          obtain ⟨fs, hr, hrun, hended, hW, hsame⟩ := X0.leave (v := (some (.int 9))) (fun h => by rw [Bd.returns] at h; cases h)
          refine Go.fin (retI X0 hx Bd.returns (hb hby d_m3_93) hr) (hF _ _ hrun hended ⟨_, _, rfl, ?_, ⟨_, rfl⟩, hW, hsame.mono (by decide) (by decide)⟩)
          ·
           show QHdi Z ml n h0 n0 ((some (.int 9)) : Option Value) s₁.heap _
           rw [e0]
           exact ⟨congrArg (fun z => some (Value.int z)) (by rw [nd_eq hn (K := 9) ⟨lc_up hm (K := 9) (by decide) hc419, Or.inr ⟨by decide, lc_dn hm (K := 8) (by decide) hc418⟩⟩]; rfl), N0, rfl⟩
         ·
          refine s_ifY (pc' := 94) X0.here hx (hb hby d_m3_88) ((if0 _ _).trans (flt hc419).2.1) (by decide) (by decide) ?_
          refine s_bipush (pc' := 96) (v := 10) X0.here hx (hb hby d_m3_94) rfl rfl ?_
          obtain ⟨fs, hr, hrun, hended, hW, hsame⟩ := X0.leave (v := (some (.int 10))) (fun h => by rw [Bd.returns] at h; cases h)
          refine Go.fin (retI X0 hx Bd.returns (hb hby d_m3_96) hr) (hF _ _ hrun hended ⟨_, _, rfl, ?_, ⟨_, rfl⟩, hW, hsame.mono (by decide) (by decide)⟩)
          ·
           show QHdi Z ml n h0 n0 ((some (.int 10)) : Option Value) s₁.heap _
           rw [e0]
           exact ⟨congrArg (fun z => some (Value.int z)) (by rw [nd_eq hn (K := 10) ⟨hn, Or.inr ⟨by decide, lc_dn hm (K := 9) (by decide) hc419⟩⟩]; rfl), N0, rfl⟩
theorem pd_26 : parseMethodDescriptor "(J)I" = some ⟨[.long], some .int⟩ := by decide +kernel
theorem d42_56_0 : decode jdk_42_method_56_code 0 = .ok (.aload_n 0, 1) := by decide +kernel
theorem d42_154_0 : decode jdk_42_method_154_code 0 = .ok (.getstatic 38, 3) := by decide +kernel
theorem d42_154_3 : decode jdk_42_method_154_code 3 = .ok (.ifCond .eq 14, 3) := by decide +kernel
theorem d42_154_6 : decode jdk_42_method_154_code 6 = .ok (.aload_n 0, 1) := by decide +kernel
theorem d42_154_7 : decode jdk_42_method_154_code 7 = .ok (.getfield 15, 3) := by decide +kernel
theorem d42_154_10 : decode jdk_42_method_154_code 10 = .ok (.ifCond .ne 7, 3) := by decide +kernel
theorem d42_154_13 : decode jdk_42_method_154_code 13 = .ok (.iconst 1, 1) := by decide +kernel
theorem d42_154_14 : decode jdk_42_method_154_code 14 = .ok (.goto 4, 3) := by decide +kernel
theorem d42_154_18 : decode jdk_42_method_154_code 18 = .ok (.ireturn, 1) := by decide +kernel
def QKil (Z : State) (xy : Addr) (h0 : Heap) (n0 : Nat) (v : Option Value) (h : Heap) (L : List Loc) : Prop := v = some (.int 1) ∧ Fr n0 L ∧ h = h0
theorem rmKil (l : Launch) (Z : State) (a0 : Array Value) (hw : ∀ d ∈ tables_1, d.before a0 Z = true) (ws : List Jvm.Cond) (xy : Addr) (h0 : Heap) (n0 : Nat) (X00 : Old Z n0 h0) (G1 : Int32) (S1 : Sta Z Z.heap "java/lang/String" "COMPACT_STRINGS" "Z" (.int G1)) (P1 : ¬ G1 = 0) (C : Fld Z h0 xy "java/lang/String" "coder" "B" (.int 0)) :
  MetFree l yN27 (head1 (Jvm.Cond.code yN27 jdk_42_method_154_code 1 (some .boolean) :: ws) ({ frames := 0, cells := 0, slots := 0, locals := 0 } : Room)) (fun aa U => aa = #[(.ref xy)] ∧ Z.Warmed39 U.vm ∧ U.heap = h0) (fun _ _ _ _ _ => True) (fun _ U o U' => ∃ v L, o = .returned v ∧ QKil Z xy h0 n0 v U'.heap L ∧ FrameEnd U o U' L ({ frames := 0, cells := 0, slots := 0, locals := 0 } : Room).cells ({ frames := 0, cells := 0, slots := 0, locals := 0 } : Room).slots) := by
 refine MetFree.of_bodySF (plainFor_of_name pn_5) hisR ?_
 intro p e s m args below meth c s₁ Bd hml0 hP hK
 obtain ⟨rfl, hZ, hh⟩ := hP
 have hx := Bd.exec
 have hby := Bd.bytes
 have hml : c.maxLocals = 1 := hml0
 have hown : s.vm.findClass "java/lang/String" = some m.cls := findClass_of_methodNamed Bd.named
 have hnm := (name_of_methodNamed Bd.named Bd.method).1
 have X0 : Stand p l e ({ frames := 0, cells := 0, slots := 0, locals := 0 } : Room) s m #[(.ref xy)] below meth c s₁ [] 0 0 := Stand.of_body Bd
 have e0 : s₁.heap = h0 := by rw [← hh, Bd.state]; rfl
 have N0 := Fr.nil n0
 have K0 := Keep.refl h0 []
 have ef : entryFrame m #[(.ref xy)] 1 = mkF m 0 #[vr xy] [] := by first | (simp [entryFrame, mkF, argsToLocals, Value.category]; done) | rfl
 rw [ef]
 refine fin_of fun Kx hF => ?_
 show Go p.tables e below Kx _ (mkF m 0 _ [])
 obtain ⟨T422, X422, e422, st422⟩ := getS2 X0 hx hZ hown (host := "") (Or.inl (hv hw 14 rfl)) Via.refl e0 (S1.ext X00.2) (g := (mkF m 0 #[vr xy] [])) rfl (hb hby d42_154_0)
 refine Go.st st422 ?_
 show Go p.tables e below Kx _ (mkF m 3 _ [(.int G1)])
 refine s_ifN (pc' := 6) X422.here hx (hb hby d42_154_3) rfl ((if0 _ _).trans (feq P1).1) ?_
 refine s_aloadN (pc' := 7) X422.here hx (hb hby d42_154_6) rfl rfl rfl ?_
 obtain ⟨T423, X423, e423, st423⟩ := getF X422 hx hZ hown (host := "") (Or.inl (hv hw 26 rfl)) Via.refl e422 C (g := (mkF m 7 #[vr xy] [(.ref xy)])) rfl rfl (hb hby d42_154_7)
 refine Go.st st423 ?_
 show Go p.tables e below Kx _ (mkF m 10 _ [(.int 0)])
 refine s_ifN (pc' := 13) X423.here hx (hb hby d42_154_10) rfl ((if0 _ _).trans (teq (by decide)).2) ?_
 refine s_iconst (pc' := 14) (v := 1) X423.here hx (hb hby d42_154_13) rfl rfl ?_
 refine s_goto (pc' := 18) X423.here hx (hb hby d42_154_14) (by decide) (by decide) ?_
 obtain ⟨fs, hr, hrun, hended, hW, hsame⟩ := X423.leave (v := (some (.int 1))) (fun h => by rw [Bd.returns] at h; cases h)
 refine Go.fin (retN X423 hx (t := .boolean) Bd.returns (by simp) (hb hby d42_154_18) hr) (hF _ _ hrun hended ⟨_, _, rfl, ?_, ⟨_, rfl⟩, hW, hsame.mono (by decide) (by decide)⟩)
 ·
  show QKil Z xy h0 n0 ((some (.int 1)) : Option Value) T423.heap _
  rw [e423]
  exact ⟨rfl, N0, rfl⟩
theorem d42_56_1 : decode jdk_42_method_56_code 1 = .ok (.invokevirtual 492, 3) := by decide +kernel
theorem d42_56_4 : decode jdk_42_method_56_code 4 = .ok (.ifCond .eq 12, 3) := by decide +kernel
theorem d42_56_7 : decode jdk_42_method_56_code 7 = .ok (.aload_n 0, 1) := by decide +kernel
theorem d42_56_8 : decode jdk_42_method_56_code 8 = .ok (.getfield 9, 3) := by decide +kernel
theorem d42_56_11 : decode jdk_42_method_56_code 11 = .ok (.iload_n 1, 1) := by decide +kernel
theorem pn_9 : plainName "java/lang/StringLatin1" = true := by first | (simp [plainName, overriddenIn]; done) | decide +kernel
theorem d43_2_0 : decode jdk_43_method_2_code 0 = .ok (.iload_n 1, 1) := by decide +kernel
theorem d43_2_1 : decode jdk_43_method_2_code 1 = .ok (.aload_n 0, 1) := by decide +kernel
theorem d43_2_2 : decode jdk_43_method_2_code 2 = .ok (.arraylength, 1) := by decide +kernel
theorem d42_155_0 : decode jdk_42_method_155_code 0 = .ok (.iload_n 0, 1) := by decide +kernel
theorem d42_155_1 : decode jdk_42_method_155_code 1 = .ok (.iload_n 1, 1) := by decide +kernel
theorem d42_155_2 : decode jdk_42_method_155_code 2 = .ok (.getstatic 1053, 3) := by decide +kernel
theorem pn_10 : plainName "jdk/internal/util/Preconditions" = true := by first | (simp [plainName, overriddenIn]; done) | decide +kernel
theorem d41_11_0 : decode jdk_41_method_11_code 0 = .ok (.iload_n 0, 1) := by decide +kernel
theorem d41_11_1 : decode jdk_41_method_11_code 1 = .ok (.ifCond .lt 8, 3) := by decide +kernel
theorem d41_11_4 : decode jdk_41_method_11_code 4 = .ok (.iload_n 0, 1) := by decide +kernel
theorem d41_11_5 : decode jdk_41_method_11_code 5 = .ok (.iload_n 1, 1) := by decide +kernel
theorem d41_11_6 : decode jdk_41_method_11_code 6 = .ok (.if_icmp .lt 10, 3) := by decide +kernel
theorem d41_11_16 : decode jdk_41_method_11_code 16 = .ok (.iload_n 0, 1) := by decide +kernel
theorem d41_11_17 : decode jdk_41_method_11_code 17 = .ok (.ireturn, 1) := by decide +kernel
def QHka (Z : State) (ja jb : Int32) (vf : Value) (h0 : Heap) (n0 : Nat) (v : Option Value) (h : Heap) (L : List Loc) : Prop := v = some (.int ja) ∧ Fr n0 L ∧ h = h0
theorem rmHka (l : Launch) (Z : State) (a0 : Array Value) (hw : ∀ d ∈ tables_1, d.before a0 Z = true) (ws : List Jvm.Cond) (ja jb : Int32) (vf : Value) (h0 : Heap) (n0 : Nat) (X00 : Old Z n0 h0) (hvf : vf.isRef = true) (h1 : ¬ ja < 0) (h2 : ja < jb) :
  MetFree l yN40 (head1 (Jvm.Cond.code yN40 jdk_41_method_11_code 3 (some .int) :: ws) ({ frames := 0, cells := 0, slots := 0, locals := 0 } : Room)) (fun aa U => aa = #[(.int ja), (.int jb), vf] ∧ Z.Warmed39 U.vm ∧ U.heap = h0) (fun _ _ _ _ _ => True) (fun _ U o U' => ∃ v L, o = .returned v ∧ QHka Z ja jb vf h0 n0 v U'.heap L ∧ FrameEnd U o U' L ({ frames := 0, cells := 0, slots := 0, locals := 0 } : Room).cells ({ frames := 0, cells := 0, slots := 0, locals := 0 } : Room).slots) := by
 refine MetFree.of_bodySF (plainFor_of_name pn_10) hisR ?_
 intro p e s m args below meth c s₁ Bd hml0 hP hK
 obtain ⟨rfl, hZ, hh⟩ := hP
 have hx := Bd.exec
 have hby := Bd.bytes
 have hml : c.maxLocals = 3 := hml0
 have hown : s.vm.findClass "jdk/internal/util/Preconditions" = some m.cls := findClass_of_methodNamed Bd.named
 have hnm := (name_of_methodNamed Bd.named Bd.method).1
 have X0 : Stand p l e ({ frames := 0, cells := 0, slots := 0, locals := 0 } : Room) s m #[(.int ja), (.int jb), vf] below meth c s₁ [] 0 0 := Stand.of_body Bd
 have e0 : s₁.heap = h0 := by rw [← hh, Bd.state]; rfl
 have N0 := Fr.nil n0
 have K0 := Keep.refl h0 []
 have ef : entryFrame m #[(.int ja), (.int jb), vf] 3 = mkF m 0 #[vi ja, vi jb, .val vf] [] := (by rcases ref_cases hvf with rfl | ⟨_, rfl⟩ <;> rfl)
 rw [ef]
 refine fin_of fun Kx hF => ?_
 show Go p.tables e below Kx _ (mkF m 0 _ [])
 refine s_iloadN (pc' := 1) X0.here hx (hb hby d41_11_0) rfl rfl ?_
 refine s_ifN (pc' := 4) X0.here hx (hb hby d41_11_1) rfl ((if0 _ _).trans (flt h1).1) ?_
 refine s_iloadN (pc' := 5) X0.here hx (hb hby d41_11_4) rfl rfl ?_
 refine s_iloadN (pc' := 6) X0.here hx (hb hby d41_11_5) rfl rfl ?_
 refine s_icmpY (pc' := 16) X0.here hx (hb hby d41_11_6) (tlt h2).1 (by decide) (by decide) ?_
 refine s_iloadN (pc' := 17) X0.here hx (hb hby d41_11_16) rfl rfl ?_
 obtain ⟨fs, hr, hrun, hended, hW, hsame⟩ := X0.leave (v := (some (.int ja))) (fun h => by rw [Bd.returns] at h; cases h)
 refine Go.fin (retI X0 hx Bd.returns (hb hby d41_11_17) hr) (hF _ _ hrun hended ⟨_, _, rfl, ?_, ⟨_, rfl⟩, hW, hsame.mono (by decide) (by decide)⟩)
 ·
  show QHka Z ja jb vf h0 n0 ((some (.int ja)) : Option Value) s₁.heap _
  rw [e0]
  exact ⟨rfl, N0, rfl⟩
theorem pd_27 : parseMethodDescriptor "(IILjava/util/function/BiFunction;)I" = some ⟨[.int, .int, (.object "java/util/function/BiFunction")], some .int⟩ := by decide +kernel
theorem d42_155_5 : decode jdk_42_method_155_code 5 = .ok (.invokestatic 1059, 3) := by decide +kernel
theorem d42_155_8 : decode jdk_42_method_155_code 8 = .ok (.pop, 1) := by decide +kernel
theorem d42_155_9 : decode jdk_42_method_155_code 9 = .ok (.return_, 1) := by decide +kernel
def QHkb (Z : State) (ja jb : Int32) (h0 : Heap) (n0 : Nat) (v : Option Value) (h : Heap) (L : List Loc) : Prop := v = none ∧ Fr n0 L ∧ h = h0
theorem rmHkb (l : Launch) (Z : State) (a0 : Array Value) (hw : ∀ d ∈ tables_1, d.before a0 Z = true) (ws : List Jvm.Cond) (ja jb : Int32) (h0 : Heap) (n0 : Nat) (X00 : Old Z n0 h0) (vf : Value) (hvf : vf.isRef = true) (SFm : Sta Z Z.heap "jdk/internal/util/Preconditions" "SIOOBE_FORMATTER" "Ljava/util/function/BiFunction;" vf) (h1 : ¬ ja < 0) (h2 : ja < jb) :
  MetFree l yN24 (head1 (Jvm.Cond.code yN24 jdk_42_method_155_code 2 none :: ws) ({ frames := 1, cells := 0, slots := 0, locals := 14 } : Room)) (fun aa U => aa = #[(.int ja), (.int jb)] ∧ Z.Warmed39 U.vm ∧ U.heap = h0) (fun _ _ _ _ _ => True) (fun _ U o U' => ∃ v L, o = .returned v ∧ QHkb Z ja jb h0 n0 v U'.heap L ∧ FrameEnd U o U' L ({ frames := 1, cells := 0, slots := 0, locals := 14 } : Room).cells ({ frames := 1, cells := 0, slots := 0, locals := 14 } : Room).slots) := by
 refine MetFree.of_bodySF (plainFor_of_name pn_5) hisR ?_
 intro p e s m args below meth c s₁ Bd hml0 hP hK
 obtain ⟨rfl, hZ, hh⟩ := hP
 have hx := Bd.exec
 have hby := Bd.bytes
 have hml : c.maxLocals = 2 := hml0
 have hown : s.vm.findClass "java/lang/String" = some m.cls := findClass_of_methodNamed Bd.named
 have hnm := (name_of_methodNamed Bd.named Bd.method).1
 have X0 : Stand p l e ({ frames := 1, cells := 0, slots := 0, locals := 14 } : Room) s m #[(.int ja), (.int jb)] below meth c s₁ [] 0 0 := Stand.of_body Bd
 have e0 : s₁.heap = h0 := by rw [← hh, Bd.state]; rfl
 have N0 := Fr.nil n0
 have K0 := Keep.refl h0 []
 have ef : entryFrame m #[(.int ja), (.int jb)] 2 = mkF m 0 #[vi ja, vi jb] [] := by first | (simp [entryFrame, mkF, argsToLocals, Value.category]; done) | rfl
 rw [ef]
 refine fin_of fun Kx hF => ?_
 show Go p.tables e below Kx _ (mkF m 0 _ [])
 refine s_iloadN (pc' := 1) X0.here hx (hb hby d42_155_0) rfl rfl ?_
 refine s_iloadN (pc' := 2) X0.here hx (hb hby d42_155_1) rfl rfl ?_
 obtain ⟨T427, X427, e427, st427⟩ := getS2 X0 hx hZ hown (host := "") (Or.inl (hv hw 215 rfl)) Via.refl e0 (SFm.ext X00.2) (g := (mkF m 2 #[vi ja, vi jb] [(.int jb), (.int ja)])) rfl (hb hby d42_155_2)
 refine Go.st st427 ?_
 show Go p.tables e below Kx _ (mkF m 5 _ [vf, (.int jb), (.int ja)])
 obtain ⟨_, T428, L428, X428, hQ428, st428⟩ := kS X427 hx hZ (y := yN40) hown (hv hw 217 rfl) (hv hw 218 rfl) (hv hw 216 rfl) (hv hw 219 rfl) (by decide) (rmHka l Z a0 hw [] ja jb vf h0 n0 X00 hvf h1 h2) e427 (W := 0) (g := (mkF m 5 #[vi ja, vi jb] [vf, (.int jb), (.int ja)])) rfl (by rw [hml]; rfl) (argsL := [(.int ja), (.int jb), vf]) (rest := []) (lenOf pd_27 rfl) rfl (by exact Nat.le_of_eq rfl) (hb hby d42_155_5) rfl (nb rfl) (nb rfl) (nb rfl) (nb rfl)
 obtain ⟨rfl, Nq428, hE428⟩ := hQ428
 have N428 := Fr.app N0 Nq428
 refine Go.st st428 ?_
 show Go p.tables e below Kx _ (mkF m 8 _ [(.int ja)])
 refine s_pop (pc' := 9) X428.here hx (hb hby d42_155_8) rfl rfl ?_
 obtain ⟨fs, hr, hrun, hended, hW, hsame⟩ := X428.leave (v := none) (fun _ => rfl)
 refine Go.fin (X428.returnOut hx Bd.returns (hb hby d42_155_9) hr) (hF _ _ hrun hended ⟨_, _, rfl, ?_, ⟨_, rfl⟩, hW, hsame.mono (by decide) (by decide)⟩)
 ·
  show QHkb Z ja jb h0 n0 (none : Option Value) T428.heap _
  rw [hE428]
  exact ⟨rfl, N428, rfl⟩
theorem d43_2_3 : decode jdk_43_method_2_code 3 = .ok (.invokestatic 9, 3) := by decide +kernel
theorem d43_2_6 : decode jdk_43_method_2_code 6 = .ok (.aload_n 0, 1) := by decide +kernel
theorem d43_2_7 : decode jdk_43_method_2_code 7 = .ok (.iload_n 1, 1) := by decide +kernel
theorem d43_2_8 : decode jdk_43_method_2_code 8 = .ok (.baload, 1) := by decide +kernel
theorem d43_2_9 : decode jdk_43_method_2_code 9 = .ok (.sipush 255, 3) := by decide +kernel
theorem d43_2_12 : decode jdk_43_method_2_code 12 = .ok (.iand, 1) := by decide +kernel
theorem d43_2_13 : decode jdk_43_method_2_code 13 = .ok (.i2c, 1) := by decide +kernel
theorem d43_2_14 : decode jdk_43_method_2_code 14 = .ok (.ireturn, 1) := by decide +kernel
def QHc0 (Z : State) (xt : Addr) (kt : ClassId) (us : List Int32) (jj : Int32) (h0 : Heap) (n0 : Nat) (v : Option Value) (h : Heap) (L : List Loc) : Prop := v = some (.int ((atg us jj) &&& 255)) ∧ Fr n0 L ∧ h = h0
theorem rmHc0 (l : Launch) (Z : State) (a0 : Array Value) (hw : ∀ d ∈ tables_1, d.before a0 Z = true) (ws : List Jvm.Cond) (xt : Addr) (kt : ClassId) (us : List Int32) (jj : Int32) (h0 : Heap) (n0 : Nat) (X00 : Old Z n0 h0) (vf : Value) (hvf : vf.isRef = true) (SFm : Sta Z Z.heap "jdk/internal/util/Preconditions" "SIOOBE_FORMATTER" "Ljava/util/function/BiFunction;" vf) (Axt : Arv Z h0 xt kt .byte (Int32.ofNat us.length) (us.map Value.int) (.int 0)) (h1 : ¬ jj < 0) (h2 : jj < (Int32.ofNat us.length)) (hus : us.length ≤ 4000) :
  MetFree l yN34 (head1 (Jvm.Cond.code yN34 jdk_43_method_2_code 2 (some .char) :: ws) ({ frames := 2, cells := 0, slots := 0, locals := 27 } : Room)) (fun aa U => aa = #[(.ref xt), (.int jj)] ∧ Z.Warmed39 U.vm ∧ U.heap = h0) (fun _ _ _ _ _ => True) (fun _ U o U' => ∃ v L, o = .returned v ∧ QHc0 Z xt kt us jj h0 n0 v U'.heap L ∧ FrameEnd U o U' L ({ frames := 2, cells := 0, slots := 0, locals := 27 } : Room).cells ({ frames := 2, cells := 0, slots := 0, locals := 27 } : Room).slots) := by
 refine MetFree.of_bodySF (plainFor_of_name pn_9) hisR ?_
 intro p e s m args below meth c s₁ Bd hml0 hP hK
 obtain ⟨rfl, hZ, hh⟩ := hP
 have hx := Bd.exec
 have hby := Bd.bytes
 have hml : c.maxLocals = 2 := hml0
 have hown : s.vm.findClass "java/lang/StringLatin1" = some m.cls := findClass_of_methodNamed Bd.named
 have hnm := (name_of_methodNamed Bd.named Bd.method).1
 have X0 : Stand p l e ({ frames := 2, cells := 0, slots := 0, locals := 27 } : Room) s m #[(.ref xt), (.int jj)] below meth c s₁ [] 0 0 := Stand.of_body Bd
 have e0 : s₁.heap = h0 := by rw [← hh, Bd.state]; rfl
 have N0 := Fr.nil n0
 have K0 := Keep.refl h0 []
 have ef : entryFrame m #[(.ref xt), (.int jj)] 2 = mkF m 0 #[vr xt, vi jj] [] := by first | (simp [entryFrame, mkF, argsToLocals, Value.category]; done) | rfl
 rw [ef]
 refine fin_of fun Kx hF => ?_
 show Go p.tables e below Kx _ (mkF m 0 _ [])
 refine s_iloadN (pc' := 1) X0.here hx (hb hby d43_2_0) rfl rfl ?_
 refine s_aloadN (pc' := 2) X0.here hx (hb hby d43_2_1) rfl rfl rfl ?_
 obtain ⟨cl426, Ar426, Aq426, As426, An426, Ah426, Ag426⟩ := id Axt
 refine Go.st (X0.arraylength hx (by rw [e0]; exact Ar426.1) (State.isArrayOf_alike hZ.alike Ar426.2.1) (g := (mkF m 2 #[vr xt, vi jj] [(.ref xt), (.int jj)])) rfl rfl (hb hby d43_2_2)) ?_
 rw [len_of As426 An426]
 show Go p.tables e below Kx _ (mkF m 3 _ [(.int (Int32.ofNat us.length)), (.int jj)])
 obtain ⟨_, T429, L429, X429, hQ429, st429⟩ := kS X0 hx hZ (y := yN24) hown (hv hw 212 rfl) (hv hw 213 rfl) (hv hw 2 rfl) (hv hw 214 rfl) (by decide) (rmHkb l Z a0 hw [] jj (Int32.ofNat us.length) h0 n0 X00 vf hvf SFm h1 h2) e0 (W := 0) (g := (mkF m 3 #[vr xt, vi jj] [(.int (Int32.ofNat us.length)), (.int jj)])) rfl (by rw [hml]; rfl) (argsL := [(.int jj), (.int (Int32.ofNat us.length))]) (rest := []) (lenOf pd_20 rfl) rfl (by exact Nat.le_of_eq rfl) (hb hby d43_2_3) rfl (nb rfl) (nb rfl) (nb rfl) (nb rfl)
 obtain ⟨rfl, Nq429, hE429⟩ := hQ429
 have N429 := Fr.app N0 Nq429
 refine Go.st st429 ?_
 show Go p.tables e below Kx _ (mkF m 6 _ [])
 refine s_aloadN (pc' := 7) X429.here hx (hb hby d43_2_6) rfl rfl rfl ?_
 refine s_iloadN (pc' := 8) X429.here hx (hb hby d43_2_7) rfl rfl ?_
 obtain ⟨cl430, Ar430, Aq430, As430, An430, Ah430, Ag430⟩ := id Axt
 have in431 := inb_of (j := jj) As430 ⟨h1, h2⟩
 have at431 : cl430.slots[(jj).toNatClampNeg]? = some (.int (atg us jj)) := Ah430.at in431 (atg_B h1 h2 hus _)
 refine Go.st (X429.baloadBytes hx (j := jj) (v := (.int (atg us jj))) (by rw [hE429]; exact Ar430.1) (State.isArrayOf_alike hZ.alike Ar430.2.1) Ar430.2.2 in431 at431 (g := (mkF m 8 #[vr xt, vi jj] [(.int jj), (.ref xt)])) rfl rfl (hb hby d43_2_8)) ?_
 show Go p.tables e below Kx _ (mkF m 9 _ [(.int (atg us jj))])
 refine s_sipush (pc' := 12) (v := 255) X429.here hx (hb hby d43_2_9) rfl rfl ?_
 refine s_iand (pc' := 13) X429.here hx (hb hby d43_2_12) rfl rfl ?_
 have ch432 := chr_mask (atg us jj)
 refine s_i2c (pc' := 14) (z := ((atg us jj) &&& 255)) X429.here hx (hb hby d43_2_13) rfl (chr_i2c ch432) ?_
 obtain ⟨fs, hr, hrun, hended, hW, hsame⟩ := X429.leave (v := (some (.int (nar .char ((atg us jj) &&& 255))))) (fun h => by rw [Bd.returns] at h; cases h)
 refine Go.fin (retN X429 hx (t := .char) Bd.returns (by simp) (hb hby d43_2_14) hr) (hF _ _ hrun hended ⟨_, _, rfl, ?_, ⟨_, rfl⟩, hW, hsame.mono (by decide) (by decide)⟩)
 ·
  show QHc0 Z xt kt us jj h0 n0 ((some (.int (nar .char ((atg us jj) &&& 255)))) : Option Value) T429.heap _
  rw [hE429]
  exact ⟨congrArg (fun z => some (Value.int z)) (chr_nar (chr_mask _)), N429, rfl⟩
theorem pd_28 : parseMethodDescriptor "([BI)C" = some ⟨[(.array .byte), .int], some .char⟩ := by decide +kernel
theorem d42_56_12 : decode jdk_42_method_56_code 12 = .ok (.invokestatic 495, 3) := by decide +kernel
theorem d42_56_15 : decode jdk_42_method_56_code 15 = .ok (.ireturn, 1) := by decide +kernel
def QHc1 (Z : State) (xy yb : Addr) (ky : ClassId) (us : List Int32) (jj : Int32) (h0 : Heap) (n0 : Nat) (v : Option Value) (h : Heap) (L : List Loc) : Prop := v = some (.int ((atg us jj) &&& 255)) ∧ Fr n0 L ∧ h = h0
theorem rmHc1 (l : Launch) (Z : State) (a0 : Array Value) (hw : ∀ d ∈ tables_1, d.before a0 Z = true) (ws : List Jvm.Cond) (xy yb : Addr) (ky : ClassId) (us : List Int32) (jj : Int32) (h0 : Heap) (n0 : Nat) (X00 : Old Z n0 h0) (G1 : Int32) (S1 : Sta Z Z.heap "java/lang/String" "COMPACT_STRINGS" "Z" (.int G1)) (P1 : ¬ G1 = 0) (vf : Value) (hvf : vf.isRef = true) (SFm : Sta Z Z.heap "jdk/internal/util/Preconditions" "SIOOBE_FORMATTER" "Ljava/util/function/BiFunction;" vf) (Exy : Exa Z h0 xy "java/lang/String") (Cxy : Fld Z h0 xy "java/lang/String" "coder" "B" (.int 0)) (Vxy : Fld Z h0 xy "java/lang/String" "value" "[B" (.ref yb)) (Axy : Arv Z h0 yb ky .byte (Int32.ofNat us.length) (us.map Value.int) (.int 0)) (h1 : ¬ jj < 0) (h2 : jj < (Int32.ofNat us.length)) (hus : us.length ≤ 4000) :
  MetFree l yN23 (head1 (Jvm.Cond.code yN23 jdk_42_method_56_code 2 (some .char) :: ws) ({ frames := 3, cells := 0, slots := 0, locals := 40 } : Room)) (fun aa U => aa = #[(.ref xy), (.int jj)] ∧ Z.Warmed39 U.vm ∧ U.heap = h0) (fun _ _ _ _ _ => True) (fun _ U o U' => ∃ v L, o = .returned v ∧ QHc1 Z xy yb ky us jj h0 n0 v U'.heap L ∧ FrameEnd U o U' L ({ frames := 3, cells := 0, slots := 0, locals := 40 } : Room).cells ({ frames := 3, cells := 0, slots := 0, locals := 40 } : Room).slots) := by
 refine MetFree.of_bodySF (plainFor_of_name pn_5) hisR ?_
 intro p e s m args below meth c s₁ Bd hml0 hP hK
 obtain ⟨rfl, hZ, hh⟩ := hP
 have hx := Bd.exec
 have hby := Bd.bytes
 have hml : c.maxLocals = 2 := hml0
 have hown : s.vm.findClass "java/lang/String" = some m.cls := findClass_of_methodNamed Bd.named
 have hnm := (name_of_methodNamed Bd.named Bd.method).1
 have X0 : Stand p l e ({ frames := 3, cells := 0, slots := 0, locals := 40 } : Room) s m #[(.ref xy), (.int jj)] below meth c s₁ [] 0 0 := Stand.of_body Bd
 have e0 : s₁.heap = h0 := by rw [← hh, Bd.state]; rfl
 have N0 := Fr.nil n0
 have K0 := Keep.refl h0 []
 have ef : entryFrame m #[(.ref xy), (.int jj)] 2 = mkF m 0 #[vr xy, vi jj] [] := by first | (simp [entryFrame, mkF, argsToLocals, Value.category]; done) | rfl
 rw [ef]
 refine fin_of fun Kx hF => ?_
 show Go p.tables e below Kx _ (mkF m 0 _ [])
 refine s_aloadN (pc' := 1) X0.here hx (hb hby d42_56_0) rfl rfl rfl ?_
 obtain ⟨_, T424, L424, X424, hQ424, st424⟩ := kV X0 hx hZ (y := yN27) hown (hv hw 203 rfl) (hv hw 204 rfl) (notFace_of_selects (args := #[]) (mvT hZ (hv hw 206 rfl))) (hv hw 206 rfl) (hv hw 205 rfl) (hv hw 2 rfl) (hv hw 207 rfl) (by decide) (rmKil l Z a0 hw [] xy h0 n0 X00 G1 S1 P1 Cxy) e0 Exy (W := 0) (g := (mkF m 1 #[vr xy, vi jj] [(.ref xy)])) rfl (by rw [hml]; rfl) (argsL := []) (rest := []) (lenOf pd_12 rfl) rfl (by exact Nat.le_of_eq rfl) (hb hby d42_56_1) rfl (nb rfl) (nb rfl) (nb rfl) (nb rfl)
 obtain ⟨rfl, Nq424, hE424⟩ := hQ424
 have N424 := Fr.app N0 Nq424
 refine Go.tr st424 ?_
 show Go p.tables e below Kx _ (mkF m 4 _ [(.int 1)])
 refine s_ifN (pc' := 7) X424.here hx (hb hby d42_56_4) rfl ((if0 _ _).trans (feq (by decide)).1) ?_
 refine s_aloadN (pc' := 8) X424.here hx (hb hby d42_56_7) rfl rfl rfl ?_
 obtain ⟨T425, X425, e425, st425⟩ := getF X424 hx hZ hown (host := "") (Or.inl (hv hw 28 rfl)) Via.refl hE424 Vxy (g := (mkF m 8 #[vr xy, vi jj] [(.ref xy)])) rfl rfl (hb hby d42_56_8)
 refine Go.st st425 ?_
 show Go p.tables e below Kx _ (mkF m 11 _ [(.ref yb)])
 refine s_iloadN (pc' := 12) X425.here hx (hb hby d42_56_11) rfl rfl ?_
 obtain ⟨_, T433, L433, X433, hQ433, st433⟩ := kS X425 hx hZ (y := yN34) hown (hv hw 208 rfl) (hv hw 209 rfl) (hv hw 210 rfl) (hv hw 211 rfl) (by decide) (rmHc0 l Z a0 hw [] yb ky us jj h0 n0 X00 vf hvf SFm Axy h1 h2 hus) e425 (W := 0) (g := (mkF m 12 #[vr xy, vi jj] [(.int jj), (.ref yb)])) rfl (by rw [hml]; rfl) (argsL := [(.ref yb), (.int jj)]) (rest := []) (lenOf pd_28 rfl) rfl (by exact Nat.le_of_eq rfl) (hb hby d42_56_12) rfl (nb rfl) (nb rfl) (nb rfl) (nb rfl)
 obtain ⟨rfl, Nq433, hE433⟩ := hQ433
 have N433 := Fr.app N424 Nq433
 refine Go.st st433 ?_
 show Go p.tables e below Kx _ (mkF m 15 _ [(.int ((atg us jj) &&& 255))])
 obtain ⟨fs, hr, hrun, hended, hW, hsame⟩ := X433.leave (v := (some (.int (nar .char ((atg us jj) &&& 255))))) (fun h => by rw [Bd.returns] at h; cases h)
 refine Go.fin (retN X433 hx (t := .char) Bd.returns (by simp) (hb hby d42_56_15) hr) (hF _ _ hrun hended ⟨_, _, rfl, ?_, ⟨_, rfl⟩, hW, hsame.mono (by decide) (by decide)⟩)
 ·
  show QHc1 Z xy yb ky us jj h0 n0 ((some (.int (nar .char ((atg us jj) &&& 255)))) : Option Value) T433.heap _
  rw [hE433]
  exact ⟨congrArg (fun z => some (Value.int z)) (chr_nar (chr_mask _)), N433, rfl⟩
theorem pd_29 : parseMethodDescriptor "(I)C" = some ⟨[.int], some .char⟩ := by decide +kernel
theorem d_m4_0 : decode method_4_code 0 = .ok (.iload 5, 2) := by decide +kernel
theorem d_m4_2 : decode method_4_code 2 = .ok (.iload_n 2, 1) := by decide +kernel
theorem d_m4_3 : decode method_4_code 3 = .ok (.if_icmp .lt 5, 3) := by decide +kernel
theorem d_m4_8 : decode method_4_code 8 = .ok (.aload_n 0, 1) := by decide +kernel
theorem d_m4_9 : decode method_4_code 9 = .ok (.iload_n 1, 1) := by decide +kernel
theorem d_m4_10 : decode method_4_code 10 = .ok (.iload_n 2, 1) := by decide +kernel
theorem d_m4_11 : decode method_4_code 11 = .ok (.iadd, 1) := by decide +kernel
theorem d_m4_12 : decode method_4_code 12 = .ok (.iconst 1, 1) := by decide +kernel
theorem d_m4_13 : decode method_4_code 13 = .ok (.isub, 1) := by decide +kernel
theorem d_m4_14 : decode method_4_code 14 = .ok (.iload 5, 2) := by decide +kernel
theorem d_m4_16 : decode method_4_code 16 = .ok (.isub, 1) := by decide +kernel
theorem d_m4_17 : decode method_4_code 17 = .ok (.invokevirtual 39, 3) := by decide +kernel
theorem d_m4_20 : decode method_4_code 20 = .ok (.ldc2_w 65, 3) := by decide +kernel
theorem d_m4_23 : decode method_4_code 23 = .ok (.lload_n 3, 1) := by decide +kernel
theorem d_m4_24 : decode method_4_code 24 = .ok (.lload 6, 2) := by decide +kernel
theorem d_m4_26 : decode method_4_code 26 = .ok (.ldiv, 1) := by decide +kernel
theorem d_m4_27 : decode method_4_code 27 = .ok (.ldc2_w 47, 3) := by decide +kernel
theorem d_m4_30 : decode method_4_code 30 = .ok (.lrem, 1) := by decide +kernel
theorem d_m4_31 : decode method_4_code 31 = .ok (.ladd, 1) := by decide +kernel
theorem d_m4_32 : decode method_4_code 32 = .ok (.l2i, 1) := by decide +kernel
theorem d_m4_33 : decode method_4_code 33 = .ok (.i2c, 1) := by decide +kernel
theorem d_m4_34 : decode method_4_code 34 = .ok (.if_icmp .ne 7, 3) := by decide +kernel
theorem d_m4_37 : decode method_4_code 37 = .ok (.iconst 1, 1) := by decide +kernel
theorem d_m4_38 : decode method_4_code 38 = .ok (.goto 4, 3) := by decide +kernel
theorem d_m4_42 : decode method_4_code 42 = .ok (.ireturn, 1) := by decide +kernel
theorem d_m4_6 : decode method_4_code 6 = .ok (.iconst 1, 1) := by decide +kernel
theorem d_m4_7 : decode method_4_code 7 = .ok (.ireturn, 1) := by decide +kernel
def QHdo (Z : State) (xy yb : Addr) (ky : ClassId) (us A : List Int32) (n K k : Nat) (ml pw : Int64) (h0 : Heap) (n0 : Nat) (v : Option Value) (h : Heap) (L : List Loc) : Prop := v = some (.int 1) ∧ Fr n0 L ∧ h = h0
theorem rmHdo (l : Launch) (Z : State) (a0 : Array Value) (hw : ∀ d ∈ tables_1, d.before a0 Z = true) (ws : List Jvm.Cond) (xy yb : Addr) (ky : ClassId) (us A : List Int32) (n K k : Nat) (ml pw : Int64) (h0 : Heap) (n0 : Nat) (X00 : Old Z n0 h0) (G1 : Int32) (S1 : Sta Z Z.heap "java/lang/String" "COMPACT_STRINGS" "Z" (.int G1)) (P1 : ¬ G1 = 0) (vf : Value) (hvf : vf.isRef = true) (SFm : Sta Z Z.heap "jdk/internal/util/Preconditions" "SIOOBE_FORMATTER" "Ljava/util/function/BiFunction;" vf) (Exy : Exa Z h0 xy "java/lang/String") (Cxy : Fld Z h0 xy "java/lang/String" "coder" "B" (.int 0)) (Vxy : Fld Z h0 xy "java/lang/String" "value" "[B" (.ref yb)) (Axy : Arv Z h0 yb ky .byte (Int32.ofNat us.length) (us.map Value.int) (.int 0)) (hq : us = A ++ suf n K ++ [(41 : Int32)]) (hm : ml.toInt = (n : Int)) (hp : pw.toInt = ((10 ^ k : Nat) : Int)) (hz : ¬ pw = 0) (hk : k ≤ 100) (hKK : K ≤ 100) (hA : A.length ≤ 100) :
  MetFree l yN2 (head1 (Jvm.Cond.code yN2 method_4_code 8 (some .boolean) :: ws) ({ frames := 4, cells := 0, slots := 0, locals := 53 } : Room)) (fun aa U => aa = #[(.ref xy), (.int (Int32.ofNat A.length)), (.int (Int32.ofNat K)), (.long ml), (.int (Int32.ofNat k)), (.long pw)] ∧ Z.Warmed39 U.vm ∧ U.heap = h0) (fun _ _ _ _ _ => True) (fun _ U o U' => ∃ v L, o = .returned v ∧ QHdo Z xy yb ky us A n K k ml pw h0 n0 v U'.heap L ∧ FrameEnd U o U' L ({ frames := 4, cells := 0, slots := 0, locals := 53 } : Room).cells ({ frames := 4, cells := 0, slots := 0, locals := 53 } : Room).slots) := by
 refine MetFree.of_bodySF (plainFor_of_name pn_0) hisR ?_
 intro p e s m args below meth c s₁ Bd hml0 hP hK
 obtain ⟨rfl, hZ, hh⟩ := hP
 have hx := Bd.exec
 have hby := Bd.bytes
 have hml : c.maxLocals = 8 := hml0
 have hown : s.vm.findClass "com/example/syndica/syndica/TermCitedPinLaw" = some m.cls := findClass_of_methodNamed Bd.named
 have hnm := (name_of_methodNamed Bd.named Bd.method).1
 have X0 : Stand p l e ({ frames := 4, cells := 0, slots := 0, locals := 53 } : Room) s m #[(.ref xy), (.int (Int32.ofNat A.length)), (.int (Int32.ofNat K)), (.long ml), (.int (Int32.ofNat k)), (.long pw)] below meth c s₁ [] 0 0 := Stand.of_body Bd
 have e0 : s₁.heap = h0 := by rw [← hh, Bd.state]; rfl
 have N0 := Fr.nil n0
 have K0 := Keep.refl h0 []
 have ef : entryFrame m #[(.ref xy), (.int (Int32.ofNat A.length)), (.int (Int32.ofNat K)), (.long ml), (.int (Int32.ofNat k)), (.long pw)] 8 = mkF m 0 #[vr xy, .val (.int (Int32.ofNat A.length)), .val (.int (Int32.ofNat K)), .val (.long ml), sn, .val (.int (Int32.ofNat k)), .val (.long pw), sn] [] := by first | (simp [entryFrame, mkF, argsToLocals, Value.category]; done) | rfl
 rw [ef]
 refine fin_of fun Kx hF => ?_
 show Go p.tables e below Kx _ (mkF m 0 _ [])
 have hlen : us.length = A.length + K + 1 := by rw [hq, List.length_append, List.length_append, suf_len]; rfl
 have hus4 : us.length ≤ 4000 := by omega
 show Go p.tables e below Kx _ (mkF m 0 _ [])
 refine s_iload (pc' := 2) X0.here hx (hb hby d_m4_0) rfl rfl ?_
 refine s_iloadN (pc' := 3) X0.here hx (hb hby d_m4_2) rfl rfl ?_
 by_cases hc449 : (Int32.ofNat k) < (Int32.ofNat K)
 ·
  refine s_icmpY (pc' := 8) X0.here hx (hb hby d_m4_3) (tlt hc449).1 (by decide) (by decide) ?_
  have hkK := lt_ofn hc449 hk hKK
  refine s_aloadN (pc' := 9) X0.here hx (hb hby d_m4_8) rfl rfl rfl ?_
  refine s_iloadN (pc' := 10) X0.here hx (hb hby d_m4_9) rfl rfl ?_
  refine s_iloadN (pc' := 11) X0.here hx (hb hby d_m4_10) rfl rfl ?_
  refine s_iadd (pc' := 12) X0.here hx (hb hby d_m4_11) rfl rfl ?_
  refine s_iconst (pc' := 13) (v := 1) X0.here hx (hb hby d_m4_12) rfl rfl ?_
  refine s_isub (pc' := 14) X0.here hx (hb hby d_m4_13) rfl rfl ?_
  refine s_iload (pc' := 16) X0.here hx (hb hby d_m4_14) rfl rfl ?_
  refine s_isub (pc' := 17) (z := (Int32.ofNat (A.length + (K - 1 - k)))) X0.here hx (hb hby d_m4_16) rfl (ixd hkK) ?_
  obtain ⟨_, T450, L450, X450, hQ450, st450⟩ := kV X0 hx hZ (y := yN23) hown (hv hw 198 rfl) (hv hw 199 rfl) (notFace_of_selects (args := #[]) (mvT hZ (hv hw 201 rfl))) (hv hw 201 rfl) (hv hw 200 rfl) (hv hw 2 rfl) (hv hw 202 rfl) (by decide) (rmHc1 l Z a0 hw [] xy yb _ us (Int32.ofNat (A.length + (K - 1 - k))) h0 n0 X00 G1 S1 P1 vf hvf SFm Exy Cxy Vxy Axy (inN (c := A.length + (K - 1 - k)) (N := us.length) (by omega) hus4).1 (inN (c := A.length + (K - 1 - k)) (N := us.length) (by omega) hus4).2 hus4) e0 Exy (W := 0) (g := (mkF m 17 #[vr xy, .val (.int (Int32.ofNat A.length)), .val (.int (Int32.ofNat K)), .val (.long ml), sn, .val (.int (Int32.ofNat k)), .val (.long pw), sn] [(.int (Int32.ofNat (A.length + (K - 1 - k)))), (.ref xy)])) rfl (by rw [hml]; rfl) (argsL := [(.int (Int32.ofNat (A.length + (K - 1 - k))))]) (rest := []) (lenOf pd_29 rfl) rfl (by exact Nat.le_of_eq rfl) (hb hby d_m4_17) rfl (nb rfl) (nb rfl) (nb rfl) (nb rfl)
  obtain ⟨rfl, Nq450, hE450⟩ := hQ450
  have N450 := Fr.app N0 Nq450
  refine Go.tr st450 ?_
  show Go p.tables e below Kx _ (mkF m 20 _ [(.int ((atg us (Int32.ofNat (A.length + (K - 1 - k)))) &&& 255))])
  refine Go.st (X450.ldc2Long hx hown (mvT hZ (hv hw 223 rfl)) (g := (mkF m 20 #[vr xy, .val (.int (Int32.ofNat A.length)), .val (.int (Int32.ofNat K)), .val (.long ml), sn, .val (.int (Int32.ofNat k)), .val (.long pw), sn] [(.int ((atg us (Int32.ofNat (A.length + (K - 1 - k)))) &&& 255))])) rfl (hb hby d_m4_20)) ?_
  show Go p.tables e below Kx _ (mkF m 23 _ [(.long (48 : Int64)), (.int ((atg us (Int32.ofNat (A.length + (K - 1 - k)))) &&& 255))])
  refine s_lloadN (pc' := 24) X450.here hx (hb hby d_m4_23) rfl rfl ?_
  refine s_lload (pc' := 26) X450.here hx (hb hby d_m4_24) rfl rfl ?_
  refine s_ldiv (pc' := 27) X450.here hx (hb hby d_m4_26) rfl hz rfl ?_
  refine Go.st (X450.ldc2Long hx hown (mvT hZ (hv hw 196 rfl)) (g := (mkF m 27 #[vr xy, .val (.int (Int32.ofNat A.length)), .val (.int (Int32.ofNat K)), .val (.long ml), sn, .val (.int (Int32.ofNat k)), .val (.long pw), sn] [(.long (ml / pw)), (.long (48 : Int64)), (.int ((atg us (Int32.ofNat (A.length + (K - 1 - k)))) &&& 255))])) rfl (hb hby d_m4_27)) ?_
  show Go p.tables e below Kx _ (mkF m 30 _ [(.long (10 : Int64)), (.long (ml / pw)), (.long (48 : Int64)), (.int ((atg us (Int32.ofNat (A.length + (K - 1 - k)))) &&& 255))])
  refine s_lrem (pc' := 31) X450.here hx (hb hby d_m4_30) rfl (by decide) rfl ?_
  refine s_ladd (pc' := 32) X450.here hx (hb hby d_m4_31) rfl rfl ?_
  refine s_l2i (pc' := 33) X450.here hx (hb hby d_m4_32) rfl rfl ?_
  refine s_i2c (pc' := 34) (z := (dig n k)) X450.here hx (hb hby d_m4_33) rfl (dgv hm hp) ?_
  refine s_icmpN (pc' := 37) X450.here hx (hb hby d_m4_34) rfl (teq (by show ((us.getD _ 0) &&& 255) = _; rw [at_dig hq hkK (by omega), dig_m])).2 ?_
  refine s_iconst (pc' := 38) (v := 1) X450.here hx (hb hby d_m4_37) rfl rfl ?_
  refine s_goto (pc' := 42) X450.here hx (hb hby d_m4_38) (by decide) (by decide) ?_
  obtain ⟨fs, hr, hrun, hended, hW, hsame⟩ := X450.leave (v := (some (.int 1))) (fun h => by rw [Bd.returns] at h; cases h)
  refine Go.fin (retN X450 hx (t := .boolean) Bd.returns (by simp) (hb hby d_m4_42) hr) (hF _ _ hrun hended ⟨_, _, rfl, ?_, ⟨_, rfl⟩, hW, hsame.mono (by decide) (by decide)⟩)
  ·
   show QHdo Z xy yb ky us A n K k ml pw h0 n0 ((some (.int 1)) : Option Value) T450.heap _
   rw [hE450]
   exact ⟨rfl, N450, rfl⟩
 ·
  refine s_icmpN (pc' := 6) X0.here hx (hb hby d_m4_3) rfl (flt hc449).1 ?_
  refine s_iconst (pc' := 7) (v := 1) X0.here hx (hb hby d_m4_6) rfl rfl ?_
  obtain ⟨fs, hr, hrun, hended, hW, hsame⟩ := X0.leave (v := (some (.int 1))) (fun h => by rw [Bd.returns] at h; cases h)
  refine Go.fin (retN X0 hx (t := .boolean) Bd.returns (by simp) (hb hby d_m4_7) hr) (hF _ _ hrun hended ⟨_, _, rfl, ?_, ⟨_, rfl⟩, hW, hsame.mono (by decide) (by decide)⟩)
  ·
   show QHdo Z xy yb ky us A n K k ml pw h0 n0 ((some (.int 1)) : Option Value) s₁.heap _
   rw [e0]
   exact ⟨rfl, N0, rfl⟩
theorem pd_30 : parseMethodDescriptor "(Ljava/lang/String;IIJIJ)Z" = some ⟨[(.object "java/lang/String"), .int, .int, .long, .int, .long], some .boolean⟩ := by decide +kernel
def QL (Z : State) (p0 p1 p2 : Int32) (h0 : Heap) (n0 : Nat) (v : Option Value) (h : Heap) (L : List Loc) : Prop := v = some (.int 1) ∧ Fr n0 L
theorem rmL (l : Launch) (Z : State) (a0 : Array Value) (hw : ∀ d ∈ tables_1, d.before a0 Z = true) (ws : List Jvm.Cond) (p0 p1 p2 : Int32) (h0 : Heap) (n0 : Nat) (X00 : Old Z n0 h0) (hEL : EW Z a0 consts_1) (wS : ∀ a ∈ Bundle.stringAtoms, a.before a0 Z = true) (G1 : Int32) (S1 : Sta Z Z.heap "java/lang/String" "COMPACT_STRINGS" "Z" (.int G1)) (P1 : ¬ G1 = 0) (vf : Value) (hvf : vf.isRef = true) (SFm : Sta Z Z.heap "jdk/internal/util/Preconditions" "SIOOBE_FORMATTER" "Ljava/util/function/BiFunction;" vf) (xo xq : Addr) (ko kq : ClassId) (SO : Sta Z Z.heap "java/lang/Integer" "DigitOnes" "[B" (.ref xo)) (SQ : Sta Z Z.heap "java/lang/Integer" "DigitTens" "[B" (.ref xq)) (AO : Arv Z Z.heap xo ko .byte 100 ONES (.int 0)) (AQ : Arv Z Z.heap xq kq .byte 100 TENS (.int 0)) :
  MetFree l x (head1 (Jvm.Cond.code x code maxLocals ret :: ws) room_1) (fun aa U => aa = #[(.int p0), (.int p1), (.int p2)] ∧ Z.Warmed39 U.vm ∧ U.heap = h0 ∧ CHv Z consts_1 U.vm h0) (fun _ _ _ _ _ => True) (fun _ U o U' => ∃ v L, o = .returned v ∧ QL Z p0 p1 p2 h0 n0 v U'.heap L ∧ CHr Z consts_1 U.vm U.heap U'.vm U'.heap ∧ ReturnedEndW U o U' L room_1.cells room_1.slots) := by
 refine MetFree.of_bodySF (plainFor_of_name pn_0) hisR ?_
 intro p e s m args below meth c s₁ Bd hml0 hP hK
 obtain ⟨rfl, hZ, hh, H0⟩ := hP
 have hx := Bd.exec
 have hby := Bd.bytes
 have hml : c.maxLocals = 16 := hml0
 have hown : s.vm.findClass "com/example/syndica/syndica/TermCitedPinLaw" = some m.cls := findClass_of_methodNamed Bd.named
 have hnm := (name_of_methodNamed Bd.named Bd.method).1
 have X0 : Stand p l e room_1 (s.setVm s.vm) m #[(.int p0), (.int p1), (.int p2)] below meth c s₁ [] 0 0 := Stand.of_body Bd
 have e0 : s₁.heap = h0 := by rw [← hh, Bd.state]; rfl
 have N0 := Fr.nil n0
 have K0 := Keep.refl h0 []
 have hS0 : s.Since s.vm h0.size := (State.WarmedH.refl s).since _
 have hk0 := Nat.le_refl h0.size
 have C0 : CHr Z consts_1 s.vm h0 s.vm h0 := CHr.refl H0
 have ef : entryFrame m #[(.int p0), (.int p1), (.int p2)] maxLocals = mkF m 0 #[vi p0, vi p1, vi p2, un, un, un, un, un, un, un, un, un, un, un, un, un] [] := by first | (simp [entryFrame, mkF, argsToLocals, Value.category, maxLocals]; done) | rfl
 rw [ef]
 refine fin_of fun Kx hF => ?_
 show Go p.tables e below Kx _ (mkF m 0 _ [])
 refine s_iloadN (pc' := 1) X0.here hx (hb hby at_0) rfl rfl ?_
 refine s_sipush (pc' := 4) (v := 255) X0.here hx (hb hby at_1) rfl rfl ?_
 refine s_iand (pc' := 5) X0.here hx (hb hby at_4) rfl rfl ?_
 have ch1 := chr_mask p0
 refine s_i2c (pc' := 6) (z := (p0 &&& 255)) X0.here hx (hb hby at_5) rfl (chr_i2c ch1) ?_
 have hva : ¬ (p0 &&& 255) < 0 ∧ ¬ 255 < (p0 &&& 255) := chr_mask p0
 revert hva
 generalize (p0 &&& 255) = va
 intro hva
 show Go p.tables e below Kx _ (mkF m 6 _ [(.int va)])
 refine s_istoreN (pc' := 7) (Ls' := #[vi p0, vi p1, vi p2, vi va, un, un, un, un, un, un, un, un, un, un, un, un]) X0.here hx (hb hby at_6) rfl  rfl ?_
 refine s_iloadN (pc' := 8) X0.here hx (hb hby at_7) rfl rfl ?_
 refine s_bipush (pc' := 10) (v := 8) X0.here hx (hb hby at_8) rfl rfl ?_
 refine s_iushr (pc' := 11) X0.here hx (hb hby at_10) rfl rfl ?_
 refine s_sipush (pc' := 14) (v := 255) X0.here hx (hb hby at_11) rfl rfl ?_
 refine s_iand (pc' := 15) X0.here hx (hb hby at_14) rfl rfl ?_
 have ch2 := chr_mask ((p0.toUInt32 >>> ((8 : Int32) &&& 31).toUInt32).toInt32)
 refine s_i2c (pc' := 16) (z := (((p0.toUInt32 >>> ((8 : Int32) &&& 31).toUInt32).toInt32) &&& 255)) X0.here hx (hb hby at_15) rfl (chr_i2c ch2) ?_
 have hvb : ¬ (((p0.toUInt32 >>> ((8 : Int32) &&& 31).toUInt32).toInt32) &&& 255) < 0 ∧ ¬ 255 < (((p0.toUInt32 >>> ((8 : Int32) &&& 31).toUInt32).toInt32) &&& 255) := chr_mask ((p0.toUInt32 >>> ((8 : Int32) &&& 31).toUInt32).toInt32)
 revert hvb
 generalize (((p0.toUInt32 >>> ((8 : Int32) &&& 31).toUInt32).toInt32) &&& 255) = vb
 intro hvb
 show Go p.tables e below Kx _ (mkF m 16 _ [(.int vb)])
 refine s_istore (pc' := 18) (Ls' := #[vi p0, vi p1, vi p2, vi va, vi vb, un, un, un, un, un, un, un, un, un, un, un]) X0.here hx (hb hby at_16) rfl  rfl ?_
 refine s_iloadN (pc' := 19) X0.here hx (hb hby at_18) rfl rfl ?_
 refine s_sipush (pc' := 22) (v := 255) X0.here hx (hb hby at_19) rfl rfl ?_
 refine s_iand (pc' := 23) X0.here hx (hb hby at_22) rfl rfl ?_
 have ch3 := chr_mask p1
 refine s_i2c (pc' := 24) (z := (p1 &&& 255)) X0.here hx (hb hby at_23) rfl (chr_i2c ch3) ?_
 have hsa : ¬ (p1 &&& 255) < 0 ∧ ¬ 255 < (p1 &&& 255) := chr_mask p1
 revert hsa
 generalize (p1 &&& 255) = sa
 intro hsa
 show Go p.tables e below Kx _ (mkF m 24 _ [(.int sa)])
 refine s_istore (pc' := 26) (Ls' := #[vi p0, vi p1, vi p2, vi va, vi vb, vi sa, un, un, un, un, un, un, un, un, un, un]) X0.here hx (hb hby at_24) rfl  rfl ?_
 refine s_iloadN (pc' := 27) X0.here hx (hb hby at_26) rfl rfl ?_
 refine s_bipush (pc' := 29) (v := 8) X0.here hx (hb hby at_27) rfl rfl ?_
 refine s_iushr (pc' := 30) X0.here hx (hb hby at_29) rfl rfl ?_
 refine s_sipush (pc' := 33) (v := 255) X0.here hx (hb hby at_30) rfl rfl ?_
 refine s_iand (pc' := 34) X0.here hx (hb hby at_33) rfl rfl ?_
 have ch4 := chr_mask ((p1.toUInt32 >>> ((8 : Int32) &&& 31).toUInt32).toInt32)
 refine s_i2c (pc' := 35) (z := (((p1.toUInt32 >>> ((8 : Int32) &&& 31).toUInt32).toInt32) &&& 255)) X0.here hx (hb hby at_34) rfl (chr_i2c ch4) ?_
 have hsc : ¬ (((p1.toUInt32 >>> ((8 : Int32) &&& 31).toUInt32).toInt32) &&& 255) < 0 ∧ ¬ 255 < (((p1.toUInt32 >>> ((8 : Int32) &&& 31).toUInt32).toInt32) &&& 255) := chr_mask ((p1.toUInt32 >>> ((8 : Int32) &&& 31).toUInt32).toInt32)
 revert hsc
 generalize (((p1.toUInt32 >>> ((8 : Int32) &&& 31).toUInt32).toInt32) &&& 255) = sc
 intro hsc
 show Go p.tables e below Kx _ (mkF m 35 _ [(.int sc)])
 refine s_istore (pc' := 37) (Ls' := #[vi p0, vi p1, vi p2, vi va, vi vb, vi sa, vi sc, un, un, un, un, un, un, un, un, un]) X0.here hx (hb hby at_35) rfl  rfl ?_
 obtain ⟨T5, h5, X5, e5, E5, A5, D5, -, st5⟩ := newO X0 hx hZ hown (hv hw 0 rfl) (hv hw 1 rfl) (hv hw 2 rfl) e0 (g := (mkF m 37 #[vi p0, vi p1, vi p2, vi va, vi vb, vi sa, vi sc, un, un, un, un, un, un, un, un, un] [])) rfl (hb hby at_37) (by decide) (by decide)
 obtain ⟨b5, g5⟩ : ∃ z, z = h0.size := ⟨_, rfl⟩
 rw [← g5] at A5 D5 st5
 have sz5 : h0.size ≤ b5 := Nat.le_trans K0.1 (Nat.le_of_eq g5.symm)
 have ge5 : n0 ≤ b5 := Nat.le_trans (X00.1 ▸ X00.2.1) (Nat.le_of_eq g5.symm)
 have sn5 : Safe Z consts_1 s.vm h0 b5 := Safe.new (Nat.le_of_eq g5.symm)
 have K5 : Keep h0 h5 [] := K0.ext E5
 have O5 : Old Z n0 h5 := X00.ext E5
 have sf6 : Safe Z consts_1 s.vm h5 b5 := (Safe.ext E5 H0 sn5)
 have H5 : CHv Z consts_1 s.vm h5 := H0.ext E5
 have C5 : CHr Z consts_1 s.vm h0 s.vm h5 := C0.trans (CHr.ext E5 H0)
 have hk5 := Nat.le_trans hk0 E5.1
 have F5_coder : Fld Z h5 b5 "java/lang/String" "coder" "B" (.int 0) := D5 (Or.inr (hv hw 27 rfl)) (ty := .byte) (by decide)
 have F5_value : Fld Z h5 b5 "java/lang/String" "value" "[B" .null := D5 (Or.inr (hv hw 29 rfl)) (ty := (.array .byte)) (by decide)
 refine Go.st st5 ?_
 show Go p.tables e below Kx _ (mkF m 40 _ [(.ref b5)])
 refine s_dup (pc' := 41) X5.here hx (hb hby at_40) rfl rfl ?_
 refine s_iconst (pc' := 42) (v := 2) X5.here hx (hb hby at_41) rfl rfl ?_
 obtain ⟨T7, h7, k7, X7, e7, E7, A7, st7⟩ := newP X5 hx hZ (hv hw 3 rfl) e5 (g := (mkF m 42 #[vi p0, vi p1, vi p2, vi va, vi vb, vi sa, vi sc, un, un, un, un, un, un, un, un, un] [(.int 2), (.ref b5), (.ref b5)])) rfl (hb hby at_42) rfl (by decide) (cap := 2) (by decide) (by decide) (by decide) (by decide)
 obtain ⟨b7, g7⟩ : ∃ z, z = h5.size := ⟨_, rfl⟩
 rw [← g7] at A7 st7
 have sz7 : h0.size ≤ b7 := Nat.le_trans K5.1 (Nat.le_of_eq g7.symm)
 have ge7 : n0 ≤ b7 := Nat.le_trans (O5.1 ▸ O5.2.1) (Nat.le_of_eq g7.symm)
 have sn7 : Safe Z consts_1 s.vm h5 b7 := Safe.new (Nat.le_of_eq g7.symm)
 have K7 : Keep h0 h7 [] := K5.ext E7
 have O7 : Old Z n0 h7 := O5.ext E7
 have sf8 : Safe Z consts_1 s.vm h7 b5 := (Safe.ext E7 H5 sf6)
 have sf9 : Safe Z consts_1 s.vm h7 b7 := (Safe.ext E7 H5 sn7)
 have H7 : CHv Z consts_1 s.vm h7 := H5.ext E7
 have C7 : CHr Z consts_1 s.vm h0 s.vm h7 := C5.trans (CHr.ext E7 H5)
 have hk7 := Nat.le_trans hk5 E7.1
 have V7 : Arv Z h7 b7 k7 .char 2 [(.int 0), (.int 0)] (.int 0) := (Arv.new A7 (by decide)).pad (pad_rep [] (.int 0) 2)
 refine Go.st st7 ?_
 show Go p.tables e below Kx _ (mkF m 44 _ [(.ref b7), (.ref b5), (.ref b5)])
 refine s_dup (pc' := 45) X7.here hx (hb hby at_44) rfl rfl ?_
 refine s_iconst (pc' := 46) (v := 0) X7.here hx (hb hby at_45) rfl rfl ?_
 refine s_iloadN (pc' := 47) X7.here hx (hb hby at_46) rfl rfl ?_
 obtain ⟨cl10, Ar10, Aq10, As10, An10, Ah10, Ag10⟩ := id V7
 have in11 := inb_of (j := 0) As10 (by decide)
 obtain ⟨T11, h11, X11, e11, W11, st11⟩ := stC X7 hx hZ e7 Ar10 (j := 0) in11 (g := (mkF m 47 #[vi p0, vi p1, vi p2, vi va, vi vb, vi sa, vi sc, un, un, un, un, un, un, un, un, un] [(.int va), (.int 0), (.ref b7), (.ref b7), (.ref b5), (.ref b5)])) rfl rfl (hb hby at_47)
 have V11 : Arv Z h11 b7 k7 .char 2 [(.int va), (.int 0)] (.int 0) := by
  have q := Arv.set Ar10 Aq10 As10 An10 Ah10 Ag10 (fits_nar_char _) W11 0 rfl (Nat.le_of_ble_eq_true rfl)
  rw [chr_nar hva] at q; exact q
 have K11 : Keep h0 h11 [] := K7.wr W11 (Or.inr sz7)
 have O11 : Old Z n0 h11 := O7.wr W11 ge7
 have sf12 : Safe Z consts_1 s.vm h11 b5 := (Safe.wr W11 sf9 H7 sf8)
 have sf13 : Safe Z consts_1 s.vm h11 b7 := (Safe.wr W11 sf9 H7 sf9)
 have H11 : CHv Z consts_1 s.vm h11 := H7.wr W11 sf9
 have C11 : CHr Z consts_1 s.vm h0 s.vm h11 := C7.trans (CHr.wr W11 sf9 H7)
 have hk11 := Nat.le_trans hk7 (Nat.le_of_eq W11.size.symm)
 have N11 := Fr.snoc X11 N0 ge7
 refine Go.st st11 ?_
 show Go p.tables e below Kx _ (mkF m 48 _ [(.ref b7), (.ref b5), (.ref b5)])
 refine s_dup (pc' := 49) X11.here hx (hb hby at_48) rfl rfl ?_
 refine s_iconst (pc' := 50) (v := 1) X11.here hx (hb hby at_49) rfl rfl ?_
 refine s_iload (pc' := 52) X11.here hx (hb hby at_50) rfl rfl ?_
 obtain ⟨cl14, Ar14, Aq14, As14, An14, Ah14, Ag14⟩ := id V11
 have in15 := inb_of (j := 1) As14 (by decide)
 obtain ⟨T15, h15, X15, e15, W15, st15⟩ := stC X11 hx hZ e11 Ar14 (j := 1) in15 (g := (mkF m 52 #[vi p0, vi p1, vi p2, vi va, vi vb, vi sa, vi sc, un, un, un, un, un, un, un, un, un] [(.int vb), (.int 1), (.ref b7), (.ref b7), (.ref b5), (.ref b5)])) rfl rfl (hb hby at_52)
 have V15 : Arv Z h15 b7 k7 .char 2 [(.int va), (.int vb)] (.int 0) := by
  have q := Arv.set Ar14 Aq14 As14 An14 Ah14 Ag14 (fits_nar_char _) W15 1 rfl (Nat.le_of_ble_eq_true rfl)
  rw [chr_nar hvb] at q; exact q
 have K15 : Keep h0 h15 [] := K11.wr W15 (Or.inr sz7)
 have O15 : Old Z n0 h15 := O11.wr W15 ge7
 have sf16 : Safe Z consts_1 s.vm h15 b5 := (Safe.wr W15 sf13 H11 sf12)
 have sf17 : Safe Z consts_1 s.vm h15 b7 := (Safe.wr W15 sf13 H11 sf13)
 have H15 : CHv Z consts_1 s.vm h15 := H11.wr W15 sf13
 have C15 : CHr Z consts_1 s.vm h0 s.vm h15 := C11.trans (CHr.wr W15 sf13 H11)
 have hk15 := Nat.le_trans hk11 (Nat.le_of_eq W15.size.symm)
 have N15 := Fr.snoc X15 N11 ge7
 refine Go.st st15 ?_
 show Go p.tables e below Kx _ (mkF m 53 _ [(.ref b7), (.ref b5), (.ref b5)])
 have f18 : Exa Z h15 b5 "java/lang/String" := (((A5.ext E7).wr W11).wr W15)
 have f19 : Fld Z h15 b5 "java/lang/String" "value" "[B" .null := (((F5_value.ext E7).other W11 (Or.inl (Nat.ne_of_lt (Nat.lt_of_lt_of_le A5.lt (Nat.le_of_eq g7.symm))))).other W15 (Or.inl (Nat.ne_of_lt (Nat.lt_of_lt_of_le A5.lt (Nat.le_of_eq g7.symm)))))
 have f20 : Fld Z h15 b5 "java/lang/String" "coder" "B" (.int 0) := (((F5_coder.ext E7).other W11 (Or.inl (Nat.ne_of_lt (Nat.lt_of_lt_of_le A5.lt (Nat.le_of_eq g7.symm))))).other W15 (Or.inl (Nat.ne_of_lt (Nat.lt_of_lt_of_le A5.lt (Nat.le_of_eq g7.symm)))))
 have hp21 : ∀ c ∈ ([va, vb] : List Int32), ¬ c < 0 ∧ ¬ 255 < c := by
  intro c hc
  simp only [List.mem_cons, List.not_mem_nil, or_false] at hc
  rcases hc with rfl | rfl
  ·
   exact hva
  ·
   exact hvb
 obtain ⟨_, _, ⟨T22, L22, k22, n22⟩, -, X22, ⟨Lc22, hQ22, l22, y22, z22⟩, st22⟩ := X15.specialBack hx (y := (⟨"java/lang/String", "<init>", "([C)V"⟩ : MethodName)) rfl hown (mvT hZ (hv hw 4 rfl)) (mvT hZ (hv hw 5 rfl)) (mvT hZ (hv hw 6 rfl)) (by decide) (StrChars.Road.backV (W := 1) hZ (hwsV Z a0 hw) (kI := 4) (hv hw 1 rfl) (cs := [va, vb]) (bs := ([va, vb] : List Int32).map (fun c => c.toInt8.toInt32)) (n := 2) ge5 (O15.1 ▸ O15.2.1) f18 f19 f20 V15 (S1.ext O15.2) P1 rfl rfl (by decide) (by decide) hp21 rfl (by decide) (by decide)) (g := (mkF m 53 #[vi p0, vi p1, vi p2, vi va, vi vb, vi sa, vi sc, un, un, un, un, un, un, un, un, un] [(.ref b7), (.ref b5), (.ref b5)])) rfl (by rw [hml]; rfl) (Steps.refl _) (a := b5) (argsL := [(.ref b7)]) (rest := [(.ref b5)]) (lenOf pd_0 rfl) rfl (by exact Nat.le_of_eq rfl) (hb hby at_53) (fun _ _ => ⟨rfl, e15, (by decide : 2 + 1 ≤ _), (by decide : 6 + 2 ≤ _)⟩)
 dsimp only [Pt.U, Pt.locs, Pt.cells, Pt.slots] at X22 l22 y22 z22 st22 hQ22
 rw [l22, y22, z22] at X22
 obtain ⟨rfl, Nq22, Kq22, q1_22, q2_22, t22, kt22, -, -, -, q3_22, q4_22⟩ := hQ22
 have N22 := Fr.app N15 Nq22
 have K22 : Keep h0 T22.heap [] := K15.trans Kq22 (allS (P := fun zz => zz ∈ [] ∨ h0.size ≤ zz) (Or.inr sz5) all0)
 have O22 : Old Z n0 T22.heap := O15.keep Kq22 (allS ge5 all0)
 have sf23 : Safe Z consts_1 s.vm T22.heap b5 := (Safe.keep Kq22 (sfS sf16 sf0) H15 sf16)
 have H22 : CHv Z consts_1 s.vm T22.heap := H15.keep Kq22 (sfS sf16 sf0)
 have C22 : CHr Z consts_1 s.vm h0 s.vm T22.heap := C15.trans (CHr.keep Kq22 (sfS sf16 sf0) H15)
 have hk22 := Nat.le_trans hk15 Kq22.1
 refine Go.tr st22 ?_
 show Go p.tables e below Kx _ (mkF m 56 _ [(.ref b5)])
 have St22 : Str Z T22.heap T22.heap.size b5 [va, vb] := Str.of q1_22 q2_22 q3_22 q4_22 rfl rfl hp21 (Nat.le_of_ble_eq_true rfl)
 refine s_astore (pc' := 58) (Ls' := #[vi p0, vi p1, vi p2, vi va, vi vb, vi sa, vi sc, vr b5, un, un, un, un, un, un, un, un]) X22.here hx (hb hby at_56) rfl rfl rfl ?_
 obtain ⟨T24, h24, X24, e24, E24, A24, D24, -, st24⟩ := newO X22 hx hZ hown (hv hw 0 rfl) (hv hw 1 rfl) (hv hw 2 rfl) rfl (g := (mkF m 58 #[vi p0, vi p1, vi p2, vi va, vi vb, vi sa, vi sc, vr b5, un, un, un, un, un, un, un, un] [])) rfl (hb hby at_58) (by decide) (by decide)
 obtain ⟨b24, g24⟩ : ∃ z, z = T22.heap.size := ⟨_, rfl⟩
 rw [← g24] at A24 D24 st24
 have sz24 : h0.size ≤ b24 := Nat.le_trans K22.1 (Nat.le_of_eq g24.symm)
 have ge24 : n0 ≤ b24 := Nat.le_trans (O22.1 ▸ O22.2.1) (Nat.le_of_eq g24.symm)
 have sn24 : Safe Z consts_1 s.vm T22.heap b24 := Safe.new (Nat.le_of_eq g24.symm)
 have K24 : Keep h0 h24 [] := K22.ext E24
 have O24 : Old Z n0 h24 := O22.ext E24
 have sf25 : Safe Z consts_1 s.vm h24 b24 := (Safe.ext E24 H22 sn24)
 have H24 : CHv Z consts_1 s.vm h24 := H22.ext E24
 have C24 : CHr Z consts_1 s.vm h0 s.vm h24 := C22.trans (CHr.ext E24 H22)
 have hk24 := Nat.le_trans hk22 E24.1
 have F24_coder : Fld Z h24 b24 "java/lang/String" "coder" "B" (.int 0) := D24 (Or.inr (hv hw 27 rfl)) (ty := .byte) (by decide)
 have F24_value : Fld Z h24 b24 "java/lang/String" "value" "[B" .null := D24 (Or.inr (hv hw 29 rfl)) (ty := (.array .byte)) (by decide)
 refine Go.st st24 ?_
 show Go p.tables e below Kx _ (mkF m 61 _ [(.ref b24)])
 refine s_dup (pc' := 62) X24.here hx (hb hby at_61) rfl rfl ?_
 refine s_iconst (pc' := 63) (v := 2) X24.here hx (hb hby at_62) rfl rfl ?_
 obtain ⟨T26, h26, k26, X26, e26, E26, A26, st26⟩ := newP X24 hx hZ (hv hw 3 rfl) e24 (g := (mkF m 63 #[vi p0, vi p1, vi p2, vi va, vi vb, vi sa, vi sc, vr b5, un, un, un, un, un, un, un, un] [(.int 2), (.ref b24), (.ref b24)])) rfl (hb hby at_63) rfl (by decide) (cap := 2) (by decide) (by decide) (by decide) (by decide)
 obtain ⟨b26, g26⟩ : ∃ z, z = h24.size := ⟨_, rfl⟩
 rw [← g26] at A26 st26
 have sz26 : h0.size ≤ b26 := Nat.le_trans K24.1 (Nat.le_of_eq g26.symm)
 have ge26 : n0 ≤ b26 := Nat.le_trans (O24.1 ▸ O24.2.1) (Nat.le_of_eq g26.symm)
 have sn26 : Safe Z consts_1 s.vm h24 b26 := Safe.new (Nat.le_of_eq g26.symm)
 have K26 : Keep h0 h26 [] := K24.ext E26
 have O26 : Old Z n0 h26 := O24.ext E26
 have sf27 : Safe Z consts_1 s.vm h26 b24 := (Safe.ext E26 H24 sf25)
 have sf28 : Safe Z consts_1 s.vm h26 b26 := (Safe.ext E26 H24 sn26)
 have H26 : CHv Z consts_1 s.vm h26 := H24.ext E26
 have C26 : CHr Z consts_1 s.vm h0 s.vm h26 := C24.trans (CHr.ext E26 H24)
 have hk26 := Nat.le_trans hk24 E26.1
 have V26 : Arv Z h26 b26 k26 .char 2 [(.int 0), (.int 0)] (.int 0) := (Arv.new A26 (by decide)).pad (pad_rep [] (.int 0) 2)
 refine Go.st st26 ?_
 show Go p.tables e below Kx _ (mkF m 65 _ [(.ref b26), (.ref b24), (.ref b24)])
 refine s_dup (pc' := 66) X26.here hx (hb hby at_65) rfl rfl ?_
 refine s_iconst (pc' := 67) (v := 0) X26.here hx (hb hby at_66) rfl rfl ?_
 refine s_iload (pc' := 69) X26.here hx (hb hby at_67) rfl rfl ?_
 obtain ⟨cl29, Ar29, Aq29, As29, An29, Ah29, Ag29⟩ := id V26
 have in30 := inb_of (j := 0) As29 (by decide)
 obtain ⟨T30, h30, X30, e30, W30, st30⟩ := stC X26 hx hZ e26 Ar29 (j := 0) in30 (g := (mkF m 69 #[vi p0, vi p1, vi p2, vi va, vi vb, vi sa, vi sc, vr b5, un, un, un, un, un, un, un, un] [(.int sa), (.int 0), (.ref b26), (.ref b26), (.ref b24), (.ref b24)])) rfl rfl (hb hby at_69)
 have V30 : Arv Z h30 b26 k26 .char 2 [(.int sa), (.int 0)] (.int 0) := by
  have q := Arv.set Ar29 Aq29 As29 An29 Ah29 Ag29 (fits_nar_char _) W30 0 rfl (Nat.le_of_ble_eq_true rfl)
  rw [chr_nar hsa] at q; exact q
 have K30 : Keep h0 h30 [] := K26.wr W30 (Or.inr sz26)
 have O30 : Old Z n0 h30 := O26.wr W30 ge26
 have sf31 : Safe Z consts_1 s.vm h30 b24 := (Safe.wr W30 sf28 H26 sf27)
 have sf32 : Safe Z consts_1 s.vm h30 b26 := (Safe.wr W30 sf28 H26 sf28)
 have H30 : CHv Z consts_1 s.vm h30 := H26.wr W30 sf28
 have C30 : CHr Z consts_1 s.vm h0 s.vm h30 := C26.trans (CHr.wr W30 sf28 H26)
 have hk30 := Nat.le_trans hk26 (Nat.le_of_eq W30.size.symm)
 have N30 := Fr.snoc X30 N22 ge26
 refine Go.st st30 ?_
 show Go p.tables e below Kx _ (mkF m 70 _ [(.ref b26), (.ref b24), (.ref b24)])
 refine s_dup (pc' := 71) X30.here hx (hb hby at_70) rfl rfl ?_
 refine s_iconst (pc' := 72) (v := 1) X30.here hx (hb hby at_71) rfl rfl ?_
 refine s_iload (pc' := 74) X30.here hx (hb hby at_72) rfl rfl ?_
 obtain ⟨cl33, Ar33, Aq33, As33, An33, Ah33, Ag33⟩ := id V30
 have in34 := inb_of (j := 1) As33 (by decide)
 obtain ⟨T34, h34, X34, e34, W34, st34⟩ := stC X30 hx hZ e30 Ar33 (j := 1) in34 (g := (mkF m 74 #[vi p0, vi p1, vi p2, vi va, vi vb, vi sa, vi sc, vr b5, un, un, un, un, un, un, un, un] [(.int sc), (.int 1), (.ref b26), (.ref b26), (.ref b24), (.ref b24)])) rfl rfl (hb hby at_74)
 have V34 : Arv Z h34 b26 k26 .char 2 [(.int sa), (.int sc)] (.int 0) := by
  have q := Arv.set Ar33 Aq33 As33 An33 Ah33 Ag33 (fits_nar_char _) W34 1 rfl (Nat.le_of_ble_eq_true rfl)
  rw [chr_nar hsc] at q; exact q
 have K34 : Keep h0 h34 [] := K30.wr W34 (Or.inr sz26)
 have O34 : Old Z n0 h34 := O30.wr W34 ge26
 have sf35 : Safe Z consts_1 s.vm h34 b24 := (Safe.wr W34 sf32 H30 sf31)
 have sf36 : Safe Z consts_1 s.vm h34 b26 := (Safe.wr W34 sf32 H30 sf32)
 have H34 : CHv Z consts_1 s.vm h34 := H30.wr W34 sf32
 have C34 : CHr Z consts_1 s.vm h0 s.vm h34 := C30.trans (CHr.wr W34 sf32 H30)
 have hk34 := Nat.le_trans hk30 (Nat.le_of_eq W34.size.symm)
 have N34 := Fr.snoc X34 N30 ge26
 refine Go.st st34 ?_
 show Go p.tables e below Kx _ (mkF m 75 _ [(.ref b26), (.ref b24), (.ref b24)])
 have f37 : Exa Z h34 b24 "java/lang/String" := (((A24.ext E26).wr W30).wr W34)
 have f38 : Fld Z h34 b24 "java/lang/String" "value" "[B" .null := (((F24_value.ext E26).other W30 (Or.inl (Nat.ne_of_lt (Nat.lt_of_lt_of_le A24.lt (Nat.le_of_eq g26.symm))))).other W34 (Or.inl (Nat.ne_of_lt (Nat.lt_of_lt_of_le A24.lt (Nat.le_of_eq g26.symm)))))
 have f39 : Fld Z h34 b24 "java/lang/String" "coder" "B" (.int 0) := (((F24_coder.ext E26).other W30 (Or.inl (Nat.ne_of_lt (Nat.lt_of_lt_of_le A24.lt (Nat.le_of_eq g26.symm))))).other W34 (Or.inl (Nat.ne_of_lt (Nat.lt_of_lt_of_le A24.lt (Nat.le_of_eq g26.symm)))))
 have hp40 : ∀ c ∈ ([sa, sc] : List Int32), ¬ c < 0 ∧ ¬ 255 < c := by
  intro c hc
  simp only [List.mem_cons, List.not_mem_nil, or_false] at hc
  rcases hc with rfl | rfl
  ·
   exact hsa
  ·
   exact hsc
 obtain ⟨_, _, ⟨T41, L41, k41, n41⟩, -, X41, ⟨Lc41, hQ41, l41, y41, z41⟩, st41⟩ := X34.specialBack hx (y := (⟨"java/lang/String", "<init>", "([C)V"⟩ : MethodName)) rfl hown (mvT hZ (hv hw 4 rfl)) (mvT hZ (hv hw 5 rfl)) (mvT hZ (hv hw 6 rfl)) (by decide) (StrChars.Road.backV (W := 1) hZ (hwsV Z a0 hw) (kI := 4) (hv hw 1 rfl) (cs := [sa, sc]) (bs := ([sa, sc] : List Int32).map (fun c => c.toInt8.toInt32)) (n := 2) ge24 (O34.1 ▸ O34.2.1) f37 f38 f39 V34 (S1.ext O34.2) P1 rfl rfl (by decide) (by decide) hp40 rfl (by decide) (by decide)) (g := (mkF m 75 #[vi p0, vi p1, vi p2, vi va, vi vb, vi sa, vi sc, vr b5, un, un, un, un, un, un, un, un] [(.ref b26), (.ref b24), (.ref b24)])) rfl (by rw [hml]; rfl) (Steps.refl _) (a := b24) (argsL := [(.ref b26)]) (rest := [(.ref b24)]) (lenOf pd_0 rfl) rfl (by exact Nat.le_of_eq rfl) (hb hby at_75) (fun _ _ => ⟨rfl, e34, (by decide : 5 + 1 ≤ _), (by decide : 14 + 2 ≤ _)⟩)
 dsimp only [Pt.U, Pt.locs, Pt.cells, Pt.slots] at X41 l41 y41 z41 st41 hQ41
 rw [l41, y41, z41] at X41
 obtain ⟨rfl, Nq41, Kq41, q1_41, q2_41, t41, kt41, -, -, -, q3_41, q4_41⟩ := hQ41
 have N41 := Fr.app N34 Nq41
 have K41 : Keep h0 T41.heap [] := K34.trans Kq41 (allS (P := fun zz => zz ∈ [] ∨ h0.size ≤ zz) (Or.inr sz24) all0)
 have O41 : Old Z n0 T41.heap := O34.keep Kq41 (allS ge24 all0)
 have sf42 : Safe Z consts_1 s.vm T41.heap b24 := (Safe.keep Kq41 (sfS sf35 sf0) H34 sf35)
 have H41 : CHv Z consts_1 s.vm T41.heap := H34.keep Kq41 (sfS sf35 sf0)
 have C41 : CHr Z consts_1 s.vm h0 s.vm T41.heap := C34.trans (CHr.keep Kq41 (sfS sf35 sf0) H34)
 have hk41 := Nat.le_trans hk34 Kq41.1
 refine Go.tr st41 ?_
 show Go p.tables e below Kx _ (mkF m 78 _ [(.ref b24)])
 have St41 : Str Z T41.heap T41.heap.size b24 [sa, sc] := Str.of q1_41 q2_41 q3_41 q4_41 rfl rfl hp40 (Nat.le_of_ble_eq_true rfl)
 refine s_astore (pc' := 80) (Ls' := #[vi p0, vi p1, vi p2, vi va, vi vb, vi sa, vi sc, vr b5, vr b24, un, un, un, un, un, un, un]) X41.here hx (hb hby at_78) rfl rfl rfl ?_
 obtain ⟨T43, h43, X43, e43, E43, A43, D43, -, st43⟩ := newO X41 hx hZ hown (hv hw 30 rfl) (hv hw 31 rfl) (hv hw 32 rfl) rfl (g := (mkF m 80 #[vi p0, vi p1, vi p2, vi va, vi vb, vi sa, vi sc, vr b5, vr b24, un, un, un, un, un, un, un] [])) rfl (hb hby at_80) (by decide) (by decide)
 obtain ⟨b43, g43⟩ : ∃ z, z = T41.heap.size := ⟨_, rfl⟩
 rw [← g43] at A43 D43 st43
 have sz43 : h0.size ≤ b43 := Nat.le_trans K41.1 (Nat.le_of_eq g43.symm)
 have ge43 : n0 ≤ b43 := Nat.le_trans (O41.1 ▸ O41.2.1) (Nat.le_of_eq g43.symm)
 have sn43 : Safe Z consts_1 s.vm T41.heap b43 := Safe.new (Nat.le_of_eq g43.symm)
 have K43 : Keep h0 h43 [] := K41.ext E43
 have O43 : Old Z n0 h43 := O41.ext E43
 have sf44 : Safe Z consts_1 s.vm h43 b43 := (Safe.ext E43 H41 sn43)
 have H43 : CHv Z consts_1 s.vm h43 := H41.ext E43
 have C43 : CHr Z consts_1 s.vm h0 s.vm h43 := C41.trans (CHr.ext E43 H41)
 have hk43 := Nat.le_trans hk41 E43.1
 have F43_key : Fld Z h43 b43 "com/example/syndica/syndica/Term" "key" "Ljava/lang/String;" .null := D43 (Or.inr (hv hw 46 rfl)) (ty := (.object "java/lang/String")) (by decide)
 have F43_value : Fld Z h43 b43 "com/example/syndica/syndica/Term" "value" "Ljava/lang/String;" .null := D43 (Or.inr (hv hw 48 rfl)) (ty := (.object "java/lang/String")) (by decide)
 have F43_section : Fld Z h43 b43 "com/example/syndica/syndica/Term" "section" "Ljava/lang/String;" .null := D43 (Or.inr (hv hw 50 rfl)) (ty := (.object "java/lang/String")) (by decide)
 have F43_line : Fld Z h43 b43 "com/example/syndica/syndica/Term" "line" "I" (.int 0) := D43 (Or.inr (hv hw 52 rfl)) (ty := .int) (by decide)
 refine Go.st st43 ?_
 show Go p.tables e below Kx _ (mkF m 83 _ [(.ref b43)])
 refine s_dup (pc' := 84) X43.here hx (hb hby at_83) rfl rfl ?_
 obtain ⟨a45, T45, h45, k145, b45, k45, X45, e45, E45, hS45, hk45, hZ45, hown45, A45, FC45, FV45, V45, la45, lb45, Cr45, Lt45, sx45, st45⟩ := ldcCH X43 hx hZ hown (hv hw 33 rfl) wS e43 hS0 hk43 hEL (List.mem_of_getElem? (i := 3) rfl) H43 (vs := [(.int 107)]) (z := 1) (by decide) (by decide) (by decide) (g := (mkF m 84 #[vi p0, vi p1, vi p2, vi va, vi vb, vi sa, vi sc, vr b5, vr b24, un, un, un, un, un, un, un] [(.ref b43), (.ref b43)])) rfl (hb hby at_84) (n := 4) (by decide) (by decide) (by decide) (by decide)
 have sf46 : Safe Z consts_1 T45.vm h45 b43 := Cr45.safe A43.lt sf44
 have C45 := C43.trans Cr45
 have K45 : Keep h0 h45 [] := K43.ext E45
 have O45 : Old Z n0 h45 := O43.ext E45
 refine Go.st st45 ?_
 show Go p.tables e below Kx _ (mkF m 86 _ [(.ref a45), (.ref b43), (.ref b43)])
 have V47 : Arv Z h45 b45 k45 .byte (Int32.ofNat [(107 : Int32)].length) ([(107 : Int32)].map Value.int) (.int 0) := V45
 refine s_aload (pc' := 88) X45.here hx (hb hby at_86) rfl rfl rfl ?_
 refine s_aload (pc' := 90) X45.here hx (hb hby at_88) rfl rfl rfl ?_
 refine s_iloadN (pc' := 91) X45.here hx (hb hby at_90) rfl rfl ?_
 have f63 : Exa Z h45 b43 "com/example/syndica/syndica/Term" := (A43.ext E45)
 have f64 : Fld Z h45 b43 "com/example/syndica/syndica/Term" "key" "Ljava/lang/String;" .null := (F43_key.ext E45)
 have f65 : Fld Z h45 b43 "com/example/syndica/syndica/Term" "value" "Ljava/lang/String;" .null := (F43_value.ext E45)
 have f66 : Fld Z h45 b43 "com/example/syndica/syndica/Term" "section" "Ljava/lang/String;" .null := (F43_section.ext E45)
 have f67 : Fld Z h45 b43 "com/example/syndica/syndica/Term" "line" "I" (.int 0) := (F43_line.ext E45)
 obtain ⟨_, T68, L68, X68, hQ68, st68⟩ := kI X45 hx hZ45 (y := yN0) rfl hown45 (hv hw 36 rfl) (hv hw 37 rfl) (hv hw 32 rfl) (hv hw 38 rfl) (by decide) (rmHti l Z a0 hw [] b43 a45 b5 b24 p2 h45 n0 O45 ge43 f63 f64 f65 f66 f67) e45 (a := b43) (W := 1) (g := (mkF m 91 #[vi p0, vi p1, vi p2, vi va, vi vb, vi sa, vi sc, vr b5, vr b24, un, un, un, un, un, un, un] [(.int p2), (.ref b24), (.ref b5), (.ref a45), (.ref b43), (.ref b43)])) rfl (by rw [hml]; rfl) (argsL := [(.ref a45), (.ref b5), (.ref b24), (.int p2)]) (rest := [(.ref b43)]) (lenOf pd_2 rfl) rfl (by exact Nat.le_of_eq rfl) (hb hby at_91) rfl (nb rfl) (nb rfl) (nb rfl) (nb rfl)
 obtain ⟨rfl, Nq68, Kq68, q1_68, q2_68, q3_68, q4_68⟩ := hQ68
 have N68 := Fr.app N41 Nq68
 have K68 : Keep h0 T68.heap [] := K45.trans Kq68 (allS (P := fun zz => zz ∈ [] ∨ h0.size ≤ zz) (Or.inr sz43) all0)
 have O68 : Old Z n0 T68.heap := O45.keep Kq68 (allS ge43 all0)
 have sf69 : Safe Z consts_1 T45.vm T68.heap b43 := (Safe.keep Kq68 (sfS sf46 sf0) Cr45.1 sf46)
 have H68 : CHv Z consts_1 T45.vm T68.heap := Cr45.1.keep Kq68 (sfS sf46 sf0)
 have C68 : CHr Z consts_1 s.vm h0 T45.vm T68.heap := C45.trans (CHr.keep Kq68 (sfS sf46 sf0) Cr45.1)
 have hk68 := Nat.le_trans hk45 Kq68.1
 refine Go.tr st68 ?_
 show Go p.tables e below Kx _ (mkF m 94 _ [(.ref b43)])
 have f405 : Str Z T68.heap T22.heap.size b5 [va, vb] := ((((((((St22.ext E24).ext E26).wr W30 (Nat.le_trans E24.1 (Nat.le_of_eq g26.symm))).wr W34 (Nat.le_trans E24.1 (Nat.le_of_eq g26.symm))).keep Kq41 (allS (Nat.le_of_eq g24.symm) all0)).ext E43).ext E45).keep Kq68 (allS (Nat.le_trans (Nat.le_trans (Nat.le_trans (Nat.le_trans (Nat.le_trans E24.1 E26.1) (Nat.le_of_eq W30.size.symm)) (Nat.le_of_eq W34.size.symm)) Kq41.1) (Nat.le_of_eq g43.symm)) all0))
 have f406 : Str Z T68.heap T41.heap.size b24 [sa, sc] := (((St41.ext E43).ext E45).keep Kq68 (allS (Nat.le_of_eq g43.symm) all0))
 obtain ⟨cq407, kq407, q407a, q407b, q407c⟩ := isOf hZ45 rfl q1_68
 obtain ⟨_, _, ⟨T407, L407, k407, n407⟩, -, X407, hS'407, hg'407, ⟨Lc407, hQ407, l407, y407, z407, Cr407⟩, st407⟩ := X68.virtualBackS hx (y := yN1) (z := yN1) hown45 (mvT hZ45 (hv hw 53 rfl)) (mvT hZ45 (hv hw 54 rfl)) (notFace_of_selects (args := #[]) (mvT hZ45 (hv hw 56 rfl))) (mvT hZ45 (hv hw 56 rfl)) (mvT hZ45 (hv hw 55 rfl)) (by decide) (backOfSH (W := 0) (rmHci l Z a0 hw [] b43 b5 b24 _ _ [va, vb] [sa, sc] p2 T68.heap n0 O68 hEL wS G1 S1 P1 xo xq ko kq SO SQ AO AQ q1_68 q2_68 q3_68 q4_68 f405 f406 rfl rfl) hZ45 (hv hw 57 rfl) (hv hw 32 rfl) (by decide) (by decide) hEL H68) q407a q407c (g := (mkF m 94 #[vi p0, vi p1, vi p2, vi va, vi vb, vi sa, vi sc, vr b5, vr b24, un, un, un, un, un, un, un] [(.ref b43)])) rfl (by rw [hml]; rfl) (Steps.refl _) (argsL := []) (rest := []) (lenOf pd_24 rfl) rfl (by exact Nat.le_of_eq rfl) (hb hby at_94) (fun _ _ => ⟨rfl, rfl, (by decide : 9 + 12 ≤ _), (by decide : 28 + 200 ≤ _)⟩)
 dsimp only [Pt.U, Pt.locs, Pt.cells, Pt.slots] at X407 l407 y407 z407 st407 hQ407 hS'407 hg'407 Cr407
 rw [l407, y407, z407] at X407
 obtain ⟨rs407, rt407, rk407, rfl, Nq407, Kq407, q1_407, q2_407, q3_407, q4_407⟩ := hQ407
 have N407 := Fr.app N68 Nq407
 have X407 : Stand p l e _ (s.setVm T407.vm) m _ below meth c T407 _ _ _ := X407
 obtain ⟨hZ407, hown407⟩ := wideOn hZ45 hS'407 hown45
 have hS407 : s.Since T407.vm T407.heap.size := hS45.trans hS'407 (Nat.le_trans hk68 hg'407)
 have hk407 := Nat.le_refl T407.heap.size
 have sf408 : Safe Z consts_1 T407.vm T407.heap b43 := Cr407.safe (Nat.lt_of_lt_of_le A43.lt (Nat.le_trans E45.1 Kq68.1)) sf69
 have C407 := C68.trans Cr407
 have K407 : Keep h0 T407.heap [] := K68.trans Kq407 all0
 have O407 : Old Z n0 T407.heap := O68.keep Kq407 all0
 refine Go.tr st407 ?_
 show Go p.tables e below Kx _ (mkF m 97 _ [(.ref rs407)])
 obtain ⟨us, hus⟩ : ∃ z, z = ((((((([] : List Int32) ++ (i8s [va, vb])) ++ [(32 : Int32), (40 : Int32)]) ++ (i8s [sa, sc])) ++ [(44 : Int32), (32 : Int32), (108 : Int32), (105 : Int32), (110 : Int32), (101 : Int32), (32 : Int32)]) ++ (dec p2)) ++ [(41 : Int32)]) := ⟨_, rfl⟩
 rw [← hus] at q4_407
 refine s_astore (pc' := 99) (Ls' := #[vi p0, vi p1, vi p2, vi va, vi vb, vi sa, vi sc, vr b5, vr b24, vr rs407, un, un, un, un, un, un]) X407.here hx (hb hby at_97) rfl rfl rfl ?_
 refine s_iloadN (pc' := 100) X407.here hx (hb hby at_99) rfl rfl ?_
 refine s_i2l (pc' := 101) X407.here hx (hb hby at_100) rfl rfl ?_
 obtain ⟨_, T410, L410, X410, hQ410, st410⟩ := kS X407 hx hZ407 (y := yN16) hown407 (hv hw 189 rfl) (hv hw 190 rfl) (hv hw 186 rfl) (hv hw 191 rfl) (by decide) (rmHab l Z a0 hw [] p2 T407.heap n0 O407 ) rfl (W := 0) (g := (mkF m 101 #[vi p0, vi p1, vi p2, vi va, vi vb, vi sa, vi sc, vr b5, vr b24, vr rs407, un, un, un, un, un, un] [(.long (p2.toInt64))])) rfl (by rw [hml]; rfl) (argsL := [(.long (p2.toInt64))]) (rest := []) (lenOf pd_25 rfl) rfl (by exact Nat.le_of_eq rfl) (hb hby at_101) rfl (nb rfl) (nb rfl) (nb rfl) (nb rfl)
 obtain ⟨⟨ml, rfl, hml2⟩, Nq410, hE410⟩ := hQ410
 have N410 := Fr.app N407 Nq410
 refine Go.st st410 ?_
 show Go p.tables e below Kx _ (mkF m 104 _ [(.long ml)])
 refine s_lstore (pc' := 106) (Ls' := #[vi p0, vi p1, vi p2, vi va, vi vb, vi sa, vi sc, vr b5, vr b24, vr rs407, .val (.long ml), sn, un, un, un, un]) X410.here hx (hb hby at_104) rfl  rfl ?_
 refine s_lload (pc' := 108) X410.here hx (hb hby at_106) rfl rfl ?_
 obtain ⟨_, T420, L420, X420, hQ420, st420⟩ := kS X410 hx hZ407 (y := yN3) hown407 (hv hw 192 rfl) (hv hw 193 rfl) (hv hw 194 rfl) (hv hw 195 rfl) (by decide) (rmHdi l Z a0 hw [] ml p2.toInt.natAbs T407.heap n0 O407 hml2 (abs_10 p2)) hE410 (W := 0) (g := (mkF m 108 #[vi p0, vi p1, vi p2, vi va, vi vb, vi sa, vi sc, vr b5, vr b24, vr rs407, .val (.long ml), sn, un, un, un, un] [(.long ml)])) rfl (by rw [hml]; rfl) (argsL := [(.long ml)]) (rest := []) (lenOf pd_26 rfl) rfl (by exact Nat.le_of_eq rfl) (hb hby at_108) rfl (nb rfl) (nb rfl) (nb rfl) (nb rfl)
 obtain ⟨rfl, Nq420, hE420⟩ := hQ420
 have N420 := Fr.app N410 Nq420
 refine Go.st st420 ?_
 show Go p.tables e below Kx _ (mkF m 111 _ [(.int (Int32.ofNat (nd p2.toInt.natAbs)))])
 refine s_istore (pc' := 113) (Ls' := #[vi p0, vi p1, vi p2, vi va, vi vb, vi sa, vi sc, vr b5, vr b24, vr rs407, .val (.long ml), sn, .val (.int (Int32.ofNat (nd p2.toInt.natAbs))), un, un, un]) X420.here hx (hb hby at_111) rfl  rfl ?_
 refine s_iloadN (pc' := 114) X420.here hx (hb hby at_113) rfl rfl ?_
 by_cases hsg : p2 < (0 : Int32)
 ·
  have hq : us = (((((([] : List Int32) ++ (i8s [va, vb])) ++ [(32 : Int32), (40 : Int32)]) ++ (i8s [sa, sc])) ++ [(44 : Int32), (32 : Int32), (108 : Int32), (105 : Int32), (110 : Int32), (101 : Int32), (32 : Int32)]) ++ [(45 : Int32)]) ++ suf p2.toInt.natAbs (nd p2.toInt.natAbs) ++ [(41 : Int32)] := by rw [hus, dec_n hsg (nd_is (abs_10 p2))]; simp
  have hnd := nd_le p2.toInt.natAbs
  have hlen : us.length = 14 + (nd p2.toInt.natAbs) + 1 := by rw [hq, List.length_append, List.length_append, suf_len]; rfl
  have hus4 : us.length ≤ 4000 := by omega
  show Go p.tables e below Kx _ (mkF m 114 _ [(.int p2)])
  refine s_ifN (pc' := 117) X420.here hx (hb hby at_114) rfl ((if0 _ _).trans (tlt hsg).2.1) ?_
  refine s_iconst (pc' := 118) (v := 1) X420.here hx (hb hby at_117) rfl rfl ?_
  refine s_goto (pc' := 122) X420.here hx (hb hby at_118) (by decide) (by decide) ?_
  refine s_istore (pc' := 124) (Ls' := #[vi p0, vi p1, vi p2, vi va, vi vb, vi sa, vi sc, vr b5, vr b24, vr rs407, .val (.long ml), sn, .val (.int (Int32.ofNat (nd p2.toInt.natAbs))), vi 1, un, un]) X420.here hx (hb hby at_122) rfl  rfl ?_
  refine s_bipush (pc' := 126) (v := 13) X420.here hx (hb hby at_124) rfl rfl ?_
  refine s_iload (pc' := 128) X420.here hx (hb hby at_126) rfl rfl ?_
  refine s_iadd (pc' := 129) (z := 14) X420.here hx (hb hby at_128) rfl (by decide) ?_
  refine s_istore (pc' := 131) (Ls' := #[vi p0, vi p1, vi p2, vi va, vi vb, vi sa, vi sc, vr b5, vr b24, vr rs407, .val (.long ml), sn, .val (.int (Int32.ofNat (nd p2.toInt.natAbs))), vi 1, vi 14, un]) X420.here hx (hb hby at_129) rfl  rfl ?_
  refine s_aload (pc' := 133) X420.here hx (hb hby at_131) rfl rfl rfl ?_
  obtain ⟨_, T421, L421, X421, hQ421, st421⟩ := kV X420 hx hZ407 (y := yN28) hown407 (hv hw 197 rfl) (hv hw 87 rfl) (notFace_of_selects (args := #[]) (mvT hZ407 (hv hw 89 rfl))) (hv hw 89 rfl) (hv hw 88 rfl) (hv hw 2 rfl) (hv hw 90 rfl) (by decide) (rmGl l Z a0 hw [] rs407 rt407 _ us T407.heap n0 O407 G1 S1 P1 q1_407 q2_407 q3_407 q4_407) hE420 q1_407 (W := 0) (g := (mkF m 133 #[vi p0, vi p1, vi p2, vi va, vi vb, vi sa, vi sc, vr b5, vr b24, vr rs407, .val (.long ml), sn, .val (.int (Int32.ofNat (nd p2.toInt.natAbs))), vi 1, vi 14, un] [(.ref rs407)])) rfl (by rw [hml]; rfl) (argsL := []) (rest := []) (lenOf pd_5 rfl) rfl (by exact Nat.le_of_eq rfl) (hb hby at_133) rfl (nb rfl) (nb rfl) (nb rfl) (nb rfl)
  obtain ⟨rfl, Nq421, hE421⟩ := hQ421
  have N421 := Fr.app N420 Nq421
  refine Go.tr st421 ?_
  show Go p.tables e below Kx _ (mkF m 136 _ [(.int (Int32.ofNat us.length))])
  refine s_iload (pc' := 138) X421.here hx (hb hby at_136) rfl rfl ?_
  refine s_iload (pc' := 140) X421.here hx (hb hby at_138) rfl rfl ?_
  refine s_iadd (pc' := 141) X421.here hx (hb hby at_140) rfl rfl ?_
  refine s_iconst (pc' := 142) (v := 1) X421.here hx (hb hby at_141) rfl rfl ?_
  refine s_iadd (pc' := 143) X421.here hx (hb hby at_142) rfl rfl ?_
  refine s_icmpY (pc' := 148) X421.here hx (hb hby at_143) (teq (lenq hq rfl)).1 (by decide) (by decide) ?_
  refine s_aload (pc' := 150) X421.here hx (hb hby at_148) rfl rfl rfl ?_
  refine s_iconst (pc' := 151) (v := 0) X421.here hx (hb hby at_150) rfl rfl ?_
  obtain ⟨_, T434, L434, X434, hQ434, st434⟩ := kV X421 hx hZ407 (y := yN23) hown407 (hv hw 198 rfl) (hv hw 199 rfl) (notFace_of_selects (args := #[]) (mvT hZ407 (hv hw 201 rfl))) (hv hw 201 rfl) (hv hw 200 rfl) (hv hw 2 rfl) (hv hw 202 rfl) (by decide) (rmHc1 l Z a0 hw [] rs407 rt407 _ us 0 T407.heap n0 O407 G1 S1 P1 vf hvf SFm q1_407 q2_407 q3_407 q4_407 (inN (c := 0) (N := us.length) (by omega) hus4).1 (inN (c := 0) (N := us.length) (by omega) hus4).2 hus4) hE421 q1_407 (W := 0) (g := (mkF m 151 #[vi p0, vi p1, vi p2, vi va, vi vb, vi sa, vi sc, vr b5, vr b24, vr rs407, .val (.long ml), sn, .val (.int (Int32.ofNat (nd p2.toInt.natAbs))), vi 1, vi 14, un] [(.int 0), (.ref rs407)])) rfl (by rw [hml]; rfl) (argsL := [(.int 0)]) (rest := []) (lenOf pd_29 rfl) rfl (by exact Nat.le_of_eq rfl) (hb hby at_151) rfl (nb rfl) (nb rfl) (nb rfl) (nb rfl)
  obtain ⟨rfl, Nq434, hE434⟩ := hQ434
  have N434 := Fr.app N421 Nq434
  refine Go.tr st434 ?_
  show Go p.tables e below Kx _ (mkF m 154 _ [(.int ((atg us 0) &&& 255))])
  refine s_iloadN (pc' := 155) X434.here hx (hb hby at_154) rfl rfl ?_
  refine s_icmpN (pc' := 158) X434.here hx (hb hby at_155) rfl (teq (atc (by rw [hq]; rfl) hva)).2 ?_
  refine s_aload (pc' := 160) X434.here hx (hb hby at_158) rfl rfl rfl ?_
  refine s_iconst (pc' := 161) (v := 1) X434.here hx (hb hby at_160) rfl rfl ?_
  obtain ⟨_, T435, L435, X435, hQ435, st435⟩ := kV X434 hx hZ407 (y := yN23) hown407 (hv hw 198 rfl) (hv hw 199 rfl) (notFace_of_selects (args := #[]) (mvT hZ407 (hv hw 201 rfl))) (hv hw 201 rfl) (hv hw 200 rfl) (hv hw 2 rfl) (hv hw 202 rfl) (by decide) (rmHc1 l Z a0 hw [] rs407 rt407 _ us 1 T407.heap n0 O407 G1 S1 P1 vf hvf SFm q1_407 q2_407 q3_407 q4_407 (inN (c := 1) (N := us.length) (by omega) hus4).1 (inN (c := 1) (N := us.length) (by omega) hus4).2 hus4) hE434 q1_407 (W := 0) (g := (mkF m 161 #[vi p0, vi p1, vi p2, vi va, vi vb, vi sa, vi sc, vr b5, vr b24, vr rs407, .val (.long ml), sn, .val (.int (Int32.ofNat (nd p2.toInt.natAbs))), vi 1, vi 14, un] [(.int 1), (.ref rs407)])) rfl (by rw [hml]; rfl) (argsL := [(.int 1)]) (rest := []) (lenOf pd_29 rfl) rfl (by exact Nat.le_of_eq rfl) (hb hby at_161) rfl (nb rfl) (nb rfl) (nb rfl) (nb rfl)
  obtain ⟨rfl, Nq435, hE435⟩ := hQ435
  have N435 := Fr.app N434 Nq435
  refine Go.tr st435 ?_
  show Go p.tables e below Kx _ (mkF m 164 _ [(.int ((atg us 1) &&& 255))])
  refine s_iload (pc' := 166) X435.here hx (hb hby at_164) rfl rfl ?_
  refine s_icmpN (pc' := 169) X435.here hx (hb hby at_166) rfl (teq (atc (by rw [hq]; rfl) hvb)).2 ?_
  refine s_aload (pc' := 171) X435.here hx (hb hby at_169) rfl rfl rfl ?_
  refine s_iconst (pc' := 172) (v := 2) X435.here hx (hb hby at_171) rfl rfl ?_
  obtain ⟨_, T436, L436, X436, hQ436, st436⟩ := kV X435 hx hZ407 (y := yN23) hown407 (hv hw 198 rfl) (hv hw 199 rfl) (notFace_of_selects (args := #[]) (mvT hZ407 (hv hw 201 rfl))) (hv hw 201 rfl) (hv hw 200 rfl) (hv hw 2 rfl) (hv hw 202 rfl) (by decide) (rmHc1 l Z a0 hw [] rs407 rt407 _ us 2 T407.heap n0 O407 G1 S1 P1 vf hvf SFm q1_407 q2_407 q3_407 q4_407 (inN (c := 2) (N := us.length) (by omega) hus4).1 (inN (c := 2) (N := us.length) (by omega) hus4).2 hus4) hE435 q1_407 (W := 0) (g := (mkF m 172 #[vi p0, vi p1, vi p2, vi va, vi vb, vi sa, vi sc, vr b5, vr b24, vr rs407, .val (.long ml), sn, .val (.int (Int32.ofNat (nd p2.toInt.natAbs))), vi 1, vi 14, un] [(.int 2), (.ref rs407)])) rfl (by rw [hml]; rfl) (argsL := [(.int 2)]) (rest := []) (lenOf pd_29 rfl) rfl (by exact Nat.le_of_eq rfl) (hb hby at_172) rfl (nb rfl) (nb rfl) (nb rfl) (nb rfl)
  obtain ⟨rfl, Nq436, hE436⟩ := hQ436
  have N436 := Fr.app N435 Nq436
  refine Go.tr st436 ?_
  show Go p.tables e below Kx _ (mkF m 175 _ [(.int ((atg us 2) &&& 255))])
  refine s_bipush (pc' := 177) (v := 32) X436.here hx (hb hby at_175) rfl rfl ?_
  refine s_icmpN (pc' := 180) X436.here hx (hb hby at_177) rfl (teq (atl (by rw [hq]; rfl) (by decide))).2 ?_
  refine s_aload (pc' := 182) X436.here hx (hb hby at_180) rfl rfl rfl ?_
  refine s_iconst (pc' := 183) (v := 3) X436.here hx (hb hby at_182) rfl rfl ?_
  obtain ⟨_, T437, L437, X437, hQ437, st437⟩ := kV X436 hx hZ407 (y := yN23) hown407 (hv hw 198 rfl) (hv hw 199 rfl) (notFace_of_selects (args := #[]) (mvT hZ407 (hv hw 201 rfl))) (hv hw 201 rfl) (hv hw 200 rfl) (hv hw 2 rfl) (hv hw 202 rfl) (by decide) (rmHc1 l Z a0 hw [] rs407 rt407 _ us 3 T407.heap n0 O407 G1 S1 P1 vf hvf SFm q1_407 q2_407 q3_407 q4_407 (inN (c := 3) (N := us.length) (by omega) hus4).1 (inN (c := 3) (N := us.length) (by omega) hus4).2 hus4) hE436 q1_407 (W := 0) (g := (mkF m 183 #[vi p0, vi p1, vi p2, vi va, vi vb, vi sa, vi sc, vr b5, vr b24, vr rs407, .val (.long ml), sn, .val (.int (Int32.ofNat (nd p2.toInt.natAbs))), vi 1, vi 14, un] [(.int 3), (.ref rs407)])) rfl (by rw [hml]; rfl) (argsL := [(.int 3)]) (rest := []) (lenOf pd_29 rfl) rfl (by exact Nat.le_of_eq rfl) (hb hby at_183) rfl (nb rfl) (nb rfl) (nb rfl) (nb rfl)
  obtain ⟨rfl, Nq437, hE437⟩ := hQ437
  have N437 := Fr.app N436 Nq437
  refine Go.tr st437 ?_
  show Go p.tables e below Kx _ (mkF m 186 _ [(.int ((atg us 3) &&& 255))])
  refine s_bipush (pc' := 188) (v := 40) X437.here hx (hb hby at_186) rfl rfl ?_
  refine s_icmpN (pc' := 191) X437.here hx (hb hby at_188) rfl (teq (atl (by rw [hq]; rfl) (by decide))).2 ?_
  refine s_aload (pc' := 193) X437.here hx (hb hby at_191) rfl rfl rfl ?_
  refine s_iconst (pc' := 194) (v := 4) X437.here hx (hb hby at_193) rfl rfl ?_
  obtain ⟨_, T438, L438, X438, hQ438, st438⟩ := kV X437 hx hZ407 (y := yN23) hown407 (hv hw 198 rfl) (hv hw 199 rfl) (notFace_of_selects (args := #[]) (mvT hZ407 (hv hw 201 rfl))) (hv hw 201 rfl) (hv hw 200 rfl) (hv hw 2 rfl) (hv hw 202 rfl) (by decide) (rmHc1 l Z a0 hw [] rs407 rt407 _ us 4 T407.heap n0 O407 G1 S1 P1 vf hvf SFm q1_407 q2_407 q3_407 q4_407 (inN (c := 4) (N := us.length) (by omega) hus4).1 (inN (c := 4) (N := us.length) (by omega) hus4).2 hus4) hE437 q1_407 (W := 0) (g := (mkF m 194 #[vi p0, vi p1, vi p2, vi va, vi vb, vi sa, vi sc, vr b5, vr b24, vr rs407, .val (.long ml), sn, .val (.int (Int32.ofNat (nd p2.toInt.natAbs))), vi 1, vi 14, un] [(.int 4), (.ref rs407)])) rfl (by rw [hml]; rfl) (argsL := [(.int 4)]) (rest := []) (lenOf pd_29 rfl) rfl (by exact Nat.le_of_eq rfl) (hb hby at_194) rfl (nb rfl) (nb rfl) (nb rfl) (nb rfl)
  obtain ⟨rfl, Nq438, hE438⟩ := hQ438
  have N438 := Fr.app N437 Nq438
  refine Go.tr st438 ?_
  show Go p.tables e below Kx _ (mkF m 197 _ [(.int ((atg us 4) &&& 255))])
  refine s_iload (pc' := 199) X438.here hx (hb hby at_197) rfl rfl ?_
  refine s_icmpN (pc' := 202) X438.here hx (hb hby at_199) rfl (teq (atc (by rw [hq]; rfl) hsa)).2 ?_
  refine s_aload (pc' := 204) X438.here hx (hb hby at_202) rfl rfl rfl ?_
  refine s_iconst (pc' := 205) (v := 5) X438.here hx (hb hby at_204) rfl rfl ?_
  obtain ⟨_, T439, L439, X439, hQ439, st439⟩ := kV X438 hx hZ407 (y := yN23) hown407 (hv hw 198 rfl) (hv hw 199 rfl) (notFace_of_selects (args := #[]) (mvT hZ407 (hv hw 201 rfl))) (hv hw 201 rfl) (hv hw 200 rfl) (hv hw 2 rfl) (hv hw 202 rfl) (by decide) (rmHc1 l Z a0 hw [] rs407 rt407 _ us 5 T407.heap n0 O407 G1 S1 P1 vf hvf SFm q1_407 q2_407 q3_407 q4_407 (inN (c := 5) (N := us.length) (by omega) hus4).1 (inN (c := 5) (N := us.length) (by omega) hus4).2 hus4) hE438 q1_407 (W := 0) (g := (mkF m 205 #[vi p0, vi p1, vi p2, vi va, vi vb, vi sa, vi sc, vr b5, vr b24, vr rs407, .val (.long ml), sn, .val (.int (Int32.ofNat (nd p2.toInt.natAbs))), vi 1, vi 14, un] [(.int 5), (.ref rs407)])) rfl (by rw [hml]; rfl) (argsL := [(.int 5)]) (rest := []) (lenOf pd_29 rfl) rfl (by exact Nat.le_of_eq rfl) (hb hby at_205) rfl (nb rfl) (nb rfl) (nb rfl) (nb rfl)
  obtain ⟨rfl, Nq439, hE439⟩ := hQ439
  have N439 := Fr.app N438 Nq439
  refine Go.tr st439 ?_
  show Go p.tables e below Kx _ (mkF m 208 _ [(.int ((atg us 5) &&& 255))])
  refine s_iload (pc' := 210) X439.here hx (hb hby at_208) rfl rfl ?_
  refine s_icmpN (pc' := 213) X439.here hx (hb hby at_210) rfl (teq (atc (by rw [hq]; rfl) hsc)).2 ?_
  refine s_aload (pc' := 215) X439.here hx (hb hby at_213) rfl rfl rfl ?_
  refine s_bipush (pc' := 217) (v := 6) X439.here hx (hb hby at_215) rfl rfl ?_
  obtain ⟨_, T440, L440, X440, hQ440, st440⟩ := kV X439 hx hZ407 (y := yN23) hown407 (hv hw 198 rfl) (hv hw 199 rfl) (notFace_of_selects (args := #[]) (mvT hZ407 (hv hw 201 rfl))) (hv hw 201 rfl) (hv hw 200 rfl) (hv hw 2 rfl) (hv hw 202 rfl) (by decide) (rmHc1 l Z a0 hw [] rs407 rt407 _ us 6 T407.heap n0 O407 G1 S1 P1 vf hvf SFm q1_407 q2_407 q3_407 q4_407 (inN (c := 6) (N := us.length) (by omega) hus4).1 (inN (c := 6) (N := us.length) (by omega) hus4).2 hus4) hE439 q1_407 (W := 0) (g := (mkF m 217 #[vi p0, vi p1, vi p2, vi va, vi vb, vi sa, vi sc, vr b5, vr b24, vr rs407, .val (.long ml), sn, .val (.int (Int32.ofNat (nd p2.toInt.natAbs))), vi 1, vi 14, un] [(.int 6), (.ref rs407)])) rfl (by rw [hml]; rfl) (argsL := [(.int 6)]) (rest := []) (lenOf pd_29 rfl) rfl (by exact Nat.le_of_eq rfl) (hb hby at_217) rfl (nb rfl) (nb rfl) (nb rfl) (nb rfl)
  obtain ⟨rfl, Nq440, hE440⟩ := hQ440
  have N440 := Fr.app N439 Nq440
  refine Go.tr st440 ?_
  show Go p.tables e below Kx _ (mkF m 220 _ [(.int ((atg us 6) &&& 255))])
  refine s_bipush (pc' := 222) (v := 44) X440.here hx (hb hby at_220) rfl rfl ?_
  refine s_icmpN (pc' := 225) X440.here hx (hb hby at_222) rfl (teq (atl (by rw [hq]; rfl) (by decide))).2 ?_
  refine s_aload (pc' := 227) X440.here hx (hb hby at_225) rfl rfl rfl ?_
  refine s_bipush (pc' := 229) (v := 7) X440.here hx (hb hby at_227) rfl rfl ?_
  obtain ⟨_, T441, L441, X441, hQ441, st441⟩ := kV X440 hx hZ407 (y := yN23) hown407 (hv hw 198 rfl) (hv hw 199 rfl) (notFace_of_selects (args := #[]) (mvT hZ407 (hv hw 201 rfl))) (hv hw 201 rfl) (hv hw 200 rfl) (hv hw 2 rfl) (hv hw 202 rfl) (by decide) (rmHc1 l Z a0 hw [] rs407 rt407 _ us 7 T407.heap n0 O407 G1 S1 P1 vf hvf SFm q1_407 q2_407 q3_407 q4_407 (inN (c := 7) (N := us.length) (by omega) hus4).1 (inN (c := 7) (N := us.length) (by omega) hus4).2 hus4) hE440 q1_407 (W := 0) (g := (mkF m 229 #[vi p0, vi p1, vi p2, vi va, vi vb, vi sa, vi sc, vr b5, vr b24, vr rs407, .val (.long ml), sn, .val (.int (Int32.ofNat (nd p2.toInt.natAbs))), vi 1, vi 14, un] [(.int 7), (.ref rs407)])) rfl (by rw [hml]; rfl) (argsL := [(.int 7)]) (rest := []) (lenOf pd_29 rfl) rfl (by exact Nat.le_of_eq rfl) (hb hby at_229) rfl (nb rfl) (nb rfl) (nb rfl) (nb rfl)
  obtain ⟨rfl, Nq441, hE441⟩ := hQ441
  have N441 := Fr.app N440 Nq441
  refine Go.tr st441 ?_
  show Go p.tables e below Kx _ (mkF m 232 _ [(.int ((atg us 7) &&& 255))])
  refine s_bipush (pc' := 234) (v := 32) X441.here hx (hb hby at_232) rfl rfl ?_
  refine s_icmpN (pc' := 237) X441.here hx (hb hby at_234) rfl (teq (atl (by rw [hq]; rfl) (by decide))).2 ?_
  refine s_aload (pc' := 239) X441.here hx (hb hby at_237) rfl rfl rfl ?_
  refine s_bipush (pc' := 241) (v := 8) X441.here hx (hb hby at_239) rfl rfl ?_
  obtain ⟨_, T442, L442, X442, hQ442, st442⟩ := kV X441 hx hZ407 (y := yN23) hown407 (hv hw 198 rfl) (hv hw 199 rfl) (notFace_of_selects (args := #[]) (mvT hZ407 (hv hw 201 rfl))) (hv hw 201 rfl) (hv hw 200 rfl) (hv hw 2 rfl) (hv hw 202 rfl) (by decide) (rmHc1 l Z a0 hw [] rs407 rt407 _ us 8 T407.heap n0 O407 G1 S1 P1 vf hvf SFm q1_407 q2_407 q3_407 q4_407 (inN (c := 8) (N := us.length) (by omega) hus4).1 (inN (c := 8) (N := us.length) (by omega) hus4).2 hus4) hE441 q1_407 (W := 0) (g := (mkF m 241 #[vi p0, vi p1, vi p2, vi va, vi vb, vi sa, vi sc, vr b5, vr b24, vr rs407, .val (.long ml), sn, .val (.int (Int32.ofNat (nd p2.toInt.natAbs))), vi 1, vi 14, un] [(.int 8), (.ref rs407)])) rfl (by rw [hml]; rfl) (argsL := [(.int 8)]) (rest := []) (lenOf pd_29 rfl) rfl (by exact Nat.le_of_eq rfl) (hb hby at_241) rfl (nb rfl) (nb rfl) (nb rfl) (nb rfl)
  obtain ⟨rfl, Nq442, hE442⟩ := hQ442
  have N442 := Fr.app N441 Nq442
  refine Go.tr st442 ?_
  show Go p.tables e below Kx _ (mkF m 244 _ [(.int ((atg us 8) &&& 255))])
  refine s_bipush (pc' := 246) (v := 108) X442.here hx (hb hby at_244) rfl rfl ?_
  refine s_icmpN (pc' := 249) X442.here hx (hb hby at_246) rfl (teq (atl (by rw [hq]; rfl) (by decide))).2 ?_
  refine s_aload (pc' := 251) X442.here hx (hb hby at_249) rfl rfl rfl ?_
  refine s_bipush (pc' := 253) (v := 9) X442.here hx (hb hby at_251) rfl rfl ?_
  obtain ⟨_, T443, L443, X443, hQ443, st443⟩ := kV X442 hx hZ407 (y := yN23) hown407 (hv hw 198 rfl) (hv hw 199 rfl) (notFace_of_selects (args := #[]) (mvT hZ407 (hv hw 201 rfl))) (hv hw 201 rfl) (hv hw 200 rfl) (hv hw 2 rfl) (hv hw 202 rfl) (by decide) (rmHc1 l Z a0 hw [] rs407 rt407 _ us 9 T407.heap n0 O407 G1 S1 P1 vf hvf SFm q1_407 q2_407 q3_407 q4_407 (inN (c := 9) (N := us.length) (by omega) hus4).1 (inN (c := 9) (N := us.length) (by omega) hus4).2 hus4) hE442 q1_407 (W := 0) (g := (mkF m 253 #[vi p0, vi p1, vi p2, vi va, vi vb, vi sa, vi sc, vr b5, vr b24, vr rs407, .val (.long ml), sn, .val (.int (Int32.ofNat (nd p2.toInt.natAbs))), vi 1, vi 14, un] [(.int 9), (.ref rs407)])) rfl (by rw [hml]; rfl) (argsL := [(.int 9)]) (rest := []) (lenOf pd_29 rfl) rfl (by exact Nat.le_of_eq rfl) (hb hby at_253) rfl (nb rfl) (nb rfl) (nb rfl) (nb rfl)
  obtain ⟨rfl, Nq443, hE443⟩ := hQ443
  have N443 := Fr.app N442 Nq443
  refine Go.tr st443 ?_
  show Go p.tables e below Kx _ (mkF m 256 _ [(.int ((atg us 9) &&& 255))])
  refine s_bipush (pc' := 258) (v := 105) X443.here hx (hb hby at_256) rfl rfl ?_
  refine s_icmpN (pc' := 261) X443.here hx (hb hby at_258) rfl (teq (atl (by rw [hq]; rfl) (by decide))).2 ?_
  refine s_aload (pc' := 263) X443.here hx (hb hby at_261) rfl rfl rfl ?_
  refine s_bipush (pc' := 265) (v := 10) X443.here hx (hb hby at_263) rfl rfl ?_
  obtain ⟨_, T444, L444, X444, hQ444, st444⟩ := kV X443 hx hZ407 (y := yN23) hown407 (hv hw 198 rfl) (hv hw 199 rfl) (notFace_of_selects (args := #[]) (mvT hZ407 (hv hw 201 rfl))) (hv hw 201 rfl) (hv hw 200 rfl) (hv hw 2 rfl) (hv hw 202 rfl) (by decide) (rmHc1 l Z a0 hw [] rs407 rt407 _ us 10 T407.heap n0 O407 G1 S1 P1 vf hvf SFm q1_407 q2_407 q3_407 q4_407 (inN (c := 10) (N := us.length) (by omega) hus4).1 (inN (c := 10) (N := us.length) (by omega) hus4).2 hus4) hE443 q1_407 (W := 0) (g := (mkF m 265 #[vi p0, vi p1, vi p2, vi va, vi vb, vi sa, vi sc, vr b5, vr b24, vr rs407, .val (.long ml), sn, .val (.int (Int32.ofNat (nd p2.toInt.natAbs))), vi 1, vi 14, un] [(.int 10), (.ref rs407)])) rfl (by rw [hml]; rfl) (argsL := [(.int 10)]) (rest := []) (lenOf pd_29 rfl) rfl (by exact Nat.le_of_eq rfl) (hb hby at_265) rfl (nb rfl) (nb rfl) (nb rfl) (nb rfl)
  obtain ⟨rfl, Nq444, hE444⟩ := hQ444
  have N444 := Fr.app N443 Nq444
  refine Go.tr st444 ?_
  show Go p.tables e below Kx _ (mkF m 268 _ [(.int ((atg us 10) &&& 255))])
  refine s_bipush (pc' := 270) (v := 110) X444.here hx (hb hby at_268) rfl rfl ?_
  refine s_icmpN (pc' := 273) X444.here hx (hb hby at_270) rfl (teq (atl (by rw [hq]; rfl) (by decide))).2 ?_
  refine s_aload (pc' := 275) X444.here hx (hb hby at_273) rfl rfl rfl ?_
  refine s_bipush (pc' := 277) (v := 11) X444.here hx (hb hby at_275) rfl rfl ?_
  obtain ⟨_, T445, L445, X445, hQ445, st445⟩ := kV X444 hx hZ407 (y := yN23) hown407 (hv hw 198 rfl) (hv hw 199 rfl) (notFace_of_selects (args := #[]) (mvT hZ407 (hv hw 201 rfl))) (hv hw 201 rfl) (hv hw 200 rfl) (hv hw 2 rfl) (hv hw 202 rfl) (by decide) (rmHc1 l Z a0 hw [] rs407 rt407 _ us 11 T407.heap n0 O407 G1 S1 P1 vf hvf SFm q1_407 q2_407 q3_407 q4_407 (inN (c := 11) (N := us.length) (by omega) hus4).1 (inN (c := 11) (N := us.length) (by omega) hus4).2 hus4) hE444 q1_407 (W := 0) (g := (mkF m 277 #[vi p0, vi p1, vi p2, vi va, vi vb, vi sa, vi sc, vr b5, vr b24, vr rs407, .val (.long ml), sn, .val (.int (Int32.ofNat (nd p2.toInt.natAbs))), vi 1, vi 14, un] [(.int 11), (.ref rs407)])) rfl (by rw [hml]; rfl) (argsL := [(.int 11)]) (rest := []) (lenOf pd_29 rfl) rfl (by exact Nat.le_of_eq rfl) (hb hby at_277) rfl (nb rfl) (nb rfl) (nb rfl) (nb rfl)
  obtain ⟨rfl, Nq445, hE445⟩ := hQ445
  have N445 := Fr.app N444 Nq445
  refine Go.tr st445 ?_
  show Go p.tables e below Kx _ (mkF m 280 _ [(.int ((atg us 11) &&& 255))])
  refine s_bipush (pc' := 282) (v := 101) X445.here hx (hb hby at_280) rfl rfl ?_
  refine s_icmpN (pc' := 285) X445.here hx (hb hby at_282) rfl (teq (atl (by rw [hq]; rfl) (by decide))).2 ?_
  refine s_aload (pc' := 287) X445.here hx (hb hby at_285) rfl rfl rfl ?_
  refine s_bipush (pc' := 289) (v := 12) X445.here hx (hb hby at_287) rfl rfl ?_
  obtain ⟨_, T446, L446, X446, hQ446, st446⟩ := kV X445 hx hZ407 (y := yN23) hown407 (hv hw 198 rfl) (hv hw 199 rfl) (notFace_of_selects (args := #[]) (mvT hZ407 (hv hw 201 rfl))) (hv hw 201 rfl) (hv hw 200 rfl) (hv hw 2 rfl) (hv hw 202 rfl) (by decide) (rmHc1 l Z a0 hw [] rs407 rt407 _ us 12 T407.heap n0 O407 G1 S1 P1 vf hvf SFm q1_407 q2_407 q3_407 q4_407 (inN (c := 12) (N := us.length) (by omega) hus4).1 (inN (c := 12) (N := us.length) (by omega) hus4).2 hus4) hE445 q1_407 (W := 0) (g := (mkF m 289 #[vi p0, vi p1, vi p2, vi va, vi vb, vi sa, vi sc, vr b5, vr b24, vr rs407, .val (.long ml), sn, .val (.int (Int32.ofNat (nd p2.toInt.natAbs))), vi 1, vi 14, un] [(.int 12), (.ref rs407)])) rfl (by rw [hml]; rfl) (argsL := [(.int 12)]) (rest := []) (lenOf pd_29 rfl) rfl (by exact Nat.le_of_eq rfl) (hb hby at_289) rfl (nb rfl) (nb rfl) (nb rfl) (nb rfl)
  obtain ⟨rfl, Nq446, hE446⟩ := hQ446
  have N446 := Fr.app N445 Nq446
  refine Go.tr st446 ?_
  show Go p.tables e below Kx _ (mkF m 292 _ [(.int ((atg us 12) &&& 255))])
  refine s_bipush (pc' := 294) (v := 32) X446.here hx (hb hby at_292) rfl rfl ?_
  refine s_icmpN (pc' := 297) X446.here hx (hb hby at_294) rfl (teq (atl (by rw [hq]; rfl) (by decide))).2 ?_
  refine s_iconst (pc' := 298) (v := 1) X446.here hx (hb hby at_297) rfl rfl ?_
  refine s_goto (pc' := 302) X446.here hx (hb hby at_298) (by decide) (by decide) ?_
  refine s_istore (pc' := 304) (Ls' := #[vi p0, vi p1, vi p2, vi va, vi vb, vi sa, vi sc, vr b5, vr b24, vr rs407, .val (.long ml), sn, .val (.int (Int32.ofNat (nd p2.toInt.natAbs))), vi 1, vi 14, vi 1]) X446.here hx (hb hby at_302) rfl  rfl ?_
  refine s_iload (pc' := 306) X446.here hx (hb hby at_304) rfl rfl ?_
  refine s_ifN (pc' := 309) X446.here hx (hb hby at_306) rfl ((if0 _ _).trans (feq (by decide)).1) ?_
  refine s_iload (pc' := 311) X446.here hx (hb hby at_309) rfl rfl ?_
  refine s_ifN (pc' := 314) X446.here hx (hb hby at_311) rfl ((if0 _ _).trans (feq (by decide)).1) ?_
  refine s_aload (pc' := 316) X446.here hx (hb hby at_314) rfl rfl rfl ?_
  refine s_bipush (pc' := 318) (v := 13) X446.here hx (hb hby at_316) rfl rfl ?_
  obtain ⟨_, T447, L447, X447, hQ447, st447⟩ := kV X446 hx hZ407 (y := yN23) hown407 (hv hw 198 rfl) (hv hw 199 rfl) (notFace_of_selects (args := #[]) (mvT hZ407 (hv hw 201 rfl))) (hv hw 201 rfl) (hv hw 200 rfl) (hv hw 2 rfl) (hv hw 202 rfl) (by decide) (rmHc1 l Z a0 hw [] rs407 rt407 _ us 13 T407.heap n0 O407 G1 S1 P1 vf hvf SFm q1_407 q2_407 q3_407 q4_407 (inN (c := 13) (N := us.length) (by omega) hus4).1 (inN (c := 13) (N := us.length) (by omega) hus4).2 hus4) hE446 q1_407 (W := 0) (g := (mkF m 318 #[vi p0, vi p1, vi p2, vi va, vi vb, vi sa, vi sc, vr b5, vr b24, vr rs407, .val (.long ml), sn, .val (.int (Int32.ofNat (nd p2.toInt.natAbs))), vi 1, vi 14, vi 1] [(.int 13), (.ref rs407)])) rfl (by rw [hml]; rfl) (argsL := [(.int 13)]) (rest := []) (lenOf pd_29 rfl) rfl (by exact Nat.le_of_eq rfl) (hb hby at_318) rfl (nb rfl) (nb rfl) (nb rfl) (nb rfl)
  obtain ⟨rfl, Nq447, hE447⟩ := hQ447
  have N447 := Fr.app N446 Nq447
  refine Go.tr st447 ?_
  show Go p.tables e below Kx _ (mkF m 321 _ [(.int ((atg us 13) &&& 255))])
  refine s_bipush (pc' := 323) (v := 45) X447.here hx (hb hby at_321) rfl rfl ?_
  refine s_icmpN (pc' := 326) X447.here hx (hb hby at_323) rfl (teq (atl (by rw [hq]; rfl) (by decide))).2 ?_
  refine s_iconst (pc' := 327) (v := 1) X447.here hx (hb hby at_326) rfl rfl ?_
  refine s_goto (pc' := 331) X447.here hx (hb hby at_327) (by decide) (by decide) ?_
  refine s_istore (pc' := 333) (Ls' := #[vi p0, vi p1, vi p2, vi va, vi vb, vi sa, vi sc, vr b5, vr b24, vr rs407, .val (.long ml), sn, .val (.int (Int32.ofNat (nd p2.toInt.natAbs))), vi 1, vi 14, vi 1]) X447.here hx (hb hby at_331) rfl  rfl ?_
  refine s_iload (pc' := 335) X447.here hx (hb hby at_333) rfl rfl ?_
  refine s_ifN (pc' := 338) X447.here hx (hb hby at_335) rfl ((if0 _ _).trans (feq (by decide)).1) ?_
  refine s_aload (pc' := 340) X447.here hx (hb hby at_338) rfl rfl rfl ?_
  refine s_iload (pc' := 342) X447.here hx (hb hby at_340) rfl rfl ?_
  refine s_iload (pc' := 344) X447.here hx (hb hby at_342) rfl rfl ?_
  refine s_iadd (pc' := 345) (z := (Int32.ofNat (14 + (nd p2.toInt.natAbs)))) X447.here hx (hb hby at_344) rfl (ofn2 rfl) ?_
  obtain ⟨_, T448, L448, X448, hQ448, st448⟩ := kV X447 hx hZ407 (y := yN23) hown407 (hv hw 198 rfl) (hv hw 199 rfl) (notFace_of_selects (args := #[]) (mvT hZ407 (hv hw 201 rfl))) (hv hw 201 rfl) (hv hw 200 rfl) (hv hw 2 rfl) (hv hw 202 rfl) (by decide) (rmHc1 l Z a0 hw [] rs407 rt407 _ us (Int32.ofNat (14 + (nd p2.toInt.natAbs))) T407.heap n0 O407 G1 S1 P1 vf hvf SFm q1_407 q2_407 q3_407 q4_407 (inN (c := 14 + (nd p2.toInt.natAbs)) (N := us.length) (by omega) hus4).1 (inN (c := 14 + (nd p2.toInt.natAbs)) (N := us.length) (by omega) hus4).2 hus4) hE447 q1_407 (W := 0) (g := (mkF m 345 #[vi p0, vi p1, vi p2, vi va, vi vb, vi sa, vi sc, vr b5, vr b24, vr rs407, .val (.long ml), sn, .val (.int (Int32.ofNat (nd p2.toInt.natAbs))), vi 1, vi 14, vi 1] [(.int (Int32.ofNat (14 + (nd p2.toInt.natAbs)))), (.ref rs407)])) rfl (by rw [hml]; rfl) (argsL := [(.int (Int32.ofNat (14 + (nd p2.toInt.natAbs))))]) (rest := []) (lenOf pd_29 rfl) rfl (by exact Nat.le_of_eq rfl) (hb hby at_345) rfl (nb rfl) (nb rfl) (nb rfl) (nb rfl)
  obtain ⟨rfl, Nq448, hE448⟩ := hQ448
  have N448 := Fr.app N447 Nq448
  refine Go.tr st448 ?_
  show Go p.tables e below Kx _ (mkF m 348 _ [(.int ((atg us (Int32.ofNat (14 + (nd p2.toInt.natAbs)))) &&& 255))])
  refine s_bipush (pc' := 350) (v := 41) X448.here hx (hb hby at_348) rfl rfl ?_
  refine s_icmpN (pc' := 353) X448.here hx (hb hby at_350) rfl (teq (atl (at_last hq (by rw [List.length_append, suf_len]; rfl) (by omega)) (by decide))).2 ?_
  refine s_iconst (pc' := 354) (v := 1) X448.here hx (hb hby at_353) rfl rfl ?_
  refine s_goto (pc' := 358) X448.here hx (hb hby at_354) (by decide) (by decide) ?_
  refine s_istore (pc' := 360) (Ls' := #[vi p0, vi p1, vi p2, vi va, vi vb, vi sa, vi sc, vr b5, vr b24, vr rs407, .val (.long ml), sn, .val (.int (Int32.ofNat (nd p2.toInt.natAbs))), vi 1, vi 14, vi 1]) X448.here hx (hb hby at_358) rfl  rfl ?_
  refine s_iload (pc' := 362) X448.here hx (hb hby at_360) rfl rfl ?_
  refine s_ifN (pc' := 365) X448.here hx (hb hby at_362) rfl ((if0 _ _).trans (feq (by decide)).1) ?_
  refine s_aload (pc' := 367) X448.here hx (hb hby at_365) rfl rfl rfl ?_
  refine s_iload (pc' := 369) X448.here hx (hb hby at_367) rfl rfl ?_
  refine s_iload (pc' := 371) X448.here hx (hb hby at_369) rfl rfl ?_
  refine s_lload (pc' := 373) X448.here hx (hb hby at_371) rfl rfl ?_
  refine s_iconst (pc' := 374) (v := 0) X448.here hx (hb hby at_373) rfl rfl ?_
  refine s_lconst (pc' := 375) (v := (1 : Int64)) X448.here hx (hb hby at_374) rfl rfl ?_
  obtain ⟨_, T451, L451, X451, hQ451, st451⟩ := kS X448 hx hZ407 (y := yN2) hown407 (hv hw 220 rfl) (hv hw 221 rfl) (hv hw 194 rfl) (hv hw 222 rfl) (by decide) (rmHdo l Z a0 hw [] rs407 rt407 _ us (((((([] : List Int32) ++ (i8s [va, vb])) ++ [(32 : Int32), (40 : Int32)]) ++ (i8s [sa, sc])) ++ [(44 : Int32), (32 : Int32), (108 : Int32), (105 : Int32), (110 : Int32), (101 : Int32), (32 : Int32)]) ++ [(45 : Int32)]) p2.toInt.natAbs (nd p2.toInt.natAbs) 0 ml (1 : Int64) T407.heap n0 O407 G1 S1 P1 vf hvf SFm q1_407 q2_407 q3_407 q4_407 hq hml2 (by decide) (by decide) (by decide) (by omega) (nb rfl)) hE448 (W := 0) (g := (mkF m 375 #[vi p0, vi p1, vi p2, vi va, vi vb, vi sa, vi sc, vr b5, vr b24, vr rs407, .val (.long ml), sn, .val (.int (Int32.ofNat (nd p2.toInt.natAbs))), vi 1, vi 14, vi 1] [(.long (1 : Int64)), (.int 0), (.long ml), (.int (Int32.ofNat (nd p2.toInt.natAbs))), (.int 14), (.ref rs407)])) rfl (by rw [hml]; rfl) (argsL := [(.ref rs407), (.int 14), (.int (Int32.ofNat (nd p2.toInt.natAbs))), (.long ml), (.int 0), (.long (1 : Int64))]) (rest := []) (lenOf pd_30 rfl) rfl (by exact Nat.le_of_eq rfl) (hb hby at_375) rfl (nb rfl) (nb rfl) (nb rfl) (nb rfl)
  obtain ⟨rfl, Nq451, hE451⟩ := hQ451
  have N451 := Fr.app N448 Nq451
  refine Go.st st451 ?_
  show Go p.tables e below Kx _ (mkF m 378 _ [(.int 1)])
  refine s_ifN (pc' := 381) X451.here hx (hb hby at_378) rfl ((if0 _ _).trans (feq (by decide)).1) ?_
  refine s_aload (pc' := 383) X451.here hx (hb hby at_381) rfl rfl rfl ?_
  refine s_iload (pc' := 385) X451.here hx (hb hby at_383) rfl rfl ?_
  refine s_iload (pc' := 387) X451.here hx (hb hby at_385) rfl rfl ?_
  refine s_lload (pc' := 389) X451.here hx (hb hby at_387) rfl rfl ?_
  refine s_iconst (pc' := 390) (v := 1) X451.here hx (hb hby at_389) rfl rfl ?_
  refine Go.st (X451.ldc2Long hx hown407 (mvT hZ407 (hv hw 196 rfl)) (g := (mkF m 390 #[vi p0, vi p1, vi p2, vi va, vi vb, vi sa, vi sc, vr b5, vr b24, vr rs407, .val (.long ml), sn, .val (.int (Int32.ofNat (nd p2.toInt.natAbs))), vi 1, vi 14, vi 1] [(.int 1), (.long ml), (.int (Int32.ofNat (nd p2.toInt.natAbs))), (.int 14), (.ref rs407)])) rfl (hb hby at_390)) ?_
  show Go p.tables e below Kx _ (mkF m 393 _ [(.long (10 : Int64)), (.int 1), (.long ml), (.int (Int32.ofNat (nd p2.toInt.natAbs))), (.int 14), (.ref rs407)])
  obtain ⟨_, T452, L452, X452, hQ452, st452⟩ := kS X451 hx hZ407 (y := yN2) hown407 (hv hw 220 rfl) (hv hw 221 rfl) (hv hw 194 rfl) (hv hw 222 rfl) (by decide) (rmHdo l Z a0 hw [] rs407 rt407 _ us (((((([] : List Int32) ++ (i8s [va, vb])) ++ [(32 : Int32), (40 : Int32)]) ++ (i8s [sa, sc])) ++ [(44 : Int32), (32 : Int32), (108 : Int32), (105 : Int32), (110 : Int32), (101 : Int32), (32 : Int32)]) ++ [(45 : Int32)]) p2.toInt.natAbs (nd p2.toInt.natAbs) 1 ml (10 : Int64) T407.heap n0 O407 G1 S1 P1 vf hvf SFm q1_407 q2_407 q3_407 q4_407 hq hml2 (by decide) (by decide) (by decide) (by omega) (nb rfl)) hE451 (W := 0) (g := (mkF m 393 #[vi p0, vi p1, vi p2, vi va, vi vb, vi sa, vi sc, vr b5, vr b24, vr rs407, .val (.long ml), sn, .val (.int (Int32.ofNat (nd p2.toInt.natAbs))), vi 1, vi 14, vi 1] [(.long (10 : Int64)), (.int 1), (.long ml), (.int (Int32.ofNat (nd p2.toInt.natAbs))), (.int 14), (.ref rs407)])) rfl (by rw [hml]; rfl) (argsL := [(.ref rs407), (.int 14), (.int (Int32.ofNat (nd p2.toInt.natAbs))), (.long ml), (.int 1), (.long (10 : Int64))]) (rest := []) (lenOf pd_30 rfl) rfl (by exact Nat.le_of_eq rfl) (hb hby at_393) rfl (nb rfl) (nb rfl) (nb rfl) (nb rfl)
  obtain ⟨rfl, Nq452, hE452⟩ := hQ452
  have N452 := Fr.app N451 Nq452
  refine Go.st st452 ?_
  show Go p.tables e below Kx _ (mkF m 396 _ [(.int 1)])
  refine s_ifN (pc' := 399) X452.here hx (hb hby at_396) rfl ((if0 _ _).trans (feq (by decide)).1) ?_
  refine s_aload (pc' := 401) X452.here hx (hb hby at_399) rfl rfl rfl ?_
  refine s_iload (pc' := 403) X452.here hx (hb hby at_401) rfl rfl ?_
  refine s_iload (pc' := 405) X452.here hx (hb hby at_403) rfl rfl ?_
  refine s_lload (pc' := 407) X452.here hx (hb hby at_405) rfl rfl ?_
  refine s_iconst (pc' := 408) (v := 2) X452.here hx (hb hby at_407) rfl rfl ?_
  refine Go.st (X452.ldc2Long hx hown407 (mvT hZ407 (hv hw 224 rfl)) (g := (mkF m 408 #[vi p0, vi p1, vi p2, vi va, vi vb, vi sa, vi sc, vr b5, vr b24, vr rs407, .val (.long ml), sn, .val (.int (Int32.ofNat (nd p2.toInt.natAbs))), vi 1, vi 14, vi 1] [(.int 2), (.long ml), (.int (Int32.ofNat (nd p2.toInt.natAbs))), (.int 14), (.ref rs407)])) rfl (hb hby at_408)) ?_
  show Go p.tables e below Kx _ (mkF m 411 _ [(.long (100 : Int64)), (.int 2), (.long ml), (.int (Int32.ofNat (nd p2.toInt.natAbs))), (.int 14), (.ref rs407)])
  obtain ⟨_, T453, L453, X453, hQ453, st453⟩ := kS X452 hx hZ407 (y := yN2) hown407 (hv hw 220 rfl) (hv hw 221 rfl) (hv hw 194 rfl) (hv hw 222 rfl) (by decide) (rmHdo l Z a0 hw [] rs407 rt407 _ us (((((([] : List Int32) ++ (i8s [va, vb])) ++ [(32 : Int32), (40 : Int32)]) ++ (i8s [sa, sc])) ++ [(44 : Int32), (32 : Int32), (108 : Int32), (105 : Int32), (110 : Int32), (101 : Int32), (32 : Int32)]) ++ [(45 : Int32)]) p2.toInt.natAbs (nd p2.toInt.natAbs) 2 ml (100 : Int64) T407.heap n0 O407 G1 S1 P1 vf hvf SFm q1_407 q2_407 q3_407 q4_407 hq hml2 (by decide) (by decide) (by decide) (by omega) (nb rfl)) hE452 (W := 0) (g := (mkF m 411 #[vi p0, vi p1, vi p2, vi va, vi vb, vi sa, vi sc, vr b5, vr b24, vr rs407, .val (.long ml), sn, .val (.int (Int32.ofNat (nd p2.toInt.natAbs))), vi 1, vi 14, vi 1] [(.long (100 : Int64)), (.int 2), (.long ml), (.int (Int32.ofNat (nd p2.toInt.natAbs))), (.int 14), (.ref rs407)])) rfl (by rw [hml]; rfl) (argsL := [(.ref rs407), (.int 14), (.int (Int32.ofNat (nd p2.toInt.natAbs))), (.long ml), (.int 2), (.long (100 : Int64))]) (rest := []) (lenOf pd_30 rfl) rfl (by exact Nat.le_of_eq rfl) (hb hby at_411) rfl (nb rfl) (nb rfl) (nb rfl) (nb rfl)
  obtain ⟨rfl, Nq453, hE453⟩ := hQ453
  have N453 := Fr.app N452 Nq453
  refine Go.st st453 ?_
  show Go p.tables e below Kx _ (mkF m 414 _ [(.int 1)])
  refine s_ifN (pc' := 417) X453.here hx (hb hby at_414) rfl ((if0 _ _).trans (feq (by decide)).1) ?_
  refine s_aload (pc' := 419) X453.here hx (hb hby at_417) rfl rfl rfl ?_
  refine s_iload (pc' := 421) X453.here hx (hb hby at_419) rfl rfl ?_
  refine s_iload (pc' := 423) X453.here hx (hb hby at_421) rfl rfl ?_
  refine s_lload (pc' := 425) X453.here hx (hb hby at_423) rfl rfl ?_
  refine s_iconst (pc' := 426) (v := 3) X453.here hx (hb hby at_425) rfl rfl ?_
  refine Go.st (X453.ldc2Long hx hown407 (mvT hZ407 (hv hw 225 rfl)) (g := (mkF m 426 #[vi p0, vi p1, vi p2, vi va, vi vb, vi sa, vi sc, vr b5, vr b24, vr rs407, .val (.long ml), sn, .val (.int (Int32.ofNat (nd p2.toInt.natAbs))), vi 1, vi 14, vi 1] [(.int 3), (.long ml), (.int (Int32.ofNat (nd p2.toInt.natAbs))), (.int 14), (.ref rs407)])) rfl (hb hby at_426)) ?_
  show Go p.tables e below Kx _ (mkF m 429 _ [(.long (1000 : Int64)), (.int 3), (.long ml), (.int (Int32.ofNat (nd p2.toInt.natAbs))), (.int 14), (.ref rs407)])
  obtain ⟨_, T454, L454, X454, hQ454, st454⟩ := kS X453 hx hZ407 (y := yN2) hown407 (hv hw 220 rfl) (hv hw 221 rfl) (hv hw 194 rfl) (hv hw 222 rfl) (by decide) (rmHdo l Z a0 hw [] rs407 rt407 _ us (((((([] : List Int32) ++ (i8s [va, vb])) ++ [(32 : Int32), (40 : Int32)]) ++ (i8s [sa, sc])) ++ [(44 : Int32), (32 : Int32), (108 : Int32), (105 : Int32), (110 : Int32), (101 : Int32), (32 : Int32)]) ++ [(45 : Int32)]) p2.toInt.natAbs (nd p2.toInt.natAbs) 3 ml (1000 : Int64) T407.heap n0 O407 G1 S1 P1 vf hvf SFm q1_407 q2_407 q3_407 q4_407 hq hml2 (by decide) (by decide) (by decide) (by omega) (nb rfl)) hE453 (W := 0) (g := (mkF m 429 #[vi p0, vi p1, vi p2, vi va, vi vb, vi sa, vi sc, vr b5, vr b24, vr rs407, .val (.long ml), sn, .val (.int (Int32.ofNat (nd p2.toInt.natAbs))), vi 1, vi 14, vi 1] [(.long (1000 : Int64)), (.int 3), (.long ml), (.int (Int32.ofNat (nd p2.toInt.natAbs))), (.int 14), (.ref rs407)])) rfl (by rw [hml]; rfl) (argsL := [(.ref rs407), (.int 14), (.int (Int32.ofNat (nd p2.toInt.natAbs))), (.long ml), (.int 3), (.long (1000 : Int64))]) (rest := []) (lenOf pd_30 rfl) rfl (by exact Nat.le_of_eq rfl) (hb hby at_429) rfl (nb rfl) (nb rfl) (nb rfl) (nb rfl)
  obtain ⟨rfl, Nq454, hE454⟩ := hQ454
  have N454 := Fr.app N453 Nq454
  refine Go.st st454 ?_
  show Go p.tables e below Kx _ (mkF m 432 _ [(.int 1)])
  refine s_ifN (pc' := 435) X454.here hx (hb hby at_432) rfl ((if0 _ _).trans (feq (by decide)).1) ?_
  refine s_aload (pc' := 437) X454.here hx (hb hby at_435) rfl rfl rfl ?_
  refine s_iload (pc' := 439) X454.here hx (hb hby at_437) rfl rfl ?_
  refine s_iload (pc' := 441) X454.here hx (hb hby at_439) rfl rfl ?_
  refine s_lload (pc' := 443) X454.here hx (hb hby at_441) rfl rfl ?_
  refine s_iconst (pc' := 444) (v := 4) X454.here hx (hb hby at_443) rfl rfl ?_
  refine Go.st (X454.ldc2Long hx hown407 (mvT hZ407 (hv hw 226 rfl)) (g := (mkF m 444 #[vi p0, vi p1, vi p2, vi va, vi vb, vi sa, vi sc, vr b5, vr b24, vr rs407, .val (.long ml), sn, .val (.int (Int32.ofNat (nd p2.toInt.natAbs))), vi 1, vi 14, vi 1] [(.int 4), (.long ml), (.int (Int32.ofNat (nd p2.toInt.natAbs))), (.int 14), (.ref rs407)])) rfl (hb hby at_444)) ?_
  show Go p.tables e below Kx _ (mkF m 447 _ [(.long (10000 : Int64)), (.int 4), (.long ml), (.int (Int32.ofNat (nd p2.toInt.natAbs))), (.int 14), (.ref rs407)])
  obtain ⟨_, T455, L455, X455, hQ455, st455⟩ := kS X454 hx hZ407 (y := yN2) hown407 (hv hw 220 rfl) (hv hw 221 rfl) (hv hw 194 rfl) (hv hw 222 rfl) (by decide) (rmHdo l Z a0 hw [] rs407 rt407 _ us (((((([] : List Int32) ++ (i8s [va, vb])) ++ [(32 : Int32), (40 : Int32)]) ++ (i8s [sa, sc])) ++ [(44 : Int32), (32 : Int32), (108 : Int32), (105 : Int32), (110 : Int32), (101 : Int32), (32 : Int32)]) ++ [(45 : Int32)]) p2.toInt.natAbs (nd p2.toInt.natAbs) 4 ml (10000 : Int64) T407.heap n0 O407 G1 S1 P1 vf hvf SFm q1_407 q2_407 q3_407 q4_407 hq hml2 (by decide) (by decide) (by decide) (by omega) (nb rfl)) hE454 (W := 0) (g := (mkF m 447 #[vi p0, vi p1, vi p2, vi va, vi vb, vi sa, vi sc, vr b5, vr b24, vr rs407, .val (.long ml), sn, .val (.int (Int32.ofNat (nd p2.toInt.natAbs))), vi 1, vi 14, vi 1] [(.long (10000 : Int64)), (.int 4), (.long ml), (.int (Int32.ofNat (nd p2.toInt.natAbs))), (.int 14), (.ref rs407)])) rfl (by rw [hml]; rfl) (argsL := [(.ref rs407), (.int 14), (.int (Int32.ofNat (nd p2.toInt.natAbs))), (.long ml), (.int 4), (.long (10000 : Int64))]) (rest := []) (lenOf pd_30 rfl) rfl (by exact Nat.le_of_eq rfl) (hb hby at_447) rfl (nb rfl) (nb rfl) (nb rfl) (nb rfl)
  obtain ⟨rfl, Nq455, hE455⟩ := hQ455
  have N455 := Fr.app N454 Nq455
  refine Go.st st455 ?_
  show Go p.tables e below Kx _ (mkF m 450 _ [(.int 1)])
  refine s_ifN (pc' := 453) X455.here hx (hb hby at_450) rfl ((if0 _ _).trans (feq (by decide)).1) ?_
  refine s_aload (pc' := 455) X455.here hx (hb hby at_453) rfl rfl rfl ?_
  refine s_iload (pc' := 457) X455.here hx (hb hby at_455) rfl rfl ?_
  refine s_iload (pc' := 459) X455.here hx (hb hby at_457) rfl rfl ?_
  refine s_lload (pc' := 461) X455.here hx (hb hby at_459) rfl rfl ?_
  refine s_iconst (pc' := 462) (v := 5) X455.here hx (hb hby at_461) rfl rfl ?_
  refine Go.st (X455.ldc2Long hx hown407 (mvT hZ407 (hv hw 227 rfl)) (g := (mkF m 462 #[vi p0, vi p1, vi p2, vi va, vi vb, vi sa, vi sc, vr b5, vr b24, vr rs407, .val (.long ml), sn, .val (.int (Int32.ofNat (nd p2.toInt.natAbs))), vi 1, vi 14, vi 1] [(.int 5), (.long ml), (.int (Int32.ofNat (nd p2.toInt.natAbs))), (.int 14), (.ref rs407)])) rfl (hb hby at_462)) ?_
  show Go p.tables e below Kx _ (mkF m 465 _ [(.long (100000 : Int64)), (.int 5), (.long ml), (.int (Int32.ofNat (nd p2.toInt.natAbs))), (.int 14), (.ref rs407)])
  obtain ⟨_, T456, L456, X456, hQ456, st456⟩ := kS X455 hx hZ407 (y := yN2) hown407 (hv hw 220 rfl) (hv hw 221 rfl) (hv hw 194 rfl) (hv hw 222 rfl) (by decide) (rmHdo l Z a0 hw [] rs407 rt407 _ us (((((([] : List Int32) ++ (i8s [va, vb])) ++ [(32 : Int32), (40 : Int32)]) ++ (i8s [sa, sc])) ++ [(44 : Int32), (32 : Int32), (108 : Int32), (105 : Int32), (110 : Int32), (101 : Int32), (32 : Int32)]) ++ [(45 : Int32)]) p2.toInt.natAbs (nd p2.toInt.natAbs) 5 ml (100000 : Int64) T407.heap n0 O407 G1 S1 P1 vf hvf SFm q1_407 q2_407 q3_407 q4_407 hq hml2 (by decide) (by decide) (by decide) (by omega) (nb rfl)) hE455 (W := 0) (g := (mkF m 465 #[vi p0, vi p1, vi p2, vi va, vi vb, vi sa, vi sc, vr b5, vr b24, vr rs407, .val (.long ml), sn, .val (.int (Int32.ofNat (nd p2.toInt.natAbs))), vi 1, vi 14, vi 1] [(.long (100000 : Int64)), (.int 5), (.long ml), (.int (Int32.ofNat (nd p2.toInt.natAbs))), (.int 14), (.ref rs407)])) rfl (by rw [hml]; rfl) (argsL := [(.ref rs407), (.int 14), (.int (Int32.ofNat (nd p2.toInt.natAbs))), (.long ml), (.int 5), (.long (100000 : Int64))]) (rest := []) (lenOf pd_30 rfl) rfl (by exact Nat.le_of_eq rfl) (hb hby at_465) rfl (nb rfl) (nb rfl) (nb rfl) (nb rfl)
  obtain ⟨rfl, Nq456, hE456⟩ := hQ456
  have N456 := Fr.app N455 Nq456
  refine Go.st st456 ?_
  show Go p.tables e below Kx _ (mkF m 468 _ [(.int 1)])
  refine s_ifN (pc' := 471) X456.here hx (hb hby at_468) rfl ((if0 _ _).trans (feq (by decide)).1) ?_
  refine s_aload (pc' := 473) X456.here hx (hb hby at_471) rfl rfl rfl ?_
  refine s_iload (pc' := 475) X456.here hx (hb hby at_473) rfl rfl ?_
  refine s_iload (pc' := 477) X456.here hx (hb hby at_475) rfl rfl ?_
  refine s_lload (pc' := 479) X456.here hx (hb hby at_477) rfl rfl ?_
  refine s_bipush (pc' := 481) (v := 6) X456.here hx (hb hby at_479) rfl rfl ?_
  refine Go.st (X456.ldc2Long hx hown407 (mvT hZ407 (hv hw 228 rfl)) (g := (mkF m 481 #[vi p0, vi p1, vi p2, vi va, vi vb, vi sa, vi sc, vr b5, vr b24, vr rs407, .val (.long ml), sn, .val (.int (Int32.ofNat (nd p2.toInt.natAbs))), vi 1, vi 14, vi 1] [(.int 6), (.long ml), (.int (Int32.ofNat (nd p2.toInt.natAbs))), (.int 14), (.ref rs407)])) rfl (hb hby at_481)) ?_
  show Go p.tables e below Kx _ (mkF m 484 _ [(.long (1000000 : Int64)), (.int 6), (.long ml), (.int (Int32.ofNat (nd p2.toInt.natAbs))), (.int 14), (.ref rs407)])
  obtain ⟨_, T457, L457, X457, hQ457, st457⟩ := kS X456 hx hZ407 (y := yN2) hown407 (hv hw 220 rfl) (hv hw 221 rfl) (hv hw 194 rfl) (hv hw 222 rfl) (by decide) (rmHdo l Z a0 hw [] rs407 rt407 _ us (((((([] : List Int32) ++ (i8s [va, vb])) ++ [(32 : Int32), (40 : Int32)]) ++ (i8s [sa, sc])) ++ [(44 : Int32), (32 : Int32), (108 : Int32), (105 : Int32), (110 : Int32), (101 : Int32), (32 : Int32)]) ++ [(45 : Int32)]) p2.toInt.natAbs (nd p2.toInt.natAbs) 6 ml (1000000 : Int64) T407.heap n0 O407 G1 S1 P1 vf hvf SFm q1_407 q2_407 q3_407 q4_407 hq hml2 (by decide) (by decide) (by decide) (by omega) (nb rfl)) hE456 (W := 0) (g := (mkF m 484 #[vi p0, vi p1, vi p2, vi va, vi vb, vi sa, vi sc, vr b5, vr b24, vr rs407, .val (.long ml), sn, .val (.int (Int32.ofNat (nd p2.toInt.natAbs))), vi 1, vi 14, vi 1] [(.long (1000000 : Int64)), (.int 6), (.long ml), (.int (Int32.ofNat (nd p2.toInt.natAbs))), (.int 14), (.ref rs407)])) rfl (by rw [hml]; rfl) (argsL := [(.ref rs407), (.int 14), (.int (Int32.ofNat (nd p2.toInt.natAbs))), (.long ml), (.int 6), (.long (1000000 : Int64))]) (rest := []) (lenOf pd_30 rfl) rfl (by exact Nat.le_of_eq rfl) (hb hby at_484) rfl (nb rfl) (nb rfl) (nb rfl) (nb rfl)
  obtain ⟨rfl, Nq457, hE457⟩ := hQ457
  have N457 := Fr.app N456 Nq457
  refine Go.st st457 ?_
  show Go p.tables e below Kx _ (mkF m 487 _ [(.int 1)])
  refine s_ifN (pc' := 490) X457.here hx (hb hby at_487) rfl ((if0 _ _).trans (feq (by decide)).1) ?_
  refine s_aload (pc' := 492) X457.here hx (hb hby at_490) rfl rfl rfl ?_
  refine s_iload (pc' := 494) X457.here hx (hb hby at_492) rfl rfl ?_
  refine s_iload (pc' := 496) X457.here hx (hb hby at_494) rfl rfl ?_
  refine s_lload (pc' := 498) X457.here hx (hb hby at_496) rfl rfl ?_
  refine s_bipush (pc' := 500) (v := 7) X457.here hx (hb hby at_498) rfl rfl ?_
  refine Go.st (X457.ldc2Long hx hown407 (mvT hZ407 (hv hw 229 rfl)) (g := (mkF m 500 #[vi p0, vi p1, vi p2, vi va, vi vb, vi sa, vi sc, vr b5, vr b24, vr rs407, .val (.long ml), sn, .val (.int (Int32.ofNat (nd p2.toInt.natAbs))), vi 1, vi 14, vi 1] [(.int 7), (.long ml), (.int (Int32.ofNat (nd p2.toInt.natAbs))), (.int 14), (.ref rs407)])) rfl (hb hby at_500)) ?_
  show Go p.tables e below Kx _ (mkF m 503 _ [(.long (10000000 : Int64)), (.int 7), (.long ml), (.int (Int32.ofNat (nd p2.toInt.natAbs))), (.int 14), (.ref rs407)])
  obtain ⟨_, T458, L458, X458, hQ458, st458⟩ := kS X457 hx hZ407 (y := yN2) hown407 (hv hw 220 rfl) (hv hw 221 rfl) (hv hw 194 rfl) (hv hw 222 rfl) (by decide) (rmHdo l Z a0 hw [] rs407 rt407 _ us (((((([] : List Int32) ++ (i8s [va, vb])) ++ [(32 : Int32), (40 : Int32)]) ++ (i8s [sa, sc])) ++ [(44 : Int32), (32 : Int32), (108 : Int32), (105 : Int32), (110 : Int32), (101 : Int32), (32 : Int32)]) ++ [(45 : Int32)]) p2.toInt.natAbs (nd p2.toInt.natAbs) 7 ml (10000000 : Int64) T407.heap n0 O407 G1 S1 P1 vf hvf SFm q1_407 q2_407 q3_407 q4_407 hq hml2 (by decide) (by decide) (by decide) (by omega) (nb rfl)) hE457 (W := 0) (g := (mkF m 503 #[vi p0, vi p1, vi p2, vi va, vi vb, vi sa, vi sc, vr b5, vr b24, vr rs407, .val (.long ml), sn, .val (.int (Int32.ofNat (nd p2.toInt.natAbs))), vi 1, vi 14, vi 1] [(.long (10000000 : Int64)), (.int 7), (.long ml), (.int (Int32.ofNat (nd p2.toInt.natAbs))), (.int 14), (.ref rs407)])) rfl (by rw [hml]; rfl) (argsL := [(.ref rs407), (.int 14), (.int (Int32.ofNat (nd p2.toInt.natAbs))), (.long ml), (.int 7), (.long (10000000 : Int64))]) (rest := []) (lenOf pd_30 rfl) rfl (by exact Nat.le_of_eq rfl) (hb hby at_503) rfl (nb rfl) (nb rfl) (nb rfl) (nb rfl)
  obtain ⟨rfl, Nq458, hE458⟩ := hQ458
  have N458 := Fr.app N457 Nq458
  refine Go.st st458 ?_
  show Go p.tables e below Kx _ (mkF m 506 _ [(.int 1)])
  refine s_ifN (pc' := 509) X458.here hx (hb hby at_506) rfl ((if0 _ _).trans (feq (by decide)).1) ?_
  refine s_aload (pc' := 511) X458.here hx (hb hby at_509) rfl rfl rfl ?_
  refine s_iload (pc' := 513) X458.here hx (hb hby at_511) rfl rfl ?_
  refine s_iload (pc' := 515) X458.here hx (hb hby at_513) rfl rfl ?_
  refine s_lload (pc' := 517) X458.here hx (hb hby at_515) rfl rfl ?_
  refine s_bipush (pc' := 519) (v := 8) X458.here hx (hb hby at_517) rfl rfl ?_
  refine Go.st (X458.ldc2Long hx hown407 (mvT hZ407 (hv hw 230 rfl)) (g := (mkF m 519 #[vi p0, vi p1, vi p2, vi va, vi vb, vi sa, vi sc, vr b5, vr b24, vr rs407, .val (.long ml), sn, .val (.int (Int32.ofNat (nd p2.toInt.natAbs))), vi 1, vi 14, vi 1] [(.int 8), (.long ml), (.int (Int32.ofNat (nd p2.toInt.natAbs))), (.int 14), (.ref rs407)])) rfl (hb hby at_519)) ?_
  show Go p.tables e below Kx _ (mkF m 522 _ [(.long (100000000 : Int64)), (.int 8), (.long ml), (.int (Int32.ofNat (nd p2.toInt.natAbs))), (.int 14), (.ref rs407)])
  obtain ⟨_, T459, L459, X459, hQ459, st459⟩ := kS X458 hx hZ407 (y := yN2) hown407 (hv hw 220 rfl) (hv hw 221 rfl) (hv hw 194 rfl) (hv hw 222 rfl) (by decide) (rmHdo l Z a0 hw [] rs407 rt407 _ us (((((([] : List Int32) ++ (i8s [va, vb])) ++ [(32 : Int32), (40 : Int32)]) ++ (i8s [sa, sc])) ++ [(44 : Int32), (32 : Int32), (108 : Int32), (105 : Int32), (110 : Int32), (101 : Int32), (32 : Int32)]) ++ [(45 : Int32)]) p2.toInt.natAbs (nd p2.toInt.natAbs) 8 ml (100000000 : Int64) T407.heap n0 O407 G1 S1 P1 vf hvf SFm q1_407 q2_407 q3_407 q4_407 hq hml2 (by decide) (by decide) (by decide) (by omega) (nb rfl)) hE458 (W := 0) (g := (mkF m 522 #[vi p0, vi p1, vi p2, vi va, vi vb, vi sa, vi sc, vr b5, vr b24, vr rs407, .val (.long ml), sn, .val (.int (Int32.ofNat (nd p2.toInt.natAbs))), vi 1, vi 14, vi 1] [(.long (100000000 : Int64)), (.int 8), (.long ml), (.int (Int32.ofNat (nd p2.toInt.natAbs))), (.int 14), (.ref rs407)])) rfl (by rw [hml]; rfl) (argsL := [(.ref rs407), (.int 14), (.int (Int32.ofNat (nd p2.toInt.natAbs))), (.long ml), (.int 8), (.long (100000000 : Int64))]) (rest := []) (lenOf pd_30 rfl) rfl (by exact Nat.le_of_eq rfl) (hb hby at_522) rfl (nb rfl) (nb rfl) (nb rfl) (nb rfl)
  obtain ⟨rfl, Nq459, hE459⟩ := hQ459
  have N459 := Fr.app N458 Nq459
  refine Go.st st459 ?_
  show Go p.tables e below Kx _ (mkF m 525 _ [(.int 1)])
  refine s_ifN (pc' := 528) X459.here hx (hb hby at_525) rfl ((if0 _ _).trans (feq (by decide)).1) ?_
  refine s_aload (pc' := 530) X459.here hx (hb hby at_528) rfl rfl rfl ?_
  refine s_iload (pc' := 532) X459.here hx (hb hby at_530) rfl rfl ?_
  refine s_iload (pc' := 534) X459.here hx (hb hby at_532) rfl rfl ?_
  refine s_lload (pc' := 536) X459.here hx (hb hby at_534) rfl rfl ?_
  refine s_bipush (pc' := 538) (v := 9) X459.here hx (hb hby at_536) rfl rfl ?_
  refine Go.st (X459.ldc2Long hx hown407 (mvT hZ407 (hv hw 231 rfl)) (g := (mkF m 538 #[vi p0, vi p1, vi p2, vi va, vi vb, vi sa, vi sc, vr b5, vr b24, vr rs407, .val (.long ml), sn, .val (.int (Int32.ofNat (nd p2.toInt.natAbs))), vi 1, vi 14, vi 1] [(.int 9), (.long ml), (.int (Int32.ofNat (nd p2.toInt.natAbs))), (.int 14), (.ref rs407)])) rfl (hb hby at_538)) ?_
  show Go p.tables e below Kx _ (mkF m 541 _ [(.long (1000000000 : Int64)), (.int 9), (.long ml), (.int (Int32.ofNat (nd p2.toInt.natAbs))), (.int 14), (.ref rs407)])
  obtain ⟨_, T460, L460, X460, hQ460, st460⟩ := kS X459 hx hZ407 (y := yN2) hown407 (hv hw 220 rfl) (hv hw 221 rfl) (hv hw 194 rfl) (hv hw 222 rfl) (by decide) (rmHdo l Z a0 hw [] rs407 rt407 _ us (((((([] : List Int32) ++ (i8s [va, vb])) ++ [(32 : Int32), (40 : Int32)]) ++ (i8s [sa, sc])) ++ [(44 : Int32), (32 : Int32), (108 : Int32), (105 : Int32), (110 : Int32), (101 : Int32), (32 : Int32)]) ++ [(45 : Int32)]) p2.toInt.natAbs (nd p2.toInt.natAbs) 9 ml (1000000000 : Int64) T407.heap n0 O407 G1 S1 P1 vf hvf SFm q1_407 q2_407 q3_407 q4_407 hq hml2 (by decide) (by decide) (by decide) (by omega) (nb rfl)) hE459 (W := 0) (g := (mkF m 541 #[vi p0, vi p1, vi p2, vi va, vi vb, vi sa, vi sc, vr b5, vr b24, vr rs407, .val (.long ml), sn, .val (.int (Int32.ofNat (nd p2.toInt.natAbs))), vi 1, vi 14, vi 1] [(.long (1000000000 : Int64)), (.int 9), (.long ml), (.int (Int32.ofNat (nd p2.toInt.natAbs))), (.int 14), (.ref rs407)])) rfl (by rw [hml]; rfl) (argsL := [(.ref rs407), (.int 14), (.int (Int32.ofNat (nd p2.toInt.natAbs))), (.long ml), (.int 9), (.long (1000000000 : Int64))]) (rest := []) (lenOf pd_30 rfl) rfl (by exact Nat.le_of_eq rfl) (hb hby at_541) rfl (nb rfl) (nb rfl) (nb rfl) (nb rfl)
  obtain ⟨rfl, Nq460, hE460⟩ := hQ460
  have N460 := Fr.app N459 Nq460
  refine Go.st st460 ?_
  show Go p.tables e below Kx _ (mkF m 544 _ [(.int 1)])
  refine s_ifN (pc' := 547) X460.here hx (hb hby at_544) rfl ((if0 _ _).trans (feq (by decide)).1) ?_
  refine s_iconst (pc' := 548) (v := 1) X460.here hx (hb hby at_547) rfl rfl ?_
  refine s_goto (pc' := 552) X460.here hx (hb hby at_548) (by decide) (by decide) ?_
  refine s_istore (pc' := 554) (Ls' := #[vi p0, vi p1, vi p2, vi va, vi vb, vi sa, vi sc, vr b5, vr b24, vr rs407, .val (.long ml), sn, .val (.int (Int32.ofNat (nd p2.toInt.natAbs))), vi 1, vi 14, vi 1]) X460.here hx (hb hby at_552) rfl  rfl ?_
  refine s_iload (pc' := 556) X460.here hx (hb hby at_554) rfl rfl ?_
  obtain ⟨fs, hr, hrun, hended, hRW⟩ := X460.leaveW hS407 (by rw [hE460]; exact hk407) (v := (some (.int 1))) (fun h => by rw [Bd.returns] at h; cases h)
  have hCx := C407.trans (CHv.at X460 hZ407 hEL Cr407.1)
  refine Go.fin (retN X460 hx (t := .boolean) Bd.returns (by simp) (hb hby at_556) hr) (hF _ _ hrun hended ⟨_, _, rfl, ?_, ?_, hRW.1, hRW.2.1, hRW.2.2.1, hRW.2.2.2.mono (by decide) (by decide)⟩)
  ·
   show QL Z p0 p1 p2 h0 n0 ((some (.int 1)) : Option Value) T460.heap _
   rw [hE460]
   exact ⟨rfl, N460⟩
  ·
   show CHr Z consts_1 s.vm s.heap T460.vm T460.heap
   rw [hE460, hh]; exact hCx
 ·
  have hq : us = ((((([] : List Int32) ++ (i8s [va, vb])) ++ [(32 : Int32), (40 : Int32)]) ++ (i8s [sa, sc])) ++ [(44 : Int32), (32 : Int32), (108 : Int32), (105 : Int32), (110 : Int32), (101 : Int32), (32 : Int32)]) ++ suf p2.toInt.natAbs (nd p2.toInt.natAbs) ++ [(41 : Int32)] := by rw [hus, dec_p hsg (nd_is (abs_10 p2))]
  have hnd := nd_le p2.toInt.natAbs
  have hlen : us.length = 13 + (nd p2.toInt.natAbs) + 1 := by rw [hq, List.length_append, List.length_append, suf_len]; rfl
  have hus4 : us.length ≤ 4000 := by omega
  show Go p.tables e below Kx _ (mkF m 114 _ [(.int p2)])
  refine s_ifY (pc' := 121) X420.here hx (hb hby at_114) ((if0 _ _).trans (flt hsg).2.1) (by decide) (by decide) ?_
  refine s_iconst (pc' := 122) (v := 0) X420.here hx (hb hby at_121) rfl rfl ?_
  refine s_istore (pc' := 124) (Ls' := #[vi p0, vi p1, vi p2, vi va, vi vb, vi sa, vi sc, vr b5, vr b24, vr rs407, .val (.long ml), sn, .val (.int (Int32.ofNat (nd p2.toInt.natAbs))), vi 0, un, un]) X420.here hx (hb hby at_122) rfl  rfl ?_
  refine s_bipush (pc' := 126) (v := 13) X420.here hx (hb hby at_124) rfl rfl ?_
  refine s_iload (pc' := 128) X420.here hx (hb hby at_126) rfl rfl ?_
  refine s_iadd (pc' := 129) (z := 13) X420.here hx (hb hby at_128) rfl (by decide) ?_
  refine s_istore (pc' := 131) (Ls' := #[vi p0, vi p1, vi p2, vi va, vi vb, vi sa, vi sc, vr b5, vr b24, vr rs407, .val (.long ml), sn, .val (.int (Int32.ofNat (nd p2.toInt.natAbs))), vi 0, vi 13, un]) X420.here hx (hb hby at_129) rfl  rfl ?_
  refine s_aload (pc' := 133) X420.here hx (hb hby at_131) rfl rfl rfl ?_
  obtain ⟨_, T461, L461, X461, hQ461, st461⟩ := kV X420 hx hZ407 (y := yN28) hown407 (hv hw 197 rfl) (hv hw 87 rfl) (notFace_of_selects (args := #[]) (mvT hZ407 (hv hw 89 rfl))) (hv hw 89 rfl) (hv hw 88 rfl) (hv hw 2 rfl) (hv hw 90 rfl) (by decide) (rmGl l Z a0 hw [] rs407 rt407 _ us T407.heap n0 O407 G1 S1 P1 q1_407 q2_407 q3_407 q4_407) hE420 q1_407 (W := 0) (g := (mkF m 133 #[vi p0, vi p1, vi p2, vi va, vi vb, vi sa, vi sc, vr b5, vr b24, vr rs407, .val (.long ml), sn, .val (.int (Int32.ofNat (nd p2.toInt.natAbs))), vi 0, vi 13, un] [(.ref rs407)])) rfl (by rw [hml]; rfl) (argsL := []) (rest := []) (lenOf pd_5 rfl) rfl (by exact Nat.le_of_eq rfl) (hb hby at_133) rfl (nb rfl) (nb rfl) (nb rfl) (nb rfl)
  obtain ⟨rfl, Nq461, hE461⟩ := hQ461
  have N461 := Fr.app N420 Nq461
  refine Go.tr st461 ?_
  show Go p.tables e below Kx _ (mkF m 136 _ [(.int (Int32.ofNat us.length))])
  refine s_iload (pc' := 138) X461.here hx (hb hby at_136) rfl rfl ?_
  refine s_iload (pc' := 140) X461.here hx (hb hby at_138) rfl rfl ?_
  refine s_iadd (pc' := 141) X461.here hx (hb hby at_140) rfl rfl ?_
  refine s_iconst (pc' := 142) (v := 1) X461.here hx (hb hby at_141) rfl rfl ?_
  refine s_iadd (pc' := 143) X461.here hx (hb hby at_142) rfl rfl ?_
  refine s_icmpY (pc' := 148) X461.here hx (hb hby at_143) (teq (lenq hq rfl)).1 (by decide) (by decide) ?_
  refine s_aload (pc' := 150) X461.here hx (hb hby at_148) rfl rfl rfl ?_
  refine s_iconst (pc' := 151) (v := 0) X461.here hx (hb hby at_150) rfl rfl ?_
  obtain ⟨_, T462, L462, X462, hQ462, st462⟩ := kV X461 hx hZ407 (y := yN23) hown407 (hv hw 198 rfl) (hv hw 199 rfl) (notFace_of_selects (args := #[]) (mvT hZ407 (hv hw 201 rfl))) (hv hw 201 rfl) (hv hw 200 rfl) (hv hw 2 rfl) (hv hw 202 rfl) (by decide) (rmHc1 l Z a0 hw [] rs407 rt407 _ us 0 T407.heap n0 O407 G1 S1 P1 vf hvf SFm q1_407 q2_407 q3_407 q4_407 (inN (c := 0) (N := us.length) (by omega) hus4).1 (inN (c := 0) (N := us.length) (by omega) hus4).2 hus4) hE461 q1_407 (W := 0) (g := (mkF m 151 #[vi p0, vi p1, vi p2, vi va, vi vb, vi sa, vi sc, vr b5, vr b24, vr rs407, .val (.long ml), sn, .val (.int (Int32.ofNat (nd p2.toInt.natAbs))), vi 0, vi 13, un] [(.int 0), (.ref rs407)])) rfl (by rw [hml]; rfl) (argsL := [(.int 0)]) (rest := []) (lenOf pd_29 rfl) rfl (by exact Nat.le_of_eq rfl) (hb hby at_151) rfl (nb rfl) (nb rfl) (nb rfl) (nb rfl)
  obtain ⟨rfl, Nq462, hE462⟩ := hQ462
  have N462 := Fr.app N461 Nq462
  refine Go.tr st462 ?_
  show Go p.tables e below Kx _ (mkF m 154 _ [(.int ((atg us 0) &&& 255))])
  refine s_iloadN (pc' := 155) X462.here hx (hb hby at_154) rfl rfl ?_
  refine s_icmpN (pc' := 158) X462.here hx (hb hby at_155) rfl (teq (atc (by rw [hq]; rfl) hva)).2 ?_
  refine s_aload (pc' := 160) X462.here hx (hb hby at_158) rfl rfl rfl ?_
  refine s_iconst (pc' := 161) (v := 1) X462.here hx (hb hby at_160) rfl rfl ?_
  obtain ⟨_, T463, L463, X463, hQ463, st463⟩ := kV X462 hx hZ407 (y := yN23) hown407 (hv hw 198 rfl) (hv hw 199 rfl) (notFace_of_selects (args := #[]) (mvT hZ407 (hv hw 201 rfl))) (hv hw 201 rfl) (hv hw 200 rfl) (hv hw 2 rfl) (hv hw 202 rfl) (by decide) (rmHc1 l Z a0 hw [] rs407 rt407 _ us 1 T407.heap n0 O407 G1 S1 P1 vf hvf SFm q1_407 q2_407 q3_407 q4_407 (inN (c := 1) (N := us.length) (by omega) hus4).1 (inN (c := 1) (N := us.length) (by omega) hus4).2 hus4) hE462 q1_407 (W := 0) (g := (mkF m 161 #[vi p0, vi p1, vi p2, vi va, vi vb, vi sa, vi sc, vr b5, vr b24, vr rs407, .val (.long ml), sn, .val (.int (Int32.ofNat (nd p2.toInt.natAbs))), vi 0, vi 13, un] [(.int 1), (.ref rs407)])) rfl (by rw [hml]; rfl) (argsL := [(.int 1)]) (rest := []) (lenOf pd_29 rfl) rfl (by exact Nat.le_of_eq rfl) (hb hby at_161) rfl (nb rfl) (nb rfl) (nb rfl) (nb rfl)
  obtain ⟨rfl, Nq463, hE463⟩ := hQ463
  have N463 := Fr.app N462 Nq463
  refine Go.tr st463 ?_
  show Go p.tables e below Kx _ (mkF m 164 _ [(.int ((atg us 1) &&& 255))])
  refine s_iload (pc' := 166) X463.here hx (hb hby at_164) rfl rfl ?_
  refine s_icmpN (pc' := 169) X463.here hx (hb hby at_166) rfl (teq (atc (by rw [hq]; rfl) hvb)).2 ?_
  refine s_aload (pc' := 171) X463.here hx (hb hby at_169) rfl rfl rfl ?_
  refine s_iconst (pc' := 172) (v := 2) X463.here hx (hb hby at_171) rfl rfl ?_
  obtain ⟨_, T464, L464, X464, hQ464, st464⟩ := kV X463 hx hZ407 (y := yN23) hown407 (hv hw 198 rfl) (hv hw 199 rfl) (notFace_of_selects (args := #[]) (mvT hZ407 (hv hw 201 rfl))) (hv hw 201 rfl) (hv hw 200 rfl) (hv hw 2 rfl) (hv hw 202 rfl) (by decide) (rmHc1 l Z a0 hw [] rs407 rt407 _ us 2 T407.heap n0 O407 G1 S1 P1 vf hvf SFm q1_407 q2_407 q3_407 q4_407 (inN (c := 2) (N := us.length) (by omega) hus4).1 (inN (c := 2) (N := us.length) (by omega) hus4).2 hus4) hE463 q1_407 (W := 0) (g := (mkF m 172 #[vi p0, vi p1, vi p2, vi va, vi vb, vi sa, vi sc, vr b5, vr b24, vr rs407, .val (.long ml), sn, .val (.int (Int32.ofNat (nd p2.toInt.natAbs))), vi 0, vi 13, un] [(.int 2), (.ref rs407)])) rfl (by rw [hml]; rfl) (argsL := [(.int 2)]) (rest := []) (lenOf pd_29 rfl) rfl (by exact Nat.le_of_eq rfl) (hb hby at_172) rfl (nb rfl) (nb rfl) (nb rfl) (nb rfl)
  obtain ⟨rfl, Nq464, hE464⟩ := hQ464
  have N464 := Fr.app N463 Nq464
  refine Go.tr st464 ?_
  show Go p.tables e below Kx _ (mkF m 175 _ [(.int ((atg us 2) &&& 255))])
  refine s_bipush (pc' := 177) (v := 32) X464.here hx (hb hby at_175) rfl rfl ?_
  refine s_icmpN (pc' := 180) X464.here hx (hb hby at_177) rfl (teq (atl (by rw [hq]; rfl) (by decide))).2 ?_
  refine s_aload (pc' := 182) X464.here hx (hb hby at_180) rfl rfl rfl ?_
  refine s_iconst (pc' := 183) (v := 3) X464.here hx (hb hby at_182) rfl rfl ?_
  obtain ⟨_, T465, L465, X465, hQ465, st465⟩ := kV X464 hx hZ407 (y := yN23) hown407 (hv hw 198 rfl) (hv hw 199 rfl) (notFace_of_selects (args := #[]) (mvT hZ407 (hv hw 201 rfl))) (hv hw 201 rfl) (hv hw 200 rfl) (hv hw 2 rfl) (hv hw 202 rfl) (by decide) (rmHc1 l Z a0 hw [] rs407 rt407 _ us 3 T407.heap n0 O407 G1 S1 P1 vf hvf SFm q1_407 q2_407 q3_407 q4_407 (inN (c := 3) (N := us.length) (by omega) hus4).1 (inN (c := 3) (N := us.length) (by omega) hus4).2 hus4) hE464 q1_407 (W := 0) (g := (mkF m 183 #[vi p0, vi p1, vi p2, vi va, vi vb, vi sa, vi sc, vr b5, vr b24, vr rs407, .val (.long ml), sn, .val (.int (Int32.ofNat (nd p2.toInt.natAbs))), vi 0, vi 13, un] [(.int 3), (.ref rs407)])) rfl (by rw [hml]; rfl) (argsL := [(.int 3)]) (rest := []) (lenOf pd_29 rfl) rfl (by exact Nat.le_of_eq rfl) (hb hby at_183) rfl (nb rfl) (nb rfl) (nb rfl) (nb rfl)
  obtain ⟨rfl, Nq465, hE465⟩ := hQ465
  have N465 := Fr.app N464 Nq465
  refine Go.tr st465 ?_
  show Go p.tables e below Kx _ (mkF m 186 _ [(.int ((atg us 3) &&& 255))])
  refine s_bipush (pc' := 188) (v := 40) X465.here hx (hb hby at_186) rfl rfl ?_
  refine s_icmpN (pc' := 191) X465.here hx (hb hby at_188) rfl (teq (atl (by rw [hq]; rfl) (by decide))).2 ?_
  refine s_aload (pc' := 193) X465.here hx (hb hby at_191) rfl rfl rfl ?_
  refine s_iconst (pc' := 194) (v := 4) X465.here hx (hb hby at_193) rfl rfl ?_
  obtain ⟨_, T466, L466, X466, hQ466, st466⟩ := kV X465 hx hZ407 (y := yN23) hown407 (hv hw 198 rfl) (hv hw 199 rfl) (notFace_of_selects (args := #[]) (mvT hZ407 (hv hw 201 rfl))) (hv hw 201 rfl) (hv hw 200 rfl) (hv hw 2 rfl) (hv hw 202 rfl) (by decide) (rmHc1 l Z a0 hw [] rs407 rt407 _ us 4 T407.heap n0 O407 G1 S1 P1 vf hvf SFm q1_407 q2_407 q3_407 q4_407 (inN (c := 4) (N := us.length) (by omega) hus4).1 (inN (c := 4) (N := us.length) (by omega) hus4).2 hus4) hE465 q1_407 (W := 0) (g := (mkF m 194 #[vi p0, vi p1, vi p2, vi va, vi vb, vi sa, vi sc, vr b5, vr b24, vr rs407, .val (.long ml), sn, .val (.int (Int32.ofNat (nd p2.toInt.natAbs))), vi 0, vi 13, un] [(.int 4), (.ref rs407)])) rfl (by rw [hml]; rfl) (argsL := [(.int 4)]) (rest := []) (lenOf pd_29 rfl) rfl (by exact Nat.le_of_eq rfl) (hb hby at_194) rfl (nb rfl) (nb rfl) (nb rfl) (nb rfl)
  obtain ⟨rfl, Nq466, hE466⟩ := hQ466
  have N466 := Fr.app N465 Nq466
  refine Go.tr st466 ?_
  show Go p.tables e below Kx _ (mkF m 197 _ [(.int ((atg us 4) &&& 255))])
  refine s_iload (pc' := 199) X466.here hx (hb hby at_197) rfl rfl ?_
  refine s_icmpN (pc' := 202) X466.here hx (hb hby at_199) rfl (teq (atc (by rw [hq]; rfl) hsa)).2 ?_
  refine s_aload (pc' := 204) X466.here hx (hb hby at_202) rfl rfl rfl ?_
  refine s_iconst (pc' := 205) (v := 5) X466.here hx (hb hby at_204) rfl rfl ?_
  obtain ⟨_, T467, L467, X467, hQ467, st467⟩ := kV X466 hx hZ407 (y := yN23) hown407 (hv hw 198 rfl) (hv hw 199 rfl) (notFace_of_selects (args := #[]) (mvT hZ407 (hv hw 201 rfl))) (hv hw 201 rfl) (hv hw 200 rfl) (hv hw 2 rfl) (hv hw 202 rfl) (by decide) (rmHc1 l Z a0 hw [] rs407 rt407 _ us 5 T407.heap n0 O407 G1 S1 P1 vf hvf SFm q1_407 q2_407 q3_407 q4_407 (inN (c := 5) (N := us.length) (by omega) hus4).1 (inN (c := 5) (N := us.length) (by omega) hus4).2 hus4) hE466 q1_407 (W := 0) (g := (mkF m 205 #[vi p0, vi p1, vi p2, vi va, vi vb, vi sa, vi sc, vr b5, vr b24, vr rs407, .val (.long ml), sn, .val (.int (Int32.ofNat (nd p2.toInt.natAbs))), vi 0, vi 13, un] [(.int 5), (.ref rs407)])) rfl (by rw [hml]; rfl) (argsL := [(.int 5)]) (rest := []) (lenOf pd_29 rfl) rfl (by exact Nat.le_of_eq rfl) (hb hby at_205) rfl (nb rfl) (nb rfl) (nb rfl) (nb rfl)
  obtain ⟨rfl, Nq467, hE467⟩ := hQ467
  have N467 := Fr.app N466 Nq467
  refine Go.tr st467 ?_
  show Go p.tables e below Kx _ (mkF m 208 _ [(.int ((atg us 5) &&& 255))])
  refine s_iload (pc' := 210) X467.here hx (hb hby at_208) rfl rfl ?_
  refine s_icmpN (pc' := 213) X467.here hx (hb hby at_210) rfl (teq (atc (by rw [hq]; rfl) hsc)).2 ?_
  refine s_aload (pc' := 215) X467.here hx (hb hby at_213) rfl rfl rfl ?_
  refine s_bipush (pc' := 217) (v := 6) X467.here hx (hb hby at_215) rfl rfl ?_
  obtain ⟨_, T468, L468, X468, hQ468, st468⟩ := kV X467 hx hZ407 (y := yN23) hown407 (hv hw 198 rfl) (hv hw 199 rfl) (notFace_of_selects (args := #[]) (mvT hZ407 (hv hw 201 rfl))) (hv hw 201 rfl) (hv hw 200 rfl) (hv hw 2 rfl) (hv hw 202 rfl) (by decide) (rmHc1 l Z a0 hw [] rs407 rt407 _ us 6 T407.heap n0 O407 G1 S1 P1 vf hvf SFm q1_407 q2_407 q3_407 q4_407 (inN (c := 6) (N := us.length) (by omega) hus4).1 (inN (c := 6) (N := us.length) (by omega) hus4).2 hus4) hE467 q1_407 (W := 0) (g := (mkF m 217 #[vi p0, vi p1, vi p2, vi va, vi vb, vi sa, vi sc, vr b5, vr b24, vr rs407, .val (.long ml), sn, .val (.int (Int32.ofNat (nd p2.toInt.natAbs))), vi 0, vi 13, un] [(.int 6), (.ref rs407)])) rfl (by rw [hml]; rfl) (argsL := [(.int 6)]) (rest := []) (lenOf pd_29 rfl) rfl (by exact Nat.le_of_eq rfl) (hb hby at_217) rfl (nb rfl) (nb rfl) (nb rfl) (nb rfl)
  obtain ⟨rfl, Nq468, hE468⟩ := hQ468
  have N468 := Fr.app N467 Nq468
  refine Go.tr st468 ?_
  show Go p.tables e below Kx _ (mkF m 220 _ [(.int ((atg us 6) &&& 255))])
  refine s_bipush (pc' := 222) (v := 44) X468.here hx (hb hby at_220) rfl rfl ?_
  refine s_icmpN (pc' := 225) X468.here hx (hb hby at_222) rfl (teq (atl (by rw [hq]; rfl) (by decide))).2 ?_
  refine s_aload (pc' := 227) X468.here hx (hb hby at_225) rfl rfl rfl ?_
  refine s_bipush (pc' := 229) (v := 7) X468.here hx (hb hby at_227) rfl rfl ?_
  obtain ⟨_, T469, L469, X469, hQ469, st469⟩ := kV X468 hx hZ407 (y := yN23) hown407 (hv hw 198 rfl) (hv hw 199 rfl) (notFace_of_selects (args := #[]) (mvT hZ407 (hv hw 201 rfl))) (hv hw 201 rfl) (hv hw 200 rfl) (hv hw 2 rfl) (hv hw 202 rfl) (by decide) (rmHc1 l Z a0 hw [] rs407 rt407 _ us 7 T407.heap n0 O407 G1 S1 P1 vf hvf SFm q1_407 q2_407 q3_407 q4_407 (inN (c := 7) (N := us.length) (by omega) hus4).1 (inN (c := 7) (N := us.length) (by omega) hus4).2 hus4) hE468 q1_407 (W := 0) (g := (mkF m 229 #[vi p0, vi p1, vi p2, vi va, vi vb, vi sa, vi sc, vr b5, vr b24, vr rs407, .val (.long ml), sn, .val (.int (Int32.ofNat (nd p2.toInt.natAbs))), vi 0, vi 13, un] [(.int 7), (.ref rs407)])) rfl (by rw [hml]; rfl) (argsL := [(.int 7)]) (rest := []) (lenOf pd_29 rfl) rfl (by exact Nat.le_of_eq rfl) (hb hby at_229) rfl (nb rfl) (nb rfl) (nb rfl) (nb rfl)
  obtain ⟨rfl, Nq469, hE469⟩ := hQ469
  have N469 := Fr.app N468 Nq469
  refine Go.tr st469 ?_
  show Go p.tables e below Kx _ (mkF m 232 _ [(.int ((atg us 7) &&& 255))])
  refine s_bipush (pc' := 234) (v := 32) X469.here hx (hb hby at_232) rfl rfl ?_
  refine s_icmpN (pc' := 237) X469.here hx (hb hby at_234) rfl (teq (atl (by rw [hq]; rfl) (by decide))).2 ?_
  refine s_aload (pc' := 239) X469.here hx (hb hby at_237) rfl rfl rfl ?_
  refine s_bipush (pc' := 241) (v := 8) X469.here hx (hb hby at_239) rfl rfl ?_
  obtain ⟨_, T470, L470, X470, hQ470, st470⟩ := kV X469 hx hZ407 (y := yN23) hown407 (hv hw 198 rfl) (hv hw 199 rfl) (notFace_of_selects (args := #[]) (mvT hZ407 (hv hw 201 rfl))) (hv hw 201 rfl) (hv hw 200 rfl) (hv hw 2 rfl) (hv hw 202 rfl) (by decide) (rmHc1 l Z a0 hw [] rs407 rt407 _ us 8 T407.heap n0 O407 G1 S1 P1 vf hvf SFm q1_407 q2_407 q3_407 q4_407 (inN (c := 8) (N := us.length) (by omega) hus4).1 (inN (c := 8) (N := us.length) (by omega) hus4).2 hus4) hE469 q1_407 (W := 0) (g := (mkF m 241 #[vi p0, vi p1, vi p2, vi va, vi vb, vi sa, vi sc, vr b5, vr b24, vr rs407, .val (.long ml), sn, .val (.int (Int32.ofNat (nd p2.toInt.natAbs))), vi 0, vi 13, un] [(.int 8), (.ref rs407)])) rfl (by rw [hml]; rfl) (argsL := [(.int 8)]) (rest := []) (lenOf pd_29 rfl) rfl (by exact Nat.le_of_eq rfl) (hb hby at_241) rfl (nb rfl) (nb rfl) (nb rfl) (nb rfl)
  obtain ⟨rfl, Nq470, hE470⟩ := hQ470
  have N470 := Fr.app N469 Nq470
  refine Go.tr st470 ?_
  show Go p.tables e below Kx _ (mkF m 244 _ [(.int ((atg us 8) &&& 255))])
  refine s_bipush (pc' := 246) (v := 108) X470.here hx (hb hby at_244) rfl rfl ?_
  refine s_icmpN (pc' := 249) X470.here hx (hb hby at_246) rfl (teq (atl (by rw [hq]; rfl) (by decide))).2 ?_
  refine s_aload (pc' := 251) X470.here hx (hb hby at_249) rfl rfl rfl ?_
  refine s_bipush (pc' := 253) (v := 9) X470.here hx (hb hby at_251) rfl rfl ?_
  obtain ⟨_, T471, L471, X471, hQ471, st471⟩ := kV X470 hx hZ407 (y := yN23) hown407 (hv hw 198 rfl) (hv hw 199 rfl) (notFace_of_selects (args := #[]) (mvT hZ407 (hv hw 201 rfl))) (hv hw 201 rfl) (hv hw 200 rfl) (hv hw 2 rfl) (hv hw 202 rfl) (by decide) (rmHc1 l Z a0 hw [] rs407 rt407 _ us 9 T407.heap n0 O407 G1 S1 P1 vf hvf SFm q1_407 q2_407 q3_407 q4_407 (inN (c := 9) (N := us.length) (by omega) hus4).1 (inN (c := 9) (N := us.length) (by omega) hus4).2 hus4) hE470 q1_407 (W := 0) (g := (mkF m 253 #[vi p0, vi p1, vi p2, vi va, vi vb, vi sa, vi sc, vr b5, vr b24, vr rs407, .val (.long ml), sn, .val (.int (Int32.ofNat (nd p2.toInt.natAbs))), vi 0, vi 13, un] [(.int 9), (.ref rs407)])) rfl (by rw [hml]; rfl) (argsL := [(.int 9)]) (rest := []) (lenOf pd_29 rfl) rfl (by exact Nat.le_of_eq rfl) (hb hby at_253) rfl (nb rfl) (nb rfl) (nb rfl) (nb rfl)
  obtain ⟨rfl, Nq471, hE471⟩ := hQ471
  have N471 := Fr.app N470 Nq471
  refine Go.tr st471 ?_
  show Go p.tables e below Kx _ (mkF m 256 _ [(.int ((atg us 9) &&& 255))])
  refine s_bipush (pc' := 258) (v := 105) X471.here hx (hb hby at_256) rfl rfl ?_
  refine s_icmpN (pc' := 261) X471.here hx (hb hby at_258) rfl (teq (atl (by rw [hq]; rfl) (by decide))).2 ?_
  refine s_aload (pc' := 263) X471.here hx (hb hby at_261) rfl rfl rfl ?_
  refine s_bipush (pc' := 265) (v := 10) X471.here hx (hb hby at_263) rfl rfl ?_
  obtain ⟨_, T472, L472, X472, hQ472, st472⟩ := kV X471 hx hZ407 (y := yN23) hown407 (hv hw 198 rfl) (hv hw 199 rfl) (notFace_of_selects (args := #[]) (mvT hZ407 (hv hw 201 rfl))) (hv hw 201 rfl) (hv hw 200 rfl) (hv hw 2 rfl) (hv hw 202 rfl) (by decide) (rmHc1 l Z a0 hw [] rs407 rt407 _ us 10 T407.heap n0 O407 G1 S1 P1 vf hvf SFm q1_407 q2_407 q3_407 q4_407 (inN (c := 10) (N := us.length) (by omega) hus4).1 (inN (c := 10) (N := us.length) (by omega) hus4).2 hus4) hE471 q1_407 (W := 0) (g := (mkF m 265 #[vi p0, vi p1, vi p2, vi va, vi vb, vi sa, vi sc, vr b5, vr b24, vr rs407, .val (.long ml), sn, .val (.int (Int32.ofNat (nd p2.toInt.natAbs))), vi 0, vi 13, un] [(.int 10), (.ref rs407)])) rfl (by rw [hml]; rfl) (argsL := [(.int 10)]) (rest := []) (lenOf pd_29 rfl) rfl (by exact Nat.le_of_eq rfl) (hb hby at_265) rfl (nb rfl) (nb rfl) (nb rfl) (nb rfl)
  obtain ⟨rfl, Nq472, hE472⟩ := hQ472
  have N472 := Fr.app N471 Nq472
  refine Go.tr st472 ?_
  show Go p.tables e below Kx _ (mkF m 268 _ [(.int ((atg us 10) &&& 255))])
  refine s_bipush (pc' := 270) (v := 110) X472.here hx (hb hby at_268) rfl rfl ?_
  refine s_icmpN (pc' := 273) X472.here hx (hb hby at_270) rfl (teq (atl (by rw [hq]; rfl) (by decide))).2 ?_
  refine s_aload (pc' := 275) X472.here hx (hb hby at_273) rfl rfl rfl ?_
  refine s_bipush (pc' := 277) (v := 11) X472.here hx (hb hby at_275) rfl rfl ?_
  obtain ⟨_, T473, L473, X473, hQ473, st473⟩ := kV X472 hx hZ407 (y := yN23) hown407 (hv hw 198 rfl) (hv hw 199 rfl) (notFace_of_selects (args := #[]) (mvT hZ407 (hv hw 201 rfl))) (hv hw 201 rfl) (hv hw 200 rfl) (hv hw 2 rfl) (hv hw 202 rfl) (by decide) (rmHc1 l Z a0 hw [] rs407 rt407 _ us 11 T407.heap n0 O407 G1 S1 P1 vf hvf SFm q1_407 q2_407 q3_407 q4_407 (inN (c := 11) (N := us.length) (by omega) hus4).1 (inN (c := 11) (N := us.length) (by omega) hus4).2 hus4) hE472 q1_407 (W := 0) (g := (mkF m 277 #[vi p0, vi p1, vi p2, vi va, vi vb, vi sa, vi sc, vr b5, vr b24, vr rs407, .val (.long ml), sn, .val (.int (Int32.ofNat (nd p2.toInt.natAbs))), vi 0, vi 13, un] [(.int 11), (.ref rs407)])) rfl (by rw [hml]; rfl) (argsL := [(.int 11)]) (rest := []) (lenOf pd_29 rfl) rfl (by exact Nat.le_of_eq rfl) (hb hby at_277) rfl (nb rfl) (nb rfl) (nb rfl) (nb rfl)
  obtain ⟨rfl, Nq473, hE473⟩ := hQ473
  have N473 := Fr.app N472 Nq473
  refine Go.tr st473 ?_
  show Go p.tables e below Kx _ (mkF m 280 _ [(.int ((atg us 11) &&& 255))])
  refine s_bipush (pc' := 282) (v := 101) X473.here hx (hb hby at_280) rfl rfl ?_
  refine s_icmpN (pc' := 285) X473.here hx (hb hby at_282) rfl (teq (atl (by rw [hq]; rfl) (by decide))).2 ?_
  refine s_aload (pc' := 287) X473.here hx (hb hby at_285) rfl rfl rfl ?_
  refine s_bipush (pc' := 289) (v := 12) X473.here hx (hb hby at_287) rfl rfl ?_
  obtain ⟨_, T474, L474, X474, hQ474, st474⟩ := kV X473 hx hZ407 (y := yN23) hown407 (hv hw 198 rfl) (hv hw 199 rfl) (notFace_of_selects (args := #[]) (mvT hZ407 (hv hw 201 rfl))) (hv hw 201 rfl) (hv hw 200 rfl) (hv hw 2 rfl) (hv hw 202 rfl) (by decide) (rmHc1 l Z a0 hw [] rs407 rt407 _ us 12 T407.heap n0 O407 G1 S1 P1 vf hvf SFm q1_407 q2_407 q3_407 q4_407 (inN (c := 12) (N := us.length) (by omega) hus4).1 (inN (c := 12) (N := us.length) (by omega) hus4).2 hus4) hE473 q1_407 (W := 0) (g := (mkF m 289 #[vi p0, vi p1, vi p2, vi va, vi vb, vi sa, vi sc, vr b5, vr b24, vr rs407, .val (.long ml), sn, .val (.int (Int32.ofNat (nd p2.toInt.natAbs))), vi 0, vi 13, un] [(.int 12), (.ref rs407)])) rfl (by rw [hml]; rfl) (argsL := [(.int 12)]) (rest := []) (lenOf pd_29 rfl) rfl (by exact Nat.le_of_eq rfl) (hb hby at_289) rfl (nb rfl) (nb rfl) (nb rfl) (nb rfl)
  obtain ⟨rfl, Nq474, hE474⟩ := hQ474
  have N474 := Fr.app N473 Nq474
  refine Go.tr st474 ?_
  show Go p.tables e below Kx _ (mkF m 292 _ [(.int ((atg us 12) &&& 255))])
  refine s_bipush (pc' := 294) (v := 32) X474.here hx (hb hby at_292) rfl rfl ?_
  refine s_icmpN (pc' := 297) X474.here hx (hb hby at_294) rfl (teq (atl (by rw [hq]; rfl) (by decide))).2 ?_
  refine s_iconst (pc' := 298) (v := 1) X474.here hx (hb hby at_297) rfl rfl ?_
  refine s_goto (pc' := 302) X474.here hx (hb hby at_298) (by decide) (by decide) ?_
  refine s_istore (pc' := 304) (Ls' := #[vi p0, vi p1, vi p2, vi va, vi vb, vi sa, vi sc, vr b5, vr b24, vr rs407, .val (.long ml), sn, .val (.int (Int32.ofNat (nd p2.toInt.natAbs))), vi 0, vi 13, vi 1]) X474.here hx (hb hby at_302) rfl  rfl ?_
  refine s_iload (pc' := 306) X474.here hx (hb hby at_304) rfl rfl ?_
  refine s_ifN (pc' := 309) X474.here hx (hb hby at_306) rfl ((if0 _ _).trans (feq (by decide)).1) ?_
  refine s_iload (pc' := 311) X474.here hx (hb hby at_309) rfl rfl ?_
  refine s_ifY (pc' := 326) X474.here hx (hb hby at_311) ((if0 _ _).trans (teq (by decide)).1) (by decide) (by decide) ?_
  refine s_iconst (pc' := 327) (v := 1) X474.here hx (hb hby at_326) rfl rfl ?_
  refine s_goto (pc' := 331) X474.here hx (hb hby at_327) (by decide) (by decide) ?_
  refine s_istore (pc' := 333) (Ls' := #[vi p0, vi p1, vi p2, vi va, vi vb, vi sa, vi sc, vr b5, vr b24, vr rs407, .val (.long ml), sn, .val (.int (Int32.ofNat (nd p2.toInt.natAbs))), vi 0, vi 13, vi 1]) X474.here hx (hb hby at_331) rfl  rfl ?_
  refine s_iload (pc' := 335) X474.here hx (hb hby at_333) rfl rfl ?_
  refine s_ifN (pc' := 338) X474.here hx (hb hby at_335) rfl ((if0 _ _).trans (feq (by decide)).1) ?_
  refine s_aload (pc' := 340) X474.here hx (hb hby at_338) rfl rfl rfl ?_
  refine s_iload (pc' := 342) X474.here hx (hb hby at_340) rfl rfl ?_
  refine s_iload (pc' := 344) X474.here hx (hb hby at_342) rfl rfl ?_
  refine s_iadd (pc' := 345) (z := (Int32.ofNat (13 + (nd p2.toInt.natAbs)))) X474.here hx (hb hby at_344) rfl (ofn2 rfl) ?_
  obtain ⟨_, T475, L475, X475, hQ475, st475⟩ := kV X474 hx hZ407 (y := yN23) hown407 (hv hw 198 rfl) (hv hw 199 rfl) (notFace_of_selects (args := #[]) (mvT hZ407 (hv hw 201 rfl))) (hv hw 201 rfl) (hv hw 200 rfl) (hv hw 2 rfl) (hv hw 202 rfl) (by decide) (rmHc1 l Z a0 hw [] rs407 rt407 _ us (Int32.ofNat (13 + (nd p2.toInt.natAbs))) T407.heap n0 O407 G1 S1 P1 vf hvf SFm q1_407 q2_407 q3_407 q4_407 (inN (c := 13 + (nd p2.toInt.natAbs)) (N := us.length) (by omega) hus4).1 (inN (c := 13 + (nd p2.toInt.natAbs)) (N := us.length) (by omega) hus4).2 hus4) hE474 q1_407 (W := 0) (g := (mkF m 345 #[vi p0, vi p1, vi p2, vi va, vi vb, vi sa, vi sc, vr b5, vr b24, vr rs407, .val (.long ml), sn, .val (.int (Int32.ofNat (nd p2.toInt.natAbs))), vi 0, vi 13, vi 1] [(.int (Int32.ofNat (13 + (nd p2.toInt.natAbs)))), (.ref rs407)])) rfl (by rw [hml]; rfl) (argsL := [(.int (Int32.ofNat (13 + (nd p2.toInt.natAbs))))]) (rest := []) (lenOf pd_29 rfl) rfl (by exact Nat.le_of_eq rfl) (hb hby at_345) rfl (nb rfl) (nb rfl) (nb rfl) (nb rfl)
  obtain ⟨rfl, Nq475, hE475⟩ := hQ475
  have N475 := Fr.app N474 Nq475
  refine Go.tr st475 ?_
  show Go p.tables e below Kx _ (mkF m 348 _ [(.int ((atg us (Int32.ofNat (13 + (nd p2.toInt.natAbs)))) &&& 255))])
  refine s_bipush (pc' := 350) (v := 41) X475.here hx (hb hby at_348) rfl rfl ?_
  refine s_icmpN (pc' := 353) X475.here hx (hb hby at_350) rfl (teq (atl (at_last hq (by rw [List.length_append, suf_len]; rfl) (by omega)) (by decide))).2 ?_
  refine s_iconst (pc' := 354) (v := 1) X475.here hx (hb hby at_353) rfl rfl ?_
  refine s_goto (pc' := 358) X475.here hx (hb hby at_354) (by decide) (by decide) ?_
  refine s_istore (pc' := 360) (Ls' := #[vi p0, vi p1, vi p2, vi va, vi vb, vi sa, vi sc, vr b5, vr b24, vr rs407, .val (.long ml), sn, .val (.int (Int32.ofNat (nd p2.toInt.natAbs))), vi 0, vi 13, vi 1]) X475.here hx (hb hby at_358) rfl  rfl ?_
  refine s_iload (pc' := 362) X475.here hx (hb hby at_360) rfl rfl ?_
  refine s_ifN (pc' := 365) X475.here hx (hb hby at_362) rfl ((if0 _ _).trans (feq (by decide)).1) ?_
  refine s_aload (pc' := 367) X475.here hx (hb hby at_365) rfl rfl rfl ?_
  refine s_iload (pc' := 369) X475.here hx (hb hby at_367) rfl rfl ?_
  refine s_iload (pc' := 371) X475.here hx (hb hby at_369) rfl rfl ?_
  refine s_lload (pc' := 373) X475.here hx (hb hby at_371) rfl rfl ?_
  refine s_iconst (pc' := 374) (v := 0) X475.here hx (hb hby at_373) rfl rfl ?_
  refine s_lconst (pc' := 375) (v := (1 : Int64)) X475.here hx (hb hby at_374) rfl rfl ?_
  obtain ⟨_, T476, L476, X476, hQ476, st476⟩ := kS X475 hx hZ407 (y := yN2) hown407 (hv hw 220 rfl) (hv hw 221 rfl) (hv hw 194 rfl) (hv hw 222 rfl) (by decide) (rmHdo l Z a0 hw [] rs407 rt407 _ us ((((([] : List Int32) ++ (i8s [va, vb])) ++ [(32 : Int32), (40 : Int32)]) ++ (i8s [sa, sc])) ++ [(44 : Int32), (32 : Int32), (108 : Int32), (105 : Int32), (110 : Int32), (101 : Int32), (32 : Int32)]) p2.toInt.natAbs (nd p2.toInt.natAbs) 0 ml (1 : Int64) T407.heap n0 O407 G1 S1 P1 vf hvf SFm q1_407 q2_407 q3_407 q4_407 hq hml2 (by decide) (by decide) (by decide) (by omega) (nb rfl)) hE475 (W := 0) (g := (mkF m 375 #[vi p0, vi p1, vi p2, vi va, vi vb, vi sa, vi sc, vr b5, vr b24, vr rs407, .val (.long ml), sn, .val (.int (Int32.ofNat (nd p2.toInt.natAbs))), vi 0, vi 13, vi 1] [(.long (1 : Int64)), (.int 0), (.long ml), (.int (Int32.ofNat (nd p2.toInt.natAbs))), (.int 13), (.ref rs407)])) rfl (by rw [hml]; rfl) (argsL := [(.ref rs407), (.int 13), (.int (Int32.ofNat (nd p2.toInt.natAbs))), (.long ml), (.int 0), (.long (1 : Int64))]) (rest := []) (lenOf pd_30 rfl) rfl (by exact Nat.le_of_eq rfl) (hb hby at_375) rfl (nb rfl) (nb rfl) (nb rfl) (nb rfl)
  obtain ⟨rfl, Nq476, hE476⟩ := hQ476
  have N476 := Fr.app N475 Nq476
  refine Go.st st476 ?_
  show Go p.tables e below Kx _ (mkF m 378 _ [(.int 1)])
  refine s_ifN (pc' := 381) X476.here hx (hb hby at_378) rfl ((if0 _ _).trans (feq (by decide)).1) ?_
  refine s_aload (pc' := 383) X476.here hx (hb hby at_381) rfl rfl rfl ?_
  refine s_iload (pc' := 385) X476.here hx (hb hby at_383) rfl rfl ?_
  refine s_iload (pc' := 387) X476.here hx (hb hby at_385) rfl rfl ?_
  refine s_lload (pc' := 389) X476.here hx (hb hby at_387) rfl rfl ?_
  refine s_iconst (pc' := 390) (v := 1) X476.here hx (hb hby at_389) rfl rfl ?_
  refine Go.st (X476.ldc2Long hx hown407 (mvT hZ407 (hv hw 196 rfl)) (g := (mkF m 390 #[vi p0, vi p1, vi p2, vi va, vi vb, vi sa, vi sc, vr b5, vr b24, vr rs407, .val (.long ml), sn, .val (.int (Int32.ofNat (nd p2.toInt.natAbs))), vi 0, vi 13, vi 1] [(.int 1), (.long ml), (.int (Int32.ofNat (nd p2.toInt.natAbs))), (.int 13), (.ref rs407)])) rfl (hb hby at_390)) ?_
  show Go p.tables e below Kx _ (mkF m 393 _ [(.long (10 : Int64)), (.int 1), (.long ml), (.int (Int32.ofNat (nd p2.toInt.natAbs))), (.int 13), (.ref rs407)])
  obtain ⟨_, T477, L477, X477, hQ477, st477⟩ := kS X476 hx hZ407 (y := yN2) hown407 (hv hw 220 rfl) (hv hw 221 rfl) (hv hw 194 rfl) (hv hw 222 rfl) (by decide) (rmHdo l Z a0 hw [] rs407 rt407 _ us ((((([] : List Int32) ++ (i8s [va, vb])) ++ [(32 : Int32), (40 : Int32)]) ++ (i8s [sa, sc])) ++ [(44 : Int32), (32 : Int32), (108 : Int32), (105 : Int32), (110 : Int32), (101 : Int32), (32 : Int32)]) p2.toInt.natAbs (nd p2.toInt.natAbs) 1 ml (10 : Int64) T407.heap n0 O407 G1 S1 P1 vf hvf SFm q1_407 q2_407 q3_407 q4_407 hq hml2 (by decide) (by decide) (by decide) (by omega) (nb rfl)) hE476 (W := 0) (g := (mkF m 393 #[vi p0, vi p1, vi p2, vi va, vi vb, vi sa, vi sc, vr b5, vr b24, vr rs407, .val (.long ml), sn, .val (.int (Int32.ofNat (nd p2.toInt.natAbs))), vi 0, vi 13, vi 1] [(.long (10 : Int64)), (.int 1), (.long ml), (.int (Int32.ofNat (nd p2.toInt.natAbs))), (.int 13), (.ref rs407)])) rfl (by rw [hml]; rfl) (argsL := [(.ref rs407), (.int 13), (.int (Int32.ofNat (nd p2.toInt.natAbs))), (.long ml), (.int 1), (.long (10 : Int64))]) (rest := []) (lenOf pd_30 rfl) rfl (by exact Nat.le_of_eq rfl) (hb hby at_393) rfl (nb rfl) (nb rfl) (nb rfl) (nb rfl)
  obtain ⟨rfl, Nq477, hE477⟩ := hQ477
  have N477 := Fr.app N476 Nq477
  refine Go.st st477 ?_
  show Go p.tables e below Kx _ (mkF m 396 _ [(.int 1)])
  refine s_ifN (pc' := 399) X477.here hx (hb hby at_396) rfl ((if0 _ _).trans (feq (by decide)).1) ?_
  refine s_aload (pc' := 401) X477.here hx (hb hby at_399) rfl rfl rfl ?_
  refine s_iload (pc' := 403) X477.here hx (hb hby at_401) rfl rfl ?_
  refine s_iload (pc' := 405) X477.here hx (hb hby at_403) rfl rfl ?_
  refine s_lload (pc' := 407) X477.here hx (hb hby at_405) rfl rfl ?_
  refine s_iconst (pc' := 408) (v := 2) X477.here hx (hb hby at_407) rfl rfl ?_
  refine Go.st (X477.ldc2Long hx hown407 (mvT hZ407 (hv hw 224 rfl)) (g := (mkF m 408 #[vi p0, vi p1, vi p2, vi va, vi vb, vi sa, vi sc, vr b5, vr b24, vr rs407, .val (.long ml), sn, .val (.int (Int32.ofNat (nd p2.toInt.natAbs))), vi 0, vi 13, vi 1] [(.int 2), (.long ml), (.int (Int32.ofNat (nd p2.toInt.natAbs))), (.int 13), (.ref rs407)])) rfl (hb hby at_408)) ?_
  show Go p.tables e below Kx _ (mkF m 411 _ [(.long (100 : Int64)), (.int 2), (.long ml), (.int (Int32.ofNat (nd p2.toInt.natAbs))), (.int 13), (.ref rs407)])
  obtain ⟨_, T478, L478, X478, hQ478, st478⟩ := kS X477 hx hZ407 (y := yN2) hown407 (hv hw 220 rfl) (hv hw 221 rfl) (hv hw 194 rfl) (hv hw 222 rfl) (by decide) (rmHdo l Z a0 hw [] rs407 rt407 _ us ((((([] : List Int32) ++ (i8s [va, vb])) ++ [(32 : Int32), (40 : Int32)]) ++ (i8s [sa, sc])) ++ [(44 : Int32), (32 : Int32), (108 : Int32), (105 : Int32), (110 : Int32), (101 : Int32), (32 : Int32)]) p2.toInt.natAbs (nd p2.toInt.natAbs) 2 ml (100 : Int64) T407.heap n0 O407 G1 S1 P1 vf hvf SFm q1_407 q2_407 q3_407 q4_407 hq hml2 (by decide) (by decide) (by decide) (by omega) (nb rfl)) hE477 (W := 0) (g := (mkF m 411 #[vi p0, vi p1, vi p2, vi va, vi vb, vi sa, vi sc, vr b5, vr b24, vr rs407, .val (.long ml), sn, .val (.int (Int32.ofNat (nd p2.toInt.natAbs))), vi 0, vi 13, vi 1] [(.long (100 : Int64)), (.int 2), (.long ml), (.int (Int32.ofNat (nd p2.toInt.natAbs))), (.int 13), (.ref rs407)])) rfl (by rw [hml]; rfl) (argsL := [(.ref rs407), (.int 13), (.int (Int32.ofNat (nd p2.toInt.natAbs))), (.long ml), (.int 2), (.long (100 : Int64))]) (rest := []) (lenOf pd_30 rfl) rfl (by exact Nat.le_of_eq rfl) (hb hby at_411) rfl (nb rfl) (nb rfl) (nb rfl) (nb rfl)
  obtain ⟨rfl, Nq478, hE478⟩ := hQ478
  have N478 := Fr.app N477 Nq478
  refine Go.st st478 ?_
  show Go p.tables e below Kx _ (mkF m 414 _ [(.int 1)])
  refine s_ifN (pc' := 417) X478.here hx (hb hby at_414) rfl ((if0 _ _).trans (feq (by decide)).1) ?_
  refine s_aload (pc' := 419) X478.here hx (hb hby at_417) rfl rfl rfl ?_
  refine s_iload (pc' := 421) X478.here hx (hb hby at_419) rfl rfl ?_
  refine s_iload (pc' := 423) X478.here hx (hb hby at_421) rfl rfl ?_
  refine s_lload (pc' := 425) X478.here hx (hb hby at_423) rfl rfl ?_
  refine s_iconst (pc' := 426) (v := 3) X478.here hx (hb hby at_425) rfl rfl ?_
  refine Go.st (X478.ldc2Long hx hown407 (mvT hZ407 (hv hw 225 rfl)) (g := (mkF m 426 #[vi p0, vi p1, vi p2, vi va, vi vb, vi sa, vi sc, vr b5, vr b24, vr rs407, .val (.long ml), sn, .val (.int (Int32.ofNat (nd p2.toInt.natAbs))), vi 0, vi 13, vi 1] [(.int 3), (.long ml), (.int (Int32.ofNat (nd p2.toInt.natAbs))), (.int 13), (.ref rs407)])) rfl (hb hby at_426)) ?_
  show Go p.tables e below Kx _ (mkF m 429 _ [(.long (1000 : Int64)), (.int 3), (.long ml), (.int (Int32.ofNat (nd p2.toInt.natAbs))), (.int 13), (.ref rs407)])
  obtain ⟨_, T479, L479, X479, hQ479, st479⟩ := kS X478 hx hZ407 (y := yN2) hown407 (hv hw 220 rfl) (hv hw 221 rfl) (hv hw 194 rfl) (hv hw 222 rfl) (by decide) (rmHdo l Z a0 hw [] rs407 rt407 _ us ((((([] : List Int32) ++ (i8s [va, vb])) ++ [(32 : Int32), (40 : Int32)]) ++ (i8s [sa, sc])) ++ [(44 : Int32), (32 : Int32), (108 : Int32), (105 : Int32), (110 : Int32), (101 : Int32), (32 : Int32)]) p2.toInt.natAbs (nd p2.toInt.natAbs) 3 ml (1000 : Int64) T407.heap n0 O407 G1 S1 P1 vf hvf SFm q1_407 q2_407 q3_407 q4_407 hq hml2 (by decide) (by decide) (by decide) (by omega) (nb rfl)) hE478 (W := 0) (g := (mkF m 429 #[vi p0, vi p1, vi p2, vi va, vi vb, vi sa, vi sc, vr b5, vr b24, vr rs407, .val (.long ml), sn, .val (.int (Int32.ofNat (nd p2.toInt.natAbs))), vi 0, vi 13, vi 1] [(.long (1000 : Int64)), (.int 3), (.long ml), (.int (Int32.ofNat (nd p2.toInt.natAbs))), (.int 13), (.ref rs407)])) rfl (by rw [hml]; rfl) (argsL := [(.ref rs407), (.int 13), (.int (Int32.ofNat (nd p2.toInt.natAbs))), (.long ml), (.int 3), (.long (1000 : Int64))]) (rest := []) (lenOf pd_30 rfl) rfl (by exact Nat.le_of_eq rfl) (hb hby at_429) rfl (nb rfl) (nb rfl) (nb rfl) (nb rfl)
  obtain ⟨rfl, Nq479, hE479⟩ := hQ479
  have N479 := Fr.app N478 Nq479
  refine Go.st st479 ?_
  show Go p.tables e below Kx _ (mkF m 432 _ [(.int 1)])
  refine s_ifN (pc' := 435) X479.here hx (hb hby at_432) rfl ((if0 _ _).trans (feq (by decide)).1) ?_
  refine s_aload (pc' := 437) X479.here hx (hb hby at_435) rfl rfl rfl ?_
  refine s_iload (pc' := 439) X479.here hx (hb hby at_437) rfl rfl ?_
  refine s_iload (pc' := 441) X479.here hx (hb hby at_439) rfl rfl ?_
  refine s_lload (pc' := 443) X479.here hx (hb hby at_441) rfl rfl ?_
  refine s_iconst (pc' := 444) (v := 4) X479.here hx (hb hby at_443) rfl rfl ?_
  refine Go.st (X479.ldc2Long hx hown407 (mvT hZ407 (hv hw 226 rfl)) (g := (mkF m 444 #[vi p0, vi p1, vi p2, vi va, vi vb, vi sa, vi sc, vr b5, vr b24, vr rs407, .val (.long ml), sn, .val (.int (Int32.ofNat (nd p2.toInt.natAbs))), vi 0, vi 13, vi 1] [(.int 4), (.long ml), (.int (Int32.ofNat (nd p2.toInt.natAbs))), (.int 13), (.ref rs407)])) rfl (hb hby at_444)) ?_
  show Go p.tables e below Kx _ (mkF m 447 _ [(.long (10000 : Int64)), (.int 4), (.long ml), (.int (Int32.ofNat (nd p2.toInt.natAbs))), (.int 13), (.ref rs407)])
  obtain ⟨_, T480, L480, X480, hQ480, st480⟩ := kS X479 hx hZ407 (y := yN2) hown407 (hv hw 220 rfl) (hv hw 221 rfl) (hv hw 194 rfl) (hv hw 222 rfl) (by decide) (rmHdo l Z a0 hw [] rs407 rt407 _ us ((((([] : List Int32) ++ (i8s [va, vb])) ++ [(32 : Int32), (40 : Int32)]) ++ (i8s [sa, sc])) ++ [(44 : Int32), (32 : Int32), (108 : Int32), (105 : Int32), (110 : Int32), (101 : Int32), (32 : Int32)]) p2.toInt.natAbs (nd p2.toInt.natAbs) 4 ml (10000 : Int64) T407.heap n0 O407 G1 S1 P1 vf hvf SFm q1_407 q2_407 q3_407 q4_407 hq hml2 (by decide) (by decide) (by decide) (by omega) (nb rfl)) hE479 (W := 0) (g := (mkF m 447 #[vi p0, vi p1, vi p2, vi va, vi vb, vi sa, vi sc, vr b5, vr b24, vr rs407, .val (.long ml), sn, .val (.int (Int32.ofNat (nd p2.toInt.natAbs))), vi 0, vi 13, vi 1] [(.long (10000 : Int64)), (.int 4), (.long ml), (.int (Int32.ofNat (nd p2.toInt.natAbs))), (.int 13), (.ref rs407)])) rfl (by rw [hml]; rfl) (argsL := [(.ref rs407), (.int 13), (.int (Int32.ofNat (nd p2.toInt.natAbs))), (.long ml), (.int 4), (.long (10000 : Int64))]) (rest := []) (lenOf pd_30 rfl) rfl (by exact Nat.le_of_eq rfl) (hb hby at_447) rfl (nb rfl) (nb rfl) (nb rfl) (nb rfl)
  obtain ⟨rfl, Nq480, hE480⟩ := hQ480
  have N480 := Fr.app N479 Nq480
  refine Go.st st480 ?_
  show Go p.tables e below Kx _ (mkF m 450 _ [(.int 1)])
  refine s_ifN (pc' := 453) X480.here hx (hb hby at_450) rfl ((if0 _ _).trans (feq (by decide)).1) ?_
  refine s_aload (pc' := 455) X480.here hx (hb hby at_453) rfl rfl rfl ?_
  refine s_iload (pc' := 457) X480.here hx (hb hby at_455) rfl rfl ?_
  refine s_iload (pc' := 459) X480.here hx (hb hby at_457) rfl rfl ?_
  refine s_lload (pc' := 461) X480.here hx (hb hby at_459) rfl rfl ?_
  refine s_iconst (pc' := 462) (v := 5) X480.here hx (hb hby at_461) rfl rfl ?_
  refine Go.st (X480.ldc2Long hx hown407 (mvT hZ407 (hv hw 227 rfl)) (g := (mkF m 462 #[vi p0, vi p1, vi p2, vi va, vi vb, vi sa, vi sc, vr b5, vr b24, vr rs407, .val (.long ml), sn, .val (.int (Int32.ofNat (nd p2.toInt.natAbs))), vi 0, vi 13, vi 1] [(.int 5), (.long ml), (.int (Int32.ofNat (nd p2.toInt.natAbs))), (.int 13), (.ref rs407)])) rfl (hb hby at_462)) ?_
  show Go p.tables e below Kx _ (mkF m 465 _ [(.long (100000 : Int64)), (.int 5), (.long ml), (.int (Int32.ofNat (nd p2.toInt.natAbs))), (.int 13), (.ref rs407)])
  obtain ⟨_, T481, L481, X481, hQ481, st481⟩ := kS X480 hx hZ407 (y := yN2) hown407 (hv hw 220 rfl) (hv hw 221 rfl) (hv hw 194 rfl) (hv hw 222 rfl) (by decide) (rmHdo l Z a0 hw [] rs407 rt407 _ us ((((([] : List Int32) ++ (i8s [va, vb])) ++ [(32 : Int32), (40 : Int32)]) ++ (i8s [sa, sc])) ++ [(44 : Int32), (32 : Int32), (108 : Int32), (105 : Int32), (110 : Int32), (101 : Int32), (32 : Int32)]) p2.toInt.natAbs (nd p2.toInt.natAbs) 5 ml (100000 : Int64) T407.heap n0 O407 G1 S1 P1 vf hvf SFm q1_407 q2_407 q3_407 q4_407 hq hml2 (by decide) (by decide) (by decide) (by omega) (nb rfl)) hE480 (W := 0) (g := (mkF m 465 #[vi p0, vi p1, vi p2, vi va, vi vb, vi sa, vi sc, vr b5, vr b24, vr rs407, .val (.long ml), sn, .val (.int (Int32.ofNat (nd p2.toInt.natAbs))), vi 0, vi 13, vi 1] [(.long (100000 : Int64)), (.int 5), (.long ml), (.int (Int32.ofNat (nd p2.toInt.natAbs))), (.int 13), (.ref rs407)])) rfl (by rw [hml]; rfl) (argsL := [(.ref rs407), (.int 13), (.int (Int32.ofNat (nd p2.toInt.natAbs))), (.long ml), (.int 5), (.long (100000 : Int64))]) (rest := []) (lenOf pd_30 rfl) rfl (by exact Nat.le_of_eq rfl) (hb hby at_465) rfl (nb rfl) (nb rfl) (nb rfl) (nb rfl)
  obtain ⟨rfl, Nq481, hE481⟩ := hQ481
  have N481 := Fr.app N480 Nq481
  refine Go.st st481 ?_
  show Go p.tables e below Kx _ (mkF m 468 _ [(.int 1)])
  refine s_ifN (pc' := 471) X481.here hx (hb hby at_468) rfl ((if0 _ _).trans (feq (by decide)).1) ?_
  refine s_aload (pc' := 473) X481.here hx (hb hby at_471) rfl rfl rfl ?_
  refine s_iload (pc' := 475) X481.here hx (hb hby at_473) rfl rfl ?_
  refine s_iload (pc' := 477) X481.here hx (hb hby at_475) rfl rfl ?_
  refine s_lload (pc' := 479) X481.here hx (hb hby at_477) rfl rfl ?_
  refine s_bipush (pc' := 481) (v := 6) X481.here hx (hb hby at_479) rfl rfl ?_
  refine Go.st (X481.ldc2Long hx hown407 (mvT hZ407 (hv hw 228 rfl)) (g := (mkF m 481 #[vi p0, vi p1, vi p2, vi va, vi vb, vi sa, vi sc, vr b5, vr b24, vr rs407, .val (.long ml), sn, .val (.int (Int32.ofNat (nd p2.toInt.natAbs))), vi 0, vi 13, vi 1] [(.int 6), (.long ml), (.int (Int32.ofNat (nd p2.toInt.natAbs))), (.int 13), (.ref rs407)])) rfl (hb hby at_481)) ?_
  show Go p.tables e below Kx _ (mkF m 484 _ [(.long (1000000 : Int64)), (.int 6), (.long ml), (.int (Int32.ofNat (nd p2.toInt.natAbs))), (.int 13), (.ref rs407)])
  obtain ⟨_, T482, L482, X482, hQ482, st482⟩ := kS X481 hx hZ407 (y := yN2) hown407 (hv hw 220 rfl) (hv hw 221 rfl) (hv hw 194 rfl) (hv hw 222 rfl) (by decide) (rmHdo l Z a0 hw [] rs407 rt407 _ us ((((([] : List Int32) ++ (i8s [va, vb])) ++ [(32 : Int32), (40 : Int32)]) ++ (i8s [sa, sc])) ++ [(44 : Int32), (32 : Int32), (108 : Int32), (105 : Int32), (110 : Int32), (101 : Int32), (32 : Int32)]) p2.toInt.natAbs (nd p2.toInt.natAbs) 6 ml (1000000 : Int64) T407.heap n0 O407 G1 S1 P1 vf hvf SFm q1_407 q2_407 q3_407 q4_407 hq hml2 (by decide) (by decide) (by decide) (by omega) (nb rfl)) hE481 (W := 0) (g := (mkF m 484 #[vi p0, vi p1, vi p2, vi va, vi vb, vi sa, vi sc, vr b5, vr b24, vr rs407, .val (.long ml), sn, .val (.int (Int32.ofNat (nd p2.toInt.natAbs))), vi 0, vi 13, vi 1] [(.long (1000000 : Int64)), (.int 6), (.long ml), (.int (Int32.ofNat (nd p2.toInt.natAbs))), (.int 13), (.ref rs407)])) rfl (by rw [hml]; rfl) (argsL := [(.ref rs407), (.int 13), (.int (Int32.ofNat (nd p2.toInt.natAbs))), (.long ml), (.int 6), (.long (1000000 : Int64))]) (rest := []) (lenOf pd_30 rfl) rfl (by exact Nat.le_of_eq rfl) (hb hby at_484) rfl (nb rfl) (nb rfl) (nb rfl) (nb rfl)
  obtain ⟨rfl, Nq482, hE482⟩ := hQ482
  have N482 := Fr.app N481 Nq482
  refine Go.st st482 ?_
  show Go p.tables e below Kx _ (mkF m 487 _ [(.int 1)])
  refine s_ifN (pc' := 490) X482.here hx (hb hby at_487) rfl ((if0 _ _).trans (feq (by decide)).1) ?_
  refine s_aload (pc' := 492) X482.here hx (hb hby at_490) rfl rfl rfl ?_
  refine s_iload (pc' := 494) X482.here hx (hb hby at_492) rfl rfl ?_
  refine s_iload (pc' := 496) X482.here hx (hb hby at_494) rfl rfl ?_
  refine s_lload (pc' := 498) X482.here hx (hb hby at_496) rfl rfl ?_
  refine s_bipush (pc' := 500) (v := 7) X482.here hx (hb hby at_498) rfl rfl ?_
  refine Go.st (X482.ldc2Long hx hown407 (mvT hZ407 (hv hw 229 rfl)) (g := (mkF m 500 #[vi p0, vi p1, vi p2, vi va, vi vb, vi sa, vi sc, vr b5, vr b24, vr rs407, .val (.long ml), sn, .val (.int (Int32.ofNat (nd p2.toInt.natAbs))), vi 0, vi 13, vi 1] [(.int 7), (.long ml), (.int (Int32.ofNat (nd p2.toInt.natAbs))), (.int 13), (.ref rs407)])) rfl (hb hby at_500)) ?_
  show Go p.tables e below Kx _ (mkF m 503 _ [(.long (10000000 : Int64)), (.int 7), (.long ml), (.int (Int32.ofNat (nd p2.toInt.natAbs))), (.int 13), (.ref rs407)])
  obtain ⟨_, T483, L483, X483, hQ483, st483⟩ := kS X482 hx hZ407 (y := yN2) hown407 (hv hw 220 rfl) (hv hw 221 rfl) (hv hw 194 rfl) (hv hw 222 rfl) (by decide) (rmHdo l Z a0 hw [] rs407 rt407 _ us ((((([] : List Int32) ++ (i8s [va, vb])) ++ [(32 : Int32), (40 : Int32)]) ++ (i8s [sa, sc])) ++ [(44 : Int32), (32 : Int32), (108 : Int32), (105 : Int32), (110 : Int32), (101 : Int32), (32 : Int32)]) p2.toInt.natAbs (nd p2.toInt.natAbs) 7 ml (10000000 : Int64) T407.heap n0 O407 G1 S1 P1 vf hvf SFm q1_407 q2_407 q3_407 q4_407 hq hml2 (by decide) (by decide) (by decide) (by omega) (nb rfl)) hE482 (W := 0) (g := (mkF m 503 #[vi p0, vi p1, vi p2, vi va, vi vb, vi sa, vi sc, vr b5, vr b24, vr rs407, .val (.long ml), sn, .val (.int (Int32.ofNat (nd p2.toInt.natAbs))), vi 0, vi 13, vi 1] [(.long (10000000 : Int64)), (.int 7), (.long ml), (.int (Int32.ofNat (nd p2.toInt.natAbs))), (.int 13), (.ref rs407)])) rfl (by rw [hml]; rfl) (argsL := [(.ref rs407), (.int 13), (.int (Int32.ofNat (nd p2.toInt.natAbs))), (.long ml), (.int 7), (.long (10000000 : Int64))]) (rest := []) (lenOf pd_30 rfl) rfl (by exact Nat.le_of_eq rfl) (hb hby at_503) rfl (nb rfl) (nb rfl) (nb rfl) (nb rfl)
  obtain ⟨rfl, Nq483, hE483⟩ := hQ483
  have N483 := Fr.app N482 Nq483
  refine Go.st st483 ?_
  show Go p.tables e below Kx _ (mkF m 506 _ [(.int 1)])
  refine s_ifN (pc' := 509) X483.here hx (hb hby at_506) rfl ((if0 _ _).trans (feq (by decide)).1) ?_
  refine s_aload (pc' := 511) X483.here hx (hb hby at_509) rfl rfl rfl ?_
  refine s_iload (pc' := 513) X483.here hx (hb hby at_511) rfl rfl ?_
  refine s_iload (pc' := 515) X483.here hx (hb hby at_513) rfl rfl ?_
  refine s_lload (pc' := 517) X483.here hx (hb hby at_515) rfl rfl ?_
  refine s_bipush (pc' := 519) (v := 8) X483.here hx (hb hby at_517) rfl rfl ?_
  refine Go.st (X483.ldc2Long hx hown407 (mvT hZ407 (hv hw 230 rfl)) (g := (mkF m 519 #[vi p0, vi p1, vi p2, vi va, vi vb, vi sa, vi sc, vr b5, vr b24, vr rs407, .val (.long ml), sn, .val (.int (Int32.ofNat (nd p2.toInt.natAbs))), vi 0, vi 13, vi 1] [(.int 8), (.long ml), (.int (Int32.ofNat (nd p2.toInt.natAbs))), (.int 13), (.ref rs407)])) rfl (hb hby at_519)) ?_
  show Go p.tables e below Kx _ (mkF m 522 _ [(.long (100000000 : Int64)), (.int 8), (.long ml), (.int (Int32.ofNat (nd p2.toInt.natAbs))), (.int 13), (.ref rs407)])
  obtain ⟨_, T484, L484, X484, hQ484, st484⟩ := kS X483 hx hZ407 (y := yN2) hown407 (hv hw 220 rfl) (hv hw 221 rfl) (hv hw 194 rfl) (hv hw 222 rfl) (by decide) (rmHdo l Z a0 hw [] rs407 rt407 _ us ((((([] : List Int32) ++ (i8s [va, vb])) ++ [(32 : Int32), (40 : Int32)]) ++ (i8s [sa, sc])) ++ [(44 : Int32), (32 : Int32), (108 : Int32), (105 : Int32), (110 : Int32), (101 : Int32), (32 : Int32)]) p2.toInt.natAbs (nd p2.toInt.natAbs) 8 ml (100000000 : Int64) T407.heap n0 O407 G1 S1 P1 vf hvf SFm q1_407 q2_407 q3_407 q4_407 hq hml2 (by decide) (by decide) (by decide) (by omega) (nb rfl)) hE483 (W := 0) (g := (mkF m 522 #[vi p0, vi p1, vi p2, vi va, vi vb, vi sa, vi sc, vr b5, vr b24, vr rs407, .val (.long ml), sn, .val (.int (Int32.ofNat (nd p2.toInt.natAbs))), vi 0, vi 13, vi 1] [(.long (100000000 : Int64)), (.int 8), (.long ml), (.int (Int32.ofNat (nd p2.toInt.natAbs))), (.int 13), (.ref rs407)])) rfl (by rw [hml]; rfl) (argsL := [(.ref rs407), (.int 13), (.int (Int32.ofNat (nd p2.toInt.natAbs))), (.long ml), (.int 8), (.long (100000000 : Int64))]) (rest := []) (lenOf pd_30 rfl) rfl (by exact Nat.le_of_eq rfl) (hb hby at_522) rfl (nb rfl) (nb rfl) (nb rfl) (nb rfl)
  obtain ⟨rfl, Nq484, hE484⟩ := hQ484
  have N484 := Fr.app N483 Nq484
  refine Go.st st484 ?_
  show Go p.tables e below Kx _ (mkF m 525 _ [(.int 1)])
  refine s_ifN (pc' := 528) X484.here hx (hb hby at_525) rfl ((if0 _ _).trans (feq (by decide)).1) ?_
  refine s_aload (pc' := 530) X484.here hx (hb hby at_528) rfl rfl rfl ?_
  refine s_iload (pc' := 532) X484.here hx (hb hby at_530) rfl rfl ?_
  refine s_iload (pc' := 534) X484.here hx (hb hby at_532) rfl rfl ?_
  refine s_lload (pc' := 536) X484.here hx (hb hby at_534) rfl rfl ?_
  refine s_bipush (pc' := 538) (v := 9) X484.here hx (hb hby at_536) rfl rfl ?_
  refine Go.st (X484.ldc2Long hx hown407 (mvT hZ407 (hv hw 231 rfl)) (g := (mkF m 538 #[vi p0, vi p1, vi p2, vi va, vi vb, vi sa, vi sc, vr b5, vr b24, vr rs407, .val (.long ml), sn, .val (.int (Int32.ofNat (nd p2.toInt.natAbs))), vi 0, vi 13, vi 1] [(.int 9), (.long ml), (.int (Int32.ofNat (nd p2.toInt.natAbs))), (.int 13), (.ref rs407)])) rfl (hb hby at_538)) ?_
  show Go p.tables e below Kx _ (mkF m 541 _ [(.long (1000000000 : Int64)), (.int 9), (.long ml), (.int (Int32.ofNat (nd p2.toInt.natAbs))), (.int 13), (.ref rs407)])
  obtain ⟨_, T485, L485, X485, hQ485, st485⟩ := kS X484 hx hZ407 (y := yN2) hown407 (hv hw 220 rfl) (hv hw 221 rfl) (hv hw 194 rfl) (hv hw 222 rfl) (by decide) (rmHdo l Z a0 hw [] rs407 rt407 _ us ((((([] : List Int32) ++ (i8s [va, vb])) ++ [(32 : Int32), (40 : Int32)]) ++ (i8s [sa, sc])) ++ [(44 : Int32), (32 : Int32), (108 : Int32), (105 : Int32), (110 : Int32), (101 : Int32), (32 : Int32)]) p2.toInt.natAbs (nd p2.toInt.natAbs) 9 ml (1000000000 : Int64) T407.heap n0 O407 G1 S1 P1 vf hvf SFm q1_407 q2_407 q3_407 q4_407 hq hml2 (by decide) (by decide) (by decide) (by omega) (nb rfl)) hE484 (W := 0) (g := (mkF m 541 #[vi p0, vi p1, vi p2, vi va, vi vb, vi sa, vi sc, vr b5, vr b24, vr rs407, .val (.long ml), sn, .val (.int (Int32.ofNat (nd p2.toInt.natAbs))), vi 0, vi 13, vi 1] [(.long (1000000000 : Int64)), (.int 9), (.long ml), (.int (Int32.ofNat (nd p2.toInt.natAbs))), (.int 13), (.ref rs407)])) rfl (by rw [hml]; rfl) (argsL := [(.ref rs407), (.int 13), (.int (Int32.ofNat (nd p2.toInt.natAbs))), (.long ml), (.int 9), (.long (1000000000 : Int64))]) (rest := []) (lenOf pd_30 rfl) rfl (by exact Nat.le_of_eq rfl) (hb hby at_541) rfl (nb rfl) (nb rfl) (nb rfl) (nb rfl)
  obtain ⟨rfl, Nq485, hE485⟩ := hQ485
  have N485 := Fr.app N484 Nq485
  refine Go.st st485 ?_
  show Go p.tables e below Kx _ (mkF m 544 _ [(.int 1)])
  refine s_ifN (pc' := 547) X485.here hx (hb hby at_544) rfl ((if0 _ _).trans (feq (by decide)).1) ?_
  refine s_iconst (pc' := 548) (v := 1) X485.here hx (hb hby at_547) rfl rfl ?_
  refine s_goto (pc' := 552) X485.here hx (hb hby at_548) (by decide) (by decide) ?_
  refine s_istore (pc' := 554) (Ls' := #[vi p0, vi p1, vi p2, vi va, vi vb, vi sa, vi sc, vr b5, vr b24, vr rs407, .val (.long ml), sn, .val (.int (Int32.ofNat (nd p2.toInt.natAbs))), vi 0, vi 13, vi 1]) X485.here hx (hb hby at_552) rfl  rfl ?_
  refine s_iload (pc' := 556) X485.here hx (hb hby at_554) rfl rfl ?_
  obtain ⟨fs, hr, hrun, hended, hRW⟩ := X485.leaveW hS407 (by rw [hE485]; exact hk407) (v := (some (.int 1))) (fun h => by rw [Bd.returns] at h; cases h)
  have hCx := C407.trans (CHv.at X485 hZ407 hEL Cr407.1)
  refine Go.fin (retN X485 hx (t := .boolean) Bd.returns (by simp) (hb hby at_556) hr) (hF _ _ hrun hended ⟨_, _, rfl, ?_, ?_, hRW.1, hRW.2.1, hRW.2.2.1, hRW.2.2.2.mono (by decide) (by decide)⟩)
  ·
   show QL Z p0 p1 p2 h0 n0 ((some (.int 1)) : Option Value) T485.heap _
   rw [hE485]
   exact ⟨rfl, N485⟩
  ·
   show CHr Z consts_1 s.vm s.heap T485.vm T485.heap
   rw [hE485, hh]; exact hCx
theorem comes_1 {Post : Tables → Env → Array Value → State → Outcome → State → Prop} (hpost : ∀ tb e args s v u, (limb_1_1.after args s (.returned v) u = true ∧ limb_1_2.after args s (.returned v) u = true ∧ True) → ReturnedEndW s (.returned v) u (Jvm.fieldLocs frame_1_writes args s ++ Jvm.arrayLocs frame_1_arrays args s ++ Jvm.staticLocs frame_1_statics s) 40 4416 → Post tb e args s (.returned v) u) :
    ArmFor flags0 classFile x code maxLocals ret World_1 tables_1 room_1 Calls_1 rest_1 Pre_1 Post := by
  intro l hfl _ _ p e ha hc hk s m args below hf hA hF happ hP
  obtain ⟨hcalls, hrest, hpre⟩ := hP
  obtain ⟨-, -, -, hnamed, -, -, -, hat⟩ := (Spec.applies_iff hf).mp happ
  obtain ⟨hg, hn⟩ := and_e (Cond.before_iff.mp (show (Jvm.Cond.and given_1 narrow_1).before args s = true from hpre))
  obtain ⟨hcount, hgs⟩ := and_e hg
  obtain ⟨hi0, hgs'⟩ := and_e hgs
  obtain ⟨hi1, hgs''⟩ := and_e hgs'
  have hi2 := hgs''
  obtain ⟨w0, w1, w2, rfl⟩ : ∃ w0 w1 w2 : Value, args = #[w0, w1, w2] := by
    have hs : args.size = 3 := by simpa [Cond.value, given_1] using hcount
    obtain ⟨L⟩ := args
    match L, hs with
    | [w0, w1, w2], _ => exact ⟨w0, w1, w2, rfl⟩
  have hw := fun d (hd : d ∈ tables_1) => atoms_spec (ws := Jvm.Cond.code x code maxLocals ret :: tables_1) hat d (List.mem_cons_of_mem _ hd)
  have hfit : Fit s := fun {y c} hc i hi => by
    obtain ⟨ha, rfl⟩ := Array.getElem?_eq_some_iff.mp hc
    have q := List.all_eq_true.mp ((Array.all_eq_true_iff_forall_mem.mp hF) _ (Array.getElem_mem ha)) i (List.mem_range.mpr hi)
    simpa [Array.getElem?_eq_getElem hi] using q
  obtain ⟨hsets, hown0⟩ := atoms_of _ (rest_1_c_eq ▸ (show rest_1_c.before _ s = true from hrest))
  obtain ⟨i0, ei0⟩ := is_v hi0
  obtain rfl : w0 = (.int i0) := Option.some.inj ei0
  obtain ⟨i1, ei1⟩ := is_v hi1
  obtain rfl : w1 = (.int i1) := Option.some.inj ei1
  obtain ⟨i2, ei2⟩ := is_v hi2
  obtain rfl : w2 = (.int i2) := Option.some.inj ei2
  obtain ⟨G1, eG1⟩ := is_v (Cond.before_iff.mp (hsets _ (List.mem_of_getElem? (i := 1) rfl)))
  have S1 : Sta s s.heap "java/lang/String" "COMPACT_STRINGS" "Z" (.int G1) := Sta.start eG1 (Or.inl (hsets _ (List.mem_of_getElem? (i := 0) rfl)))
  have P1 : ¬ (G1 = 0) := gotF (Cond.eq_ints eG1 (Term.int_eval (0))) (not_v (Cond.before_iff.mp (hsets _ (List.mem_of_getElem? (i := 2) rfl))))
  have wS : ∀ a ∈ Bundle.stringAtoms, a.before #[(.int i0), (.int i1), (.int i2)] s = true := fun d hd => hw d ((by decide +kernel : ∀ d ∈ Bundle.stringAtoms, d ∈ tables_1) d hd)
  have hEL : EW s #[(.int i0), (.int i1), (.int i2)] consts_1 := (EW.cons (hv hw 123 rfl) (by decide) (EW.cons (hv hw 124 rfl) (by decide) (EW.cons (hv hw 147 rfl) (by decide) (EW.cons (hv hw 33 rfl) (by decide) EW.nil))))
  have hCH : CHv s consts_1 s.vm s.heap := CHv.start hEL hcalls.1 (hsets _ (List.mem_of_getElem? (i := 2) rfl)) (wS _ (by simp [Bundle.stringAtoms])) (wS _ (by simp [Bundle.stringAtoms, Bundle.sN]))
  obtain ⟨vf, eF, hvf⟩ := isR_v (Cond.before_iff.mp (hsets _ (List.mem_of_getElem? (i := 8) rfl)))
  have SFm := Sta.start eF (Or.inl (hsets _ (List.mem_of_getElem? (i := 7) rfl)))
  obtain ⟨xo, exo⟩ := exa_v (Cond.before_iff.mp (hsets _ (List.mem_of_getElem? (i := 12) rfl)))
  have Sxo := Sta.start exo (Or.inl (hsets _ (List.mem_of_getElem? (i := 11) rfl)))
  obtain ⟨ko, Axo⟩ := tblOf hfit (fun _ => exo) (Cond.before_iff.mp (hsets _ (List.mem_of_getElem? (i := 12) rfl))) (hv hw 19 rfl) (Cond.before_iff.mp (hsets _ (List.mem_of_getElem? (i := 13) rfl))) (Cond.before_iff.mp (hsets _ (List.mem_of_getElem? (i := 14) rfl))) (fun i hi => ones_ev i hi)
  obtain ⟨xq, exq⟩ := exa_v (Cond.before_iff.mp (hsets _ (List.mem_of_getElem? (i := 17) rfl)))
  have Sxq := Sta.start exq (Or.inl (hsets _ (List.mem_of_getElem? (i := 16) rfl)))
  obtain ⟨kq, Axq⟩ := tblOf hfit (fun _ => exq) (Cond.before_iff.mp (hsets _ (List.mem_of_getElem? (i := 17) rfl))) (hv hw 19 rfl) (Cond.before_iff.mp (hsets _ (List.mem_of_getElem? (i := 18) rfl))) (Cond.before_iff.mp (hsets _ (List.mem_of_getElem? (i := 19) rfl))) (fun i hi => tens_ev i hi)
  obtain ⟨n, o, h1, h2, h3, _, L, rfl, ⟨rfl, N⟩, hq⟩ := rmL l s _ hw tables_1 i0 i1 i2 s.heap s.heap.size (Old.start s) hEL wS G1 S1 P1 vf hvf SFm xo xq ko kq Sxo Sxq Axo Axq p e ha hc hk s m _ below hf ((Spec.applies_iff_loose hf).mp happ).1 ⟨rfl, State.Warmed39.refl s, rfl, hCH⟩ trivial
  refine ⟨n, _, h1, h2, h3, hpost _ _ _ _ _ _ ⟨Cond.after_iff.mpr rfl, Cond.after_iff.mpr (eq_i res_at (Term.int_eval (1)) rfl), trivial⟩ ⟨hq.2.1, hq.2.2.1, hq.2.2.2.1, (hq.2.2.2.2.sift fun y hy => Or.inr (N y hy)).mono (by decide) (by decide)⟩⟩
theorem main_1_1 : Claimed_1_1 := comes_1 fun _ _ _ _ _ _ h hF => ⟨h.1, hF⟩
theorem main_1_2 : Claimed_1_2 := comes_1 fun _ _ _ _ _ _ h hF => ⟨h.2.1, hF⟩
end Jvm.Pilot.@@N@@
namespace Jvm.Pilot.@@N@@
open Jvm Jvm.ClassFile Sem Op Lib Jvm.Free Jvm.Stand Jvm.Pilot.@@N@@.Jvm.D
/-! MADE BY PROGRAM (witnessworld.py) out of the Statement's table words and the real class files: 29 classes; the members and pool entries that the words name. The judged class is class 1, her method 1. -/
namespace start1
open Jvm.ClassFile
def u (s : String) : CpInfo := .utf8 (stringToUtf16 s)
/-- a pool by its gaps: so many unusable entries, then the entry; so many at the end -/
def gap : Nat → List CpInfo → List CpInfo
  | 0, r => r
  | n + 1, r => .unusable :: gap n r
def poolList (es : List (Nat × CpInfo)) (last : Nat) : List CpInfo := es.foldr (fun e r => gap e.1 (e.2 :: r)) (gap last [])
def pool (es : List (Nat × CpInfo)) (last : Nat) : Array CpInfo := ⟨poolList es last⟩
def fileOf (pool : Array CpInfo) (this : Nat) (attrs : Array Attribute := #[]) (ms : Array MethodInfo := #[]) (fl : Nat := 33) (sup : Nat := 0) (ifs : Array Nat := #[]) (fds : Array FieldInfo := #[]) : ClassFile where
  minorVersion := 0
  majorVersion := 65
  constantPool := pool
  accessFlags := fl
  thisClass := this
  superClass := sup
  interfaces := ifs
  fields := fds
  methods := ms
  attributes := attrs
def plain (name : String) (sup : Option ClassId) : Class where
  name := name
  kind := .ordinary
  loader := none
  accessFlags := 33
  super := sup
  interfaces := #[]
  cf := none
  fields := #[]
  methods := #[]
  instanceTypes := #[]
  staticTypes := #[]
  resolved := #[]
  callSites := []
  init := .initialized
  statics := none
  mirror := none

def pool0 : Array CpInfo := pool [(5, u "<init>"), (0, u "()V"), (1, .class_ 10), (1, u "java/lang/Object"), (85, u "clone"), (0, u "()Ljava/lang/Object;")] 26

def k0c0 : Code := { maxStack := 0, maxLocals := 1, code := object_method_1_code, exceptionTable := #[], attributes := #[] }
def k0m0 : Method := { name := "<init>", desc := "()V", sig := { parameters := [], returnType := none }, accessFlags := 1, code := some k0c0 }
def k0m1 : Method := { name := "clone", desc := "()Ljava/lang/Object;", sig := { parameters := [], returnType := some (.object "java/lang/Object") }, accessFlags := 260, code := none }
/-- java/lang/Object -/
def k0 : Class := { plain "java/lang/Object" none with
  accessFlags := 33
  interfaces := #[]
  cf := some (fileOf pool0 8 #[] #[{ accessFlags := 1, nameIndex := 5, descriptorIndex := 6, attributes := #[] }, { accessFlags := 260, nameIndex := 96, descriptorIndex := 97, attributes := #[] }] 33 0 #[] #[])
  fields := #[]
  methods := #[k0m0, k0m1]
  instanceTypes := #[]
  staticTypes := #[]
  resolved := Array.replicate 124 none
  statics := none }

def pool1 : Array CpInfo := pool [(2, .class_ 4), (1, u "java/lang/Object"), (0, u "<init>"), (0, u "()V"), (0, .class_ 8), (0, u "java/lang/String"), (0, .methodref 7 10), (0, .nameAndType 5 11), (0, u "([C)V"), (0, .class_ 13), (0, u "com/example/syndica/syndica/Term"), (0, .string 15), (0, u "k"), (0, .methodref 12 17), (0, .nameAndType 5 18), (0, u "(Ljava/lang/String;Ljava/lang/String;Ljava/lang/String;I)V"), (0, .methodref 12 20), (0, .nameAndType 21 22), (0, u "cited"), (0, u "()Ljava/lang/String;"), (0, .methodref 24 25), (0, .class_ 26), (0, .nameAndType 27 28), (0, u "java/lang/Math"), (0, u "abs"), (0, u "(J)J"), (0, .methodref 30 31), (0, .class_ 32), (0, .nameAndType 33 34), (0, u "com/example/syndica/syndica/TermCitedPinLaw"), (0, u "digits"), (0, u "(J)I"), (0, .methodref 7 36), (0, .nameAndType 37 38), (0, u "length"), (0, u "()I"), (0, .methodref 7 40), (0, .nameAndType 41 42), (0, u "charAt"), (0, u "(I)C"), (0, .methodref 30 44), (0, .nameAndType 45 46), (0, u "digitOk"), (0, u "(Ljava/lang/String;IIJIJ)Z"), (0, .long 10), (1, .long 100), (1, .long 1000), (1, .long 10000), (1, .long 100000), (1, .long 1000000), (1, .long 10000000), (1, .long 100000000), (1, .long 1000000000), (1, .long 48), (3, u "law"), (0, u "(III)Z")] 3

def k1m0 : Method := { name := "<init>", desc := "()V", sig := { parameters := [], returnType := none }, accessFlags := 1, code := none }
def k1c1 : Code := { maxStack := 8, maxLocals := 16, code := code, exceptionTable := #[], attributes := #[] }
def k1m1 : Method := { name := "law", desc := "(III)Z", sig := { parameters := [.int, .int, .int], returnType := some .boolean }, accessFlags := 9, code := some k1c1 }
def k1c2 : Code := { maxStack := 4, maxLocals := 2, code := method_3_code, exceptionTable := #[], attributes := #[] }
def k1m2 : Method := { name := "digits", desc := "(J)I", sig := { parameters := [.long], returnType := some .int }, accessFlags := 10, code := some k1c2 }
def k1c3 : Code := { maxStack := 7, maxLocals := 8, code := method_4_code, exceptionTable := #[], attributes := #[] }
def k1m3 : Method := { name := "digitOk", desc := "(Ljava/lang/String;IIJIJ)Z", sig := { parameters := [(.object "java/lang/String"), .int, .int, .long, .int, .long], returnType := some .boolean }, accessFlags := 10, code := some k1c3 }
/-- com/example/syndica/syndica/TermCitedPinLaw -/
def k1 : Class := { plain "com/example/syndica/syndica/TermCitedPinLaw" (some 0) with
  accessFlags := 49
  interfaces := #[]
  cf := some (fileOf pool1 30 #[] #[{ accessFlags := 1, nameIndex := 5, descriptorIndex := 6, attributes := #[] }, { accessFlags := 9, nameIndex := 69, descriptorIndex := 70, attributes := #[] }, { accessFlags := 10, nameIndex := 33, descriptorIndex := 34, attributes := #[] }, { accessFlags := 10, nameIndex := 45, descriptorIndex := 46, attributes := #[] }] 49 2 #[] #[])
  fields := #[]
  methods := #[k1m0, k1m1, k1m2, k1m3]
  instanceTypes := #[]
  staticTypes := #[]
  resolved := Array.replicate 74 none
  statics := none }

def pool2 : Array CpInfo := pool [(1, .class_ 2), (0, u "java/io/Serializable"), (0, .class_ 4), (0, u "java/lang/Object")] 2

/-- java/io/Serializable -/
def k2 : Class := { plain "java/io/Serializable" (some 0) with
  accessFlags := 1537
  interfaces := #[]
  cf := some (fileOf pool2 1 #[] #[] 1537 3 #[] #[])
  fields := #[]
  methods := #[]
  instanceTypes := #[]
  staticTypes := #[]
  resolved := Array.replicate 7 none
  statics := none }

def pool3 : Array CpInfo := pool [(1, .class_ 2), (0, u "java/lang/Comparable"), (0, .class_ 4), (0, u "java/lang/Object")] 7

/-- java/lang/Comparable -/
def k3 : Class := { plain "java/lang/Comparable" (some 0) with
  accessFlags := 1537
  interfaces := #[]
  cf := some (fileOf pool3 1 #[] #[] 1537 3 #[] #[])
  fields := #[]
  methods := #[]
  instanceTypes := #[]
  staticTypes := #[]
  resolved := Array.replicate 12 none
  statics := none }

def pool4 : Array CpInfo := pool [(2, .class_ 4), (1, u "java/lang/CharSequence"), (42, .class_ 48), (0, u "java/lang/CharSequence$1CodePointIterator"), (10, .class_ 60), (0, u "java/lang/CharSequence$1CharIterator"), (5, .class_ 67), (0, u "java/lang/Object")] 63

/-- java/lang/CharSequence -/
def k4 : Class := { plain "java/lang/CharSequence" (some 0) with
  accessFlags := 1537
  interfaces := #[]
  cf := some (fileOf pool4 2 #[.nestMembers #[47, 59]] #[] 1537 66 #[] #[])
  fields := #[]
  methods := #[]
  instanceTypes := #[]
  staticTypes := #[]
  resolved := Array.replicate 131 none
  statics := none }

def pool5 : Array CpInfo := pool [(1, .class_ 2), (0, u "java/lang/constant/Constable"), (0, .class_ 4), (0, u "java/lang/Object")] 6

/-- java/lang/constant/Constable -/
def k5 : Class := { plain "java/lang/constant/Constable" (some 0) with
  accessFlags := 1537
  interfaces := #[]
  cf := some (fileOf pool5 1 #[] #[] 1537 3 #[] #[])
  fields := #[]
  methods := #[]
  instanceTypes := #[]
  staticTypes := #[]
  resolved := Array.replicate 11 none
  statics := none }

def pool6 : Array CpInfo := pool [(1, .class_ 2), (0, u "java/lang/constant/ConstantDesc"), (0, .class_ 4), (0, u "java/lang/Object")] 32

/-- java/lang/constant/ConstantDesc -/
def k6 : Class := { plain "java/lang/constant/ConstantDesc" (some 0) with
  accessFlags := 1537
  interfaces := #[]
  cf := some (fileOf pool6 1 #[] #[] 1537 3 #[] #[])
  fields := #[]
  methods := #[]
  instanceTypes := #[]
  staticTypes := #[]
  resolved := Array.replicate 37 none
  statics := none }

def pool7 : Array CpInfo := pool [(1, .methodref 2 3), (0, .class_ 4), (0, .nameAndType 5 6), (0, u "java/lang/Object"), (0, u "<init>"), (0, u "()V"), (2, .fieldref 10 11), (0, .class_ 12), (0, .nameAndType 13 14), (0, u "java/lang/String"), (0, u "value"), (0, u "[B"), (0, .fieldref 10 16), (0, .nameAndType 17 18), (0, u "coder"), (0, u "B"), (2, u "hash"), (0, u "I"), (2, u "hashIsZero"), (0, u "Z"), (0, .methodref 10 28), (0, .nameAndType 5 29), (0, u "([CIILjava/lang/Void;)V"), (8, .fieldref 10 39), (0, .nameAndType 40 26), (0, u "COMPACT_STRINGS"), (1, .class_ 44), (1, u "java/lang/StringUTF16"), (0, u "compress"), (1, .methodref 42 48), (0, .nameAndType 49 50), (0, u "coderFromArrayLen"), (0, u "([BI)B"), (3, .methodref 55 56), (0, .class_ 57), (0, .nameAndType 58 59), (0, u "java/util/Arrays"), (0, u "copyOfRange"), (0, u "([BII)[B"), (47, .class_ 109), (1, u "java/lang/StringLatin1"), (32, u "()Z"), (34, .methodref 42 178), (0, .nameAndType 45 179), (0, u "([CII)[B"), (13, .class_ 195), (1, u "java/lang/System"), (16, .methodref 193 213), (0, .nameAndType 214 215), (0, u "arraycopy"), (0, u "(Ljava/lang/Object;ILjava/lang/Object;II)V"), (118, u "()I"), (0, .methodref 10 336), (0, .nameAndType 17 337), (0, u "()B"), (2, u "()[B"), (22, u "([BI)C"), (27, u "(II)V"), (35, u "(I)C"), (61, .methodref 10 490), (0, .nameAndType 5 491), (0, u "(Ljava/lang/AbstractStringBuilder;Ljava/lang/Void;)V"), (0, .methodref 10 493), (0, .nameAndType 494 142), (0, u "isLatin1"), (0, .methodref 107 496), (0, .nameAndType 497 363), (0, u "charAt"), (3, u "checkIndex"), (4, .nameAndType 507 334), (0, u "length"), (24, u "getBytes"), (16, .methodref 550 506), (0, .class_ 551), (0, u "java/lang/AbstractStringBuilder"), (0, .methodref 550 553), (0, .nameAndType 554 340), (0, u "getValue"), (20, .class_ 576), (0, u "java/lang/CharSequence"), (22, u "CASE_INSENSITIVE_ORDER"), (0, u "Ljava/util/Comparator;"), (220, u "([BIB)V"), (188, u "([C)V"), (36, .methodref 550 493), (5, .fieldref 1054 1055), (0, .class_ 1056), (0, .nameAndType 1057 1058), (0, u "jdk/internal/util/Preconditions"), (0, u "SIOOBE_FORMATTER"), (0, u "Ljava/util/function/BiFunction;"), (0, .methodref 1054 1060), (0, .nameAndType 501 1061), (0, u "(IILjava/util/function/BiFunction;)I"), (39, u "serialPersistentFields"), (0, u "[Ljava/io/ObjectStreamField;"), (0, .class_ 1104), (0, u "java/lang/String$CaseInsensitiveComparator"), (1, .class_ 1107), (0, u "java/io/Serializable"), (0, .class_ 1109), (0, u "java/lang/Comparable"), (0, .class_ 1111), (0, u "java/lang/constant/Constable"), (0, .class_ 1113), (0, u "java/lang/constant/ConstantDesc"), (2, u "serialVersionUID"), (0, u "J"), (3, u "REPL"), (0, u "C"), (2, u "LATIN1"), (1, u "UTF16"), (105, u "(Ljava/lang/StringBuilder;)V")] 217

def k7m0 : Method := { name := "<init>", desc := "()V", sig := { parameters := [], returnType := none }, accessFlags := 1, code := none }
def k7c1 : Code := { maxStack := 5, maxLocals := 2, code := jdk_42_method_3_code, exceptionTable := #[], attributes := #[] }
def k7m1 : Method := { name := "<init>", desc := "([C)V", sig := { parameters := [(.array .char)], returnType := none }, accessFlags := 1, code := some k7c1 }
def k7c2 : Code := { maxStack := 3, maxLocals := 2, code := jdk_42_method_53_code, exceptionTable := #[], attributes := #[] }
def k7m2 : Method := { name := "<init>", desc := "(Ljava/lang/StringBuilder;)V", sig := { parameters := [(.object "java/lang/StringBuilder")], returnType := none }, accessFlags := 1, code := some k7c2 }
def k7c3 : Code := { maxStack := 2, maxLocals := 1, code := jdk_42_method_54_code, exceptionTable := #[], attributes := #[] }
def k7m3 : Method := { name := "length", desc := "()I", sig := { parameters := [], returnType := some .int }, accessFlags := 1, code := some k7c3 }
def k7c4 : Code := { maxStack := 2, maxLocals := 2, code := jdk_42_method_56_code, exceptionTable := #[], attributes := #[] }
def k7m4 : Method := { name := "charAt", desc := "(I)C", sig := { parameters := [.int], returnType := some .char }, accessFlags := 1, code := some k7c4 }
def k7c5 : Code := { maxStack := 5, maxLocals := 4, code := jdk_42_method_147_code, exceptionTable := #[], attributes := #[] }
def k7m5 : Method := { name := "getBytes", desc := "([BIB)V", sig := { parameters := [(.array .byte), .int, .byte], returnType := none }, accessFlags := 0, code := some k7c5 }
def k7c6 : Code := { maxStack := 4, maxLocals := 6, code := jdk_42_method_149_code, exceptionTable := #[], attributes := #[] }
def k7m6 : Method := { name := "<init>", desc := "([CIILjava/lang/Void;)V", sig := { parameters := [(.array .char), .int, .int, (.object "java/lang/Void")], returnType := none }, accessFlags := 2, code := some k7c6 }
def k7c7 : Code := { maxStack := 5, maxLocals := 5, code := jdk_42_method_150_code, exceptionTable := #[], attributes := #[] }
def k7m7 : Method := { name := "<init>", desc := "(Ljava/lang/AbstractStringBuilder;Ljava/lang/Void;)V", sig := { parameters := [(.object "java/lang/AbstractStringBuilder"), (.object "java/lang/Void")], returnType := none }, accessFlags := 0, code := some k7c7 }
def k7c8 : Code := { maxStack := 1, maxLocals := 1, code := jdk_42_method_152_code, exceptionTable := #[], attributes := #[] }
def k7m8 : Method := { name := "coder", desc := "()B", sig := { parameters := [], returnType := some .byte }, accessFlags := 0, code := some k7c8 }
def k7c9 : Code := { maxStack := 1, maxLocals := 1, code := jdk_42_method_154_code, exceptionTable := #[], attributes := #[] }
def k7m9 : Method := { name := "isLatin1", desc := "()Z", sig := { parameters := [], returnType := some .boolean }, accessFlags := 0, code := some k7c9 }
def k7c10 : Code := { maxStack := 3, maxLocals := 2, code := jdk_42_method_155_code, exceptionTable := #[], attributes := #[] }
def k7m10 : Method := { name := "checkIndex", desc := "(II)V", sig := { parameters := [.int, .int], returnType := none }, accessFlags := 8, code := some k7c10 }
/-- java/lang/String -/
def k7 : Class := { plain "java/lang/String" (some 0) with
  accessFlags := 49
  interfaces := #[2, 3, 4, 5, 6]
  cf := some (fileOf pool7 10 #[.nestMembers #[1103]] #[{ accessFlags := 1, nameIndex := 5, descriptorIndex := 6, attributes := #[] }, { accessFlags := 1, nameIndex := 5, descriptorIndex := 1010, attributes := #[] }, { accessFlags := 1, nameIndex := 5, descriptorIndex := 1233, attributes := #[] }, { accessFlags := 1, nameIndex := 507, descriptorIndex := 334, attributes := #[] }, { accessFlags := 1, nameIndex := 497, descriptorIndex := 427, attributes := #[] }, { accessFlags := 0, nameIndex := 532, descriptorIndex := 821, attributes := #[] }, { accessFlags := 2, nameIndex := 5, descriptorIndex := 29, attributes := #[] }, { accessFlags := 0, nameIndex := 5, descriptorIndex := 491, attributes := #[] }, { accessFlags := 0, nameIndex := 17, descriptorIndex := 337, attributes := #[] }, { accessFlags := 0, nameIndex := 494, descriptorIndex := 142, attributes := #[] }, { accessFlags := 8, nameIndex := 501, descriptorIndex := 391, attributes := #[] }] 49 2 #[1106, 1108, 575, 1110, 1112] #[{ accessFlags := 18, nameIndex := 13, descriptorIndex := 14, attributes := #[] }, { accessFlags := 18, nameIndex := 17, descriptorIndex := 18, attributes := #[] }, { accessFlags := 2, nameIndex := 21, descriptorIndex := 22, attributes := #[] }, { accessFlags := 2, nameIndex := 25, descriptorIndex := 26, attributes := #[] }, { accessFlags := 26, nameIndex := 1116, descriptorIndex := 1117, attributes := #[] }, { accessFlags := 24, nameIndex := 40, descriptorIndex := 26, attributes := #[] }, { accessFlags := 26, nameIndex := 1101, descriptorIndex := 1102, attributes := #[] }, { accessFlags := 26, nameIndex := 1121, descriptorIndex := 1122, attributes := #[] }, { accessFlags := 25, nameIndex := 599, descriptorIndex := 600, attributes := #[] }, { accessFlags := 24, nameIndex := 1125, descriptorIndex := 18, attributes := #[] }, { accessFlags := 24, nameIndex := 1127, descriptorIndex := 18, attributes := #[] }])
  fields := #[{ name := "value", type := (.array .byte), accessFlags := 18, slot := 0, constantValue := 0 }, { name := "coder", type := .byte, accessFlags := 18, slot := 1, constantValue := 0 }, { name := "hash", type := .int, accessFlags := 2, slot := 2, constantValue := 0 }, { name := "hashIsZero", type := .boolean, accessFlags := 2, slot := 3, constantValue := 0 }, { name := "serialVersionUID", type := .long, accessFlags := 26, slot := 0, constantValue := 0 }, { name := "COMPACT_STRINGS", type := .boolean, accessFlags := 24, slot := 1, constantValue := 0 }, { name := "serialPersistentFields", type := (.array (.object "java/io/ObjectStreamField")), accessFlags := 26, slot := 2, constantValue := 0 }, { name := "REPL", type := .char, accessFlags := 26, slot := 3, constantValue := 0 }, { name := "CASE_INSENSITIVE_ORDER", type := (.object "java/util/Comparator"), accessFlags := 25, slot := 4, constantValue := 0 }, { name := "LATIN1", type := .byte, accessFlags := 24, slot := 5, constantValue := 0 }, { name := "UTF16", type := .byte, accessFlags := 24, slot := 6, constantValue := 0 }]
  methods := #[k7m0, k7m1, k7m2, k7m3, k7m4, k7m5, k7m6, k7m7, k7m8, k7m9, k7m10]
  instanceTypes := #[(.array .byte), .byte, .int, .boolean]
  staticTypes := #[.long, .boolean, (.array (.object "java/io/ObjectStreamField")), .char, (.object "java/util/Comparator"), .byte, .byte]
  resolved := Array.replicate 1451 none
  statics := some 0 }

def pool8 : Array CpInfo := pool [(6, .class_ 8), (1, u "java/lang/Object"), (0, u "<init>"), (0, u "()V"), (1, .class_ 14), (1, u "java/lang/StringUTF16"), (31, u "$assertionsDisabled"), (0, u "Z"), (13, u "HI_BYTE_SHIFT"), (0, u "I"), (2, u "LO_BYTE_SHIFT"), (49, .methodref 12 116), (0, .nameAndType 117 118), (0, u "compress"), (0, u "([CI[BII)I"), (3, u "([CII)[B"), (138, u "coderFromArrayLen"), (0, u "([BI)B"), (106, .class_ 371), (1, u "java/lang/StringUTF16$LinesSpliterator"), (58, u "MAX_LENGTH"), (196, .class_ 628), (0, u "java/lang/StringUTF16$CodePointsSpliterator"), (0, .class_ 630), (0, u "java/lang/StringUTF16$CharsSpliterator")] 4

def k8m0 : Method := { name := "<init>", desc := "()V", sig := { parameters := [], returnType := none }, accessFlags := 0, code := none }
def k8c1 : Code := { maxStack := 2, maxLocals := 2, code := jdk_52_method_15_code, exceptionTable := #[], attributes := #[] }
def k8m1 : Method := { name := "coderFromArrayLen", desc := "([BI)B", sig := { parameters := [(.array .byte), .int], returnType := some .byte }, accessFlags := 8, code := some k8c1 }
def k8c2 : Code := { maxStack := 5, maxLocals := 6, code := jdk_52_method_16_code, exceptionTable := #[], attributes := #[] }
def k8m2 : Method := { name := "compress", desc := "([CII)[B", sig := { parameters := [(.array .char), .int, .int], returnType := some (.array .byte) }, accessFlags := 9, code := some k8c2 }
def k8c3 : Code := { maxStack := 3, maxLocals := 7, code := jdk_52_method_21_code, exceptionTable := #[], attributes := #[] }
def k8m3 : Method := { name := "compress", desc := "([CI[BII)I", sig := { parameters := [(.array .char), .int, (.array .byte), .int, .int], returnType := some .int }, accessFlags := 9, code := some k8c3 }
/-- java/lang/StringUTF16 -/
def k8 : Class := { plain "java/lang/StringUTF16" (some 0) with
  accessFlags := 48
  interfaces := #[]
  cf := some (fileOf pool8 12 #[.nestMembers #[627, 629, 369]] #[{ accessFlags := 0, nameIndex := 9, descriptorIndex := 10, attributes := #[] }, { accessFlags := 8, nameIndex := 261, descriptorIndex := 262, attributes := #[] }, { accessFlags := 9, nameIndex := 117, descriptorIndex := 122, attributes := #[] }, { accessFlags := 9, nameIndex := 117, descriptorIndex := 118, attributes := #[] }] 48 6 #[] #[{ accessFlags := 26, nameIndex := 61, descriptorIndex := 62, attributes := #[] }, { accessFlags := 26, nameIndex := 65, descriptorIndex := 62, attributes := #[] }, { accessFlags := 24, nameIndex := 430, descriptorIndex := 62, attributes := #[] }, { accessFlags := 4120, nameIndex := 46, descriptorIndex := 47, attributes := #[] }])
  fields := #[{ name := "HI_BYTE_SHIFT", type := .int, accessFlags := 26, slot := 0, constantValue := 0 }, { name := "LO_BYTE_SHIFT", type := .int, accessFlags := 26, slot := 1, constantValue := 0 }, { name := "MAX_LENGTH", type := .int, accessFlags := 24, slot := 2, constantValue := 0 }, { name := "$assertionsDisabled", type := .boolean, accessFlags := 4120, slot := 3, constantValue := 0 }]
  methods := #[k8m0, k8m1, k8m2, k8m3]
  instanceTypes := #[]
  staticTypes := #[.int, .int, .int, .boolean]
  resolved := Array.replicate 635 none
  statics := none }

def pool9 : Array CpInfo := pool [(1, .methodref 2 3), (0, .class_ 4), (0, .nameAndType 5 6), (0, u "java/lang/Object"), (0, u "<init>"), (0, u "()V"), (0, .class_ 8), (0, u "java/lang/Record")] 13

def k9c0 : Code := { maxStack := 1, maxLocals := 1, code := jdk_30_method_1_code, exceptionTable := #[], attributes := #[] }
def k9m0 : Method := { name := "<init>", desc := "()V", sig := { parameters := [], returnType := none }, accessFlags := 4, code := some k9c0 }
/-- java/lang/Record -/
def k9 : Class := { plain "java/lang/Record" (some 0) with
  accessFlags := 1057
  interfaces := #[]
  cf := some (fileOf pool9 7 #[] #[{ accessFlags := 4, nameIndex := 5, descriptorIndex := 6, attributes := #[] }] 1057 2 #[] #[])
  fields := #[]
  methods := #[k9m0]
  instanceTypes := #[]
  staticTypes := #[]
  resolved := Array.replicate 22 none
  statics := none }

def pool10 : Array CpInfo := pool [(1, .methodref 2 3), (0, .class_ 4), (0, .nameAndType 5 6), (0, u "java/lang/Record"), (0, u "<init>"), (0, u "()V"), (0, .fieldref 8 9), (0, .class_ 10), (0, .nameAndType 11 12), (0, u "com/example/syndica/syndica/Term"), (0, u "key"), (0, u "Ljava/lang/String;"), (0, .fieldref 8 14), (0, .nameAndType 15 12), (0, u "value"), (0, .fieldref 8 17), (0, .nameAndType 18 12), (0, u "section"), (0, .fieldref 8 20), (0, .nameAndType 21 22), (0, u "line"), (0, u "I"), (0, .class_ 24), (0, u "java/lang/StringBuilder"), (0, .methodref 23 3), (0, .methodref 23 27), (0, .nameAndType 28 29), (0, u "append"), (0, u "(Ljava/lang/String;)Ljava/lang/StringBuilder;"), (0, .string 31), (0, u " ("), (0, .string 33), (0, u ", line "), (0, .methodref 23 35), (0, .nameAndType 28 36), (0, u "(I)Ljava/lang/StringBuilder;"), (0, .string 38), (0, u ")"), (0, .methodref 23 40), (0, .nameAndType 41 42), (0, u "toString"), (0, u "()Ljava/lang/String;"), (24, u "cited"), (21, u "(Ljava/lang/String;Ljava/lang/String;Ljava/lang/String;I)V")] 32

def k10c0 : Code := { maxStack := 2, maxLocals := 5, code := prog_81_method_1_code, exceptionTable := #[], attributes := #[] }
def k10m0 : Method := { name := "<init>", desc := "(Ljava/lang/String;Ljava/lang/String;Ljava/lang/String;I)V", sig := { parameters := [(.object "java/lang/String"), (.object "java/lang/String"), (.object "java/lang/String"), .int], returnType := none }, accessFlags := 1, code := some k10c0 }
def k10c1 : Code := { maxStack := 2, maxLocals := 1, code := prog_81_method_2_code, exceptionTable := #[], attributes := #[] }
def k10m1 : Method := { name := "cited", desc := "()Ljava/lang/String;", sig := { parameters := [], returnType := some (.object "java/lang/String") }, accessFlags := 0, code := some k10c1 }
/-- com/example/syndica/syndica/Term -/
def k10 : Class := { plain "com/example/syndica/syndica/Term" (some 9) with
  accessFlags := 49
  interfaces := #[]
  cf := some (fileOf pool10 8 #[] #[{ accessFlags := 1, nameIndex := 5, descriptorIndex := 89, attributes := #[] }, { accessFlags := 0, nameIndex := 67, descriptorIndex := 42, attributes := #[] }] 49 2 #[] #[{ accessFlags := 18, nameIndex := 11, descriptorIndex := 12, attributes := #[] }, { accessFlags := 18, nameIndex := 15, descriptorIndex := 12, attributes := #[] }, { accessFlags := 18, nameIndex := 18, descriptorIndex := 12, attributes := #[] }, { accessFlags := 18, nameIndex := 21, descriptorIndex := 22, attributes := #[] }])
  fields := #[{ name := "key", type := (.object "java/lang/String"), accessFlags := 18, slot := 0, constantValue := 0 }, { name := "value", type := (.object "java/lang/String"), accessFlags := 18, slot := 1, constantValue := 0 }, { name := "section", type := (.object "java/lang/String"), accessFlags := 18, slot := 2, constantValue := 0 }, { name := "line", type := .int, accessFlags := 18, slot := 3, constantValue := 0 }]
  methods := #[k10m0, k10m1]
  instanceTypes := #[(.object "java/lang/String"), (.object "java/lang/String"), (.object "java/lang/String"), .int]
  staticTypes := #[]
  resolved := Array.replicate 122 none
  statics := none }

def pool11 : Array CpInfo := pool [(1, .class_ 2), (0, u "java/lang/Appendable"), (0, .class_ 4), (0, u "java/lang/Object")] 9

/-- java/lang/Appendable -/
def k11 : Class := { plain "java/lang/Appendable" (some 0) with
  accessFlags := 1537
  interfaces := #[]
  cf := some (fileOf pool11 1 #[] #[] 1537 3 #[] #[])
  fields := #[]
  methods := #[]
  instanceTypes := #[]
  staticTypes := #[]
  resolved := Array.replicate 14 none
  statics := none }

def pool12 : Array CpInfo := pool [(1, .class_ 2), (0, u "java/lang/String"), (0, .methodref 4 5), (0, .class_ 6), (0, .nameAndType 7 8), (0, u "java/lang/Object"), (0, u "<init>"), (0, u "()V"), (1, .class_ 12), (1, u "java/lang/AbstractStringBuilder"), (0, u "EMPTYVALUE"), (0, u "[B"), (0, .fieldref 10 16), (0, .nameAndType 17 14), (0, u "value"), (0, .fieldref 1 19), (0, .nameAndType 20 21), (0, u "COMPACT_STRINGS"), (0, u "Z"), (0, .fieldref 10 23), (0, .nameAndType 24 25), (0, u "coder"), (0, u "B"), (6, .methodref 1 33), (0, .nameAndType 34 35), (0, u "length"), (0, u "()I"), (0, .class_ 37), (0, u "java/lang/Integer"), (1, .integer 2147483647), (0, .methodref 1 41), (0, .nameAndType 24 42), (0, u "()B"), (2, u "append"), (0, u "(Ljava/lang/String;)Ljava/lang/AbstractStringBuilder;"), (1, .class_ 49), (0, u "java/lang/CharSequence"), (19, u "(Ljava/lang/String;)V"), (5, u "maybeLatin1"), (3, .fieldref 10 80), (0, .nameAndType 81 82), (0, u "count"), (0, u "I"), (0, .methodref 10 84), (0, .nameAndType 85 86), (0, u "isLatin1"), (0, u "()Z"), (13, .methodref 10 101), (0, .nameAndType 102 103), (0, u "ensureCapacityInternal"), (0, u "(I)V"), (0, .methodref 10 105), (0, .nameAndType 106 107), (0, u "newCapacity"), (0, u "(I)I"), (0, .methodref 109 110), (0, .class_ 111), (0, .nameAndType 112 113), (0, u "java/util/Arrays"), (0, u "copyOf"), (0, u "([BI)[B"), (0, .methodref 115 116), (0, .class_ 117), (0, .nameAndType 118 119), (0, u "jdk/internal/util/ArraysSupport"), (0, u "newLength"), (0, u "(III)I"), (68, u "getChars"), (19, .methodref 10 209), (0, .nameAndType 210 211), (0, u "putStringAt"), (0, u "(ILjava/lang/String;)V"), (5, u "inflateIfNeededFor"), (2, .nameAndType 221 222), (0, u "getBytes"), (0, u "([BIB)V"), (22, .methodref 36 246), (0, .nameAndType 247 107), (0, u "stringSize"), (0, .methodref 36 249), (0, .nameAndType 188 250), (0, u "(II[B)I"), (146, .methodref 10 398), (0, .nameAndType 217 69), (0, .methodref 1 220), (3, u "()[B"), (40, .class_ 445), (0, u "java/lang/Appendable"), (65, u "(I)Ljava/lang/AbstractStringBuilder;"), (40, u "getValue")] 56

def k12m0 : Method := { name := "<init>", desc := "()V", sig := { parameters := [], returnType := none }, accessFlags := 0, code := none }
def k12c1 : Code := { maxStack := 2, maxLocals := 2, code := jdk_68_method_2_code, exceptionTable := #[], attributes := #[] }
def k12m1 : Method := { name := "<init>", desc := "(I)V", sig := { parameters := [.int], returnType := none }, accessFlags := 0, code := some k12c1 }
def k12c2 : Code := { maxStack := 1, maxLocals := 1, code := jdk_68_method_6_code, exceptionTable := #[], attributes := #[] }
def k12m2 : Method := { name := "length", desc := "()I", sig := { parameters := [], returnType := some .int }, accessFlags := 1, code := some k12c2 }
def k12c3 : Code := { maxStack := 4, maxLocals := 3, code := jdk_68_method_9_code, exceptionTable := #[], attributes := #[] }
def k12m3 : Method := { name := "ensureCapacityInternal", desc := "(I)V", sig := { parameters := [.int], returnType := none }, accessFlags := 2, code := some k12c3 }
def k12c4 : Code := { maxStack := 5, maxLocals := 6, code := jdk_68_method_10_code, exceptionTable := #[], attributes := #[] }
def k12m4 : Method := { name := "newCapacity", desc := "(I)I", sig := { parameters := [.int], returnType := some .int }, accessFlags := 2, code := some k12c4 }
def k12c5 : Code := { maxStack := 3, maxLocals := 3, code := jdk_68_method_22_code, exceptionTable := #[], attributes := #[] }
def k12m5 : Method := { name := "append", desc := "(Ljava/lang/String;)Ljava/lang/AbstractStringBuilder;", sig := { parameters := [(.object "java/lang/String")], returnType := some (.object "java/lang/AbstractStringBuilder") }, accessFlags := 1, code := some k12c5 }
def k12c6 : Code := { maxStack := 4, maxLocals := 4, code := jdk_68_method_32_code, exceptionTable := #[], attributes := #[] }
def k12m6 : Method := { name := "append", desc := "(I)Ljava/lang/AbstractStringBuilder;", sig := { parameters := [.int], returnType := some (.object "java/lang/AbstractStringBuilder") }, accessFlags := 1, code := some k12c6 }
def k12c7 : Code := { maxStack := 1, maxLocals := 1, code := jdk_68_method_64_code, exceptionTable := #[], attributes := #[] }
def k12m7 : Method := { name := "getValue", desc := "()[B", sig := { parameters := [], returnType := some (.array .byte) }, accessFlags := 16, code := some k12c7 }
def k12c8 : Code := { maxStack := 1, maxLocals := 1, code := jdk_68_method_68_code, exceptionTable := #[], attributes := #[] }
def k12m8 : Method := { name := "isLatin1", desc := "()Z", sig := { parameters := [], returnType := some .boolean }, accessFlags := 16, code := some k12c8 }
def k12c9 : Code := { maxStack := 2, maxLocals := 2, code := jdk_68_method_71_code, exceptionTable := #[], attributes := #[] }
def k12m9 : Method := { name := "inflateIfNeededFor", desc := "(Ljava/lang/String;)V", sig := { parameters := [(.object "java/lang/String")], returnType := none }, accessFlags := 2, code := some k12c9 }
def k12c10 : Code := { maxStack := 4, maxLocals := 3, code := jdk_68_method_73_code, exceptionTable := #[], attributes := #[] }
def k12m10 : Method := { name := "putStringAt", desc := "(ILjava/lang/String;)V", sig := { parameters := [.int, (.object "java/lang/String")], returnType := none }, accessFlags := 2, code := some k12c10 }
/-- java/lang/AbstractStringBuilder -/
def k12 : Class := { plain "java/lang/AbstractStringBuilder" (some 0) with
  accessFlags := 1056
  interfaces := #[11, 4]
  cf := some (fileOf pool12 10 #[] #[{ accessFlags := 0, nameIndex := 7, descriptorIndex := 8, attributes := #[] }, { accessFlags := 0, nameIndex := 7, descriptorIndex := 103, attributes := #[] }, { accessFlags := 1, nameIndex := 34, descriptorIndex := 35, attributes := #[] }, { accessFlags := 2, nameIndex := 102, descriptorIndex := 103, attributes := #[] }, { accessFlags := 2, nameIndex := 106, descriptorIndex := 107, attributes := #[] }, { accessFlags := 1, nameIndex := 45, descriptorIndex := 46, attributes := #[] }, { accessFlags := 1, nameIndex := 45, descriptorIndex := 511, attributes := #[] }, { accessFlags := 16, nameIndex := 552, descriptorIndex := 403, attributes := #[] }, { accessFlags := 16, nameIndex := 85, descriptorIndex := 86, attributes := #[] }, { accessFlags := 2, nameIndex := 217, descriptorIndex := 69, attributes := #[] }, { accessFlags := 2, nameIndex := 210, descriptorIndex := 211, attributes := #[] }] 1056 4 #[444, 48] #[{ accessFlags := 0, nameIndex := 17, descriptorIndex := 14, attributes := #[] }, { accessFlags := 0, nameIndex := 24, descriptorIndex := 25, attributes := #[] }, { accessFlags := 0, nameIndex := 75, descriptorIndex := 21, attributes := #[] }, { accessFlags := 0, nameIndex := 81, descriptorIndex := 82, attributes := #[] }, { accessFlags := 26, nameIndex := 13, descriptorIndex := 14, attributes := #[] }])
  fields := #[{ name := "value", type := (.array .byte), accessFlags := 0, slot := 0, constantValue := 0 }, { name := "coder", type := .byte, accessFlags := 0, slot := 1, constantValue := 0 }, { name := "maybeLatin1", type := .boolean, accessFlags := 0, slot := 2, constantValue := 0 }, { name := "count", type := .int, accessFlags := 0, slot := 3, constantValue := 0 }, { name := "EMPTYVALUE", type := (.array .byte), accessFlags := 26, slot := 0, constantValue := 0 }]
  methods := #[k12m0, k12m1, k12m2, k12m3, k12m4, k12m5, k12m6, k12m7, k12m8, k12m9, k12m10]
  instanceTypes := #[(.array .byte), .byte, .boolean, .int]
  staticTypes := #[(.array .byte)]
  resolved := Array.replicate 609 none
  statics := none }

def pool13 : Array CpInfo := pool [(1, .methodref 2 3), (0, .class_ 4), (0, .nameAndType 5 6), (0, u "java/lang/AbstractStringBuilder"), (0, u "<init>"), (0, u "(I)V"), (11, .class_ 20), (1, u "java/lang/String"), (3, .class_ 26), (1, u "java/lang/StringBuilder"), (0, u "append"), (0, u "(Ljava/lang/String;)Ljava/lang/StringBuilder;"), (0, .methodref 2 30), (0, .nameAndType 27 31), (0, u "(Ljava/lang/String;)Ljava/lang/AbstractStringBuilder;"), (21, .methodref 2 54), (0, .nameAndType 27 55), (0, u "(I)Ljava/lang/AbstractStringBuilder;"), (81, .methodref 18 138), (0, .nameAndType 5 139), (0, u "(Ljava/lang/StringBuilder;)V"), (5, u "()V"), (10, u "()I"), (111, u "(I)Ljava/lang/StringBuilder;"), (74, .methodref 2 344), (0, .nameAndType 345 156), (0, u "length"), (3, .class_ 350), (0, u "java/lang/Appendable"), (0, .class_ 352), (0, u "java/io/Serializable"), (0, .class_ 354), (0, u "java/lang/Comparable"), (0, .class_ 356), (0, u "java/lang/CharSequence"), (0, u "serialVersionUID"), (0, u "J"), (40, u "toString"), (0, u "()Ljava/lang/String;")] 21

def k13c0 : Code := { maxStack := 2, maxLocals := 1, code := jdk_67_method_1_code, exceptionTable := #[], attributes := #[] }
def k13m0 : Method := { name := "<init>", desc := "()V", sig := { parameters := [], returnType := none }, accessFlags := 1, code := some k13c0 }
def k13c1 : Code := { maxStack := 2, maxLocals := 2, code := jdk_67_method_7_code, exceptionTable := #[], attributes := #[] }
def k13m1 : Method := { name := "append", desc := "(Ljava/lang/String;)Ljava/lang/StringBuilder;", sig := { parameters := [(.object "java/lang/String")], returnType := some (.object "java/lang/StringBuilder") }, accessFlags := 1, code := some k13c1 }
def k13c2 : Code := { maxStack := 2, maxLocals := 2, code := jdk_67_method_15_code, exceptionTable := #[], attributes := #[] }
def k13m2 : Method := { name := "append", desc := "(I)Ljava/lang/StringBuilder;", sig := { parameters := [.int], returnType := some (.object "java/lang/StringBuilder") }, accessFlags := 1, code := some k13c2 }
def k13c3 : Code := { maxStack := 3, maxLocals := 1, code := jdk_67_method_42_code, exceptionTable := #[], attributes := #[] }
def k13m3 : Method := { name := "toString", desc := "()Ljava/lang/String;", sig := { parameters := [], returnType := some (.object "java/lang/String") }, accessFlags := 1, code := some k13c3 }
def k13c4 : Code := { maxStack := 1, maxLocals := 1, code := jdk_67_method_93_code, exceptionTable := #[], attributes := #[] }
def k13m4 : Method := { name := "length", desc := "()I", sig := { parameters := [], returnType := some .int }, accessFlags := 4161, code := some k13c4 }
/-- java/lang/StringBuilder -/
def k13 : Class := { plain "java/lang/StringBuilder" (some 12) with
  accessFlags := 49
  interfaces := #[11, 2, 3, 4]
  cf := some (fileOf pool13 24 #[] #[{ accessFlags := 1, nameIndex := 5, descriptorIndex := 145, attributes := #[] }, { accessFlags := 1, nameIndex := 27, descriptorIndex := 28, attributes := #[] }, { accessFlags := 1, nameIndex := 27, descriptorIndex := 268, attributes := #[] }, { accessFlags := 1, nameIndex := 399, descriptorIndex := 400, attributes := #[] }, { accessFlags := 4161, nameIndex := 345, descriptorIndex := 156, attributes := #[] }] 49 2 #[349, 351, 353, 355] #[{ accessFlags := 24, nameIndex := 357, descriptorIndex := 358, attributes := #[] }])
  fields := #[{ name := "serialVersionUID", type := .long, accessFlags := 24, slot := 0, constantValue := 0 }]
  methods := #[k13m0, k13m1, k13m2, k13m3, k13m4]
  instanceTypes := #[(.array .byte), .byte, .boolean, .int]
  staticTypes := #[.long]
  resolved := Array.replicate 422 none
  statics := none }

def pool14 : Array CpInfo := pool [(2, .class_ 4), (1, u "java/lang/Object"), (0, u "<init>"), (0, u "()V"), (1, .class_ 10), (1, u "java/lang/System"), (0, u "allowSecurityManager"), (0, u "I"), (16, u "cons"), (0, u "Ljava/io/Console;"), (77, .class_ 110), (1, u "java/lang/System$CallersHolder"), (43, u "initialErrStream"), (0, u "Ljava/io/PrintStream;"), (19, u "security"), (0, u "Ljava/lang/SecurityManager;"), (31, .class_ 209), (0, u "java/lang/System$1"), (7, u "props"), (0, u "Ljava/util/Properties;"), (2, u "lineSeparator"), (0, u "Ljava/lang/String;"), (96, .class_ 321), (1, u "java/lang/System$LoggerFinder"), (5, .class_ 328), (0, u "java/lang/System$Logger"), (67, u "err"), (2, u "out"), (91, u "notSupportedJnuEncoding"), (15, u "in"), (17, u "initialIn"), (0, u "Ljava/io/InputStream;"), (35, u "bootLayer"), (0, u "Ljava/lang/ModuleLayer;"), (99, .class_ 664), (0, u "java/lang/System$2"), (9, u "NEVER"), (2, u "MAYBE"), (49, u "arraycopy"), (0, u "(Ljava/lang/Object;ILjava/lang/Object;II)V"), (72, .class_ 802), (0, u "java/lang/System$Logger$Level")] 31

def k14m0 : Method := { name := "<init>", desc := "()V", sig := { parameters := [], returnType := none }, accessFlags := 2, code := none }
def k14m1 : Method := { name := "arraycopy", desc := "(Ljava/lang/Object;ILjava/lang/Object;II)V", sig := { parameters := [(.object "java/lang/Object"), .int, (.object "java/lang/Object"), .int, .int], returnType := none }, accessFlags := 265, code := none }
/-- java/lang/System -/
def k14 : Class := { plain "java/lang/System" (some 0) with
  accessFlags := 49
  interfaces := #[]
  cf := some (fileOf pool14 8 #[.nestMembers #[319, 327, 801, 108, 663, 208]] #[{ accessFlags := 2, nameIndex := 5, descriptorIndex := 6, attributes := #[] }, { accessFlags := 265, nameIndex := 727, descriptorIndex := 728, attributes := #[] }] 49 2 #[] #[{ accessFlags := 25, nameIndex := 507, descriptorIndex := 526, attributes := #[] }, { accessFlags := 25, nameIndex := 399, descriptorIndex := 155, attributes := #[] }, { accessFlags := 25, nameIndex := 396, descriptorIndex := 155, attributes := #[] }, { accessFlags := 10, nameIndex := 525, descriptorIndex := 526, attributes := #[] }, { accessFlags := 26, nameIndex := 674, descriptorIndex := 12, attributes := #[] }, { accessFlags := 26, nameIndex := 677, descriptorIndex := 12, attributes := #[] }, { accessFlags := 10, nameIndex := 11, descriptorIndex := 12, attributes := #[] }, { accessFlags := 74, nameIndex := 175, descriptorIndex := 176, attributes := #[] }, { accessFlags := 10, nameIndex := 491, descriptorIndex := 222, attributes := #[] }, { accessFlags := 74, nameIndex := 29, descriptorIndex := 30, attributes := #[] }, { accessFlags := 74, nameIndex := 154, descriptorIndex := 155, attributes := #[] }, { accessFlags := 10, nameIndex := 217, descriptorIndex := 218, attributes := #[] }, { accessFlags := 10, nameIndex := 221, descriptorIndex := 222, attributes := #[] }, { accessFlags := 8, nameIndex := 562, descriptorIndex := 563, attributes := #[] }])
  fields := #[{ name := "in", type := (.object "java/io/InputStream"), accessFlags := 25, slot := 0, constantValue := 0 }, { name := "out", type := (.object "java/io/PrintStream"), accessFlags := 25, slot := 1, constantValue := 0 }, { name := "err", type := (.object "java/io/PrintStream"), accessFlags := 25, slot := 2, constantValue := 0 }, { name := "initialIn", type := (.object "java/io/InputStream"), accessFlags := 10, slot := 3, constantValue := 0 }, { name := "NEVER", type := .int, accessFlags := 26, slot := 4, constantValue := 0 }, { name := "MAYBE", type := .int, accessFlags := 26, slot := 5, constantValue := 0 }, { name := "allowSecurityManager", type := .int, accessFlags := 10, slot := 6, constantValue := 0 }, { name := "security", type := (.object "java/lang/SecurityManager"), accessFlags := 74, slot := 7, constantValue := 0 }, { name := "notSupportedJnuEncoding", type := (.object "java/lang/String"), accessFlags := 10, slot := 8, constantValue := 0 }, { name := "cons", type := (.object "java/io/Console"), accessFlags := 74, slot := 9, constantValue := 0 }, { name := "initialErrStream", type := (.object "java/io/PrintStream"), accessFlags := 74, slot := 10, constantValue := 0 }, { name := "props", type := (.object "java/util/Properties"), accessFlags := 10, slot := 11, constantValue := 0 }, { name := "lineSeparator", type := (.object "java/lang/String"), accessFlags := 10, slot := 12, constantValue := 0 }, { name := "bootLayer", type := (.object "java/lang/ModuleLayer"), accessFlags := 8, slot := 13, constantValue := 0 }]
  methods := #[k14m0, k14m1]
  instanceTypes := #[]
  staticTypes := #[(.object "java/io/InputStream"), (.object "java/io/PrintStream"), (.object "java/io/PrintStream"), (.object "java/io/InputStream"), .int, .int, .int, (.object "java/lang/SecurityManager"), (.object "java/lang/String"), (.object "java/io/Console"), (.object "java/io/PrintStream"), (.object "java/util/Properties"), (.object "java/lang/String"), (.object "java/lang/ModuleLayer")]
  resolved := Array.replicate 834 none
  statics := none }

def pool15 : Array CpInfo := pool [(2, .class_ 4), (1, u "java/lang/Object"), (0, u "<init>"), (0, u "()V"), (1, .class_ 10), (1, u "java/lang/Number"), (2, .class_ 14), (0, u "java/io/Serializable"), (0, u "serialVersionUID"), (0, u "J")] 20

def k15m0 : Method := { name := "<init>", desc := "()V", sig := { parameters := [], returnType := none }, accessFlags := 1, code := none }
/-- java/lang/Number -/
def k15 : Class := { plain "java/lang/Number" (some 0) with
  accessFlags := 1057
  interfaces := #[2]
  cf := some (fileOf pool15 8 #[] #[{ accessFlags := 1, nameIndex := 5, descriptorIndex := 6, attributes := #[] }] 1057 2 #[13] #[{ accessFlags := 26, nameIndex := 15, descriptorIndex := 16, attributes := #[] }])
  fields := #[{ name := "serialVersionUID", type := .long, accessFlags := 26, slot := 0, constantValue := 0 }]
  methods := #[k15m0]
  instanceTypes := #[]
  staticTypes := #[.long]
  resolved := Array.replicate 37 none
  statics := none }

def pool16 : Array CpInfo := pool [(1, .class_ 2), (0, u "java/lang/Integer"), (16, u "digits"), (0, u "[C"), (33, u "(I)I"), (19, u "stringSize"), (2, u "getChars"), (0, u "(II[B)I"), (4, .fieldref 1 84), (0, .nameAndType 85 86), (0, u "DigitOnes"), (0, u "[B"), (0, .fieldref 1 88), (0, .nameAndType 89 86), (0, u "DigitTens"), (99, .class_ 190), (0, u "java/lang/Integer$IntegerCache"), (3, u "I"), (8, .class_ 204), (0, u "java/lang/Number"), (2, u "value"), (94, u "TYPE"), (0, u "Ljava/lang/Class;"), (0, .class_ 305), (0, u "java/lang/Comparable"), (0, .class_ 307), (0, u "java/lang/constant/Constable"), (0, .class_ 309), (0, u "java/lang/constant/ConstantDesc"), (0, u "MIN_VALUE"), (1, u "MAX_VALUE"), (3, u "SIZE"), (1, u "BYTES"), (1, u "serialVersionUID"), (0, u "J")] 131

def k16c0 : Code := { maxStack := 4, maxLocals := 7, code := jdk_33_method_12_code, exceptionTable := #[], attributes := #[] }
def k16m0 : Method := { name := "getChars", desc := "(II[B)I", sig := { parameters := [.int, .int, (.array .byte)], returnType := some .int }, accessFlags := 8, code := some k16c0 }
def k16c1 : Code := { maxStack := 2, maxLocals := 4, code := jdk_33_method_13_code, exceptionTable := #[], attributes := #[] }
def k16m1 : Method := { name := "stringSize", desc := "(I)I", sig := { parameters := [.int], returnType := some .int }, accessFlags := 8, code := some k16c1 }
/-- java/lang/Integer -/
def k16 : Class := { plain "java/lang/Integer" (some 15) with
  accessFlags := 49
  interfaces := #[3, 5, 6]
  cf := some (fileOf pool16 1 #[.nestMembers #[189]] #[{ accessFlags := 8, nameIndex := 77, descriptorIndex := 78, attributes := #[] }, { accessFlags := 8, nameIndex := 74, descriptorIndex := 54, attributes := #[] }] 49 203 #[304, 306, 308] #[{ accessFlags := 25, nameIndex := 310, descriptorIndex := 194, attributes := #[] }, { accessFlags := 25, nameIndex := 312, descriptorIndex := 194, attributes := #[] }, { accessFlags := 25, nameIndex := 302, descriptorIndex := 303, attributes := #[] }, { accessFlags := 24, nameIndex := 19, descriptorIndex := 20, attributes := #[] }, { accessFlags := 24, nameIndex := 89, descriptorIndex := 86, attributes := #[] }, { accessFlags := 24, nameIndex := 85, descriptorIndex := 86, attributes := #[] }, { accessFlags := 18, nameIndex := 207, descriptorIndex := 194, attributes := #[] }, { accessFlags := 25, nameIndex := 316, descriptorIndex := 194, attributes := #[] }, { accessFlags := 25, nameIndex := 318, descriptorIndex := 194, attributes := #[] }, { accessFlags := 26, nameIndex := 320, descriptorIndex := 321, attributes := #[] }])
  fields := #[{ name := "MIN_VALUE", type := .int, accessFlags := 25, slot := 0, constantValue := 0 }, { name := "MAX_VALUE", type := .int, accessFlags := 25, slot := 1, constantValue := 0 }, { name := "TYPE", type := (.object "java/lang/Class"), accessFlags := 25, slot := 2, constantValue := 0 }, { name := "digits", type := (.array .char), accessFlags := 24, slot := 3, constantValue := 0 }, { name := "DigitTens", type := (.array .byte), accessFlags := 24, slot := 4, constantValue := 0 }, { name := "DigitOnes", type := (.array .byte), accessFlags := 24, slot := 5, constantValue := 0 }, { name := "value", type := .int, accessFlags := 18, slot := 0, constantValue := 0 }, { name := "SIZE", type := .int, accessFlags := 25, slot := 6, constantValue := 0 }, { name := "BYTES", type := .int, accessFlags := 25, slot := 7, constantValue := 0 }, { name := "serialVersionUID", type := .long, accessFlags := 26, slot := 8, constantValue := 0 }]
  methods := #[k16m0, k16m1]
  instanceTypes := #[.int]
  staticTypes := #[.int, .int, (.object "java/lang/Class"), (.array .char), (.array .byte), (.array .byte), .int, .int, .long]
  resolved := Array.replicate 453 none
  statics := some 1 }

def pool17 : Array CpInfo := pool [(2, .class_ 4), (1, u "java/lang/Object"), (0, u "<init>"), (0, u "()V"), (7, .class_ 16), (1, u "java/util/Arrays"), (57, .class_ 76), (1, u "java/util/Arrays$NaturalOrder"), (32, u "()Ljava/lang/Object;"), (3, .class_ 115), (1, u "java/util/Arrays$LegacyMergeSort"), (1, u "Z"), (10, .nameAndType 129 109), (0, u "clone"), (9, u "copyOfRange"), (10, .methodref 151 152), (0, .class_ 153), (0, .nameAndType 154 155), (0, u "java/lang/System"), (0, u "arraycopy"), (0, u "(Ljava/lang/Object;ILjava/lang/Object;II)V"), (146, u "copyOf"), (1, .methodref 305 306), (0, .class_ 307), (0, .nameAndType 308 309), (0, u "java/lang/Math"), (0, u "min"), (0, u "(II)I"), (0, .methodref 311 128), (0, .class_ 312), (0, u "[B"), (26, .methodref 14 340), (0, .nameAndType 341 342), (0, u "copyOfRangeByte"), (0, u "([BII)[B"), (0, .methodref 14 344), (0, .nameAndType 345 346), (0, u "checkLength"), (0, u "(II)V"), (28, .class_ 376), (0, u "java/util/Arrays$ArrayList"), (68, u "$assertionsDisabled"), (269, u "MIN_ARRAY_SORT_GRAN"), (0, u "I"), (2, u "INSERTIONSORT_THRESHOLD"), (149, u "([BI)[B"), (105, .class_ 976), (0, u "java/util/Arrays$ArrayItr")] 52

def k17m0 : Method := { name := "<init>", desc := "()V", sig := { parameters := [], returnType := none }, accessFlags := 2, code := none }
def k17c1 : Code := { maxStack := 6, maxLocals := 3, code := jdk_65_method_121_code, exceptionTable := #[], attributes := #[] }
def k17m1 : Method := { name := "copyOf", desc := "([BI)[B", sig := { parameters := [(.array .byte), .int], returnType := some (.array .byte) }, accessFlags := 9, code := some k17c1 }
def k17c2 : Code := { maxStack := 4, maxLocals := 2, code := jdk_65_method_131_code, exceptionTable := #[], attributes := #[] }
def k17m2 : Method := { name := "checkLength", desc := "(II)V", sig := { parameters := [.int, .int], returnType := none }, accessFlags := 10, code := some k17c2 }
def k17c3 : Code := { maxStack := 3, maxLocals := 3, code := jdk_65_method_132_code, exceptionTable := #[], attributes := #[] }
def k17m3 : Method := { name := "copyOfRange", desc := "([BII)[B", sig := { parameters := [(.array .byte), .int, .int], returnType := some (.array .byte) }, accessFlags := 9, code := some k17c3 }
def k17c4 : Code := { maxStack := 6, maxLocals := 5, code := jdk_65_method_133_code, exceptionTable := #[], attributes := #[] }
def k17m4 : Method := { name := "copyOfRangeByte", desc := "([BII)[B", sig := { parameters := [(.array .byte), .int, .int], returnType := some (.array .byte) }, accessFlags := 10, code := some k17c4 }
/-- java/util/Arrays -/
def k17 : Class := { plain "java/util/Arrays" (some 0) with
  accessFlags := 49
  interfaces := #[]
  cf := some (fileOf pool17 14 #[.nestMembers #[975, 375, 113, 74]] #[{ accessFlags := 2, nameIndex := 5, descriptorIndex := 6, attributes := #[] }, { accessFlags := 9, nameIndex := 302, descriptorIndex := 869, attributes := #[] }, { accessFlags := 10, nameIndex := 345, descriptorIndex := 346, attributes := #[] }, { accessFlags := 9, nameIndex := 139, descriptorIndex := 342, attributes := #[] }, { accessFlags := 10, nameIndex := 341, descriptorIndex := 342, attributes := #[] }] 49 2 #[] #[{ accessFlags := 26, nameIndex := 715, descriptorIndex := 716, attributes := #[] }, { accessFlags := 26, nameIndex := 719, descriptorIndex := 716, attributes := #[] }, { accessFlags := 4120, nameIndex := 445, descriptorIndex := 117, attributes := #[] }])
  fields := #[{ name := "MIN_ARRAY_SORT_GRAN", type := .int, accessFlags := 26, slot := 0, constantValue := 0 }, { name := "INSERTIONSORT_THRESHOLD", type := .int, accessFlags := 26, slot := 1, constantValue := 0 }, { name := "$assertionsDisabled", type := .boolean, accessFlags := 4120, slot := 2, constantValue := 0 }]
  methods := #[k17m0, k17m1, k17m2, k17m3, k17m4]
  instanceTypes := #[]
  staticTypes := #[.int, .int, .boolean]
  resolved := Array.replicate 1029 none
  statics := none }

def pool18 : Array CpInfo := pool [(1, .class_ 2), (0, u "java/lang/Math"), (1, .class_ 6), (1, u "java/lang/Object"), (0, u "<init>"), (0, u "()V"), (89, .class_ 100), (1, u "java/lang/Math$RandomNumberGeneratorHolder"), (23, u "abs"), (0, u "(J)J"), (46, u "negativeZeroFloatBits"), (0, u "J"), (2, u "negativeZeroDoubleBits"), (21, u "max"), (2, u "min"), (43, u "$assertionsDisabled"), (0, u "Z"), (88, u "(II)I"), (2, u "twoToTheDoubleScaleDown"), (0, u "D"), (4, u "twoToTheDoubleScaleUp"), (9, u "E"), (3, u "PI"), (2, u "TAU"), (2, u "DEGREES_TO_RADIANS"), (0, u "RADIANS_TO_DEGREES")] 94

def k18m0 : Method := { name := "<init>", desc := "()V", sig := { parameters := [], returnType := none }, accessFlags := 2, code := none }
def k18c1 : Code := { maxStack := 4, maxLocals := 2, code := jdk_29_method_61_code, exceptionTable := #[], attributes := #[] }
def k18m1 : Method := { name := "abs", desc := "(J)J", sig := { parameters := [.long], returnType := some .long }, accessFlags := 9, code := some k18c1 }
def k18c2 : Code := { maxStack := 2, maxLocals := 2, code := jdk_29_method_65_code, exceptionTable := #[], attributes := #[] }
def k18m2 : Method := { name := "max", desc := "(II)I", sig := { parameters := [.int, .int], returnType := some .int }, accessFlags := 9, code := some k18c2 }
def k18c3 : Code := { maxStack := 2, maxLocals := 2, code := jdk_29_method_69_code, exceptionTable := #[], attributes := #[] }
def k18m3 : Method := { name := "min", desc := "(II)I", sig := { parameters := [.int, .int], returnType := some .int }, accessFlags := 9, code := some k18c3 }
/-- java/lang/Math -/
def k18 : Class := { plain "java/lang/Math" (some 0) with
  accessFlags := 49
  interfaces := #[]
  cf := some (fileOf pool18 1 #[.nestMembers #[98]] #[{ accessFlags := 2, nameIndex := 7, descriptorIndex := 8, attributes := #[] }, { accessFlags := 9, nameIndex := 124, descriptorIndex := 125, attributes := #[] }, { accessFlags := 9, nameIndex := 198, descriptorIndex := 335, attributes := #[] }, { accessFlags := 9, nameIndex := 201, descriptorIndex := 335, attributes := #[] }] 49 4 #[] #[{ accessFlags := 25, nameIndex := 354, descriptorIndex := 339, attributes := #[] }, { accessFlags := 25, nameIndex := 358, descriptorIndex := 339, attributes := #[] }, { accessFlags := 25, nameIndex := 361, descriptorIndex := 339, attributes := #[] }, { accessFlags := 26, nameIndex := 364, descriptorIndex := 339, attributes := #[] }, { accessFlags := 26, nameIndex := 365, descriptorIndex := 339, attributes := #[] }, { accessFlags := 26, nameIndex := 172, descriptorIndex := 173, attributes := #[] }, { accessFlags := 26, nameIndex := 176, descriptorIndex := 173, attributes := #[] }, { accessFlags := 8, nameIndex := 344, descriptorIndex := 339, attributes := #[] }, { accessFlags := 8, nameIndex := 338, descriptorIndex := 339, attributes := #[] }, { accessFlags := 4120, nameIndex := 245, descriptorIndex := 246, attributes := #[] }])
  fields := #[{ name := "E", type := .double, accessFlags := 25, slot := 0, constantValue := 0 }, { name := "PI", type := .double, accessFlags := 25, slot := 1, constantValue := 0 }, { name := "TAU", type := .double, accessFlags := 25, slot := 2, constantValue := 0 }, { name := "DEGREES_TO_RADIANS", type := .double, accessFlags := 26, slot := 3, constantValue := 0 }, { name := "RADIANS_TO_DEGREES", type := .double, accessFlags := 26, slot := 4, constantValue := 0 }, { name := "negativeZeroFloatBits", type := .long, accessFlags := 26, slot := 5, constantValue := 0 }, { name := "negativeZeroDoubleBits", type := .long, accessFlags := 26, slot := 6, constantValue := 0 }, { name := "twoToTheDoubleScaleUp", type := .double, accessFlags := 8, slot := 7, constantValue := 0 }, { name := "twoToTheDoubleScaleDown", type := .double, accessFlags := 8, slot := 8, constantValue := 0 }, { name := "$assertionsDisabled", type := .boolean, accessFlags := 4120, slot := 9, constantValue := 0 }]
  methods := #[k18m0, k18m1, k18m2, k18m3]
  instanceTypes := #[]
  staticTypes := #[.double, .double, .double, .double, .double, .long, .long, .double, .double, .boolean]
  resolved := Array.replicate 460 none
  statics := none }

def pool19 : Array CpInfo := pool [(1, .class_ 2), (0, u "java/lang/String"), (1, .class_ 6), (1, u "java/lang/Object"), (0, u "<init>"), (0, u "()V"), (0, .methodref 1 10), (0, .nameAndType 11 12), (0, u "checkIndex"), (0, u "(II)V"), (1, .class_ 16), (1, u "java/lang/StringLatin1"), (36, u "([BI)C"), (67, u "$assertionsDisabled"), (0, u "Z"), (98, .class_ 223), (1, u "java/lang/StringLatin1$LinesSpliterator"), (28, u "charAt"), (137, .class_ 391), (0, u "java/lang/StringLatin1$CharsSpliterator")] 3

def k19m0 : Method := { name := "<init>", desc := "()V", sig := { parameters := [], returnType := none }, accessFlags := 0, code := none }
def k19c1 : Code := { maxStack := 2, maxLocals := 2, code := jdk_43_method_2_code, exceptionTable := #[], attributes := #[] }
def k19m1 : Method := { name := "charAt", desc := "([BI)C", sig := { parameters := [(.array .byte), .int], returnType := some .char }, accessFlags := 9, code := some k19c1 }
/-- java/lang/StringLatin1 -/
def k19 : Class := { plain "java/lang/StringLatin1" (some 0) with
  accessFlags := 48
  interfaces := #[]
  cf := some (fileOf pool19 14 #[.nestMembers #[390, 221]] #[{ accessFlags := 0, nameIndex := 7, descriptorIndex := 8, attributes := #[] }, { accessFlags := 9, nameIndex := 252, descriptorIndex := 53, attributes := #[] }] 48 4 #[] #[{ accessFlags := 4120, nameIndex := 121, descriptorIndex := 122, attributes := #[] }])
  fields := #[{ name := "$assertionsDisabled", type := .boolean, accessFlags := 4120, slot := 0, constantValue := 0 }]
  methods := #[k19m0, k19m1]
  instanceTypes := #[]
  staticTypes := #[.boolean]
  resolved := Array.replicate 395 none
  statics := none }

def pool20 : Array CpInfo := pool [(2, .class_ 4), (1, u "java/lang/Object"), (0, u "<init>"), (0, u "()V"), (17, .class_ 26), (1, u "jdk/internal/util/Preconditions"), (6, u "checkIndex"), (21, .class_ 56), (0, u "jdk/internal/util/Preconditions$4"), (57, .class_ 115), (0, u "jdk/internal/util/Preconditions$1"), (7, u "SIOOBE_FORMATTER"), (0, u "Ljava/util/function/BiFunction;"), (0, .class_ 126), (0, u "jdk/internal/util/Preconditions$2"), (3, u "AIOOBE_FORMATTER"), (0, .class_ 132), (0, u "jdk/internal/util/Preconditions$3"), (3, u "IOOBE_FORMATTER"), (41, u "(IILjava/util/function/BiFunction;)I")] 15

def k20m0 : Method := { name := "<init>", desc := "()V", sig := { parameters := [], returnType := none }, accessFlags := 1, code := none }
def k20c1 : Code := { maxStack := 3, maxLocals := 3, code := jdk_41_method_11_code, exceptionTable := #[], attributes := #[] }
def k20m1 : Method := { name := "checkIndex", desc := "(IILjava/util/function/BiFunction;)I", sig := { parameters := [.int, .int, (.object "java/util/function/BiFunction")], returnType := some .int }, accessFlags := 9, code := some k20c1 }
/-- jdk/internal/util/Preconditions -/
def k20 : Class := { plain "jdk/internal/util/Preconditions" (some 0) with
  accessFlags := 33
  interfaces := #[]
  cf := some (fileOf pool20 24 #[.nestMembers #[55, 131, 125, 114]] #[{ accessFlags := 1, nameIndex := 5, descriptorIndex := 6, attributes := #[] }, { accessFlags := 9, nameIndex := 33, descriptorIndex := 178, attributes := #[] }] 33 2 #[] #[{ accessFlags := 25, nameIndex := 123, descriptorIndex := 124, attributes := #[] }, { accessFlags := 25, nameIndex := 130, descriptorIndex := 124, attributes := #[] }, { accessFlags := 25, nameIndex := 136, descriptorIndex := 124, attributes := #[] }])
  fields := #[{ name := "SIOOBE_FORMATTER", type := (.object "java/util/function/BiFunction"), accessFlags := 25, slot := 0, constantValue := 0 }, { name := "AIOOBE_FORMATTER", type := (.object "java/util/function/BiFunction"), accessFlags := 25, slot := 1, constantValue := 0 }, { name := "IOOBE_FORMATTER", type := (.object "java/util/function/BiFunction"), accessFlags := 25, slot := 2, constantValue := 0 }]
  methods := #[k20m0, k20m1]
  instanceTypes := #[]
  staticTypes := #[(.object "java/util/function/BiFunction"), (.object "java/util/function/BiFunction"), (.object "java/util/function/BiFunction")]
  resolved := Array.replicate 194 none
  statics := some 2 }

def pool21 : Array CpInfo := pool [(1, .class_ 2), (0, u "java/lang/Cloneable"), (0, .class_ 4), (0, u "java/lang/Object")] 2

/-- java/lang/Cloneable -/
def k21 : Class := { plain "java/lang/Cloneable" (some 0) with
  accessFlags := 1537
  interfaces := #[]
  cf := some (fileOf pool21 1 #[] #[] 1537 3 #[] #[])
  fields := #[]
  methods := #[]
  instanceTypes := #[]
  staticTypes := #[]
  resolved := Array.replicate 7 none
  statics := none }

def pool22 : Array CpInfo := pool [(9, u "<init>"), (6, .class_ 18), (1, u "java/lang/Object"), (0, u "()V"), (1, .class_ 23), (1, u "jdk/internal/util/ArraysSupport"), (0, u "LOG2_ARRAY_LONG_INDEX_SCALE"), (0, u "I"), (2, u "U"), (0, u "Ljdk/internal/misc/Unsafe;"), (8, u "BIG_ENDIAN"), (0, u "Z"), (8, u "LOG2_BYTE_BIT_SIZE"), (4, u "LOG2_ARRAY_INT_INDEX_SCALE"), (54, u "JLA"), (0, u "Ljdk/internal/access/JavaLangAccess;"), (11, u "LOG2_ARRAY_BOOLEAN_INDEX_SCALE"), (9, u "LOG2_ARRAY_BYTE_INDEX_SCALE"), (5, u "LOG2_ARRAY_CHAR_INDEX_SCALE"), (5, u "LOG2_ARRAY_SHORT_INDEX_SCALE"), (18, u "LOG2_ARRAY_FLOAT_INDEX_SCALE"), (24, u "LOG2_ARRAY_DOUBLE_INDEX_SCALE"), (6, .methodref 195 196), (0, .class_ 197), (0, .nameAndType 198 199), (0, u "java/lang/Math"), (0, u "max"), (0, u "(II)I"), (0, .integer 2147483639), (76, u "T_BOOLEAN"), (2, u "T_CHAR"), (1, u "T_FLOAT"), (1, u "T_DOUBLE"), (1, u "T_BYTE"), (1, u "T_SHORT"), (1, u "T_INT"), (1, u "T_LONG"), (1, u "SOFT_MAX_ARRAY_LENGTH"), (56, u "newLength"), (0, u "(III)I")] 25

def k22m0 : Method := { name := "<init>", desc := "()V", sig := { parameters := [], returnType := none }, accessFlags := 2, code := none }
def k22c1 : Code := { maxStack := 3, maxLocals := 4, code := jdk_48_method_27_code, exceptionTable := #[], attributes := #[] }
def k22m1 : Method := { name := "newLength", desc := "(III)I", sig := { parameters := [.int, .int, .int], returnType := some .int }, accessFlags := 9, code := some k22c1 }
/-- jdk/internal/util/ArraysSupport -/
def k22 : Class := { plain "jdk/internal/util/ArraysSupport" (some 0) with
  accessFlags := 33
  interfaces := #[]
  cf := some (fileOf pool22 21 #[] #[{ accessFlags := 2, nameIndex := 9, descriptorIndex := 19, attributes := #[] }, { accessFlags := 9, nameIndex := 351, descriptorIndex := 352, attributes := #[] }] 33 16 #[] #[{ accessFlags := 24, nameIndex := 28, descriptorIndex := 29, attributes := #[] }, { accessFlags := 26, nameIndex := 38, descriptorIndex := 39, attributes := #[] }, { accessFlags := 25, nameIndex := 121, descriptorIndex := 25, attributes := #[] }, { accessFlags := 25, nameIndex := 131, descriptorIndex := 25, attributes := #[] }, { accessFlags := 25, nameIndex := 137, descriptorIndex := 25, attributes := #[] }, { accessFlags := 25, nameIndex := 143, descriptorIndex := 25, attributes := #[] }, { accessFlags := 25, nameIndex := 53, descriptorIndex := 25, attributes := #[] }, { accessFlags := 25, nameIndex := 24, descriptorIndex := 25, attributes := #[] }, { accessFlags := 25, nameIndex := 162, descriptorIndex := 25, attributes := #[] }, { accessFlags := 25, nameIndex := 187, descriptorIndex := 25, attributes := #[] }, { accessFlags := 26, nameIndex := 48, descriptorIndex := 25, attributes := #[] }, { accessFlags := 25, nameIndex := 277, descriptorIndex := 25, attributes := #[] }, { accessFlags := 25, nameIndex := 280, descriptorIndex := 25, attributes := #[] }, { accessFlags := 25, nameIndex := 282, descriptorIndex := 25, attributes := #[] }, { accessFlags := 25, nameIndex := 284, descriptorIndex := 25, attributes := #[] }, { accessFlags := 25, nameIndex := 286, descriptorIndex := 25, attributes := #[] }, { accessFlags := 25, nameIndex := 288, descriptorIndex := 25, attributes := #[] }, { accessFlags := 25, nameIndex := 290, descriptorIndex := 25, attributes := #[] }, { accessFlags := 25, nameIndex := 292, descriptorIndex := 25, attributes := #[] }, { accessFlags := 26, nameIndex := 108, descriptorIndex := 109, attributes := #[] }, { accessFlags := 25, nameIndex := 294, descriptorIndex := 25, attributes := #[] }])
  fields := #[{ name := "U", type := (.object "jdk/internal/misc/Unsafe"), accessFlags := 24, slot := 0, constantValue := 0 }, { name := "BIG_ENDIAN", type := .boolean, accessFlags := 26, slot := 1, constantValue := 0 }, { name := "LOG2_ARRAY_BOOLEAN_INDEX_SCALE", type := .int, accessFlags := 25, slot := 2, constantValue := 0 }, { name := "LOG2_ARRAY_BYTE_INDEX_SCALE", type := .int, accessFlags := 25, slot := 3, constantValue := 0 }, { name := "LOG2_ARRAY_CHAR_INDEX_SCALE", type := .int, accessFlags := 25, slot := 4, constantValue := 0 }, { name := "LOG2_ARRAY_SHORT_INDEX_SCALE", type := .int, accessFlags := 25, slot := 5, constantValue := 0 }, { name := "LOG2_ARRAY_INT_INDEX_SCALE", type := .int, accessFlags := 25, slot := 6, constantValue := 0 }, { name := "LOG2_ARRAY_LONG_INDEX_SCALE", type := .int, accessFlags := 25, slot := 7, constantValue := 0 }, { name := "LOG2_ARRAY_FLOAT_INDEX_SCALE", type := .int, accessFlags := 25, slot := 8, constantValue := 0 }, { name := "LOG2_ARRAY_DOUBLE_INDEX_SCALE", type := .int, accessFlags := 25, slot := 9, constantValue := 0 }, { name := "LOG2_BYTE_BIT_SIZE", type := .int, accessFlags := 26, slot := 10, constantValue := 0 }, { name := "T_BOOLEAN", type := .int, accessFlags := 25, slot := 11, constantValue := 0 }, { name := "T_CHAR", type := .int, accessFlags := 25, slot := 12, constantValue := 0 }, { name := "T_FLOAT", type := .int, accessFlags := 25, slot := 13, constantValue := 0 }, { name := "T_DOUBLE", type := .int, accessFlags := 25, slot := 14, constantValue := 0 }, { name := "T_BYTE", type := .int, accessFlags := 25, slot := 15, constantValue := 0 }, { name := "T_SHORT", type := .int, accessFlags := 25, slot := 16, constantValue := 0 }, { name := "T_INT", type := .int, accessFlags := 25, slot := 17, constantValue := 0 }, { name := "T_LONG", type := .int, accessFlags := 25, slot := 18, constantValue := 0 }, { name := "JLA", type := (.object "jdk/internal/access/JavaLangAccess"), accessFlags := 26, slot := 19, constantValue := 0 }, { name := "SOFT_MAX_ARRAY_LENGTH", type := .int, accessFlags := 25, slot := 20, constantValue := 0 }]
  methods := #[k22m0, k22m1]
  instanceTypes := #[]
  staticTypes := #[(.object "jdk/internal/misc/Unsafe"), .boolean, .int, .int, .int, .int, .int, .int, .int, .int, .int, .int, .int, .int, .int, .int, .int, .int, .int, (.object "jdk/internal/access/JavaLangAccess"), .int]
  resolved := Array.replicate 378 none
  statics := none }

/-- the primitive byte -/
def k23 : Class := { plain "byte" none with kind := .primitive 'B', accessFlags := 0x411 }
/-- [B -/
def k24 : Class := { plain "[B" (some 0) with kind := .array 23 .byte, interfaces := #[21, 2], accessFlags := 1041 }

/-- the primitive char -/
def k25 : Class := { plain "char" none with kind := .primitive 'C', accessFlags := 0x411 }
/-- [C -/
def k26 : Class := { plain "[C" (some 0) with kind := .array 25 .char, interfaces := #[21, 2], accessFlags := 1041 }

/-- the primitive int -/
def k27 : Class := { plain "int" none with kind := .primitive 'I', accessFlags := 0x411 }
/-- [I -/
def k28 : Class := { plain "[I" (some 0) with kind := .array 27 .int, interfaces := #[21, 2], accessFlags := 1041 }

def heap : Heap := #[{ cls := 7, slots := #[.long 0, .int 1, .null, .int 0, .null, .int 0, .int 0], vm := .statics 7 },
  { cls := 16, slots := #[.int 0, .int 0, .null, .null, .ref 4, .ref 3, .int 0, .int 0, .long 0], vm := .statics 16 },
  { cls := 20, slots := #[.null, .null, .null], vm := .statics 20 },
  { cls := 24, slots := #[.int 48, .int 49, .int 50, .int 51, .int 52, .int 53, .int 54, .int 55, .int 56, .int 57, .int 48, .int 49, .int 50, .int 51, .int 52, .int 53, .int 54, .int 55, .int 56, .int 57, .int 48, .int 49, .int 50, .int 51, .int 52, .int 53, .int 54, .int 55, .int 56, .int 57, .int 48, .int 49, .int 50, .int 51, .int 52, .int 53, .int 54, .int 55, .int 56, .int 57, .int 48, .int 49, .int 50, .int 51, .int 52, .int 53, .int 54, .int 55, .int 56, .int 57, .int 48, .int 49, .int 50, .int 51, .int 52, .int 53, .int 54, .int 55, .int 56, .int 57, .int 48, .int 49, .int 50, .int 51, .int 52, .int 53, .int 54, .int 55, .int 56, .int 57, .int 48, .int 49, .int 50, .int 51, .int 52, .int 53, .int 54, .int 55, .int 56, .int 57, .int 48, .int 49, .int 50, .int 51, .int 52, .int 53, .int 54, .int 55, .int 56, .int 57, .int 48, .int 49, .int 50, .int 51, .int 52, .int 53, .int 54, .int 55, .int 56, .int 57], vm := .none },
  { cls := 24, slots := #[.int 48, .int 48, .int 48, .int 48, .int 48, .int 48, .int 48, .int 48, .int 48, .int 48, .int 49, .int 49, .int 49, .int 49, .int 49, .int 49, .int 49, .int 49, .int 49, .int 49, .int 50, .int 50, .int 50, .int 50, .int 50, .int 50, .int 50, .int 50, .int 50, .int 50, .int 51, .int 51, .int 51, .int 51, .int 51, .int 51, .int 51, .int 51, .int 51, .int 51, .int 52, .int 52, .int 52, .int 52, .int 52, .int 52, .int 52, .int 52, .int 52, .int 52, .int 53, .int 53, .int 53, .int 53, .int 53, .int 53, .int 53, .int 53, .int 53, .int 53, .int 54, .int 54, .int 54, .int 54, .int 54, .int 54, .int 54, .int 54, .int 54, .int 54, .int 55, .int 55, .int 55, .int 55, .int 55, .int 55, .int 55, .int 55, .int 55, .int 55, .int 56, .int 56, .int 56, .int 56, .int 56, .int 56, .int 56, .int 56, .int 56, .int 56, .int 57, .int 57, .int 57, .int 57, .int 57, .int 57, .int 57, .int 57, .int 57, .int 57], vm := .none }]
def classes : Array Class := #[k0, k1, k2, k3, k4, k5, k6, k7, k8, k9, k10, k11, k12, k13, k14, k15, k16, k17, k18, k19, k20, k21, k22, k23, k24, k25, k26, k27, k28]
def interned : List (Array UInt16 × Addr) := []
def slotsUsed : Nat := 219
def theMethod : MethodId := ⟨1, 1⟩
def args0 : Array Value := #[.int 5, .int 7, .int 3]
def aboutOver (below : List Frame) : State where
  vm := { classes := classes, interned := interned.toArray }
  heap := heap
  slotsUsed := slotsUsed
  threads := #[{ frames := .invoking theMethod args0 :: below }]
def below0 : List Frame := [.native { method := ⟨0, 0⟩, args := #[] }]
def about1 : State := aboutOver below0
def p0 : Program := .bare "" "" ""
def e0 : Env := launch0.env 0 0 0
theorem w_frames : about1.frames = Frame.invoking theMethod args0 :: below0 := rfl
set_option maxRecDepth 65536 in
theorem w_args : argsFit about1.vm theMethod args0 = true := by decide +kernel
set_option maxRecDepth 65536 in
theorem w_heap : heapFits about1 = true := by decide +kernel
set_option maxRecDepth 65536 in
theorem w_runnable : about1.curStatus? = some .runnable := by decide +kernel
set_option maxRecDepth 65536 in
theorem w_alone : about1.alone = true := by decide +kernel
set_option maxRecDepth 65536 in
theorem w_named : about1.methodNamed? x = some theMethod := by decide +kernel
set_option maxRecDepth 65536 in
theorem w_hears : about1.hears theMethod below0 = true := by decide +kernel
set_option maxRecDepth 65536 in
theorem w_ripe : about1.ripe theMethod args0 below0 = true := by decide +kernel
theorem w_running : about1.status = .running := rfl
set_option maxRecDepth 65536 in
theorem w_room : about1.hasRoom e0.platform room_1 = true :=
  launch0.hasRoom_least _ room_1 (by decide +kernel) (by decide +kernel) (by decide +kernel) (by decide +kernel) (by decide +kernel) (by decide +kernel)
theorem allAtoms_all (ts : List Jvm.Cond) (a : Array Jvm.Value) (st : Jvm.State) : (allAtoms ts).before a st = ts.all (fun c => c.before a st) := by
  induction ts with
  | nil => rfl
  | cons c t ih =>
    show (Jvm.Cond.and c (allAtoms t)).before a st = _
    rw [Jvm.Cond.before_and, ih, List.all_cons]
def words1 : List Jvm.Cond := Jvm.Cond.code x code maxLocals ret :: tables_1
/-- a 'code' word, met by the world's own term for the bytes: nothing is compared byte by byte -/
theorem code_word {y : MethodName} {bytes : ByteArray} {mx : Nat} {rt : Option FieldType} {a : Array Value} {s : State} {m : MethodId} {meth : Method} {c : Code} (h1 : s.methodNamed? y = some m) (h2 : s.vm.method? m = some meth) (h3 : meth.code = some c) (h4 : c.code = bytes)
    (h5 : (c.maxLocals == mx && c.exceptionTable.isEmpty && decide (c.maxStack ≤ mostOperands) && decide (meth.sig.returnType = rt) && !meth.locks && decide (parseMethodDescriptor y.desc = some meth.sig)) = true) : (Jvm.Cond.code y bytes mx rt).before a s = true := by
  simp only [Bool.and_eq_true, beq_iff_eq, Bool.not_eq_true', decide_eq_true_eq] at h5
  obtain ⟨⟨⟨⟨⟨g1, g2⟩, g3⟩, g4⟩, g5⟩, g6⟩ := h5
  simp [Cond.before, Cond.holds, Cond.value, h1, h2, h3, h4, g1, g2, g3, g4, g5, g6]
def isCode : Jvm.Cond → Bool
  | .code _ _ _ _ => true
  | _ => false
theorem all_split {L : List Jvm.Cond} {P : Jvm.Cond → Bool} (h1 : L.all (fun c => isCode c || P c) = true) (h2 : ∀ c ∈ L.filter isCode, P c = true) : L.all P = true := by
  refine List.all_eq_true.mpr fun c hc => ?_
  have h := List.all_eq_true.mp h1 c hc
  rcases Bool.eq_false_or_eq_true (isCode c) with hi | hi
  · exact h2 c (List.mem_filter.mpr ⟨hc, hi⟩)
  · simpa [hi] using h
set_option maxRecDepth 65536 in
theorem w_c0 : (Jvm.Cond.code x code maxLocals ret).before args0 about1 = true := code_word (m := ⟨1, 1⟩) (meth := k1m1) (c := k1c1) (by decide +kernel) rfl rfl rfl (by decide +kernel)
set_option maxRecDepth 65536 in
theorem w_c1 : (Jvm.Cond.code ({ cls := "java/lang/String", name := "<init>", desc := "([C)V" } : Jvm.MethodName) jdk_42_method_3_code (2 : Nat) (Option.none : Option Jvm.ClassFile.FieldType)).before args0 about1 = true := code_word (m := ⟨7, 1⟩) (meth := k7m1) (c := k7c1) (by decide +kernel) rfl rfl rfl (by decide +kernel)
set_option maxRecDepth 65536 in
theorem w_c2 : (Jvm.Cond.code ({ cls := "java/lang/String", name := "<init>", desc := "([CIILjava/lang/Void;)V" } : Jvm.MethodName) jdk_42_method_149_code (6 : Nat) (Option.none : Option Jvm.ClassFile.FieldType)).before args0 about1 = true := code_word (m := ⟨7, 6⟩) (meth := k7m6) (c := k7c6) (by decide +kernel) rfl rfl rfl (by decide +kernel)
set_option maxRecDepth 65536 in
theorem w_c3 : (Jvm.Cond.code ({ cls := "java/lang/Object", name := "<init>", desc := "()V" } : Jvm.MethodName) object_method_1_code (1 : Nat) (Option.none : Option Jvm.ClassFile.FieldType)).before args0 about1 = true := code_word (m := ⟨0, 0⟩) (meth := k0m0) (c := k0c0) (by decide +kernel) rfl rfl rfl (by decide +kernel)
set_option maxRecDepth 65536 in
theorem w_c4 : (Jvm.Cond.code ({ cls := "java/lang/StringUTF16", name := "compress", desc := "([CII)[B" } : Jvm.MethodName) jdk_52_method_16_code (6 : Nat) (Option.some (Jvm.ClassFile.FieldType.array Jvm.ClassFile.FieldType.byte))).before args0 about1 = true := code_word (m := ⟨8, 2⟩) (meth := k8m2) (c := k8c2) (by decide +kernel) rfl rfl rfl (by decide +kernel)
set_option maxRecDepth 65536 in
theorem w_c5 : (Jvm.Cond.code ({ cls := "java/lang/StringUTF16", name := "compress", desc := "([CI[BII)I" } : Jvm.MethodName) jdk_52_method_21_code (7 : Nat) (Option.some Jvm.ClassFile.FieldType.int)).before args0 about1 = true := code_word (m := ⟨8, 3⟩) (meth := k8m3) (c := k8c3) (by decide +kernel) rfl rfl rfl (by decide +kernel)
set_option maxRecDepth 65536 in
theorem w_c6 : (Jvm.Cond.code ({ cls := "java/lang/StringUTF16", name := "coderFromArrayLen", desc := "([BI)B" } : Jvm.MethodName) jdk_52_method_15_code (2 : Nat) (Option.some Jvm.ClassFile.FieldType.byte)).before args0 about1 = true := code_word (m := ⟨8, 1⟩) (meth := k8m1) (c := k8c1) (by decide +kernel) rfl rfl rfl (by decide +kernel)
set_option maxRecDepth 65536 in
theorem w_c7 : (Jvm.Cond.code ({ cls := "com/example/syndica/syndica/Term", name := "<init>", desc := "(Ljava/lang/String;Ljava/lang/String;Ljava/lang/String;I)V" } : Jvm.MethodName) prog_81_method_1_code (5 : Nat) (Option.none : Option Jvm.ClassFile.FieldType)).before args0 about1 = true := code_word (m := ⟨10, 0⟩) (meth := k10m0) (c := k10c0) (by decide +kernel) rfl rfl rfl (by decide +kernel)
set_option maxRecDepth 65536 in
theorem w_c8 : (Jvm.Cond.code ({ cls := "java/lang/Record", name := "<init>", desc := "()V" } : Jvm.MethodName) jdk_30_method_1_code (1 : Nat) (Option.none : Option Jvm.ClassFile.FieldType)).before args0 about1 = true := code_word (m := ⟨9, 0⟩) (meth := k9m0) (c := k9c0) (by decide +kernel) rfl rfl rfl (by decide +kernel)
set_option maxRecDepth 65536 in
theorem w_c9 : (Jvm.Cond.code ({ cls := "com/example/syndica/syndica/Term", name := "cited", desc := "()Ljava/lang/String;" } : Jvm.MethodName) prog_81_method_2_code (1 : Nat) (Option.some (Jvm.ClassFile.FieldType.object "java/lang/String"))).before args0 about1 = true := code_word (m := ⟨10, 1⟩) (meth := k10m1) (c := k10c1) (by decide +kernel) rfl rfl rfl (by decide +kernel)
set_option maxRecDepth 65536 in
theorem w_c10 : (Jvm.Cond.code ({ cls := "java/lang/StringBuilder", name := "<init>", desc := "()V" } : Jvm.MethodName) jdk_67_method_1_code (1 : Nat) (Option.none : Option Jvm.ClassFile.FieldType)).before args0 about1 = true := code_word (m := ⟨13, 0⟩) (meth := k13m0) (c := k13c0) (by decide +kernel) rfl rfl rfl (by decide +kernel)
set_option maxRecDepth 65536 in
theorem w_c11 : (Jvm.Cond.code ({ cls := "java/lang/AbstractStringBuilder", name := "<init>", desc := "(I)V" } : Jvm.MethodName) jdk_68_method_2_code (2 : Nat) (Option.none : Option Jvm.ClassFile.FieldType)).before args0 about1 = true := code_word (m := ⟨12, 1⟩) (meth := k12m1) (c := k12c1) (by decide +kernel) rfl rfl rfl (by decide +kernel)
set_option maxRecDepth 65536 in
theorem w_c12 : (Jvm.Cond.code ({ cls := "java/lang/StringBuilder", name := "append", desc := "(Ljava/lang/String;)Ljava/lang/StringBuilder;" } : Jvm.MethodName) jdk_67_method_7_code (2 : Nat) (Option.some (Jvm.ClassFile.FieldType.object "java/lang/StringBuilder"))).before args0 about1 = true := code_word (m := ⟨13, 1⟩) (meth := k13m1) (c := k13c1) (by decide +kernel) rfl rfl rfl (by decide +kernel)
set_option maxRecDepth 65536 in
theorem w_c13 : (Jvm.Cond.code ({ cls := "java/lang/AbstractStringBuilder", name := "append", desc := "(Ljava/lang/String;)Ljava/lang/AbstractStringBuilder;" } : Jvm.MethodName) jdk_68_method_22_code (3 : Nat) (Option.some (Jvm.ClassFile.FieldType.object "java/lang/AbstractStringBuilder"))).before args0 about1 = true := code_word (m := ⟨12, 5⟩) (meth := k12m5) (c := k12c5) (by decide +kernel) rfl rfl rfl (by decide +kernel)
set_option maxRecDepth 65536 in
theorem w_c14 : (Jvm.Cond.code ({ cls := "java/lang/String", name := "length", desc := "()I" } : Jvm.MethodName) jdk_42_method_54_code (1 : Nat) (Option.some Jvm.ClassFile.FieldType.int)).before args0 about1 = true := code_word (m := ⟨7, 3⟩) (meth := k7m3) (c := k7c3) (by decide +kernel) rfl rfl rfl (by decide +kernel)
set_option maxRecDepth 65536 in
theorem w_c15 : (Jvm.Cond.code ({ cls := "java/lang/String", name := "coder", desc := "()B" } : Jvm.MethodName) jdk_42_method_152_code (1 : Nat) (Option.some Jvm.ClassFile.FieldType.byte)).before args0 about1 = true := code_word (m := ⟨7, 8⟩) (meth := k7m8) (c := k7c8) (by decide +kernel) rfl rfl rfl (by decide +kernel)
set_option maxRecDepth 65536 in
theorem w_c16 : (Jvm.Cond.code ({ cls := "java/lang/AbstractStringBuilder", name := "ensureCapacityInternal", desc := "(I)V" } : Jvm.MethodName) jdk_68_method_9_code (3 : Nat) (Option.none : Option Jvm.ClassFile.FieldType)).before args0 about1 = true := code_word (m := ⟨12, 3⟩) (meth := k12m3) (c := k12c3) (by decide +kernel) rfl rfl rfl (by decide +kernel)
set_option maxRecDepth 65536 in
theorem w_c17 : (Jvm.Cond.code ({ cls := "java/lang/AbstractStringBuilder", name := "putStringAt", desc := "(ILjava/lang/String;)V" } : Jvm.MethodName) jdk_68_method_73_code (3 : Nat) (Option.none : Option Jvm.ClassFile.FieldType)).before args0 about1 = true := code_word (m := ⟨12, 10⟩) (meth := k12m10) (c := k12c10) (by decide +kernel) rfl rfl rfl (by decide +kernel)
set_option maxRecDepth 65536 in
theorem w_c18 : (Jvm.Cond.code ({ cls := "java/lang/AbstractStringBuilder", name := "inflateIfNeededFor", desc := "(Ljava/lang/String;)V" } : Jvm.MethodName) jdk_68_method_71_code (2 : Nat) (Option.none : Option Jvm.ClassFile.FieldType)).before args0 about1 = true := code_word (m := ⟨12, 9⟩) (meth := k12m9) (c := k12c9) (by decide +kernel) rfl rfl rfl (by decide +kernel)
set_option maxRecDepth 65536 in
theorem w_c19 : (Jvm.Cond.code ({ cls := "java/lang/String", name := "getBytes", desc := "([BIB)V" } : Jvm.MethodName) jdk_42_method_147_code (4 : Nat) (Option.none : Option Jvm.ClassFile.FieldType)).before args0 about1 = true := code_word (m := ⟨7, 5⟩) (meth := k7m5) (c := k7c5) (by decide +kernel) rfl rfl rfl (by decide +kernel)
set_option maxRecDepth 65536 in
theorem w_c20 : (Jvm.Cond.code ({ cls := "java/lang/StringBuilder", name := "append", desc := "(I)Ljava/lang/StringBuilder;" } : Jvm.MethodName) jdk_67_method_15_code (2 : Nat) (Option.some (Jvm.ClassFile.FieldType.object "java/lang/StringBuilder"))).before args0 about1 = true := code_word (m := ⟨13, 2⟩) (meth := k13m2) (c := k13c2) (by decide +kernel) rfl rfl rfl (by decide +kernel)
set_option maxRecDepth 65536 in
theorem w_c21 : (Jvm.Cond.code ({ cls := "java/lang/AbstractStringBuilder", name := "append", desc := "(I)Ljava/lang/AbstractStringBuilder;" } : Jvm.MethodName) jdk_68_method_32_code (4 : Nat) (Option.some (Jvm.ClassFile.FieldType.object "java/lang/AbstractStringBuilder"))).before args0 about1 = true := code_word (m := ⟨12, 6⟩) (meth := k12m6) (c := k12c6) (by decide +kernel) rfl rfl rfl (by decide +kernel)
set_option maxRecDepth 65536 in
theorem w_c22 : (Jvm.Cond.code ({ cls := "java/lang/Integer", name := "stringSize", desc := "(I)I" } : Jvm.MethodName) jdk_33_method_13_code (4 : Nat) (Option.some Jvm.ClassFile.FieldType.int)).before args0 about1 = true := code_word (m := ⟨16, 1⟩) (meth := k16m1) (c := k16c1) (by decide +kernel) rfl rfl rfl (by decide +kernel)
set_option maxRecDepth 65536 in
theorem w_c23 : (Jvm.Cond.code ({ cls := "java/lang/AbstractStringBuilder", name := "isLatin1", desc := "()Z" } : Jvm.MethodName) jdk_68_method_68_code (1 : Nat) (Option.some Jvm.ClassFile.FieldType.boolean)).before args0 about1 = true := code_word (m := ⟨12, 8⟩) (meth := k12m8) (c := k12c8) (by decide +kernel) rfl rfl rfl (by decide +kernel)
set_option maxRecDepth 65536 in
theorem w_c24 : (Jvm.Cond.code ({ cls := "java/lang/Integer", name := "getChars", desc := "(II[B)I" } : Jvm.MethodName) jdk_33_method_12_code (7 : Nat) (Option.some Jvm.ClassFile.FieldType.int)).before args0 about1 = true := code_word (m := ⟨16, 0⟩) (meth := k16m0) (c := k16c0) (by decide +kernel) rfl rfl rfl (by decide +kernel)
set_option maxRecDepth 65536 in
theorem w_c25 : (Jvm.Cond.code ({ cls := "java/lang/StringBuilder", name := "toString", desc := "()Ljava/lang/String;" } : Jvm.MethodName) jdk_67_method_42_code (1 : Nat) (Option.some (Jvm.ClassFile.FieldType.object "java/lang/String"))).before args0 about1 = true := code_word (m := ⟨13, 3⟩) (meth := k13m3) (c := k13c3) (by decide +kernel) rfl rfl rfl (by decide +kernel)
set_option maxRecDepth 65536 in
theorem w_c26 : (Jvm.Cond.code ({ cls := "java/lang/String", name := "<init>", desc := "(Ljava/lang/StringBuilder;)V" } : Jvm.MethodName) jdk_42_method_53_code (2 : Nat) (Option.none : Option Jvm.ClassFile.FieldType)).before args0 about1 = true := code_word (m := ⟨7, 2⟩) (meth := k7m2) (c := k7c2) (by decide +kernel) rfl rfl rfl (by decide +kernel)
set_option maxRecDepth 65536 in
theorem w_c27 : (Jvm.Cond.code ({ cls := "java/lang/String", name := "<init>", desc := "(Ljava/lang/AbstractStringBuilder;Ljava/lang/Void;)V" } : Jvm.MethodName) jdk_42_method_150_code (5 : Nat) (Option.none : Option Jvm.ClassFile.FieldType)).before args0 about1 = true := code_word (m := ⟨7, 7⟩) (meth := k7m7) (c := k7c7) (by decide +kernel) rfl rfl rfl (by decide +kernel)
set_option maxRecDepth 65536 in
theorem w_c28 : (Jvm.Cond.code ({ cls := "java/lang/AbstractStringBuilder", name := "getValue", desc := "()[B" } : Jvm.MethodName) jdk_68_method_64_code (1 : Nat) (Option.some (Jvm.ClassFile.FieldType.array Jvm.ClassFile.FieldType.byte))).before args0 about1 = true := code_word (m := ⟨12, 7⟩) (meth := k12m7) (c := k12c7) (by decide +kernel) rfl rfl rfl (by decide +kernel)
set_option maxRecDepth 65536 in
theorem w_c29 : (Jvm.Cond.code ({ cls := "java/lang/StringBuilder", name := "length", desc := "()I" } : Jvm.MethodName) jdk_67_method_93_code (1 : Nat) (Option.some Jvm.ClassFile.FieldType.int)).before args0 about1 = true := code_word (m := ⟨13, 4⟩) (meth := k13m4) (c := k13c4) (by decide +kernel) rfl rfl rfl (by decide +kernel)
set_option maxRecDepth 65536 in
theorem w_c30 : (Jvm.Cond.code ({ cls := "java/lang/AbstractStringBuilder", name := "length", desc := "()I" } : Jvm.MethodName) jdk_68_method_6_code (1 : Nat) (Option.some Jvm.ClassFile.FieldType.int)).before args0 about1 = true := code_word (m := ⟨12, 2⟩) (meth := k12m2) (c := k12c2) (by decide +kernel) rfl rfl rfl (by decide +kernel)
set_option maxRecDepth 65536 in
theorem w_c31 : (Jvm.Cond.code ({ cls := "java/util/Arrays", name := "copyOfRange", desc := "([BII)[B" } : Jvm.MethodName) jdk_65_method_132_code (3 : Nat) (Option.some (Jvm.ClassFile.FieldType.array Jvm.ClassFile.FieldType.byte))).before args0 about1 = true := code_word (m := ⟨17, 3⟩) (meth := k17m3) (c := k17c3) (by decide +kernel) rfl rfl rfl (by decide +kernel)
set_option maxRecDepth 65536 in
theorem w_c32 : (Jvm.Cond.code ({ cls := "java/util/Arrays", name := "copyOfRangeByte", desc := "([BII)[B" } : Jvm.MethodName) jdk_65_method_133_code (5 : Nat) (Option.some (Jvm.ClassFile.FieldType.array Jvm.ClassFile.FieldType.byte))).before args0 about1 = true := code_word (m := ⟨17, 4⟩) (meth := k17m4) (c := k17c4) (by decide +kernel) rfl rfl rfl (by decide +kernel)
set_option maxRecDepth 65536 in
theorem w_c33 : (Jvm.Cond.code ({ cls := "java/util/Arrays", name := "checkLength", desc := "(II)V" } : Jvm.MethodName) jdk_65_method_131_code (2 : Nat) (Option.none : Option Jvm.ClassFile.FieldType)).before args0 about1 = true := code_word (m := ⟨17, 2⟩) (meth := k17m2) (c := k17c2) (by decide +kernel) rfl rfl rfl (by decide +kernel)
set_option maxRecDepth 65536 in
theorem w_c34 : (Jvm.Cond.code ({ cls := "java/lang/Math", name := "min", desc := "(II)I" } : Jvm.MethodName) jdk_29_method_69_code (2 : Nat) (Option.some Jvm.ClassFile.FieldType.int)).before args0 about1 = true := code_word (m := ⟨18, 3⟩) (meth := k18m3) (c := k18c3) (by decide +kernel) rfl rfl rfl (by decide +kernel)
set_option maxRecDepth 65536 in
theorem w_c35 : (Jvm.Cond.code ({ cls := "java/lang/Math", name := "abs", desc := "(J)J" } : Jvm.MethodName) jdk_29_method_61_code (2 : Nat) (Option.some Jvm.ClassFile.FieldType.long)).before args0 about1 = true := code_word (m := ⟨18, 1⟩) (meth := k18m1) (c := k18c1) (by decide +kernel) rfl rfl rfl (by decide +kernel)
set_option maxRecDepth 65536 in
theorem w_c36 : (Jvm.Cond.code ({ cls := "com/example/syndica/syndica/TermCitedPinLaw", name := "digits", desc := "(J)I" } : Jvm.MethodName) method_3_code (2 : Nat) (Option.some Jvm.ClassFile.FieldType.int)).before args0 about1 = true := code_word (m := ⟨1, 2⟩) (meth := k1m2) (c := k1c2) (by decide +kernel) rfl rfl rfl (by decide +kernel)
set_option maxRecDepth 65536 in
theorem w_c37 : (Jvm.Cond.code ({ cls := "java/lang/String", name := "charAt", desc := "(I)C" } : Jvm.MethodName) jdk_42_method_56_code (2 : Nat) (Option.some Jvm.ClassFile.FieldType.char)).before args0 about1 = true := code_word (m := ⟨7, 4⟩) (meth := k7m4) (c := k7c4) (by decide +kernel) rfl rfl rfl (by decide +kernel)
set_option maxRecDepth 65536 in
theorem w_c38 : (Jvm.Cond.code ({ cls := "java/lang/String", name := "isLatin1", desc := "()Z" } : Jvm.MethodName) jdk_42_method_154_code (1 : Nat) (Option.some Jvm.ClassFile.FieldType.boolean)).before args0 about1 = true := code_word (m := ⟨7, 9⟩) (meth := k7m9) (c := k7c9) (by decide +kernel) rfl rfl rfl (by decide +kernel)
set_option maxRecDepth 65536 in
theorem w_c39 : (Jvm.Cond.code ({ cls := "java/lang/StringLatin1", name := "charAt", desc := "([BI)C" } : Jvm.MethodName) jdk_43_method_2_code (2 : Nat) (Option.some Jvm.ClassFile.FieldType.char)).before args0 about1 = true := code_word (m := ⟨19, 1⟩) (meth := k19m1) (c := k19c1) (by decide +kernel) rfl rfl rfl (by decide +kernel)
set_option maxRecDepth 65536 in
theorem w_c40 : (Jvm.Cond.code ({ cls := "java/lang/String", name := "checkIndex", desc := "(II)V" } : Jvm.MethodName) jdk_42_method_155_code (2 : Nat) (Option.none : Option Jvm.ClassFile.FieldType)).before args0 about1 = true := code_word (m := ⟨7, 10⟩) (meth := k7m10) (c := k7c10) (by decide +kernel) rfl rfl rfl (by decide +kernel)
set_option maxRecDepth 65536 in
theorem w_c41 : (Jvm.Cond.code ({ cls := "jdk/internal/util/Preconditions", name := "checkIndex", desc := "(IILjava/util/function/BiFunction;)I" } : Jvm.MethodName) jdk_41_method_11_code (3 : Nat) (Option.some Jvm.ClassFile.FieldType.int)).before args0 about1 = true := code_word (m := ⟨20, 1⟩) (meth := k20m1) (c := k20c1) (by decide +kernel) rfl rfl rfl (by decide +kernel)
set_option maxRecDepth 65536 in
theorem w_c42 : (Jvm.Cond.code ({ cls := "com/example/syndica/syndica/TermCitedPinLaw", name := "digitOk", desc := "(Ljava/lang/String;IIJIJ)Z" } : Jvm.MethodName) method_4_code (8 : Nat) (Option.some Jvm.ClassFile.FieldType.boolean)).before args0 about1 = true := code_word (m := ⟨1, 3⟩) (meth := k1m3) (c := k1c3) (by decide +kernel) rfl rfl rfl (by decide +kernel)
set_option maxRecDepth 65536 in
theorem w_c43 : (Jvm.Cond.code ({ cls := "java/lang/AbstractStringBuilder", name := "newCapacity", desc := "(I)I" } : Jvm.MethodName) jdk_68_method_10_code (6 : Nat) (Option.some Jvm.ClassFile.FieldType.int)).before args0 about1 = true := code_word (m := ⟨12, 4⟩) (meth := k12m4) (c := k12c4) (by decide +kernel) rfl rfl rfl (by decide +kernel)
set_option maxRecDepth 65536 in
theorem w_c44 : (Jvm.Cond.code ({ cls := "jdk/internal/util/ArraysSupport", name := "newLength", desc := "(III)I" } : Jvm.MethodName) jdk_48_method_27_code (4 : Nat) (Option.some Jvm.ClassFile.FieldType.int)).before args0 about1 = true := code_word (m := ⟨22, 1⟩) (meth := k22m1) (c := k22c1) (by decide +kernel) rfl rfl rfl (by decide +kernel)
set_option maxRecDepth 65536 in
theorem w_c45 : (Jvm.Cond.code ({ cls := "java/lang/Math", name := "max", desc := "(II)I" } : Jvm.MethodName) jdk_29_method_65_code (2 : Nat) (Option.some Jvm.ClassFile.FieldType.int)).before args0 about1 = true := code_word (m := ⟨18, 2⟩) (meth := k18m2) (c := k18c2) (by decide +kernel) rfl rfl rfl (by decide +kernel)
set_option maxRecDepth 65536 in
theorem w_c46 : (Jvm.Cond.code ({ cls := "java/util/Arrays", name := "copyOf", desc := "([BI)[B" } : Jvm.MethodName) jdk_65_method_121_code (3 : Nat) (Option.some (Jvm.ClassFile.FieldType.array Jvm.ClassFile.FieldType.byte))).before args0 about1 = true := code_word (m := ⟨17, 1⟩) (meth := k17m1) (c := k17c1) (by decide +kernel) rfl rfl rfl (by decide +kernel)
def codes1 : List Jvm.Cond := [Jvm.Cond.code x code maxLocals ret, Jvm.Cond.code ({ cls := "java/lang/String", name := "<init>", desc := "([C)V" } : Jvm.MethodName) jdk_42_method_3_code (2 : Nat) (Option.none : Option Jvm.ClassFile.FieldType), Jvm.Cond.code ({ cls := "java/lang/String", name := "<init>", desc := "([CIILjava/lang/Void;)V" } : Jvm.MethodName) jdk_42_method_149_code (6 : Nat) (Option.none : Option Jvm.ClassFile.FieldType), Jvm.Cond.code ({ cls := "java/lang/Object", name := "<init>", desc := "()V" } : Jvm.MethodName) object_method_1_code (1 : Nat) (Option.none : Option Jvm.ClassFile.FieldType), Jvm.Cond.code ({ cls := "java/lang/StringUTF16", name := "compress", desc := "([CII)[B" } : Jvm.MethodName) jdk_52_method_16_code (6 : Nat) (Option.some (Jvm.ClassFile.FieldType.array Jvm.ClassFile.FieldType.byte)), Jvm.Cond.code ({ cls := "java/lang/StringUTF16", name := "compress", desc := "([CI[BII)I" } : Jvm.MethodName) jdk_52_method_21_code (7 : Nat) (Option.some Jvm.ClassFile.FieldType.int), Jvm.Cond.code ({ cls := "java/lang/StringUTF16", name := "coderFromArrayLen", desc := "([BI)B" } : Jvm.MethodName) jdk_52_method_15_code (2 : Nat) (Option.some Jvm.ClassFile.FieldType.byte), Jvm.Cond.code ({ cls := "com/example/syndica/syndica/Term", name := "<init>", desc := "(Ljava/lang/String;Ljava/lang/String;Ljava/lang/String;I)V" } : Jvm.MethodName) prog_81_method_1_code (5 : Nat) (Option.none : Option Jvm.ClassFile.FieldType), Jvm.Cond.code ({ cls := "java/lang/Record", name := "<init>", desc := "()V" } : Jvm.MethodName) jdk_30_method_1_code (1 : Nat) (Option.none : Option Jvm.ClassFile.FieldType), Jvm.Cond.code ({ cls := "com/example/syndica/syndica/Term", name := "cited", desc := "()Ljava/lang/String;" } : Jvm.MethodName) prog_81_method_2_code (1 : Nat) (Option.some (Jvm.ClassFile.FieldType.object "java/lang/String")), Jvm.Cond.code ({ cls := "java/lang/StringBuilder", name := "<init>", desc := "()V" } : Jvm.MethodName) jdk_67_method_1_code (1 : Nat) (Option.none : Option Jvm.ClassFile.FieldType), Jvm.Cond.code ({ cls := "java/lang/AbstractStringBuilder", name := "<init>", desc := "(I)V" } : Jvm.MethodName) jdk_68_method_2_code (2 : Nat) (Option.none : Option Jvm.ClassFile.FieldType), Jvm.Cond.code ({ cls := "java/lang/StringBuilder", name := "append", desc := "(Ljava/lang/String;)Ljava/lang/StringBuilder;" } : Jvm.MethodName) jdk_67_method_7_code (2 : Nat) (Option.some (Jvm.ClassFile.FieldType.object "java/lang/StringBuilder")), Jvm.Cond.code ({ cls := "java/lang/AbstractStringBuilder", name := "append", desc := "(Ljava/lang/String;)Ljava/lang/AbstractStringBuilder;" } : Jvm.MethodName) jdk_68_method_22_code (3 : Nat) (Option.some (Jvm.ClassFile.FieldType.object "java/lang/AbstractStringBuilder")), Jvm.Cond.code ({ cls := "java/lang/String", name := "length", desc := "()I" } : Jvm.MethodName) jdk_42_method_54_code (1 : Nat) (Option.some Jvm.ClassFile.FieldType.int), Jvm.Cond.code ({ cls := "java/lang/String", name := "coder", desc := "()B" } : Jvm.MethodName) jdk_42_method_152_code (1 : Nat) (Option.some Jvm.ClassFile.FieldType.byte), Jvm.Cond.code ({ cls := "java/lang/AbstractStringBuilder", name := "ensureCapacityInternal", desc := "(I)V" } : Jvm.MethodName) jdk_68_method_9_code (3 : Nat) (Option.none : Option Jvm.ClassFile.FieldType), Jvm.Cond.code ({ cls := "java/lang/AbstractStringBuilder", name := "putStringAt", desc := "(ILjava/lang/String;)V" } : Jvm.MethodName) jdk_68_method_73_code (3 : Nat) (Option.none : Option Jvm.ClassFile.FieldType), Jvm.Cond.code ({ cls := "java/lang/AbstractStringBuilder", name := "inflateIfNeededFor", desc := "(Ljava/lang/String;)V" } : Jvm.MethodName) jdk_68_method_71_code (2 : Nat) (Option.none : Option Jvm.ClassFile.FieldType), Jvm.Cond.code ({ cls := "java/lang/String", name := "getBytes", desc := "([BIB)V" } : Jvm.MethodName) jdk_42_method_147_code (4 : Nat) (Option.none : Option Jvm.ClassFile.FieldType), Jvm.Cond.code ({ cls := "java/lang/StringBuilder", name := "append", desc := "(I)Ljava/lang/StringBuilder;" } : Jvm.MethodName) jdk_67_method_15_code (2 : Nat) (Option.some (Jvm.ClassFile.FieldType.object "java/lang/StringBuilder")), Jvm.Cond.code ({ cls := "java/lang/AbstractStringBuilder", name := "append", desc := "(I)Ljava/lang/AbstractStringBuilder;" } : Jvm.MethodName) jdk_68_method_32_code (4 : Nat) (Option.some (Jvm.ClassFile.FieldType.object "java/lang/AbstractStringBuilder")), Jvm.Cond.code ({ cls := "java/lang/Integer", name := "stringSize", desc := "(I)I" } : Jvm.MethodName) jdk_33_method_13_code (4 : Nat) (Option.some Jvm.ClassFile.FieldType.int), Jvm.Cond.code ({ cls := "java/lang/AbstractStringBuilder", name := "isLatin1", desc := "()Z" } : Jvm.MethodName) jdk_68_method_68_code (1 : Nat) (Option.some Jvm.ClassFile.FieldType.boolean), Jvm.Cond.code ({ cls := "java/lang/Integer", name := "getChars", desc := "(II[B)I" } : Jvm.MethodName) jdk_33_method_12_code (7 : Nat) (Option.some Jvm.ClassFile.FieldType.int), Jvm.Cond.code ({ cls := "java/lang/StringBuilder", name := "toString", desc := "()Ljava/lang/String;" } : Jvm.MethodName) jdk_67_method_42_code (1 : Nat) (Option.some (Jvm.ClassFile.FieldType.object "java/lang/String")), Jvm.Cond.code ({ cls := "java/lang/String", name := "<init>", desc := "(Ljava/lang/StringBuilder;)V" } : Jvm.MethodName) jdk_42_method_53_code (2 : Nat) (Option.none : Option Jvm.ClassFile.FieldType), Jvm.Cond.code ({ cls := "java/lang/String", name := "<init>", desc := "(Ljava/lang/AbstractStringBuilder;Ljava/lang/Void;)V" } : Jvm.MethodName) jdk_42_method_150_code (5 : Nat) (Option.none : Option Jvm.ClassFile.FieldType), Jvm.Cond.code ({ cls := "java/lang/AbstractStringBuilder", name := "getValue", desc := "()[B" } : Jvm.MethodName) jdk_68_method_64_code (1 : Nat) (Option.some (Jvm.ClassFile.FieldType.array Jvm.ClassFile.FieldType.byte)), Jvm.Cond.code ({ cls := "java/lang/StringBuilder", name := "length", desc := "()I" } : Jvm.MethodName) jdk_67_method_93_code (1 : Nat) (Option.some Jvm.ClassFile.FieldType.int), Jvm.Cond.code ({ cls := "java/lang/AbstractStringBuilder", name := "length", desc := "()I" } : Jvm.MethodName) jdk_68_method_6_code (1 : Nat) (Option.some Jvm.ClassFile.FieldType.int), Jvm.Cond.code ({ cls := "java/util/Arrays", name := "copyOfRange", desc := "([BII)[B" } : Jvm.MethodName) jdk_65_method_132_code (3 : Nat) (Option.some (Jvm.ClassFile.FieldType.array Jvm.ClassFile.FieldType.byte)), Jvm.Cond.code ({ cls := "java/util/Arrays", name := "copyOfRangeByte", desc := "([BII)[B" } : Jvm.MethodName) jdk_65_method_133_code (5 : Nat) (Option.some (Jvm.ClassFile.FieldType.array Jvm.ClassFile.FieldType.byte)), Jvm.Cond.code ({ cls := "java/util/Arrays", name := "checkLength", desc := "(II)V" } : Jvm.MethodName) jdk_65_method_131_code (2 : Nat) (Option.none : Option Jvm.ClassFile.FieldType), Jvm.Cond.code ({ cls := "java/lang/Math", name := "min", desc := "(II)I" } : Jvm.MethodName) jdk_29_method_69_code (2 : Nat) (Option.some Jvm.ClassFile.FieldType.int), Jvm.Cond.code ({ cls := "java/lang/Math", name := "abs", desc := "(J)J" } : Jvm.MethodName) jdk_29_method_61_code (2 : Nat) (Option.some Jvm.ClassFile.FieldType.long), Jvm.Cond.code ({ cls := "com/example/syndica/syndica/TermCitedPinLaw", name := "digits", desc := "(J)I" } : Jvm.MethodName) method_3_code (2 : Nat) (Option.some Jvm.ClassFile.FieldType.int), Jvm.Cond.code ({ cls := "java/lang/String", name := "charAt", desc := "(I)C" } : Jvm.MethodName) jdk_42_method_56_code (2 : Nat) (Option.some Jvm.ClassFile.FieldType.char), Jvm.Cond.code ({ cls := "java/lang/String", name := "isLatin1", desc := "()Z" } : Jvm.MethodName) jdk_42_method_154_code (1 : Nat) (Option.some Jvm.ClassFile.FieldType.boolean), Jvm.Cond.code ({ cls := "java/lang/StringLatin1", name := "charAt", desc := "([BI)C" } : Jvm.MethodName) jdk_43_method_2_code (2 : Nat) (Option.some Jvm.ClassFile.FieldType.char), Jvm.Cond.code ({ cls := "java/lang/String", name := "checkIndex", desc := "(II)V" } : Jvm.MethodName) jdk_42_method_155_code (2 : Nat) (Option.none : Option Jvm.ClassFile.FieldType), Jvm.Cond.code ({ cls := "jdk/internal/util/Preconditions", name := "checkIndex", desc := "(IILjava/util/function/BiFunction;)I" } : Jvm.MethodName) jdk_41_method_11_code (3 : Nat) (Option.some Jvm.ClassFile.FieldType.int), Jvm.Cond.code ({ cls := "com/example/syndica/syndica/TermCitedPinLaw", name := "digitOk", desc := "(Ljava/lang/String;IIJIJ)Z" } : Jvm.MethodName) method_4_code (8 : Nat) (Option.some Jvm.ClassFile.FieldType.boolean), Jvm.Cond.code ({ cls := "java/lang/AbstractStringBuilder", name := "newCapacity", desc := "(I)I" } : Jvm.MethodName) jdk_68_method_10_code (6 : Nat) (Option.some Jvm.ClassFile.FieldType.int), Jvm.Cond.code ({ cls := "jdk/internal/util/ArraysSupport", name := "newLength", desc := "(III)I" } : Jvm.MethodName) jdk_48_method_27_code (4 : Nat) (Option.some Jvm.ClassFile.FieldType.int), Jvm.Cond.code ({ cls := "java/lang/Math", name := "max", desc := "(II)I" } : Jvm.MethodName) jdk_29_method_65_code (2 : Nat) (Option.some Jvm.ClassFile.FieldType.int), Jvm.Cond.code ({ cls := "java/util/Arrays", name := "copyOf", desc := "([BI)[B" } : Jvm.MethodName) jdk_65_method_121_code (3 : Nat) (Option.some (Jvm.ClassFile.FieldType.array Jvm.ClassFile.FieldType.byte))]
set_option maxRecDepth 65536 in
theorem codes_eq : words1.filter isCode = codes1 := rfl
theorem w_codes : ∀ c ∈ words1.filter isCode, c.before args0 about1 = true := by
  rw [codes_eq]
  intro c hc
  simp only [codes1, List.mem_cons, List.not_mem_nil, or_false] at hc
  rcases hc with rfl | rfl | rfl | rfl | rfl | rfl | rfl | rfl | rfl | rfl | rfl | rfl | rfl | rfl | rfl | rfl | rfl | rfl | rfl | rfl | rfl | rfl | rfl | rfl | rfl | rfl | rfl | rfl | rfl | rfl | rfl | rfl | rfl | rfl | rfl | rfl | rfl | rfl | rfl | rfl | rfl | rfl | rfl | rfl | rfl | rfl | rfl
  · exact w_c0
  · exact w_c1
  · exact w_c2
  · exact w_c3
  · exact w_c4
  · exact w_c5
  · exact w_c6
  · exact w_c7
  · exact w_c8
  · exact w_c9
  · exact w_c10
  · exact w_c11
  · exact w_c12
  · exact w_c13
  · exact w_c14
  · exact w_c15
  · exact w_c16
  · exact w_c17
  · exact w_c18
  · exact w_c19
  · exact w_c20
  · exact w_c21
  · exact w_c22
  · exact w_c23
  · exact w_c24
  · exact w_c25
  · exact w_c26
  · exact w_c27
  · exact w_c28
  · exact w_c29
  · exact w_c30
  · exact w_c31
  · exact w_c32
  · exact w_c33
  · exact w_c34
  · exact w_c35
  · exact w_c36
  · exact w_c37
  · exact w_c38
  · exact w_c39
  · exact w_c40
  · exact w_c41
  · exact w_c42
  · exact w_c43
  · exact w_c44
  · exact w_c45
  · exact w_c46
set_option maxRecDepth 65536 in
theorem w_t1 : (words1.take 24).all (fun c => isCode c || c.before args0 about1) = true := by decide +kernel
set_option maxRecDepth 65536 in
theorem w_t2 : ((words1.drop 24).take 24).all (fun c => isCode c || c.before args0 about1) = true := by decide +kernel
set_option maxRecDepth 65536 in
theorem w_t3 : (((words1.drop 24).drop 24).take 24).all (fun c => isCode c || c.before args0 about1) = true := by decide +kernel
set_option maxRecDepth 65536 in
theorem w_t4 : ((((words1.drop 24).drop 24).drop 24).take 24).all (fun c => isCode c || c.before args0 about1) = true := by decide +kernel
set_option maxRecDepth 65536 in
theorem w_t5 : (((((words1.drop 24).drop 24).drop 24).drop 24).take 24).all (fun c => isCode c || c.before args0 about1) = true := by decide +kernel
set_option maxRecDepth 65536 in
theorem w_t6 : ((((((words1.drop 24).drop 24).drop 24).drop 24).drop 24).take 24).all (fun c => isCode c || c.before args0 about1) = true := by decide +kernel
set_option maxRecDepth 65536 in
theorem w_t7 : (((((((words1.drop 24).drop 24).drop 24).drop 24).drop 24).drop 24).take 24).all (fun c => isCode c || c.before args0 about1) = true := by decide +kernel
set_option maxRecDepth 65536 in
theorem w_t8 : ((((((((words1.drop 24).drop 24).drop 24).drop 24).drop 24).drop 24).drop 24).take 24).all (fun c => isCode c || c.before args0 about1) = true := by decide +kernel
set_option maxRecDepth 65536 in
theorem w_t9 : (((((((((words1.drop 24).drop 24).drop 24).drop 24).drop 24).drop 24).drop 24).drop 24).take 24).all (fun c => isCode c || c.before args0 about1) = true := by decide +kernel
set_option maxRecDepth 65536 in
theorem w_t10 : ((((((((((words1.drop 24).drop 24).drop 24).drop 24).drop 24).drop 24).drop 24).drop 24).drop 24).take 24).all (fun c => isCode c || c.before args0 about1) = true := by decide +kernel
set_option maxRecDepth 65536 in
theorem w_t11 : ((((((((((words1.drop 24).drop 24).drop 24).drop 24).drop 24).drop 24).drop 24).drop 24).drop 24).drop 24).all (fun c => isCode c || c.before args0 about1) = true := by decide +kernel
theorem w_tables : (allAtoms (Jvm.Cond.code x code maxLocals ret :: tables_1)).before args0 about1 = true := by
  rw [allAtoms_all]
  show words1.all (fun c => c.before args0 about1) = true
  refine all_split ?_ w_codes
  rw [← List.take_append_drop 24 words1, List.all_append, w_t1, ← List.take_append_drop 24 (words1.drop 24), List.all_append, w_t2, ← List.take_append_drop 24 ((words1.drop 24).drop 24), List.all_append, w_t3, ← List.take_append_drop 24 (((words1.drop 24).drop 24).drop 24), List.all_append, w_t4, ← List.take_append_drop 24 ((((words1.drop 24).drop 24).drop 24).drop 24), List.all_append, w_t5, ← List.take_append_drop 24 (((((words1.drop 24).drop 24).drop 24).drop 24).drop 24), List.all_append, w_t6, ← List.take_append_drop 24 ((((((words1.drop 24).drop 24).drop 24).drop 24).drop 24).drop 24), List.all_append, w_t7, ← List.take_append_drop 24 (((((((words1.drop 24).drop 24).drop 24).drop 24).drop 24).drop 24).drop 24), List.all_append, w_t8, ← List.take_append_drop 24 ((((((((words1.drop 24).drop 24).drop 24).drop 24).drop 24).drop 24).drop 24).drop 24), List.all_append, w_t9, ← List.take_append_drop 24 (((((((((words1.drop 24).drop 24).drop 24).drop 24).drop 24).drop 24).drop 24).drop 24).drop 24), List.all_append, w_t10, w_t11]
  rfl
set_option maxRecDepth 65536 in
theorem w_rest : rest_1_c.before args0 about1 = true := by decide +kernel
set_option maxRecDepth 65536 in
theorem w_case : (Jvm.Cond.and given_1 narrow_1).before args0 about1 = true := by decide +kernel
set_option maxRecDepth 65536 in
theorem w_consts : constsHeld consts_1 about1 := Jvm.Lit.constsHeldB_iff.mp (by decide +kernel)
theorem w_applies : (headSpec (Jvm.Cond.code x code maxLocals ret :: tables_1) room_1).applies x e0.platform about1 = true :=
  (Spec.applies_iff w_frames).mpr ⟨w_running, w_runnable, w_alone, w_named, w_hears, w_ripe, w_room, w_tables⟩
theorem atStart : AtStart classFile x code maxLocals ret World_1 tables_1 room_1 Calls_1 rest_1 Pre_1 launch0 p0 e0 about1 theMethod args0 below0 :=
  ⟨lists_1, trivial, launch0.admits_env _ _ _, launch0.least_env, fairChoices_fair.cas, fairChoices_fair.clock, w_frames, w_args, w_heap, w_applies, ⟨w_consts, trivial⟩, w_rest, w_case⟩
end start1
theorem witness_1 : WitnessClaimed_1 := ⟨start1.p0, start1.e0, start1.about1, start1.theMethod, start1.args0, start1.below0, start1.atStart⟩
end Jvm.Pilot.@@N@@

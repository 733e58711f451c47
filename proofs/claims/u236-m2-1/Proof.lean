import JvmDerived
import JvmDerived.Pilot.@@N@@Statement
import JvmDerived.Pilot.@@N@@Code
set_option linter.unusedVariables false
set_option linter.unusedSimpArgs false
namespace Jvm.Pilot.@@N@@
open Jvm Jvm.ClassFile Sem Op Lib Jvm.Free Jvm.Stand Jvm.LawKit Jvm.RoadKit Bundle Jvm.Pilot.@@N@@.Jvm.D
section OwnGo
variable {p : Program} {e : Env} {below : List Frame} {F : State → Outcome → Prop} {m : MethodId} {c : Code} {T U V : State} {pc pc' pc2 : Nat} {Ls L' : Array Slot} {st : List Value}
/-- from here the walk comes to an end that F takes -/
def own_Go (p : Program) (e : Env) (below : List Frame) (F : State → Outcome → Prop) (U : State) : Prop := ∃ (t : State) (o : Outcome), Steps p.tables e below U t ∧ t.status = .running ∧ Ended t below o ∧ F t o
theorem own_on (h : ∀ t, Steps p.tables e below V t → Steps p.tables e below U t) (g : own_Go p e below F V) : own_Go p e below F U := by
  obtain ⟨t, o, h1, r⟩ := g; exact ⟨t, o, h t h1, r⟩
theorem own_to (h : Steps p.tables e below U V) (g : own_Go p e below F V) : own_Go p e below F U := by
  obtain ⟨t, o, h1, r⟩ := g; exact ⟨t, o, h.trans h1, r⟩
theorem own_aload_n (h : At T m c below) (hx : p.tables.exec = Jvm.exec) {k : Fin 4} {v : Value} (hd : decode c.code pc = .ok (.aload_n k, 1)) (hl : Ls[k.val]? = some (.val v)) (hv : v.isRef = true) (hp : pc + 1 = pc') (K : own_Go p e below F (T.setTop (mkF m pc' Ls (v :: st)))) : own_Go p e below F (T.setTop (mkF m pc Ls st)) := by
  subst hp; exact own_on (fun _ => XS.aloadN h hx rfl hd hl hv) K
theorem own_aload (h : At T m c below) (hx : p.tables.exec = Jvm.exec) {k : Nat} {v : Value} (hd : decode c.code pc = .ok (.aload k, 2)) (hl : Ls[k]? = some (.val v)) (hv : v.isRef = true) (hp : pc + 2 = pc') (K : own_Go p e below F (T.setTop (mkF m pc' Ls (v :: st)))) : own_Go p e below F (T.setTop (mkF m pc Ls st)) := by
  subst hp; exact own_on (fun _ => XS.aload h hx rfl hd hl hv) K
theorem own_iload_n (h : At T m c below) (hx : p.tables.exec = Jvm.exec) {k : Fin 4} {v : Int32} (hd : decode c.code pc = .ok (.iload_n k, 1)) (hl : Ls[k.val]? = some (.val (.int v))) (hp : pc + 1 = pc') (K : own_Go p e below F (T.setTop (mkF m pc' Ls (.int v :: st)))) : own_Go p e below F (T.setTop (mkF m pc Ls st)) := by
  subst hp; exact own_on (fun _ => XS.iloadN h hx rfl hd hl) K
theorem own_iload (h : At T m c below) (hx : p.tables.exec = Jvm.exec) {k : Nat} {v : Int32} (hd : decode c.code pc = .ok (.iload k, 2)) (hl : Ls[k]? = some (.val (.int v))) (hp : pc + 2 = pc') (K : own_Go p e below F (T.setTop (mkF m pc' Ls (.int v :: st)))) : own_Go p e below F (T.setTop (mkF m pc Ls st)) := by
  subst hp; exact own_on (fun _ => XS.iload h hx rfl hd hl) K
theorem own_lload_n (h : At T m c below) (hx : p.tables.exec = Jvm.exec) {k : Fin 4} {v : Int64} (hd : decode c.code pc = .ok (.lload_n k, 1)) (hl : Ls[k.val]? = some (.val (.long v))) (hp : pc + 1 = pc') (K : own_Go p e below F (T.setTop (mkF m pc' Ls (.long v :: st)))) : own_Go p e below F (T.setTop (mkF m pc Ls st)) := by
  subst hp; exact own_on (fun _ => XT.lloadN h hx rfl hd hl) K
theorem own_lload (h : At T m c below) (hx : p.tables.exec = Jvm.exec) {k : Nat} {v : Int64} (hd : decode c.code pc = .ok (.lload k, 2)) (hl : Ls[k]? = some (.val (.long v))) (hp : pc + 2 = pc') (K : own_Go p e below F (T.setTop (mkF m pc' Ls (.long v :: st)))) : own_Go p e below F (T.setTop (mkF m pc Ls st)) := by
  subst hp; exact own_on (fun _ => XT.lload h hx rfl hd hl) K
theorem own_dload_n (h : At T m c below) (hx : p.tables.exec = Jvm.exec) {k : Fin 4} {v : UInt64} (hd : decode c.code pc = .ok (.dload_n k, 1)) (hl : Ls[k.val]? = some (.val (.double v))) (hp : pc + 1 = pc') (K : own_Go p e below F (T.setTop (mkF m pc' Ls (.double v :: st)))) : own_Go p e below F (T.setTop (mkF m pc Ls st)) := by
  subst hp; exact own_on (fun _ => XS.dloadN h hx rfl hd hl) K
theorem own_dload (h : At T m c below) (hx : p.tables.exec = Jvm.exec) {k : Nat} {v : UInt64} (hd : decode c.code pc = .ok (.dload k, 2)) (hl : Ls[k]? = some (.val (.double v))) (hp : pc + 2 = pc') (K : own_Go p e below F (T.setTop (mkF m pc' Ls (.double v :: st)))) : own_Go p e below F (T.setTop (mkF m pc Ls st)) := by
  subst hp; exact own_on (fun _ => XS.dload h hx rfl hd hl) K
theorem own_iconst (h : At T m c below) (hx : p.tables.exec = Jvm.exec) {i : Int} {v : Int32} (hd : decode c.code pc = .ok (.iconst i, 1)) (hv : Int32.ofInt i = v) (hp : pc + 1 = pc') (K : own_Go p e below F (T.setTop (mkF m pc' Ls (.int v :: st)))) : own_Go p e below F (T.setTop (mkF m pc Ls st)) := by
  subst hp hv; exact own_on (fun _ => XS.iconst h hx rfl hd) K
theorem own_bipush (h : At T m c below) (hx : p.tables.exec = Jvm.exec) {i : Int} {v : Int32} (hd : decode c.code pc = .ok (.bipush i, 2)) (hv : (Int8.ofInt i).toInt32 = v) (hp : pc + 2 = pc') (K : own_Go p e below F (T.setTop (mkF m pc' Ls (.int v :: st)))) : own_Go p e below F (T.setTop (mkF m pc Ls st)) := by
  subst hp hv; exact own_on (fun _ => XS.bipush h hx rfl hd) K
theorem own_sipush (h : At T m c below) (hx : p.tables.exec = Jvm.exec) {i : Int} {v : Int32} (hd : decode c.code pc = .ok (.sipush i, 3)) (hv : (Int16.ofInt i).toInt32 = v) (hp : pc + 3 = pc') (K : own_Go p e below F (T.setTop (mkF m pc' Ls (.int v :: st)))) : own_Go p e below F (T.setTop (mkF m pc Ls st)) := by
  subst hp hv; exact own_on (fun _ => XS.sipush h hx rfl hd) K
theorem own_lconst (h : At T m c below) (hx : p.tables.exec = Jvm.exec) {k : Fin 2} {v : Int64} (hd : decode c.code pc = .ok (.lconst k, 1)) (hv : Int64.ofNat k = v) (hp : pc + 1 = pc') (K : own_Go p e below F (T.setTop (mkF m pc' Ls (.long v :: st)))) : own_Go p e below F (T.setTop (mkF m pc Ls st)) := by
  subst hp hv; exact own_on (fun _ => XT.lconst h hx rfl hd) K
theorem own_aconst_null (h : At T m c below) (hx : p.tables.exec = Jvm.exec) (hd : decode c.code pc = .ok (.aconst_null, 1)) (hp : pc + 1 = pc') (K : own_Go p e below F (T.setTop (mkF m pc' Ls (.null :: st)))) : own_Go p e below F (T.setTop (mkF m pc Ls st)) := by
  subst hp; exact own_on (fun _ => XS.aconstNull h hx rfl hd) K
theorem own_iadd (h : At T m c below) (hx : p.tables.exec = Jvm.exec) {x y : Int32} (hd : decode c.code pc = .ok (.iadd, 1)) (hp : pc + 1 = pc') (K : own_Go p e below F (T.setTop (mkF m pc' Ls (.int (x + y) :: st)))) : own_Go p e below F (T.setTop (mkF m pc Ls (.int y :: .int x :: st))) := by
  subst hp; exact own_on (fun _ => XS.iadd h hx rfl hd rfl) K
theorem own_isub (h : At T m c below) (hx : p.tables.exec = Jvm.exec) {x y : Int32} (hd : decode c.code pc = .ok (.isub, 1)) (hp : pc + 1 = pc') (K : own_Go p e below F (T.setTop (mkF m pc' Ls (.int (x - y) :: st)))) : own_Go p e below F (T.setTop (mkF m pc Ls (.int y :: .int x :: st))) := by
  subst hp; exact own_on (fun _ => XS.isub h hx rfl hd rfl) K
theorem own_imul (h : At T m c below) (hx : p.tables.exec = Jvm.exec) {x y : Int32} (hd : decode c.code pc = .ok (.imul, 1)) (hp : pc + 1 = pc') (K : own_Go p e below F (T.setTop (mkF m pc' Ls (.int (x * y) :: st)))) : own_Go p e below F (T.setTop (mkF m pc Ls (.int y :: .int x :: st))) := by
  subst hp; exact own_on (fun _ => XS.imul h hx rfl hd rfl) K
theorem own_irem (h : At T m c below) (hx : p.tables.exec = Jvm.exec) {x y : Int32} (hd : decode c.code pc = .ok (.irem, 1)) (hy : y ≠ 0) (hp : pc + 1 = pc') (K : own_Go p e below F (T.setTop (mkF m pc' Ls (.int (x % y) :: st)))) : own_Go p e below F (T.setTop (mkF m pc Ls (.int y :: .int x :: st))) := by
  subst hp; exact own_on (fun _ hr => XS.irem h hx rfl hd rfl hy (by rw [show x - x / y * y = x % y from irem_eq_mod x y]; exact hr)) K
theorem own_iand (h : At T m c below) (hx : p.tables.exec = Jvm.exec) {x y : Int32} (hd : decode c.code pc = .ok (.iand, 1)) (hp : pc + 1 = pc') (K : own_Go p e below F (T.setTop (mkF m pc' Ls (.int (x &&& y) :: st)))) : own_Go p e below F (T.setTop (mkF m pc Ls (.int y :: .int x :: st))) := by
  subst hp; exact own_on (fun _ => XS.iand h hx rfl hd rfl) K
theorem own_ior (h : At T m c below) (hx : p.tables.exec = Jvm.exec) {x y : Int32} (hd : decode c.code pc = .ok (.ior, 1)) (hp : pc + 1 = pc') (K : own_Go p e below F (T.setTop (mkF m pc' Ls (.int (x ||| y) :: st)))) : own_Go p e below F (T.setTop (mkF m pc Ls (.int y :: .int x :: st))) := by
  subst hp; exact own_on (fun _ => XT.ior h hx rfl hd rfl) K
theorem own_ishl (h : At T m c below) (hx : p.tables.exec = Jvm.exec) {x y : Int32} (hd : decode c.code pc = .ok (.ishl, 1)) (hp : pc + 1 = pc') (K : own_Go p e below F (T.setTop (mkF m pc' Ls (.int (x <<< (y &&& 31)) :: st)))) : own_Go p e below F (T.setTop (mkF m pc Ls (.int y :: .int x :: st))) := by
  subst hp; exact own_on (fun _ => XT.ishl h hx rfl hd rfl) K
theorem own_ishr (h : At T m c below) (hx : p.tables.exec = Jvm.exec) {x y : Int32} (hd : decode c.code pc = .ok (.ishr, 1)) (hp : pc + 1 = pc') (K : own_Go p e below F (T.setTop (mkF m pc' Ls (.int (x >>> (y &&& 31)) :: st)))) : own_Go p e below F (T.setTop (mkF m pc Ls (.int y :: .int x :: st))) := by
  subst hp; exact own_on (fun _ => XT.ishr h hx rfl hd rfl) K
theorem own_iushr (h : At T m c below) (hx : p.tables.exec = Jvm.exec) {x y : Int32} (hd : decode c.code pc = .ok (.iushr, 1)) (hp : pc + 1 = pc') (K : own_Go p e below F (T.setTop (mkF m pc' Ls (.int (XT.ushr x y) :: st)))) : own_Go p e below F (T.setTop (mkF m pc Ls (.int y :: .int x :: st))) := by
  subst hp; exact own_on (fun _ => XT.iushr h hx rfl hd rfl) K
theorem own_i2l (h : At T m c below) (hx : p.tables.exec = Jvm.exec) {x : Int32} (hd : decode c.code pc = .ok (.i2l, 1)) (hp : pc + 1 = pc') (K : own_Go p e below F (T.setTop (mkF m pc' Ls (.long x.toInt64 :: st)))) : own_Go p e below F (T.setTop (mkF m pc Ls (.int x :: st))) := by
  subst hp; exact own_on (fun _ => XT.i2l h hx rfl hd rfl) K
theorem own_l2i (h : At T m c below) (hx : p.tables.exec = Jvm.exec) {x : Int64} (hd : decode c.code pc = .ok (.l2i, 1)) (hp : pc + 1 = pc') (K : own_Go p e below F (T.setTop (mkF m pc' Ls (.int x.toInt32 :: st)))) : own_Go p e below F (T.setTop (mkF m pc Ls (.long x :: st))) := by
  subst hp; exact own_on (fun _ => XT.l2i h hx rfl hd rfl) K
/-- (char) x -/
def own_c (x : Int32) : Int32 := x.toUInt32.toUInt16.toUInt32.toInt32
theorem own_i2c (h : At T m c below) (hx : p.tables.exec = Jvm.exec) {x : Int32} (hd : decode c.code pc = .ok (.i2c, 1)) (hp : pc + 1 = pc') (K : own_Go p e below F (T.setTop (mkF m pc' Ls (.int (own_c x) :: st)))) : own_Go p e below F (T.setTop (mkF m pc Ls (.int x :: st))) := by
  subst hp; exact own_on (fun _ => XT.i2c h hx rfl hd rfl) K
theorem own_i2b (h : At T m c below) (hx : p.tables.exec = Jvm.exec) {x : Int32} (hd : decode c.code pc = .ok (.i2b, 1)) (hp : pc + 1 = pc') (K : own_Go p e below F (T.setTop (mkF m pc' Ls (.int x.toInt8.toInt32 :: st)))) : own_Go p e below F (T.setTop (mkF m pc Ls (.int x :: st))) := by
  subst hp; exact own_on (fun _ => XT.i2b h hx rfl hd rfl) K
theorem own_i2d (h : At T m c below) (hx : p.tables.exec = Jvm.exec) {x : Int32} (hd : decode c.code pc = .ok (.i2d, 1)) (hp : pc + 1 = pc') (K : own_Go p e below F (T.setTop (mkF m pc' Ls (.double (FP.i2d x) :: st)))) : own_Go p e below F (T.setTop (mkF m pc Ls (.int x :: st))) := by
  subst hp; exact own_on (fun _ => XS.i2dS h hx rfl hd rfl rfl) K
theorem own_l2d (h : At T m c below) (hx : p.tables.exec = Jvm.exec) {x : Int64} (hd : decode c.code pc = .ok (.l2d, 1)) (hp : pc + 1 = pc') (K : own_Go p e below F (T.setTop (mkF m pc' Ls (.double (FP.l2d x) :: st)))) : own_Go p e below F (T.setTop (mkF m pc Ls (.long x :: st))) := by
  subst hp; exact own_on (fun _ => XS.l2dS h hx rfl hd rfl rfl) K
theorem own_dneg (h : At T m c below) (hx : p.tables.exec = Jvm.exec) {x : UInt64} (hd : decode c.code pc = .ok (.dneg, 1)) (hp : pc + 1 = pc') (K : own_Go p e below F (T.setTop (mkF m pc' Ls (.double (FP.dneg x) :: st)))) : own_Go p e below F (T.setTop (mkF m pc Ls (.double x :: st))) := by
  subst hp; exact own_on (fun _ => XS.dnegS h hx rfl hd rfl rfl) K
theorem own_dcmp (h : At T m c below) (hx : p.tables.exec = Jvm.exec) {o : CmpOp} {x y : UInt64} {v : Int32} (hd : decode c.code pc = .ok (.dcmp o, 1)) (hv : cmpValue (FP.dcmp x y) o = v) (hp : pc + 1 = pc') (K : own_Go p e below F (T.setTop (mkF m pc' Ls (.int v :: st)))) : own_Go p e below F (T.setTop (mkF m pc Ls (.double y :: .double x :: st))) := by
  subst hp; exact own_on (fun _ => XS.dcmpS h hx rfl hd rfl hv) K
theorem own_dmul (h : At T m c below) (hx : p.tables.exec = Jvm.exec) {x y : UInt64} (hd : decode c.code pc = .ok (.dmul, 1)) (hn : Jvm.Free.Fl.NoNaN64 (FP.dmul x y)) (hp : pc + 1 = pc') (K : own_Go p e below F (T.setTop (mkF m pc' Ls (.double (FP.dmul x y) :: st)))) : own_Go p e below F (T.setTop (mkF m pc Ls (.double y :: .double x :: st))) := by
  subst hp; exact own_on (fun _ => XS.dmulS h hx rfl hd rfl hn rfl) K
theorem own_ddiv (h : At T m c below) (hx : p.tables.exec = Jvm.exec) {x y : UInt64} (hd : decode c.code pc = .ok (.ddiv, 1)) (hn : Jvm.Free.Fl.NoNaN64 (FP.ddiv x y)) (hp : pc + 1 = pc') (K : own_Go p e below F (T.setTop (mkF m pc' Ls (.double (FP.ddiv x y) :: st)))) : own_Go p e below F (T.setTop (mkF m pc Ls (.double y :: .double x :: st))) := by
  subst hp; exact own_on (fun _ => XS.ddivS h hx rfl hd rfl hn rfl) K
theorem own_ladd (h : At T m c below) (hx : p.tables.exec = Jvm.exec) {x y : Int64} (hd : decode c.code pc = .ok (.ladd, 1)) (hp : pc + 1 = pc') (K : own_Go p e below F (T.setTop (mkF m pc' Ls (.long (x + y) :: st)))) : own_Go p e below F (T.setTop (mkF m pc Ls (.long y :: .long x :: st))) := by
  subst hp; exact own_on (fun _ => XT.ladd h hx rfl hd rfl) K
theorem own_lsub (h : At T m c below) (hx : p.tables.exec = Jvm.exec) {x y : Int64} (hd : decode c.code pc = .ok (.lsub, 1)) (hp : pc + 1 = pc') (K : own_Go p e below F (T.setTop (mkF m pc' Ls (.long (x - y) :: st)))) : own_Go p e below F (T.setTop (mkF m pc Ls (.long y :: .long x :: st))) := by
  subst hp; exact own_on (fun _ => XT.lsub h hx rfl hd rfl) K
theorem own_lmul (h : At T m c below) (hx : p.tables.exec = Jvm.exec) {x y : Int64} (hd : decode c.code pc = .ok (.lmul, 1)) (hp : pc + 1 = pc') (K : own_Go p e below F (T.setTop (mkF m pc' Ls (.long (x * y) :: st)))) : own_Go p e below F (T.setTop (mkF m pc Ls (.long y :: .long x :: st))) := by
  subst hp; exact own_on (fun _ => XT.lmul h hx rfl hd rfl) K
theorem own_land (h : At T m c below) (hx : p.tables.exec = Jvm.exec) {x y : Int64} (hd : decode c.code pc = .ok (.land, 1)) (hp : pc + 1 = pc') (K : own_Go p e below F (T.setTop (mkF m pc' Ls (.long (x &&& y) :: st)))) : own_Go p e below F (T.setTop (mkF m pc Ls (.long y :: .long x :: st))) := by
  subst hp; exact own_on (fun _ => XT.land h hx rfl hd rfl) K
theorem own_lneg (h : At T m c below) (hx : p.tables.exec = Jvm.exec) {x : Int64} (hd : decode c.code pc = .ok (.lneg, 1)) (hp : pc + 1 = pc') (K : own_Go p e below F (T.setTop (mkF m pc' Ls (.long (-x) :: st)))) : own_Go p e below F (T.setTop (mkF m pc Ls (.long x :: st))) := by
  subst hp; exact own_on (fun _ => XT.lneg h hx rfl hd rfl) K
theorem own_lushr (h : At T m c below) (hx : p.tables.exec = Jvm.exec) {x : Int64} {y : Int32} (hd : decode c.code pc = .ok (.lushr, 1)) (hp : pc + 1 = pc') (K : own_Go p e below F (T.setTop (mkF m pc' Ls (.long (XT.ushrL x y) :: st)))) : own_Go p e below F (T.setTop (mkF m pc Ls (.int y :: .long x :: st))) := by
  subst hp; exact own_on (fun _ => XT.lushr h hx rfl hd rfl) K
theorem own_lcmp (h : At T m c below) (hx : p.tables.exec = Jvm.exec) {x y : Int64} (hd : decode c.code pc = .ok (.lcmp, 1)) (hp : pc + 1 = pc') (K : own_Go p e below F (T.setTop (mkF m pc' Ls (.int (XT.cmpL x y) :: st)))) : own_Go p e below F (T.setTop (mkF m pc Ls (.long y :: .long x :: st))) := by
  subst hp; exact own_on (fun _ => XT.lcmp h hx rfl hd rfl) K
theorem own_dup (h : At T m c below) (hx : p.tables.exec = Jvm.exec) {x : Value} (hd : decode c.code pc = .ok (.dup, 1)) (hc : x.category = 1) (hp : pc + 1 = pc') (K : own_Go p e below F (T.setTop (mkF m pc' Ls (x :: x :: st)))) : own_Go p e below F (T.setTop (mkF m pc Ls (x :: st))) := by
  subst hp; exact own_on (fun _ => XS.dup h hx rfl hd rfl hc) K
theorem own_pop (h : At T m c below) (hx : p.tables.exec = Jvm.exec) {x : Value} (hd : decode c.code pc = .ok (.pop, 1)) (hc : x.category = 1) (hp : pc + 1 = pc') (K : own_Go p e below F (T.setTop (mkF m pc' Ls st))) : own_Go p e below F (T.setTop (mkF m pc Ls (x :: st))) := by
  subst hp; exact own_on (fun _ => XT.pop h hx rfl hd rfl hc) K
theorem own_istore_n (h : At T m c below) (hx : p.tables.exec = Jvm.exec) {k : Fin 4} {x : Int32} (hd : decode c.code pc = .ok (.istore_n k, 1)) (hl : storeLocals Ls k.val (.int x) = some L') (hp : pc + 1 = pc') (K : own_Go p e below F (T.setTop (mkF m pc' L' st))) : own_Go p e below F (T.setTop (mkF m pc Ls (.int x :: st))) := by
  subst hp; exact own_on (fun _ => XS.istoreN h hx rfl hd rfl hl) K
theorem own_istore (h : At T m c below) (hx : p.tables.exec = Jvm.exec) {k : Nat} {x : Int32} (hd : decode c.code pc = .ok (.istore k, 2)) (hl : storeLocals Ls k (.int x) = some L') (hp : pc + 2 = pc') (K : own_Go p e below F (T.setTop (mkF m pc' L' st))) : own_Go p e below F (T.setTop (mkF m pc Ls (.int x :: st))) := by
  subst hp; exact own_on (fun _ => XS.istore h hx rfl hd rfl hl) K
theorem own_astore_n (h : At T m c below) (hx : p.tables.exec = Jvm.exec) {k : Fin 4} {x : Value} (hd : decode c.code pc = .ok (.astore_n k, 1)) (hv : x.isRef = true) (hl : storeLocals Ls k.val x = some L') (hp : pc + 1 = pc') (K : own_Go p e below F (T.setTop (mkF m pc' L' st))) : own_Go p e below F (T.setTop (mkF m pc Ls (x :: st))) := by
  subst hp; exact own_on (fun _ => XS.astoreN h hx rfl hd rfl hv hl) K
theorem own_astore (h : At T m c below) (hx : p.tables.exec = Jvm.exec) {k : Nat} {x : Value} (hd : decode c.code pc = .ok (.astore k, 2)) (hv : x.isRef = true) (hl : storeLocals Ls k x = some L') (hp : pc + 2 = pc') (K : own_Go p e below F (T.setTop (mkF m pc' L' st))) : own_Go p e below F (T.setTop (mkF m pc Ls (x :: st))) := by
  subst hp; exact own_on (fun _ => XS.astore h hx rfl hd rfl hv hl) K
theorem own_lstore_n (h : At T m c below) (hx : p.tables.exec = Jvm.exec) {k : Fin 4} {x : Int64} (hd : decode c.code pc = .ok (.lstore_n k, 1)) (hl : storeLocals Ls k.val (.long x) = some L') (hp : pc + 1 = pc') (K : own_Go p e below F (T.setTop (mkF m pc' L' st))) : own_Go p e below F (T.setTop (mkF m pc Ls (.long x :: st))) := by
  subst hp; exact own_on (fun _ => XT.lstoreN h hx rfl hd rfl hl) K
theorem own_lstore (h : At T m c below) (hx : p.tables.exec = Jvm.exec) {k : Nat} {x : Int64} (hd : decode c.code pc = .ok (.lstore k, 2)) (hl : storeLocals Ls k (.long x) = some L') (hp : pc + 2 = pc') (K : own_Go p e below F (T.setTop (mkF m pc' L' st))) : own_Go p e below F (T.setTop (mkF m pc Ls (.long x :: st))) := by
  subst hp; exact own_on (fun _ => XT.lstore h hx rfl hd rfl hl) K
theorem own_dstore (h : At T m c below) (hx : p.tables.exec = Jvm.exec) {k : Nat} {x : UInt64} (hd : decode c.code pc = .ok (.dstore k, 2)) (hl : storeLocals Ls k (.double x) = some L') (hp : pc + 2 = pc') (K : own_Go p e below F (T.setTop (mkF m pc' L' st))) : own_Go p e below F (T.setTop (mkF m pc Ls (.double x :: st))) := by
  subst hp; exact own_on (fun _ => XS.dstore h hx rfl hd rfl hl) K
theorem own_iinc (h : At T m c below) (hx : p.tables.exec = Jvm.exec) {k : Nat} {i : Int} {x y : Int32} (hd : decode c.code pc = .ok (.iinc k i, 3)) (hl : Ls[k]? = some (.val (.int x))) (hy : x + Int32.ofInt i = y) (hl' : storeLocals Ls k (.int y) = some L') (hp : pc + 3 = pc') (K : own_Go p e below F (T.setTop (mkF m pc' L' st))) : own_Go p e below F (T.setTop (mkF m pc Ls st)) := by
  subst hp hy; exact own_on (fun _ => XS.iinc h hx rfl hd hl hl') K
theorem own_goto (h : At T m c below) (hx : p.tables.exec = Jvm.exec) {o : Int} (hd : decode c.code pc = .ok (.goto o, 3)) (ho : 0 ≤ (pc : Int) + o) (hp : ((pc : Int) + o).toNat = pc') (K : own_Go p e below F (T.setTop (mkF m pc' Ls st))) : own_Go p e below F (T.setTop (mkF m pc Ls st)) :=
  own_on (fun _ => XS.goto h hx rfl rfl hd ho hp) K
theorem own_if (h : At T m c below) (hx : p.tables.exec = Jvm.exec) {cd : ClassFile.Cond} {x : Int32} {o : Int} (hd : decode c.code pc = .ok (.ifCond cd o, 3)) (ho : 0 ≤ (pc : Int) + o) (hp : ((pc : Int) + o).toNat = pc') (hp2 : pc + 3 = pc2)
    (Y : ifCond.holds cd x = true → own_Go p e below F (T.setTop (mkF m pc' Ls st))) (N : ifCond.holds cd x = false → own_Go p e below F (T.setTop (mkF m pc2 Ls st))) : own_Go p e below F (T.setTop (mkF m pc Ls (.int x :: st))) := by
  subst hp2
  cases hc : ifCond.holds cd x with
  | true => exact own_on (fun _ => XS.ifYes h hx rfl rfl hd rfl hc ho hp) (Y hc)
  | false => exact own_on (fun _ => XS.ifNo h hx rfl hd rfl hc) (N hc)
theorem own_icmp (h : At T m c below) (hx : p.tables.exec = Jvm.exec) {cd : ClassFile.Cond} {x y : Int32} {o : Int} (hd : decode c.code pc = .ok (.if_icmp cd o, 3)) (ho : 0 ≤ (pc : Int) + o) (hp : ((pc : Int) + o).toNat = pc') (hp2 : pc + 3 = pc2)
    (Y : if_icmp.holds cd x y = true → own_Go p e below F (T.setTop (mkF m pc' Ls st))) (N : if_icmp.holds cd x y = false → own_Go p e below F (T.setTop (mkF m pc2 Ls st))) : own_Go p e below F (T.setTop (mkF m pc Ls (.int y :: .int x :: st))) := by
  subst hp2
  cases hc : if_icmp.holds cd x y with
  | true => exact own_on (fun _ => XS.icmpYes h hx rfl rfl hd rfl hc ho hp) (Y hc)
  | false => exact own_on (fun _ => XS.icmpNo h hx rfl hd rfl hc) (N hc)
theorem own_ifeq (h : At T m c below) (hx : p.tables.exec = Jvm.exec) {x : Int32} {o : Int} (hd : decode c.code pc = .ok (.ifCond .eq o, 3)) (ho : 0 ≤ (pc : Int) + o) (hp : ((pc : Int) + o).toNat = pc') (hp2 : pc + 3 = pc2)
    (Y : x = 0 → own_Go p e below F (T.setTop (mkF m pc' Ls st))) (N : ¬ x = 0 → own_Go p e below F (T.setTop (mkF m pc2 Ls st))) : own_Go p e below F (T.setTop (mkF m pc Ls (.int x :: st))) :=
  own_if h hx hd ho hp hp2 (fun q => Y (by simpa [ifCond.holds] using q)) (fun q => N (by simpa [ifCond.holds] using q))
theorem own_ifne (h : At T m c below) (hx : p.tables.exec = Jvm.exec) {x : Int32} {o : Int} (hd : decode c.code pc = .ok (.ifCond .ne o, 3)) (ho : 0 ≤ (pc : Int) + o) (hp : ((pc : Int) + o).toNat = pc') (hp2 : pc + 3 = pc2)
    (Y : ¬ x = 0 → own_Go p e below F (T.setTop (mkF m pc' Ls st))) (N : x = 0 → own_Go p e below F (T.setTop (mkF m pc2 Ls st))) : own_Go p e below F (T.setTop (mkF m pc Ls (.int x :: st))) :=
  own_if h hx hd ho hp hp2 (fun q => Y (by simpa [ifCond.holds] using q)) (fun q => N (by simpa [ifCond.holds] using q))
theorem own_iflt (h : At T m c below) (hx : p.tables.exec = Jvm.exec) {x : Int32} {o : Int} (hd : decode c.code pc = .ok (.ifCond .lt o, 3)) (ho : 0 ≤ (pc : Int) + o) (hp : ((pc : Int) + o).toNat = pc') (hp2 : pc + 3 = pc2)
    (Y : x < 0 → own_Go p e below F (T.setTop (mkF m pc' Ls st))) (N : ¬ x < 0 → own_Go p e below F (T.setTop (mkF m pc2 Ls st))) : own_Go p e below F (T.setTop (mkF m pc Ls (.int x :: st))) :=
  own_if h hx hd ho hp hp2 (fun q => Y (of_decide_eq_true q)) (fun q => N (of_decide_eq_false q))
theorem own_ifge (h : At T m c below) (hx : p.tables.exec = Jvm.exec) {x : Int32} {o : Int} (hd : decode c.code pc = .ok (.ifCond .ge o, 3)) (ho : 0 ≤ (pc : Int) + o) (hp : ((pc : Int) + o).toNat = pc') (hp2 : pc + 3 = pc2)
    (Y : ¬ x < 0 → own_Go p e below F (T.setTop (mkF m pc' Ls st))) (N : x < 0 → own_Go p e below F (T.setTop (mkF m pc2 Ls st))) : own_Go p e below F (T.setTop (mkF m pc Ls (.int x :: st))) :=
  own_if h hx hd ho hp hp2 (fun q => Y (Int32.not_lt.mpr (of_decide_eq_true q))) (fun q => N (Int32.not_le.mp (of_decide_eq_false q)))
theorem own_ifgt (h : At T m c below) (hx : p.tables.exec = Jvm.exec) {x : Int32} {o : Int} (hd : decode c.code pc = .ok (.ifCond .gt o, 3)) (ho : 0 ≤ (pc : Int) + o) (hp : ((pc : Int) + o).toNat = pc') (hp2 : pc + 3 = pc2)
    (Y : 0 < x → own_Go p e below F (T.setTop (mkF m pc' Ls st))) (N : ¬ 0 < x → own_Go p e below F (T.setTop (mkF m pc2 Ls st))) : own_Go p e below F (T.setTop (mkF m pc Ls (.int x :: st))) :=
  own_if h hx hd ho hp hp2 (fun q => Y (of_decide_eq_true q)) (fun q => N (of_decide_eq_false q))
theorem own_ifle (h : At T m c below) (hx : p.tables.exec = Jvm.exec) {x : Int32} {o : Int} (hd : decode c.code pc = .ok (.ifCond .le o, 3)) (ho : 0 ≤ (pc : Int) + o) (hp : ((pc : Int) + o).toNat = pc') (hp2 : pc + 3 = pc2)
    (Y : ¬ 0 < x → own_Go p e below F (T.setTop (mkF m pc' Ls st))) (N : 0 < x → own_Go p e below F (T.setTop (mkF m pc2 Ls st))) : own_Go p e below F (T.setTop (mkF m pc Ls (.int x :: st))) :=
  own_if h hx hd ho hp hp2 (fun q => Y (Int32.not_lt.mpr (of_decide_eq_true q))) (fun q => N (Int32.not_le.mp (of_decide_eq_false q)))
theorem own_icmpeq (h : At T m c below) (hx : p.tables.exec = Jvm.exec) {x y : Int32} {o : Int} (hd : decode c.code pc = .ok (.if_icmp .eq o, 3)) (ho : 0 ≤ (pc : Int) + o) (hp : ((pc : Int) + o).toNat = pc') (hp2 : pc + 3 = pc2)
    (Y : x = y → own_Go p e below F (T.setTop (mkF m pc' Ls st))) (N : ¬ x = y → own_Go p e below F (T.setTop (mkF m pc2 Ls st))) : own_Go p e below F (T.setTop (mkF m pc Ls (.int y :: .int x :: st))) :=
  own_icmp h hx hd ho hp hp2 (fun q => Y (by simpa [if_icmp.holds] using q)) (fun q => N (by simpa [if_icmp.holds] using q))
theorem own_icmpne (h : At T m c below) (hx : p.tables.exec = Jvm.exec) {x y : Int32} {o : Int} (hd : decode c.code pc = .ok (.if_icmp .ne o, 3)) (ho : 0 ≤ (pc : Int) + o) (hp : ((pc : Int) + o).toNat = pc') (hp2 : pc + 3 = pc2)
    (Y : ¬ x = y → own_Go p e below F (T.setTop (mkF m pc' Ls st))) (N : x = y → own_Go p e below F (T.setTop (mkF m pc2 Ls st))) : own_Go p e below F (T.setTop (mkF m pc Ls (.int y :: .int x :: st))) :=
  own_icmp h hx hd ho hp hp2 (fun q => Y (by simpa [if_icmp.holds] using q)) (fun q => N (by simpa [if_icmp.holds] using q))
theorem own_icmplt (h : At T m c below) (hx : p.tables.exec = Jvm.exec) {x y : Int32} {o : Int} (hd : decode c.code pc = .ok (.if_icmp .lt o, 3)) (ho : 0 ≤ (pc : Int) + o) (hp : ((pc : Int) + o).toNat = pc') (hp2 : pc + 3 = pc2)
    (Y : x < y → own_Go p e below F (T.setTop (mkF m pc' Ls st))) (N : ¬ x < y → own_Go p e below F (T.setTop (mkF m pc2 Ls st))) : own_Go p e below F (T.setTop (mkF m pc Ls (.int y :: .int x :: st))) :=
  own_icmp h hx hd ho hp hp2 (fun q => Y (of_decide_eq_true q)) (fun q => N (of_decide_eq_false q))
theorem own_icmpge (h : At T m c below) (hx : p.tables.exec = Jvm.exec) {x y : Int32} {o : Int} (hd : decode c.code pc = .ok (.if_icmp .ge o, 3)) (ho : 0 ≤ (pc : Int) + o) (hp : ((pc : Int) + o).toNat = pc') (hp2 : pc + 3 = pc2)
    (Y : ¬ x < y → own_Go p e below F (T.setTop (mkF m pc' Ls st))) (N : x < y → own_Go p e below F (T.setTop (mkF m pc2 Ls st))) : own_Go p e below F (T.setTop (mkF m pc Ls (.int y :: .int x :: st))) :=
  own_icmp h hx hd ho hp hp2 (fun q => Y (Int32.not_lt.mpr (of_decide_eq_true q))) (fun q => N (Int32.not_le.mp (of_decide_eq_false q)))
theorem own_icmpgt (h : At T m c below) (hx : p.tables.exec = Jvm.exec) {x y : Int32} {o : Int} (hd : decode c.code pc = .ok (.if_icmp .gt o, 3)) (ho : 0 ≤ (pc : Int) + o) (hp : ((pc : Int) + o).toNat = pc') (hp2 : pc + 3 = pc2)
    (Y : y < x → own_Go p e below F (T.setTop (mkF m pc' Ls st))) (N : ¬ y < x → own_Go p e below F (T.setTop (mkF m pc2 Ls st))) : own_Go p e below F (T.setTop (mkF m pc Ls (.int y :: .int x :: st))) :=
  own_icmp h hx hd ho hp hp2 (fun q => Y (of_decide_eq_true q)) (fun q => N (of_decide_eq_false q))
theorem own_icmple (h : At T m c below) (hx : p.tables.exec = Jvm.exec) {x y : Int32} {o : Int} (hd : decode c.code pc = .ok (.if_icmp .le o, 3)) (ho : 0 ≤ (pc : Int) + o) (hp : ((pc : Int) + o).toNat = pc') (hp2 : pc + 3 = pc2)
    (Y : ¬ y < x → own_Go p e below F (T.setTop (mkF m pc' Ls st))) (N : y < x → own_Go p e below F (T.setTop (mkF m pc2 Ls st))) : own_Go p e below F (T.setTop (mkF m pc Ls (.int y :: .int x :: st))) :=
  own_icmp h hx hd ho hp hp2 (fun q => Y (Int32.not_lt.mpr (of_decide_eq_true q))) (fun q => N (Int32.not_le.mp (of_decide_eq_false q)))
theorem own_ifnonnull (h : At T m c below) (hx : p.tables.exec = Jvm.exec) {x : Value} (hr : x.isRef = true) {o : Int} (hd : decode c.code pc = .ok (.ifnonnull o, 3)) (ho : 0 ≤ (pc : Int) + o) (hp : ((pc : Int) + o).toNat = pc') (hp2 : pc + 3 = pc2)
    (Y : ¬ x = .null → own_Go p e below F (T.setTop (mkF m pc' Ls st))) (N : x = .null → own_Go p e below F (T.setTop (mkF m pc2 Ls st))) : own_Go p e below F (T.setTop (mkF m pc Ls (x :: st))) := by
  subst hp2
  rcases ref_cases hr with rfl | ⟨a, rfl⟩
  · exact own_on (fun _ => XT.ifnonnullNo h hx rfl hd rfl) (N rfl)
  · exact own_on (fun _ => XT.ifnonnullYes h hx rfl rfl hd rfl ho hp) (Y (fun q => nomatch q))
theorem own_ifnull (h : At T m c below) (hx : p.tables.exec = Jvm.exec) {x : Value} (hr : x.isRef = true) {o : Int} (hd : decode c.code pc = .ok (.ifnull o, 3)) (ho : 0 ≤ (pc : Int) + o) (hp : ((pc : Int) + o).toNat = pc') (hp2 : pc + 3 = pc2)
    (Y : x = .null → own_Go p e below F (T.setTop (mkF m pc' Ls st))) (N : ¬ x = .null → own_Go p e below F (T.setTop (mkF m pc2 Ls st))) : own_Go p e below F (T.setTop (mkF m pc Ls (x :: st))) := by
  subst hp2
  rcases ref_cases hr with rfl | ⟨a, rfl⟩
  · exact own_on (fun _ => XS.ifnullYes h hx rfl rfl hd rfl ho hp) (Y rfl)
  · exact own_on (fun _ => XS.ifnullNo h hx rfl hd rfl) (N (fun q => nomatch q))
theorem own_acmpeq (h : At T m c below) (hx : p.tables.exec = Jvm.exec) {x y : Value} (hr : x.isRef = true) (hr' : y.isRef = true) {o : Int} (hd : decode c.code pc = .ok (.if_acmp .eq o, 3)) (ho : 0 ≤ (pc : Int) + o) (hp : ((pc : Int) + o).toNat = pc') (hp2 : pc + 3 = pc2)
    (Y : x = y → own_Go p e below F (T.setTop (mkF m pc' Ls st))) (N : ¬ x = y → own_Go p e below F (T.setTop (mkF m pc2 Ls st))) : own_Go p e below F (T.setTop (mkF m pc Ls (y :: x :: st))) := by
  subst hp2
  by_cases q : x = y
  · exact own_on (fun _ => XT.acmpYes h hx rfl rfl hd rfl hr hr' (by simp [XT.acmp, q]) ho hp) (Y q)
  · exact own_on (fun _ => XT.acmpNo h hx rfl hd rfl hr hr' (by simp [XT.acmp, q])) (N q)
theorem own_acmpne (h : At T m c below) (hx : p.tables.exec = Jvm.exec) {x y : Value} (hr : x.isRef = true) (hr' : y.isRef = true) {o : Int} (hd : decode c.code pc = .ok (.if_acmp .ne o, 3)) (ho : 0 ≤ (pc : Int) + o) (hp : ((pc : Int) + o).toNat = pc') (hp2 : pc + 3 = pc2)
    (Y : ¬ x = y → own_Go p e below F (T.setTop (mkF m pc' Ls st))) (N : x = y → own_Go p e below F (T.setTop (mkF m pc2 Ls st))) : own_Go p e below F (T.setTop (mkF m pc Ls (y :: x :: st))) := by
  subst hp2
  by_cases q : x = y
  · exact own_on (fun _ => XT.acmpNo h hx rfl hd rfl hr hr' (by simp [XT.acmp, q])) (N q)
  · exact own_on (fun _ => XT.acmpYes h hx rfl rfl hd rfl hr hr' (by simp [XT.acmp, q]) ho hp) (Y q)
end OwnGo
section OwnEnd
variable {p : Program} {l : Launch} {e : Env} {R : Room} {s : State} {m : MethodId} {args : Array Value} {below : List Frame} {meth : Method} {c : Code} {T : State} {locs : List Loc} {cells slots : Nat} {F : State → Outcome → Prop} {pc : Nat} {Ls : Array Slot} {st : List Value}
/-- a narrow contract's walk begins -/
theorem own_enter {Q : Option Value → Heap → List Loc → Prop} {U : State} {cz sz : Nat}
    (K : ∀ F : State → Outcome → Prop, (∀ (t : State) (v : Option Value) (L : List Loc) (k n : Nat), Q v t.heap L → FrameEnd s (.returned v) t L k n → k ≤ cz → n ≤ sz → F t (.returned v)) → own_Go p e below F U) :
    ∃ (s₂ : State) (o : Outcome), Steps p.tables e below U s₂ ∧ s₂.status = .running ∧ Ended s₂ below o ∧ ∃ (v : Option Value) (L : List Loc), o = .returned v ∧ Q v s₂.heap L ∧ FrameEnd s o s₂ L cz sz := by
  obtain ⟨t, o, h1, h2, h3, v, L, k, n, rfl, hq, hf, hk, hn⟩ := K (fun t o => ∃ v L k n, o = .returned v ∧ Q v t.heap L ∧ FrameEnd s (.returned v) t L k n ∧ k ≤ cz ∧ n ≤ sz) (fun t v L k n a b c d => ⟨v, L, k, n, rfl, a, b, c, d⟩)
  exact ⟨t, _, h1, h2, h3, v, L, rfl, hq, hf.1, hf.2.1, hf.2.2.mono hk hn⟩
theorem own_ret (X : Stand p l e R s m args below meth c T locs cells slots) (hx : p.tables.exec = Jvm.exec) (hlk : meth.locks = false) {w : Value} {t : FieldType} {i : Instr} (hret : meth.sig.returnType = some t) (hn : narrow t w = w)
    (hi : (i = .ireturn ∧ (t = .int ∨ t = .boolean ∨ t = .byte ∨ t = .char ∨ t = .short) ∧ ∃ z, w = .int z) ∨ (i = .lreturn ∧ t = .long ∧ ∃ z, w = .long z) ∨ (i = .dreturn ∧ t = .double ∧ ∃ z, w = .double z) ∨ (i = .freturn ∧ t = .float ∧ ∃ z, w = .float z) ∨ (i = .areturn ∧ t.isReference = true ∧ w.isRef = true))
    (hd : decode c.code pc = .ok (i, 1)) (K : ∀ t : State, t.heap = T.heap → FrameEnd s (.returned (some w)) t locs cells slots → F t (.returned (some w))) : own_Go p e below F (T.setTop (mkF m pc Ls (w :: st))) := by
  obtain ⟨fs, hr, hrun, hended, hW, hsame⟩ := X.leave (v := some w) (fun h => by rw [hret] at h; cases h) hlk
  exact ⟨_, _, retOut X hx hret hn hi hd hr, hrun, hended, K _ rfl ⟨⟨_, rfl⟩, hW, hsame⟩⟩
theorem own_retI (X : Stand p l e R s m args below meth c T locs cells slots) (hx : p.tables.exec = Jvm.exec) (hlk : meth.locks = false) {z : Int32} (hret : meth.sig.returnType = some .int) (hd : decode c.code pc = .ok (.ireturn, 1)) (K : ∀ t : State, t.heap = T.heap → FrameEnd s (.returned (some (.int z))) t locs cells slots → F t (.returned (some (.int z)))) : own_Go p e below F (T.setTop (mkF m pc Ls (.int z :: st))) :=
  own_ret X hx hlk hret rfl (Or.inl ⟨rfl, Or.inl rfl, _, rfl⟩) hd K
theorem own_retZ (X : Stand p l e R s m args below meth c T locs cells slots) (hx : p.tables.exec = Jvm.exec) (hlk : meth.locks = false) {z : Int32} (hz : z = 0 ∨ z = 1) (hret : meth.sig.returnType = some .boolean) (hd : decode c.code pc = .ok (.ireturn, 1)) (K : ∀ t : State, t.heap = T.heap → FrameEnd s (.returned (some (.int z))) t locs cells slots → F t (.returned (some (.int z)))) : own_Go p e below F (T.setTop (mkF m pc Ls (.int z :: st))) :=
  own_ret X hx hlk hret (by rcases hz with rfl | rfl <;> rfl) (Or.inl ⟨rfl, Or.inr (Or.inl rfl), _, rfl⟩) hd K
theorem own_retC (X : Stand p l e R s m args below meth c T locs cells slots) (hx : p.tables.exec = Jvm.exec) (hlk : meth.locks = false) {z : Int32} (hz : narrow .char (.int z) = .int z) (hret : meth.sig.returnType = some .char) (hd : decode c.code pc = .ok (.ireturn, 1)) (K : ∀ t : State, t.heap = T.heap → FrameEnd s (.returned (some (.int z))) t locs cells slots → F t (.returned (some (.int z)))) : own_Go p e below F (T.setTop (mkF m pc Ls (.int z :: st))) :=
  own_ret X hx hlk hret hz (Or.inl ⟨rfl, Or.inr (Or.inr (Or.inr (Or.inl rfl))), _, rfl⟩) hd K
theorem own_retA (X : Stand p l e R s m args below meth c T locs cells slots) (hx : p.tables.exec = Jvm.exec) (hlk : meth.locks = false) {w : Value} {t : FieldType} (hret : meth.sig.returnType = some t) (ht : t.isReference = true) (hw : w.isRef = true) (hd : decode c.code pc = .ok (.areturn, 1)) (K : ∀ t : State, t.heap = T.heap → FrameEnd s (.returned (some w)) t locs cells slots → F t (.returned (some w))) : own_Go p e below F (T.setTop (mkF m pc Ls (w :: st))) :=
  own_ret X hx hlk hret (by rcases ref_cases hw with rfl | ⟨a, rfl⟩ <;> cases t <;> first | rfl | (cases ht; done)) (Or.inr (Or.inr (Or.inr (Or.inr ⟨rfl, ht, hw⟩)))) hd K
theorem own_retV (X : Stand p l e R s m args below meth c T locs cells slots) (hx : p.tables.exec = Jvm.exec) (hlk : meth.locks = false) (hret : meth.sig.returnType = none) (hd : decode c.code pc = .ok (.return_, 1)) (K : ∀ t : State, t.heap = T.heap → FrameEnd s (.returned none) t locs cells slots → F t (.returned none)) : own_Go p e below F (T.setTop (mkF m pc Ls [])) := by
  obtain ⟨fs, hr, hrun, hended, hW, hsame⟩ := X.leave (v := none) (fun _ => rfl) hlk
  exact ⟨_, _, X.returnOut hx hret hd hr, hrun, hended, K _ rfl ⟨⟨_, rfl⟩, hW, hsame⟩⟩
end OwnEnd
end Jvm.Pilot.@@N@@
namespace Jvm.Pilot.@@N@@
open Jvm Jvm.ClassFile Sem Op Lib Jvm.Free Jvm.Stand Jvm.LawKit Jvm.RoadKit Bundle Jvm.Pilot.@@N@@.Jvm.D
/-- a narrow contract, from its walk -/
theorem own_walkN {l : Launch} {y : MethodName} {bytes : ByteArray} {maxL : Nat} {ret : Option FieldType} {ws : List Jvm.Cond} {rm : Room} {Z : State} {as' : Array Value} {h : Heap} {Q : Option Value → Heap → List Loc → Prop} (hpl : plainName y.cls = true)
    (K : ∀ (p : Program) (e : Env) (s : State) (m : MethodId) (below : List Frame) (meth : Method) (c : Code) (T : State), Stand p l e rm s m as' below meth c T [] 0 0 → p.tables.exec = Jvm.exec → c.code = bytes → c.maxLocals = maxL → meth.sig.returnType = ret → meth.locks = false → meth.name = y.name → s.vm.findClass y.cls = some m.cls → Z.Warmed39 s.vm → T.heap = h → s.heap = h →
      ∀ F : State → Outcome → Prop, (∀ (t : State) (v : Option Value) (L : List Loc) (k n : Nat), Q v t.heap L → FrameEnd s (.returned v) t L k n → k ≤ rm.cells → n ≤ rm.slots → F t (.returned v)) → own_Go p e below F (T.setTop (entryFrame m as' maxL))) :
    MetFree l y (head1 (Jvm.Cond.code y bytes maxL ret :: ws) rm) (fun a U => a = as' ∧ Z.Warmed39 U.vm ∧ U.heap = h) (fun _ _ _ _ _ => True) (fun _ U o U' => ∃ v L, o = .returned v ∧ Q v U'.heap L ∧ FrameEnd U o U' L rm.cells rm.slots) := by
  refine MetFree.of_bodySF (plainFor_of_name hpl) hisR ?_
  intro p e s m args below meth c s₁ Bd hml0 hP hK
  obtain ⟨rfl, hZ, hh⟩ := hP
  exact own_enter (fun F hF => K p e s m below meth c s₁ (Stand.of_body Bd) Bd.exec Bd.bytes hml0 Bd.returns (BodyLoose.notSynchronized Bd) (name_of_methodNamed Bd.named Bd.method).1 (findClass_of_methodNamed Bd.named) hZ (by rw [← hh, Bd.state]; rfl) hh F hF)
end Jvm.Pilot.@@N@@
namespace Jvm.Pilot.@@N@@
open Jvm Jvm.ClassFile Sem Op Lib Jvm.Free Jvm.Stand Jvm.LawKit Jvm.RoadKit Bundle Jvm.Pilot.@@N@@.Jvm.D
/-- getstatic through a nest-mate's entry -/
theorem own_getSN {p : Program} {l : Launch} {e : Env} {R : Room} {s : State} {m : MethodId} {args : Array Value} {below : List Frame} {meth : Method} {c : Code} {T : State} {locs : List Loc} {cells slots : Nat} {Z : State} {a0 : Array Value} {h : Heap}
    (X : Stand p l e R s m args below meth c T locs cells slots) (hx : p.tables.exec = Jvm.exec) (hZ : Z.Warmed39 s.vm) {own O n d host : String} {index : Nat} (hown : s.vm.findClass own = some m.cls) (w : (Jvm.Cond.fieldLinkNest own index O n d host).before a0 Z = true)
    (eT : T.heap = h) {v : Value} (F : Sta Z h O n d v) {g : JFrame} (hg : g.method = m) (hd : decode c.code g.pc = .ok (.getstatic index, 3)) : ∃ T', Stand p l e R s m args below meth c T' locs cells slots ∧ T'.heap = h ∧ ∀ target, Steps p.tables e below (T'.setTop { g with pc := g.pc + 3, stack := v :: g.stack }) target → Steps p.tables e below (T.setTop g) target := by
  obtain ⟨cf, i, k, f, st, cell, h1, h2, h3, h4, h5, h6, h7⟩ := F
  obtain ⟨k', hi, ek⟩ := State.fieldFound?_setVm (s := Z) hZ.alike h1
  obtain ⟨vm', X', stp⟩ := X.getstaticNest hx hown (mvN hZ w) hi h2 (by rw [ek]; exact h3) (a₁ := st) (by rw [ek]; exact h4) (by rw [eT]; exact h5) (fun q => by rw [q] at h6; cases h6) h7 hg hd
  exact ⟨_, X', eT, stp⟩
end Jvm.Pilot.@@N@@
namespace Jvm.Pilot.@@N@@
open Jvm Jvm.ClassFile Sem Op Lib Jvm.Free Jvm.Stand Jvm.LawKit Jvm.RoadKit Bundle Jvm.Pilot.@@N@@.Jvm.D
theorem own_fldnull {Z : State} {args : Array Value} {t : Term} {C n d : String} {a : Addr} (ev : t.eval args Z none [] Z = some (.ref a)) (h : (Jvm.Cond.eq (.field t C n d) .null).value args Z none Z [] = some true) : Fld Z Z.heap a C n d .null := by
  cases hf : Z.fieldOf? a C n d with
  | none => simp [Cond.value, Term.eval, ev, hf] at h
  | some v =>
    cases v <;> simp [Cond.value, Term.eval, ev, hf] at h
    exact Fld.start hf
end Jvm.Pilot.@@N@@
namespace Jvm.Pilot.@@N@@
open Jvm Jvm.ClassFile Sem Op Lib Jvm.Free Jvm.Stand Jvm.LawKit Jvm.RoadKit Bundle Jvm.Pilot.@@N@@.Jvm.D
theorem d0_0 : decode prog_36_method_5_code 0 = .ok (.dload_n 0, 1) := by decide +kernel
theorem d0_1 : decode prog_36_method_5_code 1 = .ok (.dload_n 2, 1) := by decide +kernel
theorem d0_2 : decode prog_36_method_5_code 2 = .ok (.dcmp .g, 1) := by decide +kernel
theorem d0_3 : decode prog_36_method_5_code 3 = .ok (.ifCond .ge 11, 3) := by decide +kernel
theorem d0_6 : decode prog_36_method_5_code 6 = .ok (.getstatic 3, 3) := by decide +kernel
theorem d0_9 : decode prog_36_method_5_code 9 = .ok (.astore 4, 2) := by decide +kernel
theorem d0_11 : decode prog_36_method_5_code 11 = .ok (.goto 36, 3) := by decide +kernel
theorem d0_14 : decode prog_36_method_5_code 14 = .ok (.dload_n 0, 1) := by decide +kernel
theorem d0_15 : decode prog_36_method_5_code 15 = .ok (.dload_n 2, 1) := by decide +kernel
theorem d0_16 : decode prog_36_method_5_code 16 = .ok (.dcmp .l, 1) := by decide +kernel
theorem d0_17 : decode prog_36_method_5_code 17 = .ok (.ifCond .le 11, 3) := by decide +kernel
theorem d0_20 : decode prog_36_method_5_code 20 = .ok (.getstatic 10, 3) := by decide +kernel
theorem d0_23 : decode prog_36_method_5_code 23 = .ok (.astore 4, 2) := by decide +kernel
theorem d0_25 : decode prog_36_method_5_code 25 = .ok (.goto 22, 3) := by decide +kernel
theorem d0_28 : decode prog_36_method_5_code 28 = .ok (.dload_n 0, 1) := by decide +kernel
theorem d0_29 : decode prog_36_method_5_code 29 = .ok (.dload_n 2, 1) := by decide +kernel
theorem d0_30 : decode prog_36_method_5_code 30 = .ok (.dcmp .l, 1) := by decide +kernel
theorem d0_31 : decode prog_36_method_5_code 31 = .ok (.ifCond .ne 11, 3) := by decide +kernel
theorem d0_34 : decode prog_36_method_5_code 34 = .ok (.getstatic 7, 3) := by decide +kernel
theorem d0_37 : decode prog_36_method_5_code 37 = .ok (.astore 4, 2) := by decide +kernel
theorem d0_39 : decode prog_36_method_5_code 39 = .ok (.goto 8, 3) := by decide +kernel
theorem d0_42 : decode prog_36_method_5_code 42 = .ok (.getstatic 13, 3) := by decide +kernel
theorem d0_45 : decode prog_36_method_5_code 45 = .ok (.astore 4, 2) := by decide +kernel
theorem d0_47 : decode prog_36_method_5_code 47 = .ok (.aload 4, 2) := by decide +kernel
theorem d0_49 : decode prog_36_method_5_code 49 = .ok (.areturn, 1) := by decide +kernel
theorem pnO : plainName "com/example/graphloom/graphloom/eval/Order" = true := by first | (simp [plainName, overriddenIn]; done) | decide +kernel
theorem pnL : plainName "com/example/graphloom/graphloom/eval/OrderOfPinLaw" = true := by first | (simp [plainName, overriddenIn]; done) | decide +kernel
theorem pdO : parseMethodDescriptor "(DD)Lcom/example/graphloom/graphloom/eval/Order;" = some ⟨[.double, .double], some (.object "com/example/graphloom/graphloom/eval/Order")⟩ := by decide +kernel
theorem own_cmpd {la lb : Int64} {x y : UInt64} (hx : FP.Core.DInt la.toInt x) (hy : FP.Core.DInt lb.toInt y) (o : CmpOp) : cmpValue (FP.dcmp x y) o = XT.cmpL la lb := by
  rw [show FP.dcmp x y = some (compare la.toInt lb.toInt) from FP.Core.dcmp_int hx hy]
  unfold XT.cmpL
  rcases Int.lt_trichotomy la.toInt lb.toInt with q | q | q
  · rw [show compare la.toInt lb.toInt = .lt from by simp [compare, compareOfLessAndEq, q], if_neg (by rw [Int64.lt_iff_toInt_lt]; omega), if_neg (fun z => by rw [z] at q; omega)]; rfl
  · rw [q, if_neg (by rw [Int64.lt_iff_toInt_lt]; omega), if_pos (Int64.toInt_inj.mp q)]; simp [compare, compareOfLessAndEq]; rfl
  · rw [show compare la.toInt lb.toInt = .gt from by simp only [compare, compareOfLessAndEq]; rw [if_neg (by omega), if_neg (by omega)], if_pos (by rw [Int64.lt_iff_toInt_lt]; omega)]; rfl
theorem own_i64 (a : Int32) : a.toInt64.toInt = a.toInt := by simp
theorem own_n64 (a : Int32) : (-a.toInt64).toInt = -a.toInt := by
  have h1 := a.toInt_lt; have h2 := a.le_toInt
  rw [Int64.toInt_neg, own_i64]; exact Int.bmod_eq_of_le (by omega) (by omega)
theorem own_neg (a : Int32) : FP.Core.DInt (-a.toInt) (FP.dneg (FP.i2d a)) := by
  rw [FP.dneg_core (FP.Core.i2d_fin a).notNaN]; exact FP.Core.dneg_int (FP.Core.i2d_int a)
theorem ef0 (m : MethodId) (x0 : UInt64) (x1 : UInt64) : entryFrame m #[(.double x0), (.double x1)] 5 = mkF m 0 #[.val (.double x0), .second, .val (.double x1), .second, .unset] [] := by first | (simp [entryFrame, mkF, argsToLocals, Value.category]; done) | rfl
def own_pick (aL aG aE : Addr) (r : Int32) : Addr := if r < 0 then aL else if 0 < r then aG else aE
def Q_rmO (Z : State) (x y : UInt64) (r : Int32) (aL aG aE : Addr) (h0 : Heap) (n0 : Nat) (v : Option Value) (h : Heap) (L : List Loc) : Prop := v = some (.ref (own_pick aL aG aE r)) ∧ Fr n0 L ∧ h = h0
set_option maxRecDepth 65536 in
set_option maxHeartbeats 40000000 in
theorem rmO (l : Launch) (Z : State) (a0 : Array Value) (hw : ∀ d ∈ tables_1, d.before a0 Z = true) (x y : UInt64) (r : Int32) (aL aG aE : Addr) (h0 : Heap) (n0 : Nat) (hr : ∀ o, cmpValue (FP.dcmp x y) o = r) (SL : Sta Z h0 "com/example/graphloom/graphloom/eval/Order" "LESS" "Lcom/example/graphloom/graphloom/eval/Order;" (.ref aL)) (SG : Sta Z h0 "com/example/graphloom/graphloom/eval/Order" "GREATER" "Lcom/example/graphloom/graphloom/eval/Order;" (.ref aG)) (SE : Sta Z h0 "com/example/graphloom/graphloom/eval/Order" "EQUAL" "Lcom/example/graphloom/graphloom/eval/Order;" (.ref aE)) :
    MetFree l (⟨"com/example/graphloom/graphloom/eval/Order", "of", "(DD)Lcom/example/graphloom/graphloom/eval/Order;"⟩ : MethodName) (head1 (Jvm.Cond.code (⟨"com/example/graphloom/graphloom/eval/Order", "of", "(DD)Lcom/example/graphloom/graphloom/eval/Order;"⟩ : MethodName) prog_36_method_5_code 5 (some (.object "com/example/graphloom/graphloom/eval/Order")) :: []) ({ frames := 0, cells := 0, slots := 0, locals := 0 } : Room)) (fun aa U => aa = #[(.double x), (.double y)] ∧ Z.Warmed39 U.vm ∧ U.heap = h0) (fun _ _ _ _ _ => True) (fun _ U o U' => ∃ v L, o = .returned v ∧ (Q_rmO Z x y r aL aG aE h0 n0) v U'.heap L ∧ FrameEnd U o U' L ({ frames := 0, cells := 0, slots := 0, locals := 0 } : Room).cells ({ frames := 0, cells := 0, slots := 0, locals := 0 } : Room).slots) := by
  refine own_walkN (by exact pnO) ?_
  intro p e s m below meth c T0 X0 hx hby hml hret hlk hnm hown hZ e0 es0 F hF
  refine own_on (fun _ => castTop (ef0 m x y)) ?_
  refine own_dload_n X0.here hx (hb hby d0_0) rfl (pc' := 1) rfl ?_
  refine own_dload_n X0.here hx (hb hby d0_1) rfl (pc' := 2) rfl ?_
  refine own_dcmp X0.here hx (hb hby d0_2) (hr _) (pc' := 3) rfl ?_
  refine own_ifge X0.here hx (hb hby d0_3) (by decide) (pc' := 14) (by decide) (pc2 := 6) rfl (fun q1 => ?_) (fun q1 => ?_)
  · refine own_dload_n X0.here hx (hb hby d0_14) rfl (pc' := 15) rfl ?_
    refine own_dload_n X0.here hx (hb hby d0_15) rfl (pc' := 16) rfl ?_
    refine own_dcmp X0.here hx (hb hby d0_16) (hr _) (pc' := 17) rfl ?_
    refine own_ifle X0.here hx (hb hby d0_17) (by decide) (pc' := 28) (by decide) (pc2 := 20) rfl (fun q2 => ?_) (fun q2 => ?_)
    · refine own_dload_n X0.here hx (hb hby d0_28) rfl (pc' := 29) rfl ?_
      refine own_dload_n X0.here hx (hb hby d0_29) rfl (pc' := 30) rfl ?_
      refine own_dcmp X0.here hx (hb hby d0_30) (hr _) (pc' := 31) rfl ?_
      refine own_ifne X0.here hx (hb hby d0_31) (by decide) (pc' := 42) (by decide) (pc2 := 34) rfl (fun q3 => ?_) (fun q3 => ?_)
      · exact absurd (Int32.le_antisymm (Int32.not_lt.mp q2) (Int32.not_lt.mp q1)) q3
      · obtain ⟨T3, X3, e3, st3⟩ := getS (host := "") X0 hx hZ hown (hw _ (List.mem_of_getElem? (i := 9) rfl)) Via.refl e0 SE (g := (mkF m 34 #[.val (.double x), .second, .val (.double y), .second, .unset] [])) rfl (hb hby d0_34)
        refine own_on st3 ?_
        show own_Go p e below F (T3.setTop (mkF m 37 #[.val (.double x), .second, .val (.double y), .second, .unset] [(.ref aE)]))
        refine own_astore X3.here hx (hb hby d0_37) rfl (L' := #[.val (.double x), .second, .val (.double y), .second, .val (.ref aE)]) rfl (pc' := 39) rfl ?_
        refine own_goto X3.here hx (hb hby d0_39) (by decide) (pc' := 47) (by decide) ?_
        refine own_aload X3.here hx (hb hby d0_47) rfl rfl (pc' := 49) rfl ?_
        exact own_retA X3 hx hlk hret rfl rfl (hb hby d0_49) (fun t ht hE => hF t _ _ _ _ ⟨by simp [own_pick, q1, q2], Fr.nil n0, ht.trans e3⟩ hE (by decide) (by decide))
    · obtain ⟨T2, X2, e2, st2⟩ := getS (host := "") X0 hx hZ hown (hw _ (List.mem_of_getElem? (i := 6) rfl)) Via.refl e0 SG (g := (mkF m 20 #[.val (.double x), .second, .val (.double y), .second, .unset] [])) rfl (hb hby d0_20)
      refine own_on st2 ?_
      show own_Go p e below F (T2.setTop (mkF m 23 #[.val (.double x), .second, .val (.double y), .second, .unset] [(.ref aG)]))
      refine own_astore X2.here hx (hb hby d0_23) rfl (L' := #[.val (.double x), .second, .val (.double y), .second, .val (.ref aG)]) rfl (pc' := 25) rfl ?_
      refine own_goto X2.here hx (hb hby d0_25) (by decide) (pc' := 47) (by decide) ?_
      refine own_aload X2.here hx (hb hby d0_47) rfl rfl (pc' := 49) rfl ?_
      exact own_retA X2 hx hlk hret rfl rfl (hb hby d0_49) (fun t ht hE => hF t _ _ _ _ ⟨by simp [own_pick, q1, q2], Fr.nil n0, ht.trans e2⟩ hE (by decide) (by decide))
  · obtain ⟨T1, X1, e1, st1⟩ := getS (host := "") X0 hx hZ hown (hw _ (List.mem_of_getElem? (i := 12) rfl)) Via.refl e0 SL (g := (mkF m 6 #[.val (.double x), .second, .val (.double y), .second, .unset] [])) rfl (hb hby d0_6)
    refine own_on st1 ?_
    show own_Go p e below F (T1.setTop (mkF m 9 #[.val (.double x), .second, .val (.double y), .second, .unset] [(.ref aL)]))
    refine own_astore X1.here hx (hb hby d0_9) rfl (L' := #[.val (.double x), .second, .val (.double y), .second, .val (.ref aL)]) rfl (pc' := 11) rfl ?_
    refine own_goto X1.here hx (hb hby d0_11) (by decide) (pc' := 47) (by decide) ?_
    refine own_aload X1.here hx (hb hby d0_47) rfl rfl (pc' := 49) rfl ?_
    exact own_retA X1 hx hlk hret rfl rfl (hb hby d0_49) (fun t ht hE => hF t _ _ _ _ ⟨by simp [own_pick, q1], Fr.nil n0, ht.trans e1⟩ hE (by decide) (by decide))
theorem ef1 (m : MethodId) (x0 : Int32) (x1 : Int32) (x2 : Int32) : entryFrame m #[(.int x0), (.int x1), (.int x2)] 16 = mkF m 0 #[.val (.int x0), .val (.int x1), .val (.int x2), .unset, .unset, .unset, .unset, .unset, .unset, .unset, .unset, .unset, .unset, .unset, .unset, .unset] [] := by first | (simp [entryFrame, mkF, argsToLocals, Value.category]; done) | rfl
def Q_rm1 (Z : State) (a b fl : Int32) (aL aG aE : Addr) (h0 : Heap) (n0 : Nat) (v : Option Value) (h : Heap) (L : List Loc) : Prop := v = some (.int 1) ∧ Fr n0 L
set_option maxRecDepth 65536 in
set_option maxHeartbeats 40000000 in
theorem rm1 (l : Launch) (Z : State) (a0 : Array Value) (hw : ∀ d ∈ tables_1, d.before a0 Z = true) (a b fl : Int32) (aL aG aE : Addr) (h0 : Heap) (n0 : Nat) (SL : Sta Z h0 "com/example/graphloom/graphloom/eval/Order" "LESS" "Lcom/example/graphloom/graphloom/eval/Order;" (.ref aL)) (SG : Sta Z h0 "com/example/graphloom/graphloom/eval/Order" "GREATER" "Lcom/example/graphloom/graphloom/eval/Order;" (.ref aG)) (SE : Sta Z h0 "com/example/graphloom/graphloom/eval/Order" "EQUAL" "Lcom/example/graphloom/graphloom/eval/Order;" (.ref aE)) :
    MetFree l x (head1 (Jvm.Cond.code x code maxLocals ret :: tables_1) room_1) (fun aa U => aa = #[(.int a), (.int b), (.int fl)] ∧ Z.Warmed39 U.vm ∧ U.heap = h0) (fun _ _ _ _ _ => True) (fun _ U o U' => ∃ v L, o = .returned v ∧ (Q_rm1 Z a b fl aL aG aE h0 n0) v U'.heap L ∧ FrameEnd U o U' L room_1.cells room_1.slots) := by
  refine own_walkN (by exact pnL) ?_
  intro p e s m below meth c T0 X0 hx hby hml hret hlk hnm hown hZ e0 es0 F hF
  have J112 : ∀ (z3 z4 z5 bb : Int32) (la lb : Int64) (xx yy : UInt64), FP.Core.DInt la.toInt xx → FP.Core.DInt lb.toInt yy → own_Go p e below F (T0.setTop (mkF m 112 #[.val (.int a), .val (.int b), .val (.int fl), .val (.int z3), .val (.int z4), .val (.int z5), .val (.int bb), .val (.long la), .second, .val (.long lb), .second, .val (.double xx), .second, .val (.double yy), .second, .unset] [])) := by
    intro z3 z4 z5 bb la lb xx yy hx1 hy1
    refine own_lload X0.here hx (hb hby at_112) rfl (pc' := 114) rfl ?_
    refine own_lload X0.here hx (hb hby at_114) rfl (pc' := 116) rfl ?_
    refine own_lcmp X0.here hx (hb hby at_116) (pc' := 117) rfl ?_
    refine own_ifge X0.here hx (hb hby at_117) (by decide) (pc' := 128) (by decide) (pc2 := 120) rfl (fun q1 => ?_) (fun q1 => ?_)
    · refine own_lload X0.here hx (hb hby at_128) rfl (pc' := 130) rfl ?_
      refine own_lload X0.here hx (hb hby at_130) rfl (pc' := 132) rfl ?_
      refine own_lcmp X0.here hx (hb hby at_132) (pc' := 133) rfl ?_
      refine own_ifle X0.here hx (hb hby at_133) (by decide) (pc' := 144) (by decide) (pc2 := 136) rfl (fun q2 => ?_) (fun q2 => ?_)
      · obtain ⟨T5, X5, e5, st5⟩ := getS (host := "") X0 hx hZ hown (hw _ (List.mem_of_getElem? (i := 7) rfl)) Via.refl e0 SE (g := (mkF m 144 #[.val (.int a), .val (.int b), .val (.int fl), .val (.int z3), .val (.int z4), .val (.int z5), .val (.int bb), .val (.long la), .second, .val (.long lb), .second, .val (.double xx), .second, .val (.double yy), .second, .unset] [])) rfl (hb hby at_144)
        refine own_on st5 ?_
        show own_Go p e below F (T5.setTop (mkF m 147 #[.val (.int a), .val (.int b), .val (.int fl), .val (.int z3), .val (.int z4), .val (.int z5), .val (.int bb), .val (.long la), .second, .val (.long lb), .second, .val (.double xx), .second, .val (.double yy), .second, .unset] [(.ref aE)]))
        refine own_astore X5.here hx (hb hby at_147) rfl (L' := #[.val (.int a), .val (.int b), .val (.int fl), .val (.int z3), .val (.int z4), .val (.int z5), .val (.int bb), .val (.long la), .second, .val (.long lb), .second, .val (.double xx), .second, .val (.double yy), .second, .val (.ref aE)]) rfl (pc' := 149) rfl ?_
        refine own_dload X5.here hx (hb hby at_149) rfl (pc' := 151) rfl ?_
        refine own_dload X5.here hx (hb hby at_151) rfl (pc' := 153) rfl ?_
        obtain ⟨_, _, ⟨T6, L6, k6, n6⟩, -, X6, ⟨Lc6, hQ6, l6, y6, z6⟩, st6⟩ := Jvm.LawKit.callS X5 hx (y := (⟨"com/example/graphloom/graphloom/eval/Order", "of", "(DD)Lcom/example/graphloom/graphloom/eval/Order;"⟩ : MethodName)) hown (mvT hZ (hw _ (List.mem_of_getElem? (i := 3) rfl))) (mvT hZ (hw _ (List.mem_of_getElem? (i := 4) rfl))) (mvT hZ (hw _ (List.mem_of_getElem? (i := 1) rfl))) (mvT hZ (hw _ (List.mem_of_getElem? (i := 5) rfl))) (by decide) (backOf (W := 0) (rmO l Z a0 hw xx yy (XT.cmpL la lb) aL aG aE h0 n0 (own_cmpd hx1 hy1) SL SG SE) hZ (hw _ (List.mem_of_getElem? (i := 5) rfl)) (hw _ (List.mem_of_getElem? (i := 1) rfl)) (by decide) (by decide)) (g := (mkF m 153 #[.val (.int a), .val (.int b), .val (.int fl), .val (.int z3), .val (.int z4), .val (.int z5), .val (.int bb), .val (.long la), .second, .val (.long lb), .second, .val (.double xx), .second, .val (.double yy), .second, .val (.ref aE)] [(.double yy), (.double xx)])) rfl (by rw [hml]; rfl) (argsL := [(.double xx), (.double yy)]) (rest := []) (lenOf pdO rfl) rfl (by show 2 * 0 + _ ≤ _; exact Nat.le_of_eq rfl) (hb hby at_153) (fun _ _ => ⟨rfl, e5, (Nat.le_of_ble_eq_true rfl), (Nat.le_of_ble_eq_true rfl)⟩)
        dsimp only [Pt.U, Pt.locs, Pt.cells, Pt.slots] at X6 l6 y6 z6 st6 hQ6
        subst l6 y6 z6
        obtain ⟨rfl, N6, E6⟩ := hQ6
        refine own_on st6 ?_
        show own_Go p e below F (T6.setTop (mkF m 156 #[.val (.int a), .val (.int b), .val (.int fl), .val (.int z3), .val (.int z4), .val (.int z5), .val (.int bb), .val (.long la), .second, .val (.long lb), .second, .val (.double xx), .second, .val (.double yy), .second, .val (.ref aE)] [(.ref (own_pick aL aG aE (XT.cmpL la lb)))]))
        refine own_aload X6.here hx (hb hby at_156) rfl rfl (pc' := 158) rfl ?_
        refine own_acmpne X6.here hx rfl rfl (hb hby at_158) (by decide) (pc' := 165) (by decide) (pc2 := 161) rfl (fun qq => ?_) (fun qq => ?_)
        · exact absurd (by simp [own_pick, q1, q2]) qq
        · refine own_iconst X6.here hx (hb hby at_161) (v := 1) rfl (pc' := 162) rfl ?_
          refine own_goto X6.here hx (hb hby at_162) (by decide) (pc' := 166) (by decide) ?_
          exact own_retZ X6 hx hlk (Or.inr rfl) hret (hb hby at_166) (fun t ht hE => hF t _ _ _ _ ⟨rfl, Fr.app (Fr.nil n0) N6⟩ hE (by decide) (by decide))
      · obtain ⟨T3, X3, e3, st3⟩ := getS (host := "") X0 hx hZ hown (hw _ (List.mem_of_getElem? (i := 0) rfl)) Via.refl e0 SG (g := (mkF m 136 #[.val (.int a), .val (.int b), .val (.int fl), .val (.int z3), .val (.int z4), .val (.int z5), .val (.int bb), .val (.long la), .second, .val (.long lb), .second, .val (.double xx), .second, .val (.double yy), .second, .unset] [])) rfl (hb hby at_136)
        refine own_on st3 ?_
        show own_Go p e below F (T3.setTop (mkF m 139 #[.val (.int a), .val (.int b), .val (.int fl), .val (.int z3), .val (.int z4), .val (.int z5), .val (.int bb), .val (.long la), .second, .val (.long lb), .second, .val (.double xx), .second, .val (.double yy), .second, .unset] [(.ref aG)]))
        refine own_astore X3.here hx (hb hby at_139) rfl (L' := #[.val (.int a), .val (.int b), .val (.int fl), .val (.int z3), .val (.int z4), .val (.int z5), .val (.int bb), .val (.long la), .second, .val (.long lb), .second, .val (.double xx), .second, .val (.double yy), .second, .val (.ref aG)]) rfl (pc' := 141) rfl ?_
        refine own_goto X3.here hx (hb hby at_141) (by decide) (pc' := 149) (by decide) ?_
        refine own_dload X3.here hx (hb hby at_149) rfl (pc' := 151) rfl ?_
        refine own_dload X3.here hx (hb hby at_151) rfl (pc' := 153) rfl ?_
        obtain ⟨_, _, ⟨T4, L4, k4, n4⟩, -, X4, ⟨Lc4, hQ4, l4, y4, z4⟩, st4⟩ := Jvm.LawKit.callS X3 hx (y := (⟨"com/example/graphloom/graphloom/eval/Order", "of", "(DD)Lcom/example/graphloom/graphloom/eval/Order;"⟩ : MethodName)) hown (mvT hZ (hw _ (List.mem_of_getElem? (i := 3) rfl))) (mvT hZ (hw _ (List.mem_of_getElem? (i := 4) rfl))) (mvT hZ (hw _ (List.mem_of_getElem? (i := 1) rfl))) (mvT hZ (hw _ (List.mem_of_getElem? (i := 5) rfl))) (by decide) (backOf (W := 0) (rmO l Z a0 hw xx yy (XT.cmpL la lb) aL aG aE h0 n0 (own_cmpd hx1 hy1) SL SG SE) hZ (hw _ (List.mem_of_getElem? (i := 5) rfl)) (hw _ (List.mem_of_getElem? (i := 1) rfl)) (by decide) (by decide)) (g := (mkF m 153 #[.val (.int a), .val (.int b), .val (.int fl), .val (.int z3), .val (.int z4), .val (.int z5), .val (.int bb), .val (.long la), .second, .val (.long lb), .second, .val (.double xx), .second, .val (.double yy), .second, .val (.ref aG)] [(.double yy), (.double xx)])) rfl (by rw [hml]; rfl) (argsL := [(.double xx), (.double yy)]) (rest := []) (lenOf pdO rfl) rfl (by show 2 * 0 + _ ≤ _; exact Nat.le_of_eq rfl) (hb hby at_153) (fun _ _ => ⟨rfl, e3, (Nat.le_of_ble_eq_true rfl), (Nat.le_of_ble_eq_true rfl)⟩)
        dsimp only [Pt.U, Pt.locs, Pt.cells, Pt.slots] at X4 l4 y4 z4 st4 hQ4
        subst l4 y4 z4
        obtain ⟨rfl, N4, E4⟩ := hQ4
        refine own_on st4 ?_
        show own_Go p e below F (T4.setTop (mkF m 156 #[.val (.int a), .val (.int b), .val (.int fl), .val (.int z3), .val (.int z4), .val (.int z5), .val (.int bb), .val (.long la), .second, .val (.long lb), .second, .val (.double xx), .second, .val (.double yy), .second, .val (.ref aG)] [(.ref (own_pick aL aG aE (XT.cmpL la lb)))]))
        refine own_aload X4.here hx (hb hby at_156) rfl rfl (pc' := 158) rfl ?_
        refine own_acmpne X4.here hx rfl rfl (hb hby at_158) (by decide) (pc' := 165) (by decide) (pc2 := 161) rfl (fun qq => ?_) (fun qq => ?_)
        · exact absurd (by simp [own_pick, q1, q2]) qq
        · refine own_iconst X4.here hx (hb hby at_161) (v := 1) rfl (pc' := 162) rfl ?_
          refine own_goto X4.here hx (hb hby at_162) (by decide) (pc' := 166) (by decide) ?_
          exact own_retZ X4 hx hlk (Or.inr rfl) hret (hb hby at_166) (fun t ht hE => hF t _ _ _ _ ⟨rfl, Fr.app (Fr.nil n0) N4⟩ hE (by decide) (by decide))
    · obtain ⟨T1, X1, e1, st1⟩ := getS (host := "") X0 hx hZ hown (hw _ (List.mem_of_getElem? (i := 10) rfl)) Via.refl e0 SL (g := (mkF m 120 #[.val (.int a), .val (.int b), .val (.int fl), .val (.int z3), .val (.int z4), .val (.int z5), .val (.int bb), .val (.long la), .second, .val (.long lb), .second, .val (.double xx), .second, .val (.double yy), .second, .unset] [])) rfl (hb hby at_120)
      refine own_on st1 ?_
      show own_Go p e below F (T1.setTop (mkF m 123 #[.val (.int a), .val (.int b), .val (.int fl), .val (.int z3), .val (.int z4), .val (.int z5), .val (.int bb), .val (.long la), .second, .val (.long lb), .second, .val (.double xx), .second, .val (.double yy), .second, .unset] [(.ref aL)]))
      refine own_astore X1.here hx (hb hby at_123) rfl (L' := #[.val (.int a), .val (.int b), .val (.int fl), .val (.int z3), .val (.int z4), .val (.int z5), .val (.int bb), .val (.long la), .second, .val (.long lb), .second, .val (.double xx), .second, .val (.double yy), .second, .val (.ref aL)]) rfl (pc' := 125) rfl ?_
      refine own_goto X1.here hx (hb hby at_125) (by decide) (pc' := 149) (by decide) ?_
      refine own_dload X1.here hx (hb hby at_149) rfl (pc' := 151) rfl ?_
      refine own_dload X1.here hx (hb hby at_151) rfl (pc' := 153) rfl ?_
      obtain ⟨_, _, ⟨T2, L2, k2, n2⟩, -, X2, ⟨Lc2, hQ2, l2, y2, z2⟩, st2⟩ := Jvm.LawKit.callS X1 hx (y := (⟨"com/example/graphloom/graphloom/eval/Order", "of", "(DD)Lcom/example/graphloom/graphloom/eval/Order;"⟩ : MethodName)) hown (mvT hZ (hw _ (List.mem_of_getElem? (i := 3) rfl))) (mvT hZ (hw _ (List.mem_of_getElem? (i := 4) rfl))) (mvT hZ (hw _ (List.mem_of_getElem? (i := 1) rfl))) (mvT hZ (hw _ (List.mem_of_getElem? (i := 5) rfl))) (by decide) (backOf (W := 0) (rmO l Z a0 hw xx yy (XT.cmpL la lb) aL aG aE h0 n0 (own_cmpd hx1 hy1) SL SG SE) hZ (hw _ (List.mem_of_getElem? (i := 5) rfl)) (hw _ (List.mem_of_getElem? (i := 1) rfl)) (by decide) (by decide)) (g := (mkF m 153 #[.val (.int a), .val (.int b), .val (.int fl), .val (.int z3), .val (.int z4), .val (.int z5), .val (.int bb), .val (.long la), .second, .val (.long lb), .second, .val (.double xx), .second, .val (.double yy), .second, .val (.ref aL)] [(.double yy), (.double xx)])) rfl (by rw [hml]; rfl) (argsL := [(.double xx), (.double yy)]) (rest := []) (lenOf pdO rfl) rfl (by show 2 * 0 + _ ≤ _; exact Nat.le_of_eq rfl) (hb hby at_153) (fun _ _ => ⟨rfl, e1, (Nat.le_of_ble_eq_true rfl), (Nat.le_of_ble_eq_true rfl)⟩)
      dsimp only [Pt.U, Pt.locs, Pt.cells, Pt.slots] at X2 l2 y2 z2 st2 hQ2
      subst l2 y2 z2
      obtain ⟨rfl, N2, E2⟩ := hQ2
      refine own_on st2 ?_
      show own_Go p e below F (T2.setTop (mkF m 156 #[.val (.int a), .val (.int b), .val (.int fl), .val (.int z3), .val (.int z4), .val (.int z5), .val (.int bb), .val (.long la), .second, .val (.long lb), .second, .val (.double xx), .second, .val (.double yy), .second, .val (.ref aL)] [(.ref (own_pick aL aG aE (XT.cmpL la lb)))]))
      refine own_aload X2.here hx (hb hby at_156) rfl rfl (pc' := 158) rfl ?_
      refine own_acmpne X2.here hx rfl rfl (hb hby at_158) (by decide) (pc' := 165) (by decide) (pc2 := 161) rfl (fun qq => ?_) (fun qq => ?_)
      · exact absurd (by simp [own_pick, q1]) qq
      · refine own_iconst X2.here hx (hb hby at_161) (v := 1) rfl (pc' := 162) rfl ?_
        refine own_goto X2.here hx (hb hby at_162) (by decide) (pc' := 166) (by decide) ?_
        exact own_retZ X2 hx hlk (Or.inr rfl) hret (hb hby at_166) (fun t ht hE => hF t _ _ _ _ ⟨rfl, Fr.app (Fr.nil n0) N2⟩ hE (by decide) (by decide))
  have J48 : ∀ (z3 z4 z5 bb : Int32), own_Go p e below F (T0.setTop (mkF m 48 #[.val (.int a), .val (.int b), .val (.int fl), .val (.int z3), .val (.int z4), .val (.int z5), .unset, .unset, .unset, .unset, .unset, .unset, .unset, .unset, .unset, .unset] [(.int bb)])) := by
    intro z3 z4 z5 bb
    refine own_istore X0.here hx (hb hby at_48) (L' := #[.val (.int a), .val (.int b), .val (.int fl), .val (.int z3), .val (.int z4), .val (.int z5), .val (.int bb), .unset, .unset, .unset, .unset, .unset, .unset, .unset, .unset, .unset]) rfl (pc' := 50) rfl ?_
    refine own_iload_n X0.here hx (hb hby at_50) rfl (pc' := 51) rfl ?_
    refine own_ifeq X0.here hx (hb hby at_51) (by decide) (pc' := 60) (by decide) (pc2 := 54) rfl (fun q1 => ?_) (fun q1 => ?_)
    · refine own_iload_n X0.here hx (hb hby at_60) rfl (pc' := 61) rfl ?_
      refine own_i2l X0.here hx (hb hby at_61) (pc' := 62) rfl ?_
      refine own_lstore X0.here hx (hb hby at_62) (L' := #[.val (.int a), .val (.int b), .val (.int fl), .val (.int z3), .val (.int z4), .val (.int z5), .val (.int bb), .val (.long a.toInt64), .second, .unset, .unset, .unset, .unset, .unset, .unset, .unset]) rfl (pc' := 64) rfl ?_
      refine own_iload X0.here hx (hb hby at_64) rfl (pc' := 66) rfl ?_
      refine own_ifeq X0.here hx (hb hby at_66) (by decide) (pc' := 76) (by decide) (pc2 := 69) rfl (fun q2 => ?_) (fun q2 => ?_)
      · refine own_iload X0.here hx (hb hby at_76) rfl (pc' := 78) rfl ?_
        refine own_i2l X0.here hx (hb hby at_78) (pc' := 79) rfl ?_
        refine own_lstore X0.here hx (hb hby at_79) (L' := #[.val (.int a), .val (.int b), .val (.int fl), .val (.int z3), .val (.int z4), .val (.int z5), .val (.int bb), .val (.long a.toInt64), .second, .val (.long bb.toInt64), .second, .unset, .unset, .unset, .unset, .unset]) rfl (pc' := 81) rfl ?_
        refine own_iload_n X0.here hx (hb hby at_81) rfl (pc' := 82) rfl ?_
        refine own_ifeq X0.here hx (hb hby at_82) (by decide) (pc' := 91) (by decide) (pc2 := 85) rfl (fun q3 => ?_) (fun q3 => ?_)
        · refine own_iload_n X0.here hx (hb hby at_91) rfl (pc' := 92) rfl ?_
          refine own_i2d X0.here hx (hb hby at_92) (pc' := 93) rfl ?_
          refine own_dstore X0.here hx (hb hby at_93) (L' := #[.val (.int a), .val (.int b), .val (.int fl), .val (.int z3), .val (.int z4), .val (.int z5), .val (.int bb), .val (.long a.toInt64), .second, .val (.long bb.toInt64), .second, .val (.double (FP.i2d a)), .second, .unset, .unset, .unset]) rfl (pc' := 95) rfl ?_
          refine own_iload X0.here hx (hb hby at_95) rfl (pc' := 97) rfl ?_
          refine own_ifeq X0.here hx (hb hby at_97) (by decide) (pc' := 107) (by decide) (pc2 := 100) rfl (fun q4 => ?_) (fun q4 => ?_)
          · refine own_iload X0.here hx (hb hby at_107) rfl (pc' := 109) rfl ?_
            refine own_i2d X0.here hx (hb hby at_109) (pc' := 110) rfl ?_
            refine own_dstore X0.here hx (hb hby at_110) (L' := #[.val (.int a), .val (.int b), .val (.int fl), .val (.int z3), .val (.int z4), .val (.int z5), .val (.int bb), .val (.long a.toInt64), .second, .val (.long bb.toInt64), .second, .val (.double (FP.i2d a)), .second, .val (.double (FP.i2d bb)), .second, .unset]) rfl (pc' := 112) rfl ?_
            exact J112 z3 z4 z5 bb _ _ _ _ (by rw [own_i64]; exact FP.Core.i2d_int a) (by rw [own_i64]; exact FP.Core.i2d_int bb)
          · exact absurd q2 q4
        · exact absurd q1 q3
      · refine own_iload X0.here hx (hb hby at_69) rfl (pc' := 71) rfl ?_
        refine own_i2l X0.here hx (hb hby at_71) (pc' := 72) rfl ?_
        refine own_lneg X0.here hx (hb hby at_72) (pc' := 73) rfl ?_
        refine own_goto X0.here hx (hb hby at_73) (by decide) (pc' := 79) (by decide) ?_
        refine own_lstore X0.here hx (hb hby at_79) (L' := #[.val (.int a), .val (.int b), .val (.int fl), .val (.int z3), .val (.int z4), .val (.int z5), .val (.int bb), .val (.long a.toInt64), .second, .val (.long (-bb.toInt64)), .second, .unset, .unset, .unset, .unset, .unset]) rfl (pc' := 81) rfl ?_
        refine own_iload_n X0.here hx (hb hby at_81) rfl (pc' := 82) rfl ?_
        refine own_ifeq X0.here hx (hb hby at_82) (by decide) (pc' := 91) (by decide) (pc2 := 85) rfl (fun q3 => ?_) (fun q3 => ?_)
        · refine own_iload_n X0.here hx (hb hby at_91) rfl (pc' := 92) rfl ?_
          refine own_i2d X0.here hx (hb hby at_92) (pc' := 93) rfl ?_
          refine own_dstore X0.here hx (hb hby at_93) (L' := #[.val (.int a), .val (.int b), .val (.int fl), .val (.int z3), .val (.int z4), .val (.int z5), .val (.int bb), .val (.long a.toInt64), .second, .val (.long (-bb.toInt64)), .second, .val (.double (FP.i2d a)), .second, .unset, .unset, .unset]) rfl (pc' := 95) rfl ?_
          refine own_iload X0.here hx (hb hby at_95) rfl (pc' := 97) rfl ?_
          refine own_ifeq X0.here hx (hb hby at_97) (by decide) (pc' := 107) (by decide) (pc2 := 100) rfl (fun q4 => ?_) (fun q4 => ?_)
          · exact absurd q4 q2
          · refine own_iload X0.here hx (hb hby at_100) rfl (pc' := 102) rfl ?_
            refine own_i2d X0.here hx (hb hby at_102) (pc' := 103) rfl ?_
            refine own_dneg X0.here hx (hb hby at_103) (pc' := 104) rfl ?_
            refine own_goto X0.here hx (hb hby at_104) (by decide) (pc' := 110) (by decide) ?_
            refine own_dstore X0.here hx (hb hby at_110) (L' := #[.val (.int a), .val (.int b), .val (.int fl), .val (.int z3), .val (.int z4), .val (.int z5), .val (.int bb), .val (.long a.toInt64), .second, .val (.long (-bb.toInt64)), .second, .val (.double (FP.i2d a)), .second, .val (.double (FP.dneg (FP.i2d bb))), .second, .unset]) rfl (pc' := 112) rfl ?_
            exact J112 z3 z4 z5 bb _ _ _ _ (by rw [own_i64]; exact FP.Core.i2d_int a) (by rw [own_n64]; exact own_neg bb)
        · exact absurd q1 q3
    · refine own_iload_n X0.here hx (hb hby at_54) rfl (pc' := 55) rfl ?_
      refine own_i2l X0.here hx (hb hby at_55) (pc' := 56) rfl ?_
      refine own_lneg X0.here hx (hb hby at_56) (pc' := 57) rfl ?_
      refine own_goto X0.here hx (hb hby at_57) (by decide) (pc' := 62) (by decide) ?_
      refine own_lstore X0.here hx (hb hby at_62) (L' := #[.val (.int a), .val (.int b), .val (.int fl), .val (.int z3), .val (.int z4), .val (.int z5), .val (.int bb), .val (.long (-a.toInt64)), .second, .unset, .unset, .unset, .unset, .unset, .unset, .unset]) rfl (pc' := 64) rfl ?_
      refine own_iload X0.here hx (hb hby at_64) rfl (pc' := 66) rfl ?_
      refine own_ifeq X0.here hx (hb hby at_66) (by decide) (pc' := 76) (by decide) (pc2 := 69) rfl (fun q2 => ?_) (fun q2 => ?_)
      · refine own_iload X0.here hx (hb hby at_76) rfl (pc' := 78) rfl ?_
        refine own_i2l X0.here hx (hb hby at_78) (pc' := 79) rfl ?_
        refine own_lstore X0.here hx (hb hby at_79) (L' := #[.val (.int a), .val (.int b), .val (.int fl), .val (.int z3), .val (.int z4), .val (.int z5), .val (.int bb), .val (.long (-a.toInt64)), .second, .val (.long bb.toInt64), .second, .unset, .unset, .unset, .unset, .unset]) rfl (pc' := 81) rfl ?_
        refine own_iload_n X0.here hx (hb hby at_81) rfl (pc' := 82) rfl ?_
        refine own_ifeq X0.here hx (hb hby at_82) (by decide) (pc' := 91) (by decide) (pc2 := 85) rfl (fun q3 => ?_) (fun q3 => ?_)
        · exact absurd q3 q1
        · refine own_iload_n X0.here hx (hb hby at_85) rfl (pc' := 86) rfl ?_
          refine own_i2d X0.here hx (hb hby at_86) (pc' := 87) rfl ?_
          refine own_dneg X0.here hx (hb hby at_87) (pc' := 88) rfl ?_
          refine own_goto X0.here hx (hb hby at_88) (by decide) (pc' := 93) (by decide) ?_
          refine own_dstore X0.here hx (hb hby at_93) (L' := #[.val (.int a), .val (.int b), .val (.int fl), .val (.int z3), .val (.int z4), .val (.int z5), .val (.int bb), .val (.long (-a.toInt64)), .second, .val (.long bb.toInt64), .second, .val (.double (FP.dneg (FP.i2d a))), .second, .unset, .unset, .unset]) rfl (pc' := 95) rfl ?_
          refine own_iload X0.here hx (hb hby at_95) rfl (pc' := 97) rfl ?_
          refine own_ifeq X0.here hx (hb hby at_97) (by decide) (pc' := 107) (by decide) (pc2 := 100) rfl (fun q4 => ?_) (fun q4 => ?_)
          · refine own_iload X0.here hx (hb hby at_107) rfl (pc' := 109) rfl ?_
            refine own_i2d X0.here hx (hb hby at_109) (pc' := 110) rfl ?_
            refine own_dstore X0.here hx (hb hby at_110) (L' := #[.val (.int a), .val (.int b), .val (.int fl), .val (.int z3), .val (.int z4), .val (.int z5), .val (.int bb), .val (.long (-a.toInt64)), .second, .val (.long bb.toInt64), .second, .val (.double (FP.dneg (FP.i2d a))), .second, .val (.double (FP.i2d bb)), .second, .unset]) rfl (pc' := 112) rfl ?_
            exact J112 z3 z4 z5 bb _ _ _ _ (by rw [own_n64]; exact own_neg a) (by rw [own_i64]; exact FP.Core.i2d_int bb)
          · exact absurd q2 q4
      · refine own_iload X0.here hx (hb hby at_69) rfl (pc' := 71) rfl ?_
        refine own_i2l X0.here hx (hb hby at_71) (pc' := 72) rfl ?_
        refine own_lneg X0.here hx (hb hby at_72) (pc' := 73) rfl ?_
        refine own_goto X0.here hx (hb hby at_73) (by decide) (pc' := 79) (by decide) ?_
        refine own_lstore X0.here hx (hb hby at_79) (L' := #[.val (.int a), .val (.int b), .val (.int fl), .val (.int z3), .val (.int z4), .val (.int z5), .val (.int bb), .val (.long (-a.toInt64)), .second, .val (.long (-bb.toInt64)), .second, .unset, .unset, .unset, .unset, .unset]) rfl (pc' := 81) rfl ?_
        refine own_iload_n X0.here hx (hb hby at_81) rfl (pc' := 82) rfl ?_
        refine own_ifeq X0.here hx (hb hby at_82) (by decide) (pc' := 91) (by decide) (pc2 := 85) rfl (fun q3 => ?_) (fun q3 => ?_)
        · exact absurd q3 q1
        · refine own_iload_n X0.here hx (hb hby at_85) rfl (pc' := 86) rfl ?_
          refine own_i2d X0.here hx (hb hby at_86) (pc' := 87) rfl ?_
          refine own_dneg X0.here hx (hb hby at_87) (pc' := 88) rfl ?_
          refine own_goto X0.here hx (hb hby at_88) (by decide) (pc' := 93) (by decide) ?_
          refine own_dstore X0.here hx (hb hby at_93) (L' := #[.val (.int a), .val (.int b), .val (.int fl), .val (.int z3), .val (.int z4), .val (.int z5), .val (.int bb), .val (.long (-a.toInt64)), .second, .val (.long (-bb.toInt64)), .second, .val (.double (FP.dneg (FP.i2d a))), .second, .unset, .unset, .unset]) rfl (pc' := 95) rfl ?_
          refine own_iload X0.here hx (hb hby at_95) rfl (pc' := 97) rfl ?_
          refine own_ifeq X0.here hx (hb hby at_97) (by decide) (pc' := 107) (by decide) (pc2 := 100) rfl (fun q4 => ?_) (fun q4 => ?_)
          · exact absurd q4 q2
          · refine own_iload X0.here hx (hb hby at_100) rfl (pc' := 102) rfl ?_
            refine own_i2d X0.here hx (hb hby at_102) (pc' := 103) rfl ?_
            refine own_dneg X0.here hx (hb hby at_103) (pc' := 104) rfl ?_
            refine own_goto X0.here hx (hb hby at_104) (by decide) (pc' := 110) (by decide) ?_
            refine own_dstore X0.here hx (hb hby at_110) (L' := #[.val (.int a), .val (.int b), .val (.int fl), .val (.int z3), .val (.int z4), .val (.int z5), .val (.int bb), .val (.long (-a.toInt64)), .second, .val (.long (-bb.toInt64)), .second, .val (.double (FP.dneg (FP.i2d a))), .second, .val (.double (FP.dneg (FP.i2d bb))), .second, .unset]) rfl (pc' := 112) rfl ?_
            exact J112 z3 z4 z5 bb _ _ _ _ (by rw [own_n64]; exact own_neg a) (by rw [own_n64]; exact own_neg bb)
  have J36 : ∀ (z3 z4 z5 : Int32), own_Go p e below F (T0.setTop (mkF m 36 #[.val (.int a), .val (.int b), .val (.int fl), .val (.int z3), .val (.int z4), .unset, .unset, .unset, .unset, .unset, .unset, .unset, .unset, .unset, .unset, .unset] [(.int z5)])) := by
    intro z3 z4 z5
    refine own_istore X0.here hx (hb hby at_36) (L' := #[.val (.int a), .val (.int b), .val (.int fl), .val (.int z3), .val (.int z4), .val (.int z5), .unset, .unset, .unset, .unset, .unset, .unset, .unset, .unset, .unset, .unset]) rfl (pc' := 38) rfl ?_
    refine own_iload X0.here hx (hb hby at_38) rfl (pc' := 40) rfl ?_
    refine own_ifeq X0.here hx (hb hby at_40) (by decide) (pc' := 47) (by decide) (pc2 := 43) rfl (fun q0 => ?_) (fun q0 => ?_)
    · refine own_iload_n X0.here hx (hb hby at_47) rfl (pc' := 48) rfl ?_
      exact J48 z3 z4 z5 b
    · refine own_iload_n X0.here hx (hb hby at_43) rfl (pc' := 44) rfl ?_
      refine own_goto X0.here hx (hb hby at_44) (by decide) (pc' := 48) (by decide) ?_
      exact J48 z3 z4 z5 a
  have J23 : ∀ (z3 z4 : Int32), own_Go p e below F (T0.setTop (mkF m 23 #[.val (.int a), .val (.int b), .val (.int fl), .val (.int z3), .unset, .unset, .unset, .unset, .unset, .unset, .unset, .unset, .unset, .unset, .unset, .unset] [(.int z4)])) := by
    intro z3 z4
    refine own_istore X0.here hx (hb hby at_23) (L' := #[.val (.int a), .val (.int b), .val (.int fl), .val (.int z3), .val (.int z4), .unset, .unset, .unset, .unset, .unset, .unset, .unset, .unset, .unset, .unset, .unset]) rfl (pc' := 25) rfl ?_
    refine own_iload_n X0.here hx (hb hby at_25) rfl (pc' := 26) rfl ?_
    refine own_iconst X0.here hx (hb hby at_26) (v := 4) rfl (pc' := 27) rfl ?_
    refine own_iand X0.here hx (hb hby at_27) (pc' := 28) rfl ?_
    refine own_ifeq X0.here hx (hb hby at_28) (by decide) (pc' := 35) (by decide) (pc2 := 31) rfl (fun q0 => ?_) (fun q0 => ?_)
    · refine own_iconst X0.here hx (hb hby at_35) (v := 0) rfl (pc' := 36) rfl ?_
      exact J36 z3 z4 (0 : Int32)
    · refine own_iconst X0.here hx (hb hby at_31) (v := 1) rfl (pc' := 32) rfl ?_
      refine own_goto X0.here hx (hb hby at_32) (by decide) (pc' := 36) (by decide) ?_
      exact J36 z3 z4 (1 : Int32)
  have J11 : ∀ (z3 : Int32), own_Go p e below F (T0.setTop (mkF m 11 #[.val (.int a), .val (.int b), .val (.int fl), .unset, .unset, .unset, .unset, .unset, .unset, .unset, .unset, .unset, .unset, .unset, .unset, .unset] [(.int z3)])) := by
    intro z3
    refine own_istore_n X0.here hx (hb hby at_11) (L' := #[.val (.int a), .val (.int b), .val (.int fl), .val (.int z3), .unset, .unset, .unset, .unset, .unset, .unset, .unset, .unset, .unset, .unset, .unset, .unset]) rfl (pc' := 12) rfl ?_
    refine own_iload_n X0.here hx (hb hby at_12) rfl (pc' := 13) rfl ?_
    refine own_iconst X0.here hx (hb hby at_13) (v := 2) rfl (pc' := 14) rfl ?_
    refine own_iand X0.here hx (hb hby at_14) (pc' := 15) rfl ?_
    refine own_ifeq X0.here hx (hb hby at_15) (by decide) (pc' := 22) (by decide) (pc2 := 18) rfl (fun q0 => ?_) (fun q0 => ?_)
    · refine own_iconst X0.here hx (hb hby at_22) (v := 0) rfl (pc' := 23) rfl ?_
      exact J23 z3 (0 : Int32)
    · refine own_iconst X0.here hx (hb hby at_18) (v := 1) rfl (pc' := 19) rfl ?_
      refine own_goto X0.here hx (hb hby at_19) (by decide) (pc' := 23) (by decide) ?_
      exact J23 z3 (1 : Int32)
  refine own_on (fun _ => castTop (ef1 m a b fl)) ?_
  refine own_iload_n X0.here hx (hb hby at_0) rfl (pc' := 1) rfl ?_
  refine own_iconst X0.here hx (hb hby at_1) (v := 1) rfl (pc' := 2) rfl ?_
  refine own_iand X0.here hx (hb hby at_2) (pc' := 3) rfl ?_
  refine own_ifeq X0.here hx (hb hby at_3) (by decide) (pc' := 10) (by decide) (pc2 := 6) rfl (fun q0 => ?_) (fun q0 => ?_)
  · refine own_iconst X0.here hx (hb hby at_10) (v := 0) rfl (pc' := 11) rfl ?_
    exact J11  (0 : Int32)
  · refine own_iconst X0.here hx (hb hby at_6) (v := 1) rfl (pc' := 7) rfl ?_
    refine own_goto X0.here hx (hb hby at_7) (by decide) (pc' := 11) (by decide) ?_
    exact J11  (1 : Int32)
set_option maxRecDepth 65536 in
set_option maxHeartbeats 40000000 in
theorem comes_1 {Post : Tables → Env → Array Value → State → Outcome → State → Prop} (hpost : ∀ tb e args s v u, (limb_1_1.after args s (.returned v) u = true ∧ limb_1_2.after args s (.returned v) u = true ∧ True) → FrameEnd s (.returned v) u (Jvm.fieldLocs frame_1_writes args s ++ Jvm.arrayLocs frame_1_arrays args s ++ Jvm.staticLocs frame_1_statics s) 0 0 → Post tb e args s (.returned v) u) :
    ArmFor flags0 classFile x code maxLocals ret World_1 tables_1 room_1 Calls_1 rest_1 Pre_1 Post := by
  intro l hfl _ _ p e ha hc hk s m args below hf hA hF happ hP
  obtain ⟨hcalls, hrest, hpre⟩ := hP
  obtain ⟨-, -, -, hnamed, -, -, -, hat⟩ := (Spec.applies_iff hf).mp happ
  obtain ⟨hg, hn⟩ := and_e (Cond.before_iff.mp (show (Jvm.Cond.and given_1 narrow_1).before args s = true from hpre))
  obtain ⟨g1, g2⟩ := and_e hg
  obtain ⟨w0, w1, w2, rfl⟩ : ∃ w0 w1 w2 : Value, args = #[w0, w1, w2] := by
    have hs : args.size = 3 := by simpa [Cond.value, given_1] using g1
    obtain ⟨L⟩ := args
    match L, hs with
    | [w0, w1, w2], _ => exact ⟨w0, w1, w2, rfl⟩
  have hw := fun d (hd : d ∈ tables_1) => atoms_spec (ws := Jvm.Cond.code x code maxLocals ret :: tables_1) hat d (List.mem_cons_of_mem _ hd)
  have hfit : Fit s := fun {y c} hc i hi => by
    obtain ⟨ha, rfl⟩ := Array.getElem?_eq_some_iff.mp hc
    have q := List.all_eq_true.mp ((Array.all_eq_true_iff_forall_mem.mp hF) _ (Array.getElem_mem ha)) i (List.mem_range.mpr hi)
    simpa [Array.getElem?_eq_getElem hi] using q
  obtain ⟨a0, g3⟩ := and_e g2
  obtain ⟨i0, b0⟩ := is_v a0
  obtain rfl : w0 = (.int i0) := Option.some.inj b0
  obtain ⟨a1, g4⟩ := and_e g3
  obtain ⟨i1, b1⟩ := is_v a1
  obtain rfl : w1 = (.int i1) := Option.some.inj b1
  obtain ⟨i2, b2⟩ := is_v g4
  obtain rfl : w2 = (.int i2) := Option.some.inj b2
  obtain ⟨m1, n1⟩ := and_e hn
  obtain ⟨m2, m3⟩ := and_e n1
  obtain ⟨aG, _, _, _, vG, -⟩ := Cond.exactly_spec (Cond.before_iff.mpr m1)
  obtain ⟨aE, _, _, _, vE, -⟩ := Cond.exactly_spec (Cond.before_iff.mpr m2)
  obtain ⟨aL, _, _, _, vL, -⟩ := Cond.exactly_spec (Cond.before_iff.mpr m3)
  obtain ⟨n, o, h1, h2, h3, _, L, rfl, ⟨rfl, N⟩, hq⟩ := rm1 l s _ hw i0 i1 i2 aL aG aE s.heap s.heap.size (Sta.start vL (Or.inr ⟨(hw _ (List.mem_of_getElem? (i := 1) rfl)), (hw _ (List.mem_of_getElem? (i := 11) rfl))⟩)) (Sta.start vG (Or.inr ⟨(hw _ (List.mem_of_getElem? (i := 1) rfl)), (hw _ (List.mem_of_getElem? (i := 2) rfl))⟩)) (Sta.start vE (Or.inr ⟨(hw _ (List.mem_of_getElem? (i := 1) rfl)), (hw _ (List.mem_of_getElem? (i := 8) rfl))⟩)) p e ha hc hk s m _ below hf ((Spec.applies_iff_loose hf).mp happ).1 ⟨rfl, State.Warmed39.refl s, rfl⟩ trivial
  refine ⟨n, _, h1, h2, h3, hpost _ _ _ _ _ _ ⟨Cond.after_iff.mpr rfl, Cond.after_iff.mpr (eq_i res_at (Term.int_eval (1)) rfl), trivial⟩ ⟨hq.1, hq.2.1, hq.2.2.sift fun y hy => Or.inr (N y hy)⟩⟩
theorem main_1_1 : Claimed_1_1 := comes_1 fun _ _ _ _ _ _ h hF => ⟨h.1, hF⟩
theorem main_1_2 : Claimed_1_2 := comes_1 fun _ _ _ _ _ _ h hF => ⟨h.2.1, hF⟩
end Jvm.Pilot.@@N@@
namespace Jvm.Pilot.@@N@@
open Jvm Jvm.ClassFile Sem Op Lib Jvm.Free Jvm.Stand Jvm.Pilot.@@N@@.Jvm.D
/-! MADE BY PROGRAM (witnessworld.py) out of the Statement's table words and the real class files: 12 classes; the members and pool entries that the words name. The judged class is class 1, her method 1. -/
namespace start1
open Jvm.ClassFile
def u (s : String) : CpInfo := .utf8 (stringToUtf16 s)
/-- a pool by its gaps: so many unusable entries, then the entry; so many at the end -/
def gap : Nat → List CpInfo → List CpInfo
  | 0, r => r
  | n + 1, r => .unusable :: gap n r
def poolList (es : List (Nat × CpInfo)) (last : Nat) : List CpInfo := es.foldr (fun e r => gap e.1 (e.2 :: r)) (gap last [])
def pool (es : List (Nat × CpInfo)) (last : Nat) : Array CpInfo := ⟨poolList es last⟩
def fileOf (pool : Array CpInfo) (this : Nat) (attrs : Array Attribute := #[]) (ms : Array MethodInfo := #[]) (fl : Nat := 33) (sup : Nat := 0) (ifs : Array Nat := #[]) (fds : Array FieldInfo := #[]) : ClassFile where
  minorVersion := 0
  majorVersion := 65
  constantPool := pool
  accessFlags := fl
  thisClass := this
  superClass := sup
  interfaces := ifs
  fields := fds
  methods := ms
  attributes := attrs
def plain (name : String) (sup : Option ClassId) : Class where
  name := name
  kind := .ordinary
  loader := none
  accessFlags := 33
  super := sup
  interfaces := #[]
  cf := none
  fields := #[]
  methods := #[]
  instanceTypes := #[]
  staticTypes := #[]
  resolved := #[]
  callSites := []
  init := .initialized
  statics := none
  mirror := none

def pool0 : Array CpInfo := pool [(5, u "<init>"), (0, u "()V"), (1, .class_ 10), (1, u "java/lang/Object")] 113

def k0m0 : Method := { name := "<init>", desc := "()V", sig := { parameters := [], returnType := none }, accessFlags := 1, code := none }
/-- java/lang/Object -/
def k0 : Class := { plain "java/lang/Object" none with
  accessFlags := 33
  interfaces := #[]
  cf := some (fileOf pool0 8 #[] #[{ accessFlags := 1, nameIndex := 5, descriptorIndex := 6, attributes := #[] }] 33 0 #[] #[])
  fields := #[]
  methods := #[k0m0]
  instanceTypes := #[]
  staticTypes := #[]
  resolved := Array.replicate 124 none
  statics := none }

def pool1 : Array CpInfo := pool [(2, .class_ 4), (1, u "java/lang/Object"), (0, u "<init>"), (0, u "()V"), (0, .fieldref 8 9), (0, .class_ 10), (0, .nameAndType 11 12), (0, u "com/example/graphloom/graphloom/eval/Order"), (0, u "LESS"), (0, u "Lcom/example/graphloom/graphloom/eval/Order;"), (0, .fieldref 8 14), (0, .nameAndType 15 12), (0, u "GREATER"), (0, .fieldref 8 17), (0, .nameAndType 18 12), (0, u "EQUAL"), (0, .methodref 8 20), (0, .nameAndType 21 22), (0, u "of"), (0, u "(DD)Lcom/example/graphloom/graphloom/eval/Order;"), (0, .class_ 24), (0, u "com/example/graphloom/graphloom/eval/OrderOfPinLaw"), (2, u "law"), (0, u "(III)Z")] 3

def k1m0 : Method := { name := "<init>", desc := "()V", sig := { parameters := [], returnType := none }, accessFlags := 1, code := none }
def k1c1 : Code := { maxStack := 4, maxLocals := 16, code := code, exceptionTable := #[], attributes := #[] }
def k1m1 : Method := { name := "law", desc := "(III)Z", sig := { parameters := [.int, .int, .int], returnType := some .boolean }, accessFlags := 9, code := some k1c1 }
/-- com/example/graphloom/graphloom/eval/OrderOfPinLaw -/
def k1 : Class := { plain "com/example/graphloom/graphloom/eval/OrderOfPinLaw" (some 0) with
  accessFlags := 49
  interfaces := #[]
  cf := some (fileOf pool1 23 #[] #[{ accessFlags := 1, nameIndex := 5, descriptorIndex := 6, attributes := #[] }, { accessFlags := 9, nameIndex := 27, descriptorIndex := 28, attributes := #[] }] 49 2 #[] #[])
  fields := #[]
  methods := #[k1m0, k1m1]
  instanceTypes := #[]
  staticTypes := #[]
  resolved := Array.replicate 32 none
  statics := none }

def pool2 : Array CpInfo := pool [(1, .class_ 2), (0, u "java/lang/constant/Constable"), (0, .class_ 4), (0, u "java/lang/Object")] 6

/-- java/lang/constant/Constable -/
def k2 : Class := { plain "java/lang/constant/Constable" (some 0) with
  accessFlags := 1537
  interfaces := #[]
  cf := some (fileOf pool2 1 #[] #[] 1537 3 #[] #[])
  fields := #[]
  methods := #[]
  instanceTypes := #[]
  staticTypes := #[]
  resolved := Array.replicate 11 none
  statics := none }

def pool3 : Array CpInfo := pool [(1, .class_ 2), (0, u "java/lang/Comparable"), (0, .class_ 4), (0, u "java/lang/Object")] 7

/-- java/lang/Comparable -/
def k3 : Class := { plain "java/lang/Comparable" (some 0) with
  accessFlags := 1537
  interfaces := #[]
  cf := some (fileOf pool3 1 #[] #[] 1537 3 #[] #[])
  fields := #[]
  methods := #[]
  instanceTypes := #[]
  staticTypes := #[]
  resolved := Array.replicate 12 none
  statics := none }

def pool4 : Array CpInfo := pool [(1, .class_ 2), (0, u "java/io/Serializable"), (0, .class_ 4), (0, u "java/lang/Object")] 2

/-- java/io/Serializable -/
def k4 : Class := { plain "java/io/Serializable" (some 0) with
  accessFlags := 1537
  interfaces := #[]
  cf := some (fileOf pool4 1 #[] #[] 1537 3 #[] #[])
  fields := #[]
  methods := #[]
  instanceTypes := #[]
  staticTypes := #[]
  resolved := Array.replicate 7 none
  statics := none }

def pool5 : Array CpInfo := pool [(2, .class_ 4), (1, u "java/lang/Enum"), (0, u "name"), (0, u "Ljava/lang/String;"), (2, u "ordinal"), (0, u "I"), (1, .class_ 14), (1, u "java/lang/Object"), (4, u "hash"), (86, .class_ 108), (1, u "java/lang/Enum$EnumDesc"), (2, .class_ 112), (0, u "java/lang/constant/Constable"), (0, .class_ 114), (0, u "java/lang/Comparable"), (0, .class_ 116), (0, u "java/io/Serializable")] 87

/-- java/lang/Enum -/
def k5 : Class := { plain "java/lang/Enum" (some 0) with
  accessFlags := 1057
  interfaces := #[2, 3, 4]
  cf := some (fileOf pool5 2 #[.nestMembers #[106]] #[] 1057 12 #[111, 113, 115] #[{ accessFlags := 18, nameIndex := 5, descriptorIndex := 6, attributes := #[] }, { accessFlags := 18, nameIndex := 9, descriptorIndex := 10, attributes := #[] }, { accessFlags := 2, nameIndex := 19, descriptorIndex := 10, attributes := #[] }])
  fields := #[{ name := "name", type := (.object "java/lang/String"), accessFlags := 18, slot := 0, constantValue := 0 }, { name := "ordinal", type := .int, accessFlags := 18, slot := 1, constantValue := 0 }, { name := "hash", type := .int, accessFlags := 2, slot := 2, constantValue := 0 }]
  methods := #[]
  instanceTypes := #[(.object "java/lang/String"), .int, .int]
  staticTypes := #[]
  resolved := Array.replicate 204 none
  statics := none }

def pool6 : Array CpInfo := pool [(1, .class_ 2), (0, u "com/example/graphloom/graphloom/eval/Order"), (0, .fieldref 1 4), (0, .nameAndType 5 6), (0, u "LESS"), (0, u "Lcom/example/graphloom/graphloom/eval/Order;"), (0, .fieldref 1 8), (0, .nameAndType 9 6), (0, u "EQUAL"), (0, .fieldref 1 11), (0, .nameAndType 12 6), (0, u "GREATER"), (2, u "UNORDERED"), (2, u "$VALUES"), (0, u "[Lcom/example/graphloom/graphloom/eval/Order;"), (6, .class_ 28), (1, u "java/lang/Enum"), (22, u "of"), (2, u "(DD)Lcom/example/graphloom/graphloom/eval/Order;")] 4

def k6c0 : Code := { maxStack := 4, maxLocals := 5, code := prog_36_method_5_code, exceptionTable := #[], attributes := #[] }
def k6m0 : Method := { name := "of", desc := "(DD)Lcom/example/graphloom/graphloom/eval/Order;", sig := { parameters := [.double, .double], returnType := some (.object "com/example/graphloom/graphloom/eval/Order") }, accessFlags := 8, code := some k6c0 }
/-- com/example/graphloom/graphloom/eval/Order -/
def k6 : Class := { plain "com/example/graphloom/graphloom/eval/Order" (some 5) with
  accessFlags := 16432
  interfaces := #[]
  cf := some (fileOf pool6 1 #[] #[{ accessFlags := 8, nameIndex := 51, descriptorIndex := 54, attributes := #[] }] 16432 26 #[] #[{ accessFlags := 16409, nameIndex := 5, descriptorIndex := 6, attributes := #[] }, { accessFlags := 16409, nameIndex := 9, descriptorIndex := 6, attributes := #[] }, { accessFlags := 16409, nameIndex := 12, descriptorIndex := 6, attributes := #[] }, { accessFlags := 16409, nameIndex := 15, descriptorIndex := 6, attributes := #[] }, { accessFlags := 4122, nameIndex := 18, descriptorIndex := 19, attributes := #[] }])
  fields := #[{ name := "LESS", type := (.object "com/example/graphloom/graphloom/eval/Order"), accessFlags := 16409, slot := 0, constantValue := 0 }, { name := "EQUAL", type := (.object "com/example/graphloom/graphloom/eval/Order"), accessFlags := 16409, slot := 1, constantValue := 0 }, { name := "GREATER", type := (.object "com/example/graphloom/graphloom/eval/Order"), accessFlags := 16409, slot := 2, constantValue := 0 }, { name := "UNORDERED", type := (.object "com/example/graphloom/graphloom/eval/Order"), accessFlags := 16409, slot := 3, constantValue := 0 }, { name := "$VALUES", type := (.array (.object "com/example/graphloom/graphloom/eval/Order")), accessFlags := 4122, slot := 4, constantValue := 0 }]
  methods := #[k6m0]
  instanceTypes := #[(.object "java/lang/String"), .int, .int]
  staticTypes := #[(.object "com/example/graphloom/graphloom/eval/Order"), (.object "com/example/graphloom/graphloom/eval/Order"), (.object "com/example/graphloom/graphloom/eval/Order"), (.object "com/example/graphloom/graphloom/eval/Order"), (.array (.object "com/example/graphloom/graphloom/eval/Order"))]
  resolved := Array.replicate 59 none
  statics := some 0 }

def pool7 : Array CpInfo := pool [(1, u "java/lang/Cloneable"), (0, .class_ 1), (0, u "java/lang/Object"), (0, .class_ 3)] 3

/-- java/lang/Cloneable -/
def k7 : Class := { plain "java/lang/Cloneable" (some 0) with
  accessFlags := 1537
  interfaces := #[]
  cf := some (fileOf pool7 2 #[] #[] 1537 4 #[] #[])
  fields := #[]
  methods := #[]
  instanceTypes := #[]
  staticTypes := #[]
  resolved := Array.replicate 8 none
  statics := none }

/-- the primitive byte -/
def k8 : Class := { plain "byte" none with kind := .primitive 'B', accessFlags := 0x411 }
/-- [B -/
def k9 : Class := { plain "[B" (some 0) with kind := .array 8 .byte, interfaces := #[7, 4], accessFlags := 1041 }

/-- the primitive int -/
def k10 : Class := { plain "int" none with kind := .primitive 'I', accessFlags := 0x411 }
/-- [I -/
def k11 : Class := { plain "[I" (some 0) with kind := .array 10 .int, interfaces := #[7, 4], accessFlags := 1041 }

def heap : Heap := #[{ cls := 6, slots := #[.ref 1, .ref 2, .ref 3, .null, .null], vm := .statics 6 },
  { cls := 6, slots := #[.null, .int 0, .int 0], vm := .none },
  { cls := 6, slots := #[.null, .int 0, .int 0], vm := .none },
  { cls := 6, slots := #[.null, .int 0, .int 0], vm := .none }]
def classes : Array Class := #[k0, k1, k2, k3, k4, k5, k6, k7, k8, k9, k10, k11]
def interned : List (Array UInt16 × Addr) := []
def slotsUsed : Nat := 14
def theMethod : MethodId := ⟨1, 1⟩
def args0 : Array Value := #[.int 100, .int 5, .int 3]
def aboutOver (below : List Frame) : State where
  vm := { classes := classes, interned := interned.toArray }
  heap := heap
  slotsUsed := slotsUsed
  threads := #[{ frames := .invoking theMethod args0 :: below }]
def below0 : List Frame := [.native { method := ⟨0, 0⟩, args := #[] }]
def about1 : State := aboutOver below0
def p0 : Program := .bare "" "" ""
def e0 : Env := launch0.env 0 0 0
theorem w_frames : about1.frames = Frame.invoking theMethod args0 :: below0 := rfl
set_option maxRecDepth 65536 in
theorem w_args : argsFit about1.vm theMethod args0 = true := by decide +kernel
set_option maxRecDepth 65536 in
theorem w_heap : heapFits about1 = true := by decide +kernel
set_option maxRecDepth 65536 in
theorem w_runnable : about1.curStatus? = some .runnable := by decide +kernel
set_option maxRecDepth 65536 in
theorem w_alone : about1.alone = true := by decide +kernel
set_option maxRecDepth 65536 in
theorem w_named : about1.methodNamed? x = some theMethod := by decide +kernel
set_option maxRecDepth 65536 in
theorem w_hears : about1.hears theMethod below0 = true := by decide +kernel
set_option maxRecDepth 65536 in
theorem w_ripe : about1.ripe theMethod args0 below0 = true := by decide +kernel
theorem w_running : about1.status = .running := rfl
set_option maxRecDepth 65536 in
theorem w_room : about1.hasRoom e0.platform room_1 = true :=
  launch0.hasRoom_least _ room_1 (by decide +kernel) (by decide +kernel) (by decide +kernel) (by decide +kernel) (by decide +kernel) (by decide +kernel)
theorem allAtoms_all (ts : List Jvm.Cond) (a : Array Jvm.Value) (st : Jvm.State) : (allAtoms ts).before a st = ts.all (fun c => c.before a st) := by
  induction ts with
  | nil => rfl
  | cons c t ih =>
    show (Jvm.Cond.and c (allAtoms t)).before a st = _
    rw [Jvm.Cond.before_and, ih, List.all_cons]
def words1 : List Jvm.Cond := Jvm.Cond.code x code maxLocals ret :: tables_1
/-- a 'code' word, met by the world's own term for the bytes: nothing is compared byte by byte -/
theorem code_word {y : MethodName} {bytes : ByteArray} {mx : Nat} {rt : Option FieldType} {a : Array Value} {s : State} {m : MethodId} {meth : Method} {c : Code} (h1 : s.methodNamed? y = some m) (h2 : s.vm.method? m = some meth) (h3 : meth.code = some c) (h4 : c.code = bytes)
    (h5 : (c.maxLocals == mx && c.exceptionTable.isEmpty && decide (c.maxStack ≤ mostOperands) && decide (meth.sig.returnType = rt) && !meth.locks && decide (parseMethodDescriptor y.desc = some meth.sig)) = true) : (Jvm.Cond.code y bytes mx rt).before a s = true := by
  simp only [Bool.and_eq_true, beq_iff_eq, Bool.not_eq_true', decide_eq_true_eq] at h5
  obtain ⟨⟨⟨⟨⟨g1, g2⟩, g3⟩, g4⟩, g5⟩, g6⟩ := h5
  simp [Cond.before, Cond.holds, Cond.value, h1, h2, h3, h4, g1, g2, g3, g4, g5, g6]
def isCode : Jvm.Cond → Bool
  | .code _ _ _ _ => true
  | _ => false
theorem all_split {L : List Jvm.Cond} {P : Jvm.Cond → Bool} (h1 : L.all (fun c => isCode c || P c) = true) (h2 : ∀ c ∈ L.filter isCode, P c = true) : L.all P = true := by
  refine List.all_eq_true.mpr fun c hc => ?_
  have h := List.all_eq_true.mp h1 c hc
  rcases Bool.eq_false_or_eq_true (isCode c) with hi | hi
  · exact h2 c (List.mem_filter.mpr ⟨hc, hi⟩)
  · simpa [hi] using h
set_option maxRecDepth 65536 in
theorem w_c0 : (Jvm.Cond.code x code maxLocals ret).before args0 about1 = true := code_word (m := ⟨1, 1⟩) (meth := k1m1) (c := k1c1) (by decide +kernel) rfl rfl rfl (by decide +kernel)
set_option maxRecDepth 65536 in
theorem w_c1 : (Jvm.Cond.code ({ cls := "com/example/graphloom/graphloom/eval/Order", name := "of", desc := "(DD)Lcom/example/graphloom/graphloom/eval/Order;" } : Jvm.MethodName) prog_36_method_5_code (5 : Nat) (Option.some (Jvm.ClassFile.FieldType.object "com/example/graphloom/graphloom/eval/Order"))).before args0 about1 = true := code_word (m := ⟨6, 0⟩) (meth := k6m0) (c := k6c0) (by decide +kernel) rfl rfl rfl (by decide +kernel)
def codes1 : List Jvm.Cond := [Jvm.Cond.code x code maxLocals ret, Jvm.Cond.code ({ cls := "com/example/graphloom/graphloom/eval/Order", name := "of", desc := "(DD)Lcom/example/graphloom/graphloom/eval/Order;" } : Jvm.MethodName) prog_36_method_5_code (5 : Nat) (Option.some (Jvm.ClassFile.FieldType.object "com/example/graphloom/graphloom/eval/Order"))]
set_option maxRecDepth 65536 in
theorem codes_eq : words1.filter isCode = codes1 := rfl
theorem w_codes : ∀ c ∈ words1.filter isCode, c.before args0 about1 = true := by
  rw [codes_eq]
  intro c hc
  simp only [codes1, List.mem_cons, List.not_mem_nil, or_false] at hc
  rcases hc with rfl | rfl
  · exact w_c0
  · exact w_c1
set_option maxRecDepth 65536 in
theorem w_t1 : words1.all (fun c => isCode c || c.before args0 about1) = true := by decide +kernel
theorem w_tables : (allAtoms (Jvm.Cond.code x code maxLocals ret :: tables_1)).before args0 about1 = true := by
  rw [allAtoms_all]
  show words1.all (fun c => c.before args0 about1) = true
  refine all_split ?_ w_codes
  rw [w_t1]
set_option maxRecDepth 65536 in
theorem w_case : (Jvm.Cond.and given_1 narrow_1).before args0 about1 = true := by decide +kernel
theorem w_applies : (headSpec (Jvm.Cond.code x code maxLocals ret :: tables_1) room_1).applies x e0.platform about1 = true :=
  (Spec.applies_iff w_frames).mpr ⟨w_running, w_runnable, w_alone, w_named, w_hears, w_ripe, w_room, w_tables⟩
theorem atStart : AtStart classFile x code maxLocals ret World_1 tables_1 room_1 Calls_1 rest_1 Pre_1 launch0 p0 e0 about1 theMethod args0 below0 :=
  ⟨lists_1, trivial, launch0.admits_env _ _ _, launch0.least_env, fairChoices_fair.cas, fairChoices_fair.clock, w_frames, w_args, w_heap, w_applies, trivial, trivial, w_case⟩
end start1
theorem witness_1 : WitnessClaimed_1 := ⟨start1.p0, start1.e0, start1.about1, start1.theMethod, start1.args0, start1.below0, start1.atStart⟩
end Jvm.Pilot.@@N@@

import JvmDerived
import JvmDerived.Pilot.@@N@@Statement
import JvmDerived.Pilot.@@N@@Code
set_option linter.unusedVariables false
set_option linter.unusedSimpArgs false
namespace Jvm.Pilot.@@N@@
open Jvm Jvm.ClassFile Sem Op Lib Jvm.Free Jvm.Stand Jvm.LawKit Jvm.RoadKit Bundle Jvm.Pilot.@@N@@.Jvm.D
section OwnSteps
variable {p : Program} {l : Launch} {e : Env} {R : Room} {s : State} {m : MethodId} {args : Array Value} {below : List Frame} {meth : Method} {c : Code} {T : State} {locs : List Loc} {cells slots : Nat} {G : State → Outcome → Prop} {B : ByteArray} {pc pc' : Nat} {Ls Ls' : Array Slot} {st : List Value}
/-- from here the run ends as G says -/
def own_E (tb : Tables) (e : Env) (below : List Frame) (G : State → Outcome → Prop) (A : State) : Prop := ∃ s₂ o, Steps tb e below A s₂ ∧ G s₂ o
theorem own_go {tb : Tables} {A A' : State} (h : ∀ t, Steps tb e below A' t → Steps tb e below A t) (k : own_E tb e below G A') : own_E tb e below G A := by
  obtain ⟨s₂, o, h1, h2⟩ := k; exact ⟨s₂, o, h _ h1, h2⟩
theorem own_tr {tb : Tables} {A A' : State} (h : Steps tb e below A A') (k : own_E tb e below G A') : own_E tb e below G A := own_go (fun _ q => h.trans q) k
theorem own_iloadN (X : Stand p l e R s m args below meth c T locs cells slots) (hx : p.tables.exec = Jvm.exec) (hby : c.code = B) {k : Fin 4} {v : Int32} (hd : decode B pc = .ok (.iload_n k, 1)) (hp : pc + 1 = pc') (hl : Ls[k.val]? = some (.val (.int v)))
    (k : own_E p.tables e below G (T.setTop (mkF m pc' Ls (.int v :: st)))) : own_E p.tables e below G (T.setTop (mkF m pc Ls (st))) := by
  subst hp; exact own_go (fun t q => XS.iloadN X.here hx rfl (hb hby hd) hl q) k
theorem own_iload (X : Stand p l e R s m args below meth c T locs cells slots) (hx : p.tables.exec = Jvm.exec) (hby : c.code = B) {k : Nat} {v : Int32} (hd : decode B pc = .ok (.iload k, 2)) (hp : pc + 2 = pc') (hl : Ls[k]? = some (.val (.int v)))
    (k : own_E p.tables e below G (T.setTop (mkF m pc' Ls (.int v :: st)))) : own_E p.tables e below G (T.setTop (mkF m pc Ls (st))) := by
  subst hp; exact own_go (fun t q => XS.iload X.here hx rfl (hb hby hd) hl q) k
theorem own_lloadN (X : Stand p l e R s m args below meth c T locs cells slots) (hx : p.tables.exec = Jvm.exec) (hby : c.code = B) {k : Fin 4} {v : Int64} (hd : decode B pc = .ok (.lload_n k, 1)) (hp : pc + 1 = pc') (hl : Ls[k.val]? = some (.val (.long v)))
    (k : own_E p.tables e below G (T.setTop (mkF m pc' Ls (.long v :: st)))) : own_E p.tables e below G (T.setTop (mkF m pc Ls (st))) := by
  subst hp; exact own_go (fun t q => XS.lloadN X.here hx rfl (hb hby hd) hl q) k
theorem own_lload (X : Stand p l e R s m args below meth c T locs cells slots) (hx : p.tables.exec = Jvm.exec) (hby : c.code = B) {k : Nat} {v : Int64} (hd : decode B pc = .ok (.lload k, 2)) (hp : pc + 2 = pc') (hl : Ls[k]? = some (.val (.long v)))
    (k : own_E p.tables e below G (T.setTop (mkF m pc' Ls (.long v :: st)))) : own_E p.tables e below G (T.setTop (mkF m pc Ls (st))) := by
  subst hp; exact own_go (fun t q => XS.lload X.here hx rfl (hb hby hd) hl q) k
theorem own_aloadN (X : Stand p l e R s m args below meth c T locs cells slots) (hx : p.tables.exec = Jvm.exec) (hby : c.code = B) {k : Fin 4} {v : Value} (hd : decode B pc = .ok (.aload_n k, 1)) (hp : pc + 1 = pc') (hl : Ls[k.val]? = some (.val v)) (hv : v.isRef = true)
    (k : own_E p.tables e below G (T.setTop (mkF m pc' Ls (v :: st)))) : own_E p.tables e below G (T.setTop (mkF m pc Ls (st))) := by
  subst hp; exact own_go (fun t q => XS.aloadN X.here hx rfl (hb hby hd) hl hv q) k
theorem own_aload (X : Stand p l e R s m args below meth c T locs cells slots) (hx : p.tables.exec = Jvm.exec) (hby : c.code = B) {k : Nat} {v : Value} (hd : decode B pc = .ok (.aload k, 2)) (hp : pc + 2 = pc') (hl : Ls[k]? = some (.val v)) (hv : v.isRef = true)
    (k : own_E p.tables e below G (T.setTop (mkF m pc' Ls (v :: st)))) : own_E p.tables e below G (T.setTop (mkF m pc Ls (st))) := by
  subst hp; exact own_go (fun t q => XS.aload X.here hx rfl (hb hby hd) hl hv q) k
theorem own_istoreN (X : Stand p l e R s m args below meth c T locs cells slots) (hx : p.tables.exec = Jvm.exec) (hby : c.code = B) {k : Fin 4} {v : Int32} (hd : decode B pc = .ok (.istore_n k, 1)) (hp : pc + 1 = pc') (hl : storeLocals Ls k.val (.int v) = some Ls')
    (k : own_E p.tables e below G (T.setTop (mkF m pc' Ls' (st)))) : own_E p.tables e below G (T.setTop (mkF m pc Ls (.int v :: st))) := by
  subst hp; exact own_go (fun t q => XS.istoreN X.here hx rfl (hb hby hd) rfl hl q) k
theorem own_istore (X : Stand p l e R s m args below meth c T locs cells slots) (hx : p.tables.exec = Jvm.exec) (hby : c.code = B) {k : Nat} {v : Int32} (hd : decode B pc = .ok (.istore k, 2)) (hp : pc + 2 = pc') (hl : storeLocals Ls k (.int v) = some Ls')
    (k : own_E p.tables e below G (T.setTop (mkF m pc' Ls' (st)))) : own_E p.tables e below G (T.setTop (mkF m pc Ls (.int v :: st))) := by
  subst hp; exact own_go (fun t q => XS.istore X.here hx rfl (hb hby hd) rfl hl q) k
theorem own_lstoreN (X : Stand p l e R s m args below meth c T locs cells slots) (hx : p.tables.exec = Jvm.exec) (hby : c.code = B) {k : Fin 4} {v : Int64} (hd : decode B pc = .ok (.lstore_n k, 1)) (hp : pc + 1 = pc') (hl : storeLocals Ls k.val (.long v) = some Ls')
    (k : own_E p.tables e below G (T.setTop (mkF m pc' Ls' (st)))) : own_E p.tables e below G (T.setTop (mkF m pc Ls (.long v :: st))) := by
  subst hp; exact own_go (fun t q => XS.lstoreN X.here hx rfl (hb hby hd) rfl hl q) k
theorem own_lstore (X : Stand p l e R s m args below meth c T locs cells slots) (hx : p.tables.exec = Jvm.exec) (hby : c.code = B) {k : Nat} {v : Int64} (hd : decode B pc = .ok (.lstore k, 2)) (hp : pc + 2 = pc') (hl : storeLocals Ls k (.long v) = some Ls')
    (k : own_E p.tables e below G (T.setTop (mkF m pc' Ls' (st)))) : own_E p.tables e below G (T.setTop (mkF m pc Ls (.long v :: st))) := by
  subst hp; exact own_go (fun t q => XS.lstore X.here hx rfl (hb hby hd) rfl hl q) k
theorem own_astoreN (X : Stand p l e R s m args below meth c T locs cells slots) (hx : p.tables.exec = Jvm.exec) (hby : c.code = B) {k : Fin 4} {v : Value} (hd : decode B pc = .ok (.astore_n k, 1)) (hp : pc + 1 = pc') (hv : v.isRef = true) (hl : storeLocals Ls k.val v = some Ls')
    (k : own_E p.tables e below G (T.setTop (mkF m pc' Ls' (st)))) : own_E p.tables e below G (T.setTop (mkF m pc Ls (v :: st))) := by
  subst hp; exact own_go (fun t q => XS.astoreN X.here hx rfl (hb hby hd) rfl hv hl q) k
theorem own_astore (X : Stand p l e R s m args below meth c T locs cells slots) (hx : p.tables.exec = Jvm.exec) (hby : c.code = B) {k : Nat} {v : Value} (hd : decode B pc = .ok (.astore k, 2)) (hp : pc + 2 = pc') (hv : v.isRef = true) (hl : storeLocals Ls k v = some Ls')
    (k : own_E p.tables e below G (T.setTop (mkF m pc' Ls' (st)))) : own_E p.tables e below G (T.setTop (mkF m pc Ls (v :: st))) := by
  subst hp; exact own_go (fun t q => XS.astore X.here hx rfl (hb hby hd) rfl hv hl q) k
theorem own_iinc (X : Stand p l e R s m args below meth c T locs cells slots) (hx : p.tables.exec = Jvm.exec) (hby : c.code = B) {k : Nat} {cst : Int} {v z : Int32} (hd : decode B pc = .ok (.iinc k cst, 3)) (hp : pc + 3 = pc') (hl : Ls[k]? = some (.val (.int v))) (hz : Int32.ofInt cst = z) (hl' : storeLocals Ls k (.int (v + z)) = some Ls')
    (k : own_E p.tables e below G (T.setTop (mkF m pc' Ls' (st)))) : own_E p.tables e below G (T.setTop (mkF m pc Ls (st))) := by
  subst hp; exact own_go (fun t q => XS.iinc X.here hx rfl (hb hby hd) hl (hz ▸ hl') q) k
theorem own_iconst (X : Stand p l e R s m args below meth c T locs cells slots) (hx : p.tables.exec = Jvm.exec) (hby : c.code = B) {i : Int} {z : Int32} (hd : decode B pc = .ok (.iconst i, 1)) (hp : pc + 1 = pc') (hz : Int32.ofInt i = z)
    (k : own_E p.tables e below G (T.setTop (mkF m pc' Ls (.int z :: st)))) : own_E p.tables e below G (T.setTop (mkF m pc Ls (st))) := by
  subst hp hz; exact own_go (fun t q => XS.iconst X.here hx rfl (hb hby hd) q) k
theorem own_bipush (X : Stand p l e R s m args below meth c T locs cells slots) (hx : p.tables.exec = Jvm.exec) (hby : c.code = B) {i : Int} {z : Int32} (hd : decode B pc = .ok (.bipush i, 2)) (hp : pc + 2 = pc') (hz : (Int8.ofInt i).toInt32 = z)
    (k : own_E p.tables e below G (T.setTop (mkF m pc' Ls (.int z :: st)))) : own_E p.tables e below G (T.setTop (mkF m pc Ls (st))) := by
  subst hp hz; exact own_go (fun t q => XS.bipush X.here hx rfl (hb hby hd) q) k
theorem own_sipush (X : Stand p l e R s m args below meth c T locs cells slots) (hx : p.tables.exec = Jvm.exec) (hby : c.code = B) {i : Int} {z : Int32} (hd : decode B pc = .ok (.sipush i, 3)) (hp : pc + 3 = pc') (hz : (Int16.ofInt i).toInt32 = z)
    (k : own_E p.tables e below G (T.setTop (mkF m pc' Ls (.int z :: st)))) : own_E p.tables e below G (T.setTop (mkF m pc Ls (st))) := by
  subst hp hz; exact own_go (fun t q => XS.sipush X.here hx rfl (hb hby hd) q) k
theorem own_lconst (X : Stand p l e R s m args below meth c T locs cells slots) (hx : p.tables.exec = Jvm.exec) (hby : c.code = B) {i : Fin 2} {z : Int64} (hd : decode B pc = .ok (.lconst i, 1)) (hp : pc + 1 = pc') (hz : Int64.ofNat i = z)
    (k : own_E p.tables e below G (T.setTop (mkF m pc' Ls (.long z :: st)))) : own_E p.tables e below G (T.setTop (mkF m pc Ls (st))) := by
  subst hp hz; exact own_go (fun t q => XS.lconst X.here hx rfl (hb hby hd) q) k
theorem own_aconst_null (X : Stand p l e R s m args below meth c T locs cells slots) (hx : p.tables.exec = Jvm.exec) (hby : c.code = B)  (hd : decode B pc = .ok (.aconst_null, 1)) (hp : pc + 1 = pc') 
    (k : own_E p.tables e below G (T.setTop (mkF m pc' Ls (.null :: st)))) : own_E p.tables e below G (T.setTop (mkF m pc Ls (st))) := by
  subst hp; exact own_go (fun t q => XS.aconstNull X.here hx rfl (hb hby hd)  q) k
theorem own_iadd (X : Stand p l e R s m args below meth c T locs cells slots) (hx : p.tables.exec = Jvm.exec) (hby : c.code = B) {x y : Int32} (hd : decode B pc = .ok (.iadd, 1)) (hp : pc + 1 = pc') 
    (k : own_E p.tables e below G (T.setTop (mkF m pc' Ls (.int (x + y) :: st)))) : own_E p.tables e below G (T.setTop (mkF m pc Ls (.int y :: .int x :: st))) := by
  subst hp; exact own_go (fun t q => XS.iadd X.here hx rfl (hb hby hd) rfl q) k
theorem own_isub (X : Stand p l e R s m args below meth c T locs cells slots) (hx : p.tables.exec = Jvm.exec) (hby : c.code = B) {x y : Int32} (hd : decode B pc = .ok (.isub, 1)) (hp : pc + 1 = pc') 
    (k : own_E p.tables e below G (T.setTop (mkF m pc' Ls (.int (x - y) :: st)))) : own_E p.tables e below G (T.setTop (mkF m pc Ls (.int y :: .int x :: st))) := by
  subst hp; exact own_go (fun t q => XS.isub X.here hx rfl (hb hby hd) rfl q) k
theorem own_iand (X : Stand p l e R s m args below meth c T locs cells slots) (hx : p.tables.exec = Jvm.exec) (hby : c.code = B) {x y : Int32} (hd : decode B pc = .ok (.iand, 1)) (hp : pc + 1 = pc') 
    (k : own_E p.tables e below G (T.setTop (mkF m pc' Ls (.int (x &&& y) :: st)))) : own_E p.tables e below G (T.setTop (mkF m pc Ls (.int y :: .int x :: st))) := by
  subst hp; exact own_go (fun t q => XS.iand X.here hx rfl (hb hby hd) rfl q) k
theorem own_imul (X : Stand p l e R s m args below meth c T locs cells slots) (hx : p.tables.exec = Jvm.exec) (hby : c.code = B) {x y : Int32} (hd : decode B pc = .ok (.imul, 1)) (hp : pc + 1 = pc') 
    (k : own_E p.tables e below G (T.setTop (mkF m pc' Ls (.int (x * y) :: st)))) : own_E p.tables e below G (T.setTop (mkF m pc Ls (.int y :: .int x :: st))) := by
  subst hp; exact own_go (fun t q => XS.imul X.here hx rfl (hb hby hd) rfl q) k
theorem own_ixor (X : Stand p l e R s m args below meth c T locs cells slots) (hx : p.tables.exec = Jvm.exec) (hby : c.code = B) {x y : Int32} (hd : decode B pc = .ok (.ixor, 1)) (hp : pc + 1 = pc') 
    (k : own_E p.tables e below G (T.setTop (mkF m pc' Ls (.int (x ^^^ y) :: st)))) : own_E p.tables e below G (T.setTop (mkF m pc Ls (.int y :: .int x :: st))) := by
  subst hp; exact own_go (fun t q => XS.ixor X.here hx rfl (hb hby hd) rfl q) k
theorem own_ior (X : Stand p l e R s m args below meth c T locs cells slots) (hx : p.tables.exec = Jvm.exec) (hby : c.code = B) {x y : Int32} (hd : decode B pc = .ok (.ior, 1)) (hp : pc + 1 = pc') 
    (k : own_E p.tables e below G (T.setTop (mkF m pc' Ls (.int (x ||| y) :: st)))) : own_E p.tables e below G (T.setTop (mkF m pc Ls (.int y :: .int x :: st))) := by
  subst hp; exact own_go (fun t q => XS.ior X.here hx rfl (hb hby hd) rfl q) k
theorem own_ishl (X : Stand p l e R s m args below meth c T locs cells slots) (hx : p.tables.exec = Jvm.exec) (hby : c.code = B) {x y : Int32} (hd : decode B pc = .ok (.ishl, 1)) (hp : pc + 1 = pc') 
    (k : own_E p.tables e below G (T.setTop (mkF m pc' Ls (.int (x <<< (y &&& 31)) :: st)))) : own_E p.tables e below G (T.setTop (mkF m pc Ls (.int y :: .int x :: st))) := by
  subst hp; exact own_go (fun t q => XS.ishl X.here hx rfl (hb hby hd) rfl q) k
theorem own_ishr (X : Stand p l e R s m args below meth c T locs cells slots) (hx : p.tables.exec = Jvm.exec) (hby : c.code = B) {x y : Int32} (hd : decode B pc = .ok (.ishr, 1)) (hp : pc + 1 = pc') 
    (k : own_E p.tables e below G (T.setTop (mkF m pc' Ls (.int (x >>> (y &&& 31)) :: st)))) : own_E p.tables e below G (T.setTop (mkF m pc Ls (.int y :: .int x :: st))) := by
  subst hp; exact own_go (fun t q => XS.ishr X.here hx rfl (hb hby hd) rfl q) k
theorem own_iushr (X : Stand p l e R s m args below meth c T locs cells slots) (hx : p.tables.exec = Jvm.exec) (hby : c.code = B) {x y : Int32} (hd : decode B pc = .ok (.iushr, 1)) (hp : pc + 1 = pc') 
    (k : own_E p.tables e below G (T.setTop (mkF m pc' Ls (.int ((x.toUInt32 >>> (y &&& 31).toUInt32).toInt32) :: st)))) : own_E p.tables e below G (T.setTop (mkF m pc Ls (.int y :: .int x :: st))) := by
  subst hp; exact own_go (fun t q => XS.iushr X.here hx rfl (hb hby hd) rfl q) k
theorem own_ladd (X : Stand p l e R s m args below meth c T locs cells slots) (hx : p.tables.exec = Jvm.exec) (hby : c.code = B) {x y : Int64} (hd : decode B pc = .ok (.ladd, 1)) (hp : pc + 1 = pc') 
    (k : own_E p.tables e below G (T.setTop (mkF m pc' Ls (.long (x + y) :: st)))) : own_E p.tables e below G (T.setTop (mkF m pc Ls (.long y :: .long x :: st))) := by
  subst hp; exact own_go (fun t q => XS.ladd X.here hx rfl (hb hby hd) rfl q) k
theorem own_lsub (X : Stand p l e R s m args below meth c T locs cells slots) (hx : p.tables.exec = Jvm.exec) (hby : c.code = B) {x y : Int64} (hd : decode B pc = .ok (.lsub, 1)) (hp : pc + 1 = pc') 
    (k : own_E p.tables e below G (T.setTop (mkF m pc' Ls (.long (x - y) :: st)))) : own_E p.tables e below G (T.setTop (mkF m pc Ls (.long y :: .long x :: st))) := by
  subst hp; exact own_go (fun t q => XS.lsub X.here hx rfl (hb hby hd) rfl q) k
theorem own_lmul (X : Stand p l e R s m args below meth c T locs cells slots) (hx : p.tables.exec = Jvm.exec) (hby : c.code = B) {x y : Int64} (hd : decode B pc = .ok (.lmul, 1)) (hp : pc + 1 = pc') 
    (k : own_E p.tables e below G (T.setTop (mkF m pc' Ls (.long (x * y) :: st)))) : own_E p.tables e below G (T.setTop (mkF m pc Ls (.long y :: .long x :: st))) := by
  subst hp; exact own_go (fun t q => XS.lmul X.here hx rfl (hb hby hd) rfl q) k
theorem own_land (X : Stand p l e R s m args below meth c T locs cells slots) (hx : p.tables.exec = Jvm.exec) (hby : c.code = B) {x y : Int64} (hd : decode B pc = .ok (.land, 1)) (hp : pc + 1 = pc') 
    (k : own_E p.tables e below G (T.setTop (mkF m pc' Ls (.long (x &&& y) :: st)))) : own_E p.tables e below G (T.setTop (mkF m pc Ls (.long y :: .long x :: st))) := by
  subst hp; exact own_go (fun t q => XS.land X.here hx rfl (hb hby hd) rfl q) k
theorem own_lor (X : Stand p l e R s m args below meth c T locs cells slots) (hx : p.tables.exec = Jvm.exec) (hby : c.code = B) {x y : Int64} (hd : decode B pc = .ok (.lor, 1)) (hp : pc + 1 = pc') 
    (k : own_E p.tables e below G (T.setTop (mkF m pc' Ls (.long (x ||| y) :: st)))) : own_E p.tables e below G (T.setTop (mkF m pc Ls (.long y :: .long x :: st))) := by
  subst hp; exact own_go (fun t q => XS.lor X.here hx rfl (hb hby hd) rfl q) k
theorem own_lxor (X : Stand p l e R s m args below meth c T locs cells slots) (hx : p.tables.exec = Jvm.exec) (hby : c.code = B) {x y : Int64} (hd : decode B pc = .ok (.lxor, 1)) (hp : pc + 1 = pc') 
    (k : own_E p.tables e below G (T.setTop (mkF m pc' Ls (.long (x ^^^ y) :: st)))) : own_E p.tables e below G (T.setTop (mkF m pc Ls (.long y :: .long x :: st))) := by
  subst hp; exact own_go (fun t q => XS.lxor X.here hx rfl (hb hby hd) rfl q) k
theorem own_lshl (X : Stand p l e R s m args below meth c T locs cells slots) (hx : p.tables.exec = Jvm.exec) (hby : c.code = B) {x : Int64} {y : Int32} (hd : decode B pc = .ok (.lshl, 1)) (hp : pc + 1 = pc')
    (k : own_E p.tables e below G (T.setTop (mkF m pc' Ls (.long (x <<< (y &&& 0x3f).toInt64) :: st)))) : own_E p.tables e below G (T.setTop (mkF m pc Ls (.int y :: .long x :: st))) := by
  subst hp; exact own_go (fun t q => by
    jvm_step X.here [X.here.top, hx, hb hby hd]
    first | exact q | simpa [Int32.toInt64_and] using q) k
theorem own_lshr (X : Stand p l e R s m args below meth c T locs cells slots) (hx : p.tables.exec = Jvm.exec) (hby : c.code = B) {x : Int64} {y : Int32} (hd : decode B pc = .ok (.lshr, 1)) (hp : pc + 1 = pc')
    (k : own_E p.tables e below G (T.setTop (mkF m pc' Ls (.long (x >>> (y &&& 0x3f).toInt64) :: st)))) : own_E p.tables e below G (T.setTop (mkF m pc Ls (.int y :: .long x :: st))) := by
  subst hp; exact own_go (fun t q => by
    jvm_step X.here [X.here.top, hx, hb hby hd]
    first | exact q | simpa [Int32.toInt64_and] using q) k
theorem own_lushr (X : Stand p l e R s m args below meth c T locs cells slots) (hx : p.tables.exec = Jvm.exec) (hby : c.code = B) {x : Int64} {y : Int32} (hd : decode B pc = .ok (.lushr, 1)) (hp : pc + 1 = pc')
    (k : own_E p.tables e below G (T.setTop (mkF m pc' Ls (.long ((x.toUInt64 >>> (y &&& 0x3f).toInt64.toUInt64).toInt64) :: st)))) : own_E p.tables e below G (T.setTop (mkF m pc Ls (.int y :: .long x :: st))) := by
  subst hp; exact own_go (fun t q => by
    jvm_step X.here [X.here.top, hx, hb hby hd]
    first | exact q | simpa [Int32.toInt64_and] using q) k
theorem own_idiv (X : Stand p l e R s m args below meth c T locs cells slots) (hx : p.tables.exec = Jvm.exec) (hby : c.code = B) {x y : Int32} (hd : decode B pc = .ok (.idiv, 1)) (hp : pc + 1 = pc') (hy : y ≠ 0)
    (k : own_E p.tables e below G (T.setTop (mkF m pc' Ls (.int (x / y) :: st)))) : own_E p.tables e below G (T.setTop (mkF m pc Ls (.int y :: .int x :: st))) := by
  subst hp; exact own_go (fun t q => XS.idiv X.here hx rfl (hb hby hd) rfl hy q) k
theorem own_irem (X : Stand p l e R s m args below meth c T locs cells slots) (hx : p.tables.exec = Jvm.exec) (hby : c.code = B) {x y : Int32} (hd : decode B pc = .ok (.irem, 1)) (hp : pc + 1 = pc') (hy : y ≠ 0)
    (k : own_E p.tables e below G (T.setTop (mkF m pc' Ls (.int (x % y) :: st)))) : own_E p.tables e below G (T.setTop (mkF m pc Ls (.int y :: .int x :: st))) := by
  subst hp; exact own_go (fun t q => iremM X hx rfl (hb hby hd) rfl hy q) k
theorem own_lrem (X : Stand p l e R s m args below meth c T locs cells slots) (hx : p.tables.exec = Jvm.exec) (hby : c.code = B) {x y : Int64} (hd : decode B pc = .ok (.lrem, 1)) (hp : pc + 1 = pc') (hy : y ≠ 0)
    (k : own_E p.tables e below G (T.setTop (mkF m pc' Ls (.long (x % y) :: st)))) : own_E p.tables e below G (T.setTop (mkF m pc Ls (.long y :: .long x :: st))) := by
  subst hp; exact own_go (fun t q => XS.lrem X.here hx rfl (hb hby hd) rfl hy (by rw [lrem_mod]; exact q)) k
theorem own_ineg (X : Stand p l e R s m args below meth c T locs cells slots) (hx : p.tables.exec = Jvm.exec) (hby : c.code = B) {x : Int32} (hd : decode B pc = .ok (.ineg, 1)) (hp : pc + 1 = pc') 
    (k : own_E p.tables e below G (T.setTop (mkF m pc' Ls (.int (-x) :: st)))) : own_E p.tables e below G (T.setTop (mkF m pc Ls (.int x :: st))) := by
  subst hp; exact own_go (fun t q => XS.ineg X.here hx rfl (hb hby hd) rfl q) k
theorem own_lneg (X : Stand p l e R s m args below meth c T locs cells slots) (hx : p.tables.exec = Jvm.exec) (hby : c.code = B) {x : Int64} (hd : decode B pc = .ok (.lneg, 1)) (hp : pc + 1 = pc') 
    (k : own_E p.tables e below G (T.setTop (mkF m pc' Ls (.long (-x) :: st)))) : own_E p.tables e below G (T.setTop (mkF m pc Ls (.long x :: st))) := by
  subst hp; exact own_go (fun t q => XS.lneg X.here hx rfl (hb hby hd) rfl q) k
theorem own_i2l (X : Stand p l e R s m args below meth c T locs cells slots) (hx : p.tables.exec = Jvm.exec) (hby : c.code = B) {x : Int32} (hd : decode B pc = .ok (.i2l, 1)) (hp : pc + 1 = pc') 
    (k : own_E p.tables e below G (T.setTop (mkF m pc' Ls (.long (x.toInt64) :: st)))) : own_E p.tables e below G (T.setTop (mkF m pc Ls (.int x :: st))) := by
  subst hp; exact own_go (fun t q => XS.i2l X.here hx rfl (hb hby hd) rfl q) k
theorem own_l2i (X : Stand p l e R s m args below meth c T locs cells slots) (hx : p.tables.exec = Jvm.exec) (hby : c.code = B) {x : Int64} (hd : decode B pc = .ok (.l2i, 1)) (hp : pc + 1 = pc') 
    (k : own_E p.tables e below G (T.setTop (mkF m pc' Ls (.int (x.toInt32) :: st)))) : own_E p.tables e below G (T.setTop (mkF m pc Ls (.long x :: st))) := by
  subst hp; exact own_go (fun t q => XS.l2i X.here hx rfl (hb hby hd) rfl q) k
theorem own_i2b (X : Stand p l e R s m args below meth c T locs cells slots) (hx : p.tables.exec = Jvm.exec) (hby : c.code = B) {x : Int32} (hd : decode B pc = .ok (.i2b, 1)) (hp : pc + 1 = pc') 
    (k : own_E p.tables e below G (T.setTop (mkF m pc' Ls (.int (x.toInt8.toInt32) :: st)))) : own_E p.tables e below G (T.setTop (mkF m pc Ls (.int x :: st))) := by
  subst hp; exact own_go (fun t q => XS.i2b X.here hx rfl (hb hby hd) rfl q) k
theorem own_i2c (X : Stand p l e R s m args below meth c T locs cells slots) (hx : p.tables.exec = Jvm.exec) (hby : c.code = B) {x : Int32} (hd : decode B pc = .ok (.i2c, 1)) (hp : pc + 1 = pc') 
    (k : own_E p.tables e below G (T.setTop (mkF m pc' Ls (.int (x.toUInt32.toUInt16.toUInt32.toInt32) :: st)))) : own_E p.tables e below G (T.setTop (mkF m pc Ls (.int x :: st))) := by
  subst hp; exact own_go (fun t q => XS.i2c X.here hx rfl (hb hby hd) rfl q) k
theorem own_i2s (X : Stand p l e R s m args below meth c T locs cells slots) (hx : p.tables.exec = Jvm.exec) (hby : c.code = B) {x : Int32} (hd : decode B pc = .ok (.i2s, 1)) (hp : pc + 1 = pc') 
    (k : own_E p.tables e below G (T.setTop (mkF m pc' Ls (.int (x.toInt16.toInt32) :: st)))) : own_E p.tables e below G (T.setTop (mkF m pc Ls (.int x :: st))) := by
  subst hp; exact own_go (fun t q => XS.i2s X.here hx rfl (hb hby hd) rfl q) k
theorem own_i2cE (X : Stand p l e R s m args below meth c T locs cells slots) (hx : p.tables.exec = Jvm.exec) (hby : c.code = B) {x v : Int32} (hd : decode B pc = .ok (.i2c, 1)) (hp : pc + 1 = pc') (hv : x.toUInt32.toUInt16.toUInt32.toInt32 = v)
    (k : own_E p.tables e below G (T.setTop (mkF m pc' Ls (.int v :: st)))) : own_E p.tables e below G (T.setTop (mkF m pc Ls (.int x :: st))) := by
  subst hv; exact own_i2c X hx hby hd hp k
theorem own_lcmp (X : Stand p l e R s m args below meth c T locs cells slots) (hx : p.tables.exec = Jvm.exec) (hby : c.code = B) {x y : Int64} (hd : decode B pc = .ok (.lcmp, 1)) (hp : pc + 1 = pc')
    (k : own_E p.tables e below G (T.setTop (mkF m pc' Ls (.int (lcmpW x y) :: st)))) : own_E p.tables e below G (T.setTop (mkF m pc Ls (.long y :: .long x :: st))) := by
  subst hp; exact own_go (fun t q => XS.lcmp X.here hx rfl (hb hby hd) rfl q) k
theorem own_dup (X : Stand p l e R s m args below meth c T locs cells slots) (hx : p.tables.exec = Jvm.exec) (hby : c.code = B) {v : Value} (hd : decode B pc = .ok (.dup, 1)) (hp : pc + 1 = pc') (hc : v.category = 1)
    (k : own_E p.tables e below G (T.setTop (mkF m pc' Ls (v :: v :: st)))) : own_E p.tables e below G (T.setTop (mkF m pc Ls (v :: st))) := by
  subst hp; exact own_go (fun t q => XS.dup X.here hx rfl (hb hby hd) rfl hc q) k
theorem own_pop (X : Stand p l e R s m args below meth c T locs cells slots) (hx : p.tables.exec = Jvm.exec) (hby : c.code = B) {v : Value} (hd : decode B pc = .ok (.pop, 1)) (hp : pc + 1 = pc') (hc : v.category = 1)
    (k : own_E p.tables e below G (T.setTop (mkF m pc' Ls (st)))) : own_E p.tables e below G (T.setTop (mkF m pc Ls (v :: st))) := by
  subst hp; exact own_go (fun t q => XS.pop X.here hx rfl (hb hby hd) rfl hc q) k
theorem own_dup_x1 (X : Stand p l e R s m args below meth c T locs cells slots) (hx : p.tables.exec = Jvm.exec) (hby : c.code = B) {v w : Value} (hd : decode B pc = .ok (.dup_x1, 1)) (hp : pc + 1 = pc') (hc : v.category = 1) (hc' : w.category = 1)
    (k : own_E p.tables e below G (T.setTop (mkF m pc' Ls (v :: w :: v :: st)))) : own_E p.tables e below G (T.setTop (mkF m pc Ls (v :: w :: st))) := by
  subst hp; exact own_go (fun t q => XS.dupX1 X.here hx rfl (hb hby hd) rfl hc hc' q) k
theorem own_dup2 (X : Stand p l e R s m args below meth c T locs cells slots) (hx : p.tables.exec = Jvm.exec) (hby : c.code = B) {v w : Value} (hd : decode B pc = .ok (.dup2, 1)) (hp : pc + 1 = pc') (hc : v.category = 1) (hc' : w.category = 1)
    (k : own_E p.tables e below G (T.setTop (mkF m pc' Ls (v :: w :: v :: w :: st)))) : own_E p.tables e below G (T.setTop (mkF m pc Ls (v :: w :: st))) := by
  subst hp; exact own_go (fun t q => by
    jvm_step X.here [X.here.top, hx, hb hby hd, hc, hc']
    exact q) k
theorem own_goto (X : Stand p l e R s m args below meth c T locs cells slots) (hx : p.tables.exec = Jvm.exec) (hby : c.code = B) {o : Int} (hd : decode B pc = .ok (.goto o, 3)) (ho : 0 ≤ (pc : Int) + o) (hp : ((pc : Int) + o).toNat = pc')
    (k : own_E p.tables e below G (T.setTop (mkF m pc' Ls (st)))) : own_E p.tables e below G (T.setTop (mkF m pc Ls (st))) := own_go (fun t q => XS.goto X.here hx rfl rfl (hb hby hd) ho hp q) k
theorem own_ifY (X : Stand p l e R s m args below meth c T locs cells slots) (hx : p.tables.exec = Jvm.exec) (hby : c.code = B) {cd : ClassFile.Cond} {x : Int32} {o : Int} (hd : decode B pc = .ok (.ifCond cd o, 3)) (ho : 0 ≤ (pc : Int) + o) (hp : ((pc : Int) + o).toNat = pc') (hc : if_icmp.holds cd x 0 = true)
    (k : own_E p.tables e below G (T.setTop (mkF m pc' Ls (st)))) : own_E p.tables e below G (T.setTop (mkF m pc Ls (.int x :: st))) := own_go (fun t q => XS.ifYes X.here hx rfl rfl (hb hby hd) rfl ((if0 _ _).trans hc) ho hp q) k
theorem own_ifN (X : Stand p l e R s m args below meth c T locs cells slots) (hx : p.tables.exec = Jvm.exec) (hby : c.code = B) {cd : ClassFile.Cond} {x : Int32} {o : Int} (hd : decode B pc = .ok (.ifCond cd o, 3)) (hp : pc + 3 = pc') (hc : if_icmp.holds cd x 0 = false)
    (k : own_E p.tables e below G (T.setTop (mkF m pc' Ls (st)))) : own_E p.tables e below G (T.setTop (mkF m pc Ls (.int x :: st))) := by
  subst hp; exact own_go (fun t q => XS.ifNo X.here hx rfl (hb hby hd) rfl ((if0 _ _).trans hc) q) k
theorem own_icmpY (X : Stand p l e R s m args below meth c T locs cells slots) (hx : p.tables.exec = Jvm.exec) (hby : c.code = B) {cd : ClassFile.Cond} {x y : Int32} {o : Int} (hd : decode B pc = .ok (.if_icmp cd o, 3)) (ho : 0 ≤ (pc : Int) + o) (hp : ((pc : Int) + o).toNat = pc') (hc : if_icmp.holds cd x y = true)
    (k : own_E p.tables e below G (T.setTop (mkF m pc' Ls (st)))) : own_E p.tables e below G (T.setTop (mkF m pc Ls (.int y :: .int x :: st))) := own_go (fun t q => XS.icmpYes X.here hx rfl rfl (hb hby hd) rfl hc ho hp q) k
theorem own_icmpN (X : Stand p l e R s m args below meth c T locs cells slots) (hx : p.tables.exec = Jvm.exec) (hby : c.code = B) {cd : ClassFile.Cond} {x y : Int32} {o : Int} (hd : decode B pc = .ok (.if_icmp cd o, 3)) (hp : pc + 3 = pc') (hc : if_icmp.holds cd x y = false)
    (k : own_E p.tables e below G (T.setTop (mkF m pc' Ls (st)))) : own_E p.tables e below G (T.setTop (mkF m pc Ls (.int y :: .int x :: st))) := by
  subst hp; exact own_go (fun t q => XS.icmpNo X.here hx rfl (hb hby hd) rfl hc q) k
theorem own_ifnullY (X : Stand p l e R s m args below meth c T locs cells slots) (hx : p.tables.exec = Jvm.exec) (hby : c.code = B)  {o : Int} (hd : decode B pc = .ok (.ifnull o, 3)) (ho : 0 ≤ (pc : Int) + o) (hp : ((pc : Int) + o).toNat = pc')
    (k : own_E p.tables e below G (T.setTop (mkF m pc' Ls (st)))) : own_E p.tables e below G (T.setTop (mkF m pc Ls (.null :: st))) := own_go (fun t q => XS.ifnullYes X.here hx rfl rfl (hb hby hd) rfl ho hp q) k
theorem own_ifnonnullY (X : Stand p l e R s m args below meth c T locs cells slots) (hx : p.tables.exec = Jvm.exec) (hby : c.code = B) {b : Addr} {o : Int} (hd : decode B pc = .ok (.ifnonnull o, 3)) (ho : 0 ≤ (pc : Int) + o) (hp : ((pc : Int) + o).toNat = pc')
    (k : own_E p.tables e below G (T.setTop (mkF m pc' Ls (st)))) : own_E p.tables e below G (T.setTop (mkF m pc Ls (.ref b :: st))) := own_go (fun t q => XS.ifnonnullYes X.here hx rfl rfl (hb hby hd) rfl ho hp q) k
theorem own_ifnullN (X : Stand p l e R s m args below meth c T locs cells slots) (hx : p.tables.exec = Jvm.exec) (hby : c.code = B) {b : Addr} {o : Int} (hd : decode B pc = .ok (.ifnull o, 3)) (hp : pc + 3 = pc')
    (k : own_E p.tables e below G (T.setTop (mkF m pc' Ls (st)))) : own_E p.tables e below G (T.setTop (mkF m pc Ls (.ref b :: st))) := by
  subst hp; exact own_go (fun t q => XS.ifnullNo X.here hx rfl (hb hby hd) rfl q) k
theorem own_ifnonnullN (X : Stand p l e R s m args below meth c T locs cells slots) (hx : p.tables.exec = Jvm.exec) (hby : c.code = B)  {o : Int} (hd : decode B pc = .ok (.ifnonnull o, 3)) (hp : pc + 3 = pc')
    (k : own_E p.tables e below G (T.setTop (mkF m pc' Ls (st)))) : own_E p.tables e below G (T.setTop (mkF m pc Ls (.null :: st))) := by
  subst hp; exact own_go (fun t q => XS.ifnonnullNo X.here hx rfl (hb hby hd) rfl q) k
theorem own_acmp (X : Stand p l e R s m args below meth c T locs cells slots) (hx : p.tables.exec = Jvm.exec) (hby : c.code = B) {cd : ClassFile.ACond} {x y : Value} {o : Int} {same : Bool} (hd : decode B pc = .ok (.if_acmp cd o, 3)) (h1 : x.isRef = true) (h2 : y.isRef = true) (hq : decide (x = y) = same) (ho : 0 ≤ (pc : Int) + o) (hp : pc' = if acV cd same = true then ((pc : Int) + o).toNat else pc + 3)
    (k : own_E p.tables e below G (T.setTop (mkF m pc' Ls (st)))) : own_E p.tables e below G (T.setTop (mkF m pc Ls (y :: x :: st))) := own_go (fun t q => Jvm.RoadKit.acmp (g := mkF m pc Ls (y :: x :: st)) X hx rfl h1 h2 rfl (hb hby hd) rfl hq ho hp q) k
/-- what a body owes at its end -/
def own_End (s : State) (below : List Frame) (Q : Option Value → Heap → List Loc → Prop) (C S : Nat) (s₂ : State) (o : Outcome) : Prop := s₂.status = .running ∧ Ended s₂ below o ∧ ∃ v L, o = .returned v ∧ Q v s₂.heap L ∧ FrameEnd s o s₂ L C S
theorem own_ret (X : Stand p l e R s m args below meth c T locs cells slots) {Q : Option Value → Heap → List Loc → Prop} {C S : Nat} {v : Option Value} (hv : meth.sig.returnType = none → v = none) (hlocks : meth.locks = false)
    (hst : ∀ fs : List Frame, (∀ (f : JFrame) (acts : List Action), f.method = m → f.locked = none → f.entered = [] → (doReturn e (T.setTop f) acts v).1 = T.setFrames fs) → Steps p.tables e below (T.setTop (mkF m pc Ls st)) (T.setFrames fs))
    (hq : Q v T.heap locs) (hc : cells ≤ C) (hs : slots ≤ S) : own_E p.tables e below (own_End s below Q C S) (T.setTop (mkF m pc Ls st)) := by
  obtain ⟨fs, hr, hrun, hended, hW, hsame⟩ := X.leave hv hlocks
  exact ⟨_, _, hst fs hr, hrun, hended, v, locs, rfl, hq, ⟨_, rfl⟩, hW, hsame.mono hc hs⟩
theorem own_retN (X : Stand p l e R s m args below meth c T locs cells slots) (hx : p.tables.exec = Jvm.exec) (hby : c.code = B) {Q : Option Value → Heap → List Loc → Prop} {C S : Nat} {t : FieldType} {z z' : Int32} (hlocks : meth.locks = false) (hret : meth.sig.returnType = some t) (ht : t = .boolean ∨ t = .byte ∨ t = .char ∨ t = .short)
    (hd : decode B pc = .ok (.ireturn, 1)) (hz : nar t z = z') (hq : Q (some (.int z')) T.heap locs) (hc : cells ≤ C) (hs : slots ≤ S) : own_E p.tables e below (own_End s below Q C S) (T.setTop (mkF m pc Ls (.int z :: st))) :=
  own_ret X (fun h => by rw [hret] at h; cases h) hlocks (fun fs hl => retN X hx (t := t) hret ht (hb hby hd) (by rw [hz]; exact hl)) hq hc hs
theorem own_retI (X : Stand p l e R s m args below meth c T locs cells slots) (hx : p.tables.exec = Jvm.exec) (hby : c.code = B) {Q : Option Value → Heap → List Loc → Prop} {C S : Nat} {z : Int32} (hlocks : meth.locks = false) (hret : meth.sig.returnType = some .int)
    (hd : decode B pc = .ok (.ireturn, 1)) (hq : Q (some (.int z)) T.heap locs) (hc : cells ≤ C) (hs : slots ≤ S) : own_E p.tables e below (own_End s below Q C S) (T.setTop (mkF m pc Ls (.int z :: st))) :=
  own_ret X (fun h => by rw [hret] at h; cases h) hlocks (fun fs hl => retOut X hx hret rfl (Or.inl ⟨rfl, Or.inl rfl, _, rfl⟩) (hb hby hd) hl) hq hc hs
theorem own_retL (X : Stand p l e R s m args below meth c T locs cells slots) (hx : p.tables.exec = Jvm.exec) (hby : c.code = B) {Q : Option Value → Heap → List Loc → Prop} {C S : Nat} {z : Int64} (hlocks : meth.locks = false) (hret : meth.sig.returnType = some .long)
    (hd : decode B pc = .ok (.lreturn, 1)) (hq : Q (some (.long z)) T.heap locs) (hc : cells ≤ C) (hs : slots ≤ S) : own_E p.tables e below (own_End s below Q C S) (T.setTop (mkF m pc Ls (.long z :: st))) :=
  own_ret X (fun h => by rw [hret] at h; cases h) hlocks (fun fs hl => retOut X hx hret rfl (Or.inr (Or.inl ⟨rfl, rfl, _, rfl⟩)) (hb hby hd) hl) hq hc hs
theorem own_retD (X : Stand p l e R s m args below meth c T locs cells slots) (hx : p.tables.exec = Jvm.exec) (hby : c.code = B) {Q : Option Value → Heap → List Loc → Prop} {C S : Nat} {z : UInt64} (hlocks : meth.locks = false) (hret : meth.sig.returnType = some .double)
    (hd : decode B pc = .ok (.dreturn, 1)) (hq : Q (some (.double z)) T.heap locs) (hc : cells ≤ C) (hs : slots ≤ S) : own_E p.tables e below (own_End s below Q C S) (T.setTop (mkF m pc Ls (.double z :: st))) :=
  own_ret X (fun h => by rw [hret] at h; cases h) hlocks (fun fs hl => retOut X hx hret rfl (Or.inr (Or.inr (Or.inl ⟨rfl, rfl, _, rfl⟩))) (hb hby hd) hl) hq hc hs
theorem own_retA (X : Stand p l e R s m args below meth c T locs cells slots) (hx : p.tables.exec = Jvm.exec) (hby : c.code = B) {Q : Option Value → Heap → List Loc → Prop} {C S : Nat} {t : FieldType} {v : Value} (hlocks : meth.locks = false) (hret : meth.sig.returnType = some t) (ht : t.isReference = true) (hv : v.isRef = true)
    (hd : decode B pc = .ok (.areturn, 1)) (hq : Q (some v) T.heap locs) (hc : cells ≤ C) (hs : slots ≤ S) : own_E p.tables e below (own_End s below Q C S) (T.setTop (mkF m pc Ls (v :: st))) :=
  own_ret X (fun h => by rw [hret] at h; cases h) hlocks (fun fs hl => retOut X hx hret (by cases t <;> first | (cases ht; done) | (rcases ref_cases hv with rfl | ⟨_, rfl⟩ <;> rfl)) (Or.inr (Or.inr (Or.inr (Or.inr ⟨rfl, ht, hv⟩)))) (hb hby hd) hl) hq hc hs
theorem own_ret0 (X : Stand p l e R s m args below meth c T locs cells slots) (hx : p.tables.exec = Jvm.exec) (hby : c.code = B) {Q : Option Value → Heap → List Loc → Prop} {C S : Nat} (hlocks : meth.locks = false) (hret : meth.sig.returnType = none)
    (hd : decode B pc = .ok (.return_, 1)) (hq : Q none T.heap locs) (hc : cells ≤ C) (hs : slots ≤ S) : own_E p.tables e below (own_End s below Q C S) (T.setTop (mkF m pc Ls [])) :=
  own_ret X (fun _ => rfl) hlocks (fun fs hl => X.returnOut hx hret (hb hby hd) hl) hq hc hs
theorem own_callS (X : Stand p l e R s m args below meth c T locs cells slots) (hx : p.tables.exec = Jvm.exec) (hby : c.code = B) {Z : State} {a0 : Array Value} {h : Heap} {own : String} {index nl : Nat} {as' : Array Value} {W cc ss : Nat} {Q : Option Value → Heap → List Loc → Prop} {y : MethodName} {bytes : ByteArray} {maxL : Nat} {ret : Option FieldType} (hml : c.maxLocals = nl) (hZ : Z.Warmed39 s.vm) (hown : s.vm.findClass own = some m.cls)
    (w1 : (Cond.methodLink own index y).before a0 Z = true) (w2 : (Cond.static y).before a0 Z = true) (w3 : (Cond.initialized y.cls).before a0 Z = true) (w4 : (Cond.code y bytes maxL ret).before a0 Z = true) (hy : y.cls ≠ "java/lang/invoke/MethodHandle" ∧ y.cls ≠ "java/lang/invoke/VarHandle")
    (hK : Back l R p e below s args y 3 W (fun P a => a = as' ∧ P.U.heap = h ∧ P.cells + cc ≤ R.cells ∧ P.slots + ss ≤ R.slots) (fun P _ v B => ∃ L, Q v B.U.heap L ∧ B.locs = P.locs ++ L ∧ B.cells = P.cells + cc ∧ B.slots = P.slots + ss)) (hsz : Ls.size = nl) {argsL rest : List Value} {ps : List FieldType} {r : Option FieldType} (hpd : parseMethodDescriptor y.desc = some ⟨ps, r⟩) (hlen : argsL.length = ps.length) (hst : st = argsL.reverse ++ rest) (hW : (rest.map fun v => v.category).sum ≤ W)
    (hd : decode B pc = .ok (.invokestatic index, 3)) (hp : pc + 3 = pc') (hargs : argsL.toArray = as') (eT : T.heap = h) (hc : cells + cc ≤ R.cells) (hs : slots + ss ≤ R.slots)
    (k : ∀ (v : Option Value) (T' : State) (h' : Heap) (L : List Loc), Stand p l e R s m args below meth c T' (locs ++ L) (cells + cc) (slots + ss) → T'.heap = h' → Q v h' L → own_E p.tables e below G (T'.setTop (mkF m pc' Ls (v.toList ++ rest)))) : own_E p.tables e below G (T.setTop (mkF m pc Ls st)) := by
  subst hp
  obtain ⟨v, vm₁, ⟨T', L', k', n'⟩, -, X', ⟨L, hQ, q1, q2, q3⟩, stp⟩ := Jvm.LawKit.callS X hx hown (mvT hZ w1) (mvT hZ w2) (mvT hZ w3) (mvT hZ w4) hy hK (g := mkF m pc Ls st) rfl (by rw [hml]; exact hsz) (argsL := argsL) (rest := rest) (lenOf hpd hlen) hst (by show 2 * 0 + _ ≤ _; rw [Nat.mul_zero, Nat.zero_add]; exact hW) (hb hby hd) (fun _ _ => ⟨hargs, eT, hc, hs⟩)
  dsimp only at X' hQ q1 q2 q3 stp
  subst q1 q2 q3
  exact own_go stp (k v T' _ L X' rfl hQ)
theorem own_spec (X : Stand p l e R s m args below meth c T locs cells slots) (hx : p.tables.exec = Jvm.exec) (hby : c.code = B) {Z : State} {a0 : Array Value} {h : Heap} {own : String} {index nl : Nat} {as' : Array Value} {W cc ss : Nat} {Q : Option Value → Heap → List Loc → Prop} {y : MethodName} {bytes : ByteArray} {maxL : Nat} (hml : c.maxLocals = nl) (hZ : Z.Warmed39 s.vm) (hown : s.vm.findClass own = some m.cls) (hy1 : y.name = "<init>")
    (w1 : (Cond.methodLink own index y).before a0 Z = true) (w2 : (Cond.instanceMethod y).before a0 Z = true) (w4 : (Cond.code y bytes maxL none).before a0 Z = true) (hy : y.cls ≠ "java/lang/invoke/MethodHandle" ∧ y.cls ≠ "java/lang/invoke/VarHandle")
    (hK : Back l R p e below s args y 3 W (fun P a => a = as' ∧ P.U.heap = h ∧ P.cells + cc ≤ R.cells ∧ P.slots + ss ≤ R.slots) (fun P _ v B => ∃ L, Q v B.U.heap L ∧ B.locs = P.locs ++ L ∧ B.cells = P.cells + cc ∧ B.slots = P.slots + ss)) (hsz : Ls.size = nl) {a : Addr} {argsL rest : List Value} {ps : List FieldType} {r : Option FieldType} (hpd : parseMethodDescriptor y.desc = some ⟨ps, r⟩) (hlen : argsL.length = ps.length) (hst : st = argsL.reverse ++ .ref a :: rest) (hW : (rest.map fun v => v.category).sum ≤ W)
    (hd : decode B pc = .ok (.invokespecial index, 3)) (hp : pc + 3 = pc') (hargs : (.ref a :: argsL).toArray = as') (eT : T.heap = h) (hc : cells + cc ≤ R.cells) (hs : slots + ss ≤ R.slots)
    (k : ∀ (v : Option Value) (T' : State) (h' : Heap) (L : List Loc), Stand p l e R s m args below meth c T' (locs ++ L) (cells + cc) (slots + ss) → T'.heap = h' → Q v h' L → own_E p.tables e below G (T'.setTop (mkF m pc' Ls (v.toList ++ rest)))) : own_E p.tables e below G (T.setTop (mkF m pc Ls st)) := by
  subst hp
  obtain ⟨v, vm₁, ⟨T', L', k', n'⟩, -, X', ⟨L, hQ, q1, q2, q3⟩, stp⟩ := X.specialBack hx hy1 hown (mvT hZ w1) (mvT hZ w2) (mvT hZ w4) hy hK (g := mkF m pc Ls st) rfl (by rw [hml]; exact hsz) (Steps.refl _) (a := a) (argsL := argsL) (rest := rest) (lenOf hpd hlen) hst (by show 2 * 0 + _ ≤ _; rw [Nat.mul_zero, Nat.zero_add]; exact hW) (hb hby hd) (fun _ _ => ⟨hargs, eT, hc, hs⟩)
  dsimp only at X' hQ q1 q2 q3 stp
  subst q1 q2 q3
  exact own_tr stp (k v T' _ L X' rfl hQ)
theorem own_virt (X : Stand p l e R s m args below meth c T locs cells slots) (hx : p.tables.exec = Jvm.exec) (hby : c.code = B) {Z : State} {a0 : Array Value} {h : Heap} {own : String} {index nl : Nat} {as' : Array Value} {W cc ss : Nat} {Q : Option Value → Heap → List Loc → Prop} {C : String} {y z : MethodName} (hml : c.maxLocals = nl) (hZ : Z.Warmed39 s.vm) (hown : s.vm.findClass own = some m.cls)
    (w1 : (Cond.methodLink own index y).before a0 Z = true) (w2 : (Cond.declares y).before a0 Z = true) (hnf : NotFace s y) (w3 : (Cond.selects C y z).before a0 Z = true) (w4 : (Cond.instanceMethod z).before a0 Z = true) (hy : y.cls ≠ "java/lang/invoke/MethodHandle" ∧ y.cls ≠ "java/lang/invoke/VarHandle")
    (hK : Back l R p e below s args z 3 W (fun P a => a = as' ∧ P.U.heap = h ∧ P.cells + cc ≤ R.cells ∧ P.slots + ss ≤ R.slots) (fun P _ v B => ∃ L, Q v B.U.heap L ∧ B.locs = P.locs ++ L ∧ B.cells = P.cells + cc ∧ B.slots = P.slots + ss)) (hsz : Ls.size = nl) {a : Addr} (hE : Exa Z h a C) {argsL rest : List Value} {ps : List FieldType} {r : Option FieldType} (hpd : parseMethodDescriptor y.desc = some ⟨ps, r⟩) (hlen : argsL.length = ps.length) (hst : st = argsL.reverse ++ .ref a :: rest) (hW : (rest.map fun v => v.category).sum ≤ W)
    (hd : decode B pc = .ok (.invokevirtual index, 3)) (hp : pc + 3 = pc') (hargs : (.ref a :: argsL).toArray = as') (eT : T.heap = h) (hc : cells + cc ≤ R.cells) (hs : slots + ss ≤ R.slots)
    (k : ∀ (v : Option Value) (T' : State) (h' : Heap) (L : List Loc), Stand p l e R s m args below meth c T' (locs ++ L) (cells + cc) (slots + ss) → T'.heap = h' → Q v h' L → own_E p.tables e below G (T'.setTop (mkF m pc' Ls (v.toList ++ rest)))) : own_E p.tables e below G (T.setTop (mkF m pc Ls st)) := by
  subst hp
  obtain ⟨cq, kq, qa, qb, qc⟩ := isOf hZ eT hE
  obtain ⟨v, vm₁, ⟨T', L', k', n'⟩, -, X', ⟨L, hQ, q1, q2, q3⟩, stp⟩ := X.virtualBack hx hown (mvT hZ w1) (mvT hZ w2) hnf (mvT hZ w3) (mvT hZ w4) hy hK qa qc (g := mkF m pc Ls st) rfl (by rw [hml]; exact hsz) (Steps.refl _) (argsL := argsL) (rest := rest) (lenOf hpd hlen) hst (by show 2 * 0 + _ ≤ _; rw [Nat.mul_zero, Nat.zero_add]; exact hW) (hb hby hd) (fun _ _ => ⟨hargs, eT, hc, hs⟩)
  dsimp only at X' hQ q1 q2 q3 stp
  subst q1 q2 q3
  exact own_tr stp (k v T' _ L X' rfl hQ)
theorem own_priv (X : Stand p l e R s m args below meth c T locs cells slots) (hx : p.tables.exec = Jvm.exec) (hby : c.code = B) {Z : State} {a0 : Array Value} {h : Heap} {own : String} {index nl : Nat} {as' : Array Value} {W cc ss : Nat} {Q : Option Value → Heap → List Loc → Prop} {y : MethodName} {bytes : ByteArray} {maxL : Nat} {ret : Option FieldType} (hml : c.maxLocals = nl) (hZ : Z.Warmed39 s.vm) (hown : s.vm.findClass own = some m.cls)
    (w1 : (Cond.methodLink own index y).before a0 Z = true) (w2 : (Cond.instanceMethod y).before a0 Z = true) (w3 : (Cond.selects y.cls y y).before a0 Z = true) (w5 : (Cond.privateMethod y).before a0 Z = true) (w4 : (Cond.code y bytes maxL ret).before a0 Z = true) (hy : y.cls ≠ "java/lang/invoke/MethodHandle" ∧ y.cls ≠ "java/lang/invoke/VarHandle")
    (hK : Back l R p e below s args y 3 W (fun P a => a = as' ∧ P.U.heap = h ∧ P.cells + cc ≤ R.cells ∧ P.slots + ss ≤ R.slots) (fun P _ v B => ∃ L, Q v B.U.heap L ∧ B.locs = P.locs ++ L ∧ B.cells = P.cells + cc ∧ B.slots = P.slots + ss)) (hsz : Ls.size = nl) {a : Addr} {C : String} (hE : Exa Z h a C) {argsL rest : List Value} {ps : List FieldType} {r : Option FieldType} (hpd : parseMethodDescriptor y.desc = some ⟨ps, r⟩) (hlen : argsL.length = ps.length) (hst : st = argsL.reverse ++ .ref a :: rest) (hW : (rest.map fun v => v.category).sum ≤ W)
    (hd : decode B pc = .ok (.invokevirtual index, 3)) (hp : pc + 3 = pc') (hargs : (.ref a :: argsL).toArray = as') (eT : T.heap = h) (hc : cells + cc ≤ R.cells) (hs : slots + ss ≤ R.slots)
    (k : ∀ (v : Option Value) (T' : State) (h' : Heap) (L : List Loc), Stand p l e R s m args below meth c T' (locs ++ L) (cells + cc) (slots + ss) → T'.heap = h' → Q v h' L → own_E p.tables e below G (T'.setTop (mkF m pc' Ls (v.toList ++ rest)))) : own_E p.tables e below G (T.setTop (mkF m pc Ls st)) := by
  subst hp
  obtain ⟨cq, qa, qb⟩ := hE.cell
  obtain ⟨v, vm₁, ⟨T', L', k', n'⟩, -, X', ⟨L, hQ, q1, q2, q3⟩, stp⟩ := X.privateBack hx hown (mvT hZ w1) (mvT hZ w2) (mvT hZ w3) (Cond.privateMethod_at (mvP hZ w5 (args := #[]))) (mvT hZ w4) hy hK (g := mkF m pc Ls st) rfl (by rw [hml]; exact hsz) (Steps.refl _) (a := a) (by rw [eT]; exact qa) qb (argsL := argsL) (rest := rest) (lenOf hpd hlen) hst (by show 2 * 0 + _ ≤ _; rw [Nat.mul_zero, Nat.zero_add]; exact hW) (hb hby hd) (fun _ _ => ⟨hargs, eT, hc, hs⟩)
  dsimp only at X' hQ q1 q2 q3 stp
  subst q1 q2 q3
  exact own_tr stp (k v T' _ L X' rfl hQ)
theorem own_intf (X : Stand p l e R s m args below meth c T locs cells slots) (hx : p.tables.exec = Jvm.exec) (hby : c.code = B) {Z : State} {a0 : Array Value} {h : Heap} {own : String} {index nl : Nat} {as' : Array Value} {W cc ss : Nat} {Q : Option Value → Heap → List Loc → Prop} {C : String} {y z : MethodName} {cnt : Nat} (hml : c.maxLocals = nl) (hZ : Z.Warmed39 s.vm) (hown : s.vm.findClass own = some m.cls)
    (w1 : (Cond.methodLink own index y).before args s = true) (w2 : (Cond.declares y).before args s = true) (w5 : (Cond.interfaceMethod y.cls y.cls y.name y.desc).before args s = true) (w3 : (Cond.selects C y z).before args s = true) (w4 : (Cond.instanceMethod z).before args s = true) (w6 : (Cond.publicMethod z).before args s = true) (w7 : (Cond.unhidden C y.name y.desc).before args s = true) (w8 : (Cond.castable C y.cls).before args s = true) (hy : y.cls ≠ "java/lang/invoke/MethodHandle" ∧ y.cls ≠ "java/lang/invoke/VarHandle")
    (hK : Back l R p e below s args z 5 W (fun P a => a = as' ∧ P.U.heap = h ∧ P.cells + cc ≤ R.cells ∧ P.slots + ss ≤ R.slots) (fun P _ v B => ∃ L, Q v B.U.heap L ∧ B.locs = P.locs ++ L ∧ B.cells = P.cells + cc ∧ B.slots = P.slots + ss)) (hsz : Ls.size = nl) {a : Addr} (hE : Exa Z h a C) {argsL rest : List Value} {ps : List FieldType} {r : Option FieldType} (hpd : parseMethodDescriptor y.desc = some ⟨ps, r⟩) (hlen : argsL.length = ps.length) (hst : st = argsL.reverse ++ .ref a :: rest) (hW : (rest.map fun v => v.category).sum ≤ W)
    (hd : decode B pc = .ok (.invokeinterface index cnt, 5)) (hp : pc + 5 = pc') (hargs : (.ref a :: argsL).toArray = as') (eT : T.heap = h) (hc : cells + cc ≤ R.cells) (hs : slots + ss ≤ R.slots)
    (k : ∀ (v : Option Value) (T' : State) (h' : Heap) (L : List Loc), Stand p l e R s m args below meth c T' (locs ++ L) (cells + cc) (slots + ss) → T'.heap = h' → Q v h' L → own_E p.tables e below G (T'.setTop (mkF m pc' Ls (v.toList ++ rest)))) : own_E p.tables e below G (T.setTop (mkF m pc Ls st)) := by
  subst hp
  obtain ⟨cq, kq, qa, qb, qc⟩ := isOf hZ eT hE
  obtain ⟨v, vm₁, ⟨T', L', k', n'⟩, -, X', ⟨L, hQ, q1, q2, q3⟩, stp⟩ := X.interfaceBack hx hown w1 w2 w5 w3 w4 w6 w7 w8 hy hK qa qb qc (g := mkF m pc Ls st) rfl (by rw [hml]; exact hsz) (Steps.refl _) (argsL := argsL) (rest := rest) (lenOf hpd hlen) hst (by show 2 * 0 + _ ≤ _; rw [Nat.mul_zero, Nat.zero_add]; exact hW) (hb hby hd) (fun _ _ => ⟨hargs, eT, hc, hs⟩)
  dsimp only at X' hQ q1 q2 q3 stp
  subst q1 q2 q3
  exact own_tr stp (k v T' _ L X' rfl hQ)
end OwnSteps

section OwnHeap
variable {p : Program} {l : Launch} {e : Env} {R : Room} {s : State} {m : MethodId} {args : Array Value} {below : List Frame} {meth : Method} {c : Code} {T : State} {locs : List Loc} {cells slots : Nat} {G : State → Outcome → Prop} {B : ByteArray} {pc pc' : Nat} {Ls Ls' : Array Slot} {st : List Value} {Z : State} {a0 : Array Value} {h h' h'' : Heap}
theorem own_xr : Ext h h := ⟨Nat.le_refl _, fun _ _ q => q⟩
theorem own_xt (E : Ext h h') (E' : Ext h' h'') : Ext h h'' := ⟨Nat.le_trans E.1 E'.1, fun a c q => E'.2 a c (E.2 a c q)⟩
theorem own_xk {ws : List Addr} (E : Ext h h') (K : Keep h' h'' ws) (q : ∀ x ∈ ws, h.size ≤ x) : Ext h h'' := ⟨Nat.le_trans E.1 K.1, fun a c r => K.2.1 a c (E.2 a c r) fun z => absurd (Array.getElem?_eq_some_iff.mp r).1 (Nat.not_lt.mpr (q a z))⟩
theorem own_xw {a : Addr} {sl : Nat} {v : Value} (E : Ext h h') (W : Wr h' h'' a sl v) (q : h.size ≤ a) : Ext h h'' := own_xk E (Keep.of_wr W) (allS q all0)
theorem own_kx {ws : List Addr} (E : Ext h h') : Keep h h' ws := (Keep.refl h ws).ext E
theorem own_fr1 {k : Nat} {L : List Loc} (N : Fr k L) {a : Addr} {sl : Nat} (q : k ≤ a) : Fr k (L ++ [⟨a, sl⟩]) := N.app fun y hy => by cases List.mem_singleton.mp hy; exact q
/-- a body's contract: called with these arguments over the heap h0 it returns as Q says -/
def own_Met (l : Launch) (Z : State) (x : MethodName) (bytes : ByteArray) (maxL : Nat) (ret : Option FieldType) (rm : Room) (as' : Array Value) (h0 : Heap) (Q : Option Value → Heap → List Loc → Prop) : Prop :=
  ∀ ws : List Jvm.Cond, MetFree l x (head1 (Jvm.Cond.code x bytes maxL ret :: ws) rm) (fun a U => a = as' ∧ Z.Warmed39 U.vm ∧ U.heap = h0) (fun _ _ _ _ _ => True) (fun _ U o U' => ∃ v L, o = .returned v ∧ Q v U'.heap L ∧ FrameEnd U o U' L rm.cells rm.slots)
theorem own_body {x : MethodName} {bytes : ByteArray} {maxL : Nat} {ret : Option FieldType} {rm : Room} {as' : Array Value} {h0 : Heap} {Q : Option Value → Heap → List Loc → Prop} (hpl : plainFor x = true)
    (body : ∀ (p : Program) (e : Env) (s : State) (m : MethodId) (below : List Frame) (meth : Method) (c : Code) (s₁ : State), p.tables.exec = Jvm.exec → c.code = bytes → c.maxLocals = maxL → s.vm.findClass x.cls = some m.cls → meth.name = x.name → meth.locks = false → meth.sig.returnType = ret → Z.Warmed39 s.vm → Stand p l e rm s m as' below meth c s₁ [] 0 0 → s₁.heap = h0 →
      own_E p.tables e below (own_End s below Q rm.cells rm.slots) (s₁.setTop (entryFrame m as' maxL))) : own_Met l Z x bytes maxL ret rm as' h0 Q := by
  intro ws
  refine MetFree.of_bodySF hpl hisR ?_
  intro p e s m args below meth c s₁ Bd hml0 hP hK
  obtain ⟨rfl, hZ, hh⟩ := hP
  obtain ⟨s₂, o, q1, q2, q3, q4⟩ := body p e s m below meth c s₁ Bd.exec Bd.bytes hml0 (findClass_of_methodNamed Bd.named) (name_of_methodNamed Bd.named Bd.method).1 (BodyLoose.notSynchronized Bd) Bd.returns hZ (Stand.of_body Bd) (by rw [← hh, Bd.state]; rfl)
  exact ⟨s₂, o, q1, q2, q3, q4⟩
theorem own_back {y : MethodName} {bytes : ByteArray} {maxL : Nat} {ret : Option FieldType} {rm : Room} {len W : Nat} {as' : Array Value} {Q : Option Value → Heap → List Loc → Prop} (hM : own_Met l Z y bytes maxL ret rm as' h Q)
    (hZ : Z.Warmed39 s.vm) (wc : (Jvm.Cond.code y bytes maxL ret).before a0 Z = true) (wz : (Jvm.Cond.initialized y.cls).before a0 Z = true) (hf : rm.frames + 1 ≤ R.frames) (hl : W + (maxL + 11) + rm.locals ≤ R.locals) :
    Back l R p e below s args y len W (fun A a => a = as' ∧ A.U.heap = h ∧ A.cells + rm.cells ≤ R.cells ∧ A.slots + rm.slots ≤ R.slots)
      (fun A _ v B => ∃ L, Q v B.U.heap L ∧ B.locs = A.locs ++ L ∧ B.cells = A.cells + rm.cells ∧ B.slots = A.slots + rm.slots) := backOf (hM []) hZ wc wz hf hl
theorem own_enter {m : MethodId} {A : Array Value} {ml : Nat} {Ls : Array Slot} (ef : entryFrame m A ml = mkF m 0 Ls []) (k : own_E p.tables e below G (T.setTop (mkF m 0 Ls []))) : own_E p.tables e below G (T.setTop (entryFrame m A ml)) := own_go (fun _ q => castTop ef q) k
theorem own_callM (X : Stand p l e R s m args below meth c T locs cells slots) (hx : p.tables.exec = Jvm.exec) (hby : c.code = B) {own : String} {index nl : Nat} {as' : Array Value} {cc ss maxL : Nat} {bytes : ByteArray} {ret : Option FieldType} {rm : Room} {Q : Option Value → Heap → List Loc → Prop} {y : MethodName} (hml : c.maxLocals = nl) (hZ : Z.Warmed39 s.vm) (hown : s.vm.findClass own = some m.cls) (w1 : (Jvm.Cond.methodLink own index y).before a0 Z = true) (w2 : (Jvm.Cond.static y).before a0 Z = true) (w3 : (Jvm.Cond.initialized y.cls).before a0 Z = true) (w4 : (Jvm.Cond.code y bytes maxL ret).before a0 Z = true) (hy : y.cls ≠ "java/lang/invoke/MethodHandle" ∧ y.cls ≠ "java/lang/invoke/VarHandle")
    (hM : own_Met l Z y bytes maxL ret rm as' h Q) (W : Nat) (hcc : rm.cells = cc) (hss : rm.slots = ss) (hf : rm.frames + 1 ≤ R.frames) (hl : W + (maxL + 11) + rm.locals ≤ R.locals) (hsz : Ls.size = nl) {argsL rest : List Value} {ps : List FieldType} {r : Option FieldType} (hpd : parseMethodDescriptor y.desc = some ⟨ps, r⟩) (hlen : argsL.length = ps.length) (hst : st = argsL.reverse ++ rest) (hW : (rest.map fun v => v.category).sum ≤ W) (hd : decode B pc = .ok (.invokestatic index, 3)) (hp : pc + 3 = pc') (hargs : argsL.toArray = as') (eT : T.heap = h) (hc : cells + cc ≤ R.cells) (hs : slots + ss ≤ R.slots)
    (k : ∀ (v : Option Value) (T' : State) (h' : Heap) (L : List Loc), Stand p l e R s m args below meth c T' (locs ++ L) (cells + cc) (slots + ss) → T'.heap = h' → Q v h' L → own_E p.tables e below G (T'.setTop (mkF m pc' Ls (v.toList ++ rest)))) : own_E p.tables e below G (T.setTop (mkF m pc Ls st)) := by
  subst hcc hss
  exact own_callS X hx hby hml hZ hown w1 w2 w3 w4 hy (own_back hM hZ w4 w3 hf hl) hsz hpd hlen hst hW hd hp hargs eT hc hs k
theorem own_specM (X : Stand p l e R s m args below meth c T locs cells slots) (hx : p.tables.exec = Jvm.exec) (hby : c.code = B) {own : String} {index nl : Nat} {as' : Array Value} {cc ss maxL : Nat} {bytes : ByteArray} {rm : Room} {Q : Option Value → Heap → List Loc → Prop} {y : MethodName} (hml : c.maxLocals = nl) (hZ : Z.Warmed39 s.vm) (hown : s.vm.findClass own = some m.cls) (hy1 : y.name = "<init>") (w1 : (Jvm.Cond.methodLink own index y).before a0 Z = true) (w2 : (Jvm.Cond.instanceMethod y).before a0 Z = true) (w3 : (Jvm.Cond.initialized y.cls).before a0 Z = true) (w4 : (Jvm.Cond.code y bytes maxL none).before a0 Z = true) (hy : y.cls ≠ "java/lang/invoke/MethodHandle" ∧ y.cls ≠ "java/lang/invoke/VarHandle")
    (hM : own_Met l Z y bytes maxL none rm as' h Q) (W : Nat) (hcc : rm.cells = cc) (hss : rm.slots = ss) (hf : rm.frames + 1 ≤ R.frames) (hl : W + (maxL + 11) + rm.locals ≤ R.locals) (hsz : Ls.size = nl) {a : Addr} {argsL rest : List Value} {ps : List FieldType} {r : Option FieldType} (hpd : parseMethodDescriptor y.desc = some ⟨ps, r⟩) (hlen : argsL.length = ps.length) (hst : st = argsL.reverse ++ .ref a :: rest) (hW : (rest.map fun v => v.category).sum ≤ W) (hd : decode B pc = .ok (.invokespecial index, 3)) (hp : pc + 3 = pc') (hargs : (.ref a :: argsL).toArray = as') (eT : T.heap = h) (hc : cells + cc ≤ R.cells) (hs : slots + ss ≤ R.slots)
    (k : ∀ (v : Option Value) (T' : State) (h' : Heap) (L : List Loc), Stand p l e R s m args below meth c T' (locs ++ L) (cells + cc) (slots + ss) → T'.heap = h' → Q v h' L → own_E p.tables e below G (T'.setTop (mkF m pc' Ls (v.toList ++ rest)))) : own_E p.tables e below G (T.setTop (mkF m pc Ls st)) := by
  subst hcc hss
  exact own_spec X hx hby hml hZ hown hy1 w1 w2 w4 hy (own_back hM hZ w4 w3 hf hl) hsz hpd hlen hst hW hd hp hargs eT hc hs k
theorem own_virtM (X : Stand p l e R s m args below meth c T locs cells slots) (hx : p.tables.exec = Jvm.exec) (hby : c.code = B) {own : String} {index nl : Nat} {as' : Array Value} {cc ss maxL : Nat} {bytes : ByteArray} {ret : Option FieldType} {rm : Room} {Q : Option Value → Heap → List Loc → Prop} {C : String} {y z : MethodName} (hml : c.maxLocals = nl) (hZ : Z.Warmed39 s.vm) (hown : s.vm.findClass own = some m.cls) (w1 : (Jvm.Cond.methodLink own index y).before a0 Z = true) (w2 : (Jvm.Cond.declares y).before a0 Z = true) (hnf : NotFace s y) (w5 : (Jvm.Cond.selects C y z).before a0 Z = true) (w6 : (Jvm.Cond.instanceMethod z).before a0 Z = true) (w3 : (Jvm.Cond.initialized z.cls).before a0 Z = true) (w4 : (Jvm.Cond.code z bytes maxL ret).before a0 Z = true) (hy : y.cls ≠ "java/lang/invoke/MethodHandle" ∧ y.cls ≠ "java/lang/invoke/VarHandle")
    (hM : own_Met l Z z bytes maxL ret rm as' h Q) (W : Nat) (hcc : rm.cells = cc) (hss : rm.slots = ss) (hf : rm.frames + 1 ≤ R.frames) (hl : W + (maxL + 11) + rm.locals ≤ R.locals) (hsz : Ls.size = nl) {a : Addr} (hE : Exa Z h a C) {argsL rest : List Value} {ps : List FieldType} {r : Option FieldType} (hpd : parseMethodDescriptor y.desc = some ⟨ps, r⟩) (hlen : argsL.length = ps.length) (hst : st = argsL.reverse ++ .ref a :: rest) (hW : (rest.map fun v => v.category).sum ≤ W) (hd : decode B pc = .ok (.invokevirtual index, 3)) (hp : pc + 3 = pc') (hargs : (.ref a :: argsL).toArray = as') (eT : T.heap = h) (hc : cells + cc ≤ R.cells) (hs : slots + ss ≤ R.slots)
    (k : ∀ (v : Option Value) (T' : State) (h' : Heap) (L : List Loc), Stand p l e R s m args below meth c T' (locs ++ L) (cells + cc) (slots + ss) → T'.heap = h' → Q v h' L → own_E p.tables e below G (T'.setTop (mkF m pc' Ls (v.toList ++ rest)))) : own_E p.tables e below G (T.setTop (mkF m pc Ls st)) := by
  subst hcc hss
  exact own_virt X hx hby hml hZ hown w1 w2 hnf w5 w6 hy (own_back hM hZ w4 w3 hf hl) hsz hE hpd hlen hst hW hd hp hargs eT hc hs k
theorem own_privM (X : Stand p l e R s m args below meth c T locs cells slots) (hx : p.tables.exec = Jvm.exec) (hby : c.code = B) {own : String} {index nl : Nat} {as' : Array Value} {cc ss maxL : Nat} {bytes : ByteArray} {ret : Option FieldType} {rm : Room} {Q : Option Value → Heap → List Loc → Prop} {C : String} {y : MethodName} (hml : c.maxLocals = nl) (hZ : Z.Warmed39 s.vm) (hown : s.vm.findClass own = some m.cls) (w1 : (Jvm.Cond.methodLink own index y).before a0 Z = true) (w6 : (Jvm.Cond.instanceMethod y).before a0 Z = true) (w5 : (Jvm.Cond.selects y.cls y y).before a0 Z = true) (w7 : (Jvm.Cond.privateMethod y).before a0 Z = true) (w3 : (Jvm.Cond.initialized y.cls).before a0 Z = true) (w4 : (Jvm.Cond.code y bytes maxL ret).before a0 Z = true) (hy : y.cls ≠ "java/lang/invoke/MethodHandle" ∧ y.cls ≠ "java/lang/invoke/VarHandle")
    (hM : own_Met l Z y bytes maxL ret rm as' h Q) (W : Nat) (hcc : rm.cells = cc) (hss : rm.slots = ss) (hf : rm.frames + 1 ≤ R.frames) (hl : W + (maxL + 11) + rm.locals ≤ R.locals) (hsz : Ls.size = nl) {a : Addr} (hE : Exa Z h a C) {argsL rest : List Value} {ps : List FieldType} {r : Option FieldType} (hpd : parseMethodDescriptor y.desc = some ⟨ps, r⟩) (hlen : argsL.length = ps.length) (hst : st = argsL.reverse ++ .ref a :: rest) (hW : (rest.map fun v => v.category).sum ≤ W) (hd : decode B pc = .ok (.invokevirtual index, 3)) (hp : pc + 3 = pc') (hargs : (.ref a :: argsL).toArray = as') (eT : T.heap = h) (hc : cells + cc ≤ R.cells) (hs : slots + ss ≤ R.slots)
    (k : ∀ (v : Option Value) (T' : State) (h' : Heap) (L : List Loc), Stand p l e R s m args below meth c T' (locs ++ L) (cells + cc) (slots + ss) → T'.heap = h' → Q v h' L → own_E p.tables e below G (T'.setTop (mkF m pc' Ls (v.toList ++ rest)))) : own_E p.tables e below G (T.setTop (mkF m pc Ls st)) := by
  subst hcc hss
  exact own_priv X hx hby hml hZ hown w1 w6 w5 w7 w4 hy (own_back hM hZ w4 w3 hf hl) hsz hE hpd hlen hst hW hd hp hargs eT hc hs k
theorem own_intfM (X : Stand p l e R s m args below meth c T locs cells slots) (hx : p.tables.exec = Jvm.exec) (hby : c.code = B) {own : String} {index nl : Nat} {as' : Array Value} {cc ss maxL : Nat} {bytes : ByteArray} {ret : Option FieldType} {rm : Room} {Q : Option Value → Heap → List Loc → Prop} {C : String} {y z : MethodName} {cnt : Nat} (hml : c.maxLocals = nl) (hZ : Z.Warmed39 s.vm) (hown : s.vm.findClass own = some m.cls) (w1 : (Jvm.Cond.methodLink own index y).before args s = true) (w2 : (Jvm.Cond.declares y).before args s = true) (w5 : (Jvm.Cond.interfaceMethod y.cls y.cls y.name y.desc).before args s = true) (w6 : (Jvm.Cond.selects C y z).before args s = true) (w7 : (Jvm.Cond.instanceMethod z).before args s = true) (w8 : (Jvm.Cond.publicMethod z).before args s = true) (w9 : (Jvm.Cond.unhidden C y.name y.desc).before args s = true) (w10 : (Jvm.Cond.castable C y.cls).before args s = true) (w3 : (Jvm.Cond.initialized z.cls).before a0 Z = true) (w4 : (Jvm.Cond.code z bytes maxL ret).before a0 Z = true) (hy : y.cls ≠ "java/lang/invoke/MethodHandle" ∧ y.cls ≠ "java/lang/invoke/VarHandle")
    (hM : own_Met l Z z bytes maxL ret rm as' h Q) (W : Nat) (hcc : rm.cells = cc) (hss : rm.slots = ss) (hf : rm.frames + 1 ≤ R.frames) (hl : W + (maxL + 11) + rm.locals ≤ R.locals) (hsz : Ls.size = nl) {a : Addr} (hE : Exa Z h a C) {argsL rest : List Value} {ps : List FieldType} {r : Option FieldType} (hpd : parseMethodDescriptor y.desc = some ⟨ps, r⟩) (hlen : argsL.length = ps.length) (hst : st = argsL.reverse ++ .ref a :: rest) (hW : (rest.map fun v => v.category).sum ≤ W) (hd : decode B pc = .ok (.invokeinterface index cnt, 5)) (hp : pc + 5 = pc') (hargs : (.ref a :: argsL).toArray = as') (eT : T.heap = h) (hc : cells + cc ≤ R.cells) (hs : slots + ss ≤ R.slots)
    (k : ∀ (v : Option Value) (T' : State) (h' : Heap) (L : List Loc), Stand p l e R s m args below meth c T' (locs ++ L) (cells + cc) (slots + ss) → T'.heap = h' → Q v h' L → own_E p.tables e below G (T'.setTop (mkF m pc' Ls (v.toList ++ rest)))) : own_E p.tables e below G (T.setTop (mkF m pc Ls st)) := by
  subst hcc hss
  exact own_intf (a0 := a0) X hx hby hml hZ hown w1 w2 w5 w6 w7 w8 w9 w10 hy (own_back hM hZ w4 w3 hf hl) hsz hE hpd hlen hst hW hd hp hargs eT hc hs k
theorem own_newO (X : Stand p l e R s m args below meth c T locs cells slots) (hx : p.tables.exec = Jvm.exec) (hby : c.code = B) (hZ : Z.Warmed39 s.vm) {own C : String} {index n : Nat} (hown : s.vm.findClass own = some m.cls) (w : (Jvm.Cond.classLink own index C).before a0 Z = true) (wi : (Jvm.Cond.instantiable C n).before a0 Z = true) (wz : (Jvm.Cond.initialized C).before a0 Z = true) (eT : T.heap = h)
    (hd : decode B pc = .ok (.new index, 3)) (hp : pc + 3 = pc') (hc : cells + 1 ≤ R.cells) (hl : slots + n ≤ R.slots)
    (k : ∀ (T' : State) (h' : Heap) (b : Addr), b = h.size → Stand p l e R s m args below meth c T' locs (cells + 1) (slots + n) → T'.heap = h' → Ext h h' → Exa Z h' b C → (∀ {O nm d : String} {ty : FieldType}, Laid Z a0 C O nm d → parseFieldDescriptor d = some ty → Fld Z h' b O nm d (defaultValue ty)) → own_E p.tables e below G (T'.setTop (mkF m pc' Ls (.ref b :: st)))) : own_E p.tables e below G (T.setTop (mkF m pc Ls (st))) := by
  subst hp
  obtain ⟨T', h', X', e', E', A', D', -, stp⟩ := newO X hx hZ hown w wi wz eT (g := mkF m pc Ls st) rfl (hb hby hd) hc hl
  exact own_go stp (k T' h' _ rfl X' e' E' A' D')
theorem own_newP (X : Stand p l e R s m args below meth c T locs cells slots) (hx : p.tables.exec = Jvm.exec) (hby : c.code = B) (hZ : Z.Warmed39 s.vm) {aty : ArrayType} (w : (Jvm.Cond.arrayClass (newarray.typeOf aty)).before a0 Z = true) (eT : T.heap = h) {n : Int32} {cap : Nat} (hd : decode B pc = .ok (.newarray aty, 2)) (hp : pc + 2 = pc') (hn : ¬ n < 0) (hcap : n.toNatClampNeg ≤ cap) (hbig : cap * 8 ≤ 536870912) (hc : cells + 1 ≤ R.cells) (hl : slots + cap ≤ R.slots)
    (k : ∀ (T' : State) (h' : Heap) (b : Addr) (kA : ClassId), b = h.size → Stand p l e R s m args below meth c T' locs (cells + 1) (slots + cap) → T'.heap = h' → Ext h h' → Arv Z h' b kA (newarray.typeOf aty) n [] (defaultValue (newarray.typeOf aty)) → own_E p.tables e below G (T'.setTop (mkF m pc' Ls (.ref b :: st)))) : own_E p.tables e below G (T.setTop (mkF m pc Ls (.int n :: st))) := by
  subst hp
  obtain ⟨T', h', kA, X', e', E', A', stp⟩ := newP X hx hZ w eT (g := mkF m pc Ls (.int n :: st)) rfl (hb hby hd) rfl hn hcap hbig hc hl
  exact own_go stp (k T' h' _ kA rfl X' e' E' (Arv.new A' hn))
theorem own_newR (X : Stand p l e R s m args below meth c T locs cells slots) (hx : p.tables.exec = Jvm.exec) (hby : c.code = B) (hZ : Z.Warmed39 s.vm) {own C : String} {index : Nat} (hown : s.vm.findClass own = some m.cls) (w1 : (Jvm.Cond.classLink own index C).before a0 Z = true) (w2 : (Jvm.Cond.arrayOver (.object C)).before a0 Z = true) (eT : T.heap = h) {n : Int32} {cap : Nat} (hd : decode B pc = .ok (.anewarray index, 3)) (hp : pc + 3 = pc') (hn : ¬ n < 0) (hcap : n.toNatClampNeg ≤ cap) (hbig : cap * 8 ≤ 536870912) (hc : cells + 1 ≤ R.cells) (hl : slots + cap ≤ R.slots)
    (k : ∀ (T' : State) (h' : Heap) (b : Addr) (kA : ClassId), b = h.size → Stand p l e R s m args below meth c T' locs (cells + 1) (slots + cap) → T'.heap = h' → Ext h h' → Arv Z h' b kA (.object C) n [] .null → Ovr Z kA C → own_E p.tables e below G (T'.setTop (mkF m pc' Ls (.ref b :: st)))) : own_E p.tables e below G (T.setTop (mkF m pc Ls (.int n :: st))) := by
  subst hp
  obtain ⟨T', h', kA, X', e', E', A', O', stp⟩ := newR X hx hZ hown w1 w2 eT (g := mkF m pc Ls (.int n :: st)) rfl (hb hby hd) rfl hn hcap hbig hc hl
  exact own_go stp (k T' h' _ kA rfl X' e' E' (Arv.new A' hn) O')
theorem own_getF (X : Stand p l e R s m args below meth c T locs cells slots) (hx : p.tables.exec = Jvm.exec) (hby : c.code = B) (hZ : Z.Warmed39 s.vm) {own R0 O n d host : String} {index : Nat} (hown : s.vm.findClass own = some m.cls) (w : (Jvm.Cond.fieldLink own index R0 n d).before a0 Z = true ∨ (Jvm.Cond.fieldLinkNest own index R0 n d host).before a0 Z = true) (via : Via Z R0 O n d) (eT : T.heap = h) {a : Addr} {v : Value} (F : Fld Z h a O n d v) (hd : decode B pc = .ok (.getfield index, 3)) (hp : pc + 3 = pc')
    (k : ∀ T' : State, Stand p l e R s m args below meth c T' locs cells slots → T'.heap = h → own_E p.tables e below G (T'.setTop (mkF m pc' Ls (v :: st)))) : own_E p.tables e below G (T.setTop (mkF m pc Ls (.ref a :: st))) := by
  subst hp
  obtain ⟨T', X', e', stp⟩ := getF X hx hZ hown w via eT F (g := mkF m pc Ls (.ref a :: st)) rfl rfl (hb hby hd)
  exact own_go stp (k T' X' e')
theorem own_getS (X : Stand p l e R s m args below meth c T locs cells slots) (hx : p.tables.exec = Jvm.exec) (hby : c.code = B) (hZ : Z.Warmed39 s.vm) {own R0 O n d host : String} {index : Nat} (hown : s.vm.findClass own = some m.cls) (w : (Jvm.Cond.fieldLink own index R0 n d).before a0 Z = true ∨ (Jvm.Cond.fieldLinkNest own index R0 n d host).before a0 Z = true) (via : Via Z R0 O n d) (eT : T.heap = h) {v : Value} (F : Sta Z h O n d v) (hd : decode B pc = .ok (.getstatic index, 3)) (hp : pc + 3 = pc')
    (k : ∀ T' : State, Stand p l e R s m args below meth c T' locs cells slots → T'.heap = h → own_E p.tables e below G (T'.setTop (mkF m pc' Ls (v :: st)))) : own_E p.tables e below G (T.setTop (mkF m pc Ls (st))) := by
  subst hp
  obtain ⟨T', X', e', stp⟩ := getS2 X hx hZ hown w via eT F (g := mkF m pc Ls st) rfl (hb hby hd)
  exact own_go stp (k T' X' e')
theorem own_putF (X : Stand p l e R s m args below meth c T locs cells slots) (hx : p.tables.exec = Jvm.exec) (hby : c.code = B) (hZ : Z.Warmed39 s.vm) {own R0 O n d host C : String} {index kk : Nat} {ty : FieldType} (hown : s.vm.findClass own = some m.cls) (w : (Jvm.Cond.fieldLink own index R0 n d).before a0 Z = true ∨ (Jvm.Cond.fieldLinkNest own index R0 n d host).before a0 Z = true) (via : Via Z R0 O n d) (eT : T.heap = h) {a : Addr} {v old : Value} (F : Fld Z h a O n d old) (A : Exa Z h a C)
    (L : (Jvm.Cond.lays C O n d).before a0 Z = true ∨ ((Jvm.Cond.laysFinal C O n d).before a0 Z = true ∧ own = O ∧ meth.name = "<init>")) (wi : (Jvm.Cond.instantiable C kk).before a0 Z = true) (hty : parseFieldDescriptor d = some ty) (hn : narrow ty v = v) (hf : fits ty v = true) (hd : decode B pc = .ok (.putfield index, 3)) (hp : pc + 3 = pc')
    (k : ∀ (T' : State) (h' : Heap), Stand p l e R s m args below meth c T' (locs ++ [⟨a, Jvm.RoadKit.slotOf Z O n d⟩]) cells slots → T'.heap = h' → Wr h h' a (Jvm.RoadKit.slotOf Z O n d) v → Fld Z h' a O n d v → Exa Z h' a C → own_E p.tables e below G (T'.setTop (mkF m pc' Ls (st)))) : own_E p.tables e below G (T.setTop (mkF m pc Ls (v :: .ref a :: st))) := by
  subst hp
  obtain ⟨T', h', X', e', W', stp⟩ := putF X hx hZ hown w via eT F A L wi hty hn hf (g := mkF m pc Ls (v :: .ref a :: st)) rfl rfl (hb hby hd)
  exact own_go stp (k T' h' X' e' W' (F.same W') (A.wr W'))
theorem own_putFN (X : Stand p l e R s m args below meth c T locs cells slots) (hx : p.tables.exec = Jvm.exec) (hby : c.code = B) (hZ : Z.Warmed39 s.vm) {own R0 O n d C : String} {index kk : Nat} {ty : FieldType} (hown : s.vm.findClass own = some m.cls) (w : (Jvm.Cond.fieldLink own index R0 n d).before a0 Z = true) (via : Via Z R0 O n d) (eT : T.heap = h) {a : Addr} {v v' old : Value} (F : Fld Z h a O n d old) (A : Exa Z h a C)
    (L : (Jvm.Cond.lays C O n d).before a0 Z = true ∨ ((Jvm.Cond.laysFinal C O n d).before a0 Z = true ∧ own = O ∧ meth.name = "<init>")) (wi : (Jvm.Cond.instantiable C kk).before a0 Z = true) (hty : parseFieldDescriptor d = some ty) (hn : narrow ty v = v') (hf : fits ty v' = true) (hd : decode B pc = .ok (.putfield index, 3)) (hp : pc + 3 = pc')
    (k : ∀ (T' : State) (h' : Heap), Stand p l e R s m args below meth c T' (locs ++ [⟨a, Jvm.RoadKit.slotOf Z O n d⟩]) cells slots → T'.heap = h' → Wr h h' a (Jvm.RoadKit.slotOf Z O n d) v' → Fld Z h' a O n d v' → Exa Z h' a C → own_E p.tables e below G (T'.setTop (mkF m pc' Ls (st)))) : own_E p.tables e below G (T.setTop (mkF m pc Ls (v :: .ref a :: st))) := by
  subst hp
  obtain ⟨T', h', X', e', W', stp⟩ := putFN X hx hZ hown w via eT F A L wi hty hn hf (g := mkF m pc Ls (v :: .ref a :: st)) rfl rfl (hb hby hd)
  exact own_go stp (k T' h' X' e' W' (F.same W') (A.wr W'))
theorem own_initO (X : Stand p l e R s m args below meth c T locs cells slots) (hx : p.tables.exec = Jvm.exec) (hby : c.code = B) (hZ : Z.Warmed39 s.vm) {own : String} {idx nl W : Nat} (hml : c.maxLocals = nl) (hown : s.vm.findClass own = some m.cls) (w1 : (Jvm.Cond.methodLink own idx Lib.objectInit).before a0 Z = true) (w2 : (Jvm.Cond.instanceMethod Lib.objectInit).before a0 Z = true) (w3 : (Jvm.Cond.code Lib.objectInit ⟨#[0xb1]⟩ 1 none).before a0 Z = true) (eT : T.heap = h) (hsz : Ls.size = nl) {a : Addr} (hd : decode B pc = .ok (.invokespecial idx, 3)) (hp : pc + 3 = pc') (hf : 1 ≤ R.frames) (hW : (st.map fun v => v.category).sum ≤ W) (hl : W + 12 ≤ R.locals)
    (k : ∀ T' : State, Stand p l e R s m args below meth c T' locs cells slots → T'.heap = h → own_E p.tables e below G (T'.setTop (mkF m pc' Ls (st)))) : own_E p.tables e below G (T.setTop (mkF m pc Ls (.ref a :: st))) := by
  subst hp
  obtain ⟨T', X', e', stp⟩ := initO X hx hZ hown w1 w2 w3 eT (g := mkF m pc Ls (.ref a :: st)) rfl (by rw [hml]; exact hsz) rfl (hb hby hd) hf (W := W) (by show 2 * 0 + _ ≤ _; rw [Nat.mul_zero, Nat.zero_add]; exact hW) hl
  exact own_go stp (k T' X' e')
theorem own_ialoadV (X : Stand p l e R s m args below meth c T locs cells slots) (hx : p.tables.exec = Jvm.exec) (hby : c.code = B) (hZ : Z.Warmed39 s.vm) (eT : T.heap = h) {a : Addr} {kA : ClassId} {z j : Int32} {vs : List Value} {dv v : Value} (A : Arv Z h a kA .int z vs dv) (hj : ¬ j < 0 ∧ j < z) (hv : vs.getD j.toNatClampNeg dv = v) (hd : decode B pc = .ok (.iaload, 1)) (hp : pc + 1 = pc')
    (k : own_E p.tables e below G (T.setTop (mkF m pc' Ls (v :: st)))) : own_E p.tables e below G (T.setTop (mkF m pc Ls (.int j :: .ref a :: st))) := by
  subst hp
  obtain ⟨cl, Ar, -, S, -, H, -⟩ := A
  exact own_go (fun t q => X.iaload hx (by rw [eT]; exact Ar.1) (State.isArrayOf_alike hZ.alike Ar.2.1) Ar.2.2 (inb_of S hj) (H.at (inb_of S hj) hv) (g := mkF m pc Ls (.int j :: .ref a :: st)) rfl rfl (hb hby hd) t q) k
theorem own_laloadV (X : Stand p l e R s m args below meth c T locs cells slots) (hx : p.tables.exec = Jvm.exec) (hby : c.code = B) (hZ : Z.Warmed39 s.vm) (eT : T.heap = h) {a : Addr} {kA : ClassId} {z j : Int32} {vs : List Value} {dv v : Value} (A : Arv Z h a kA .long z vs dv) (hj : ¬ j < 0 ∧ j < z) (hv : vs.getD j.toNatClampNeg dv = v) (hd : decode B pc = .ok (.laload, 1)) (hp : pc + 1 = pc')
    (k : own_E p.tables e below G (T.setTop (mkF m pc' Ls (v :: st)))) : own_E p.tables e below G (T.setTop (mkF m pc Ls (.int j :: .ref a :: st))) := by
  subst hp
  obtain ⟨cl, Ar, -, S, -, H, -⟩ := A
  exact own_go (fun t q => X.laload hx (by rw [eT]; exact Ar.1) (State.isArrayOf_alike hZ.alike Ar.2.1) Ar.2.2 (inb_of S hj) (H.at (inb_of S hj) hv) (g := mkF m pc Ls (.int j :: .ref a :: st)) rfl rfl (hb hby hd) t q) k
theorem own_caloadV (X : Stand p l e R s m args below meth c T locs cells slots) (hx : p.tables.exec = Jvm.exec) (hby : c.code = B) (hZ : Z.Warmed39 s.vm) (eT : T.heap = h) {a : Addr} {kA : ClassId} {z j : Int32} {vs : List Value} {dv v : Value} (A : Arv Z h a kA .char z vs dv) (hj : ¬ j < 0 ∧ j < z) (hv : vs.getD j.toNatClampNeg dv = v) (hd : decode B pc = .ok (.caload, 1)) (hp : pc + 1 = pc')
    (k : own_E p.tables e below G (T.setTop (mkF m pc' Ls (v :: st)))) : own_E p.tables e below G (T.setTop (mkF m pc Ls (.int j :: .ref a :: st))) := by
  subst hp
  obtain ⟨cl, Ar, -, S, -, H, -⟩ := A
  exact own_go (fun t q => X.caload hx (by rw [eT]; exact Ar.1) (State.isArrayOf_alike hZ.alike Ar.2.1) Ar.2.2 (inb_of S hj) (H.at (inb_of S hj) hv) (g := mkF m pc Ls (.int j :: .ref a :: st)) rfl rfl (hb hby hd) t q) k
theorem own_baloadV (X : Stand p l e R s m args below meth c T locs cells slots) (hx : p.tables.exec = Jvm.exec) (hby : c.code = B) (hZ : Z.Warmed39 s.vm) (eT : T.heap = h) {a : Addr} {kA : ClassId} {z j : Int32} {vs : List Value} {dv v : Value} (A : Arv Z h a kA .byte z vs dv) (hj : ¬ j < 0 ∧ j < z) (hv : vs.getD j.toNatClampNeg dv = v) (hd : decode B pc = .ok (.baload, 1)) (hp : pc + 1 = pc')
    (k : own_E p.tables e below G (T.setTop (mkF m pc' Ls (v :: st)))) : own_E p.tables e below G (T.setTop (mkF m pc Ls (.int j :: .ref a :: st))) := by
  subst hp
  obtain ⟨cl, Ar, -, S, -, H, -⟩ := A
  exact own_go (fun t q => X.baloadBytes hx (by rw [eT]; exact Ar.1) (State.isArrayOf_alike hZ.alike Ar.2.1) Ar.2.2 (inb_of S hj) (H.at (inb_of S hj) hv) (g := mkF m pc Ls (.int j :: .ref a :: st)) rfl rfl (hb hby hd) t q) k
theorem own_daloadV (X : Stand p l e R s m args below meth c T locs cells slots) (hx : p.tables.exec = Jvm.exec) (hby : c.code = B) (hZ : Z.Warmed39 s.vm) (eT : T.heap = h) {a : Addr} {kA : ClassId} {z j : Int32} {vs : List Value} {dv v : Value} (A : Arv Z h a kA .double z vs dv) (hj : ¬ j < 0 ∧ j < z) (hv : vs.getD j.toNatClampNeg dv = v) (hd : decode B pc = .ok (.daload, 1)) (hp : pc + 1 = pc')
    (k : own_E p.tables e below G (T.setTop (mkF m pc' Ls (v :: st)))) : own_E p.tables e below G (T.setTop (mkF m pc Ls (.int j :: .ref a :: st))) := by
  subst hp
  obtain ⟨cl, Ar, -, S, -, H, -⟩ := A
  exact own_go (fun t q => X.daload hx (by rw [eT]; exact Ar.1) (State.isArrayOf_alike hZ.alike Ar.2.1) Ar.2.2 (inb_of S hj) (H.at (inb_of S hj) hv) (g := mkF m pc Ls (.int j :: .ref a :: st)) rfl rfl (hb hby hd) t q) k
theorem own_aaloadV (X : Stand p l e R s m args below meth c T locs cells slots) (hx : p.tables.exec = Jvm.exec) (hby : c.code = B) (hZ : Z.Warmed39 s.vm) (eT : T.heap = h) {a : Addr} {kA : ClassId} {ty : FieldType} {z j : Int32} {vs : List Value} {dv v : Value} (A : Arv Z h a kA ty z vs dv) (hty : ty.isReference = true) (hj : ¬ j < 0 ∧ j < z) (hv : vs.getD j.toNatClampNeg dv = v) (hd : decode B pc = .ok (.aaload, 1)) (hp : pc + 1 = pc')
    (k : own_E p.tables e below G (T.setTop (mkF m pc' Ls (v :: st)))) : own_E p.tables e below G (T.setTop (mkF m pc Ls (.int j :: .ref a :: st))) := by
  subst hp
  obtain ⟨cl, Ar, -, S, -, H, -⟩ := A
  exact own_go (fun t q => X.aaload hx (by rw [eT]; exact Ar.1) (State.isArrayOf_alike hZ.alike Ar.2.1) hty Ar.2.2 (inb_of S hj) (H.at (inb_of S hj) hv) (g := mkF m pc Ls (.int j :: .ref a :: st)) rfl rfl (hb hby hd) t q) k
theorem own_alenV (X : Stand p l e R s m args below meth c T locs cells slots) (hx : p.tables.exec = Jvm.exec) (hby : c.code = B) (hZ : Z.Warmed39 s.vm) (eT : T.heap = h) {a : Addr} {kA : ClassId} {ty : FieldType} {z : Int32} {vs : List Value} {dv : Value} (A : Arv Z h a kA ty z vs dv) (hd : decode B pc = .ok (.arraylength, 1)) (hp : pc + 1 = pc')
    (k : own_E p.tables e below G (T.setTop (mkF m pc' Ls (.int z :: st)))) : own_E p.tables e below G (T.setTop (mkF m pc Ls (.ref a :: st))) := by
  subst hp
  obtain ⟨cl, Ar, -, S, N, -, -⟩ := A
  refine own_go (fun t q => X.arraylength hx (by rw [eT]; exact Ar.1) (State.isArrayOf_alike hZ.alike Ar.2.1) (g := mkF m pc Ls (.ref a :: st)) rfl rfl (hb hby hd) t ?_) k
  rw [len_of S N]; exact q
theorem own_stI (X : Stand p l e R s m args below meth c T locs cells slots) (hx : p.tables.exec = Jvm.exec) (hby : c.code = B) (hZ : Z.Warmed39 s.vm) (eT : T.heap = h) {a : Addr} {kA : ClassId} {z j : Int32} {vs : List Value} {dv : Value} {x : Int32} (A : Arv Z h a kA .int z vs dv) (hj : ¬ j < 0 ∧ j < z) (i : Nat) (hi : j.toNatClampNeg = i) (hlen : i < vs.length) (hd : decode B pc = .ok (.iastore, 1)) (hp : pc + 1 = pc')
    (k : ∀ (T' : State) (h' : Heap), Stand p l e R s m args below meth c T' (locs ++ [⟨a, j.toNatClampNeg⟩]) cells slots → T'.heap = h' → Wr h h' a j.toNatClampNeg (.int x) → Arv Z h' a kA .int z (vs.set i (.int x)) dv → own_E p.tables e below G (T'.setTop (mkF m pc' Ls (st)))) : own_E p.tables e below G (T.setTop (mkF m pc Ls (.int x :: .int j :: .ref a :: st))) := by
  subst hp
  obtain ⟨cl, Ar, q, S, N, H, F⟩ := A
  obtain ⟨T', h', X', e', W', stp⟩ := stI X hx hZ eT Ar (j := j) (inb_of S hj) (g := mkF m pc Ls (.int x :: .int j :: .ref a :: st)) rfl rfl (hb hby hd)
  exact own_go stp (k T' h' X' e' W' (Arv.set Ar q S N H F rfl W' i hi hlen))
theorem own_stJ (X : Stand p l e R s m args below meth c T locs cells slots) (hx : p.tables.exec = Jvm.exec) (hby : c.code = B) (hZ : Z.Warmed39 s.vm) (eT : T.heap = h) {a : Addr} {kA : ClassId} {z j : Int32} {vs : List Value} {dv : Value} {x : Int64} (A : Arv Z h a kA .long z vs dv) (hj : ¬ j < 0 ∧ j < z) (i : Nat) (hi : j.toNatClampNeg = i) (hlen : i < vs.length) (hd : decode B pc = .ok (.lastore, 1)) (hp : pc + 1 = pc')
    (k : ∀ (T' : State) (h' : Heap), Stand p l e R s m args below meth c T' (locs ++ [⟨a, j.toNatClampNeg⟩]) cells slots → T'.heap = h' → Wr h h' a j.toNatClampNeg (.long x) → Arv Z h' a kA .long z (vs.set i (.long x)) dv → own_E p.tables e below G (T'.setTop (mkF m pc' Ls (st)))) : own_E p.tables e below G (T.setTop (mkF m pc Ls (.long x :: .int j :: .ref a :: st))) := by
  subst hp
  obtain ⟨cl, Ar, q, S, N, H, F⟩ := A
  obtain ⟨T', h', X', e', W', stp⟩ := stJ X hx hZ eT Ar (j := j) (inb_of S hj) (g := mkF m pc Ls (.long x :: .int j :: .ref a :: st)) rfl rfl (hb hby hd)
  exact own_go stp (k T' h' X' e' W' (Arv.set Ar q S N H F rfl W' i hi hlen))
theorem own_stC (X : Stand p l e R s m args below meth c T locs cells slots) (hx : p.tables.exec = Jvm.exec) (hby : c.code = B) (hZ : Z.Warmed39 s.vm) (eT : T.heap = h) {a : Addr} {kA : ClassId} {z j : Int32} {vs : List Value} {dv : Value} {x : Int32} (A : Arv Z h a kA .char z vs dv) (hj : ¬ j < 0 ∧ j < z) (i : Nat) (hi : j.toNatClampNeg = i) (hlen : i < vs.length) (hd : decode B pc = .ok (.castore, 1)) (hp : pc + 1 = pc')
    (k : ∀ (T' : State) (h' : Heap), Stand p l e R s m args below meth c T' (locs ++ [⟨a, j.toNatClampNeg⟩]) cells slots → T'.heap = h' → Wr h h' a j.toNatClampNeg (.int (nar .char x)) → Arv Z h' a kA .char z (vs.set i (.int (nar .char x))) dv → own_E p.tables e below G (T'.setTop (mkF m pc' Ls (st)))) : own_E p.tables e below G (T.setTop (mkF m pc Ls (.int x :: .int j :: .ref a :: st))) := by
  subst hp
  obtain ⟨cl, Ar, q, S, N, H, F⟩ := A
  obtain ⟨T', h', X', e', W', stp⟩ := stC X hx hZ eT Ar (j := j) (inb_of S hj) (g := mkF m pc Ls (.int x :: .int j :: .ref a :: st)) rfl rfl (hb hby hd)
  exact own_go stp (k T' h' X' e' W' (Arv.set Ar q S N H F (fits_nar_char _) W' i hi hlen))
theorem own_stB (X : Stand p l e R s m args below meth c T locs cells slots) (hx : p.tables.exec = Jvm.exec) (hby : c.code = B) (hZ : Z.Warmed39 s.vm) (eT : T.heap = h) {a : Addr} {kA : ClassId} {z j : Int32} {vs : List Value} {dv : Value} {x : Int32} (A : Arv Z h a kA .byte z vs dv) (hj : ¬ j < 0 ∧ j < z) (i : Nat) (hi : j.toNatClampNeg = i) (hlen : i < vs.length) (hd : decode B pc = .ok (.bastore, 1)) (hp : pc + 1 = pc')
    (k : ∀ (T' : State) (h' : Heap), Stand p l e R s m args below meth c T' (locs ++ [⟨a, j.toNatClampNeg⟩]) cells slots → T'.heap = h' → Wr h h' a j.toNatClampNeg (.int (nar .byte x)) → Arv Z h' a kA .byte z (vs.set i (.int (nar .byte x))) dv → own_E p.tables e below G (T'.setTop (mkF m pc' Ls (st)))) : own_E p.tables e below G (T.setTop (mkF m pc Ls (.int x :: .int j :: .ref a :: st))) := by
  subst hp
  obtain ⟨cl, Ar, q, S, N, H, F⟩ := A
  obtain ⟨T', h', X', e', W', stp⟩ := stB X hx hZ eT Ar (j := j) (inb_of S hj) (g := mkF m pc Ls (.int x :: .int j :: .ref a :: st)) rfl rfl (hb hby hd)
  exact own_go stp (k T' h' X' e' W' (Arv.set Ar q S N H F (fits_nar_byte _) W' i hi hlen))
theorem own_stZ (X : Stand p l e R s m args below meth c T locs cells slots) (hx : p.tables.exec = Jvm.exec) (hby : c.code = B) (hZ : Z.Warmed39 s.vm) (eT : T.heap = h) {a : Addr} {kA : ClassId} {z j : Int32} {vs : List Value} {dv : Value} {x : Int32} (A : Arv Z h a kA .boolean z vs dv) (hj : ¬ j < 0 ∧ j < z) (i : Nat) (hi : j.toNatClampNeg = i) (hlen : i < vs.length) (hd : decode B pc = .ok (.bastore, 1)) (hp : pc + 1 = pc')
    (k : ∀ (T' : State) (h' : Heap), Stand p l e R s m args below meth c T' (locs ++ [⟨a, j.toNatClampNeg⟩]) cells slots → T'.heap = h' → Wr h h' a j.toNatClampNeg (.int (nar .boolean x)) → Arv Z h' a kA .boolean z (vs.set i (.int (nar .boolean x))) dv → own_E p.tables e below G (T'.setTop (mkF m pc' Ls (st)))) : own_E p.tables e below G (T.setTop (mkF m pc Ls (.int x :: .int j :: .ref a :: st))) := by
  subst hp
  obtain ⟨cl, Ar, q, S, N, H, F⟩ := A
  obtain ⟨T', h', X', e', W', stp⟩ := stZ X hx hZ eT Ar (j := j) (inb_of S hj) (g := mkF m pc Ls (.int x :: .int j :: .ref a :: st)) rfl rfl (hb hby hd)
  exact own_go stp (k T' h' X' e' W' (Arv.set Ar q S N H F (fits_nar_bool _) W' i hi hlen))
theorem own_stD (X : Stand p l e R s m args below meth c T locs cells slots) (hx : p.tables.exec = Jvm.exec) (hby : c.code = B) (hZ : Z.Warmed39 s.vm) (eT : T.heap = h) {a : Addr} {kA : ClassId} {z j : Int32} {vs : List Value} {dv : Value} {x : UInt64} (A : Arv Z h a kA .double z vs dv) (hj : ¬ j < 0 ∧ j < z) (i : Nat) (hi : j.toNatClampNeg = i) (hlen : i < vs.length) (hd : decode B pc = .ok (.dastore, 1)) (hp : pc + 1 = pc')
    (k : ∀ (T' : State) (h' : Heap), Stand p l e R s m args below meth c T' (locs ++ [⟨a, j.toNatClampNeg⟩]) cells slots → T'.heap = h' → Wr h h' a j.toNatClampNeg (.double x) → Arv Z h' a kA .double z (vs.set i (.double x)) dv → own_E p.tables e below G (T'.setTop (mkF m pc' Ls (st)))) : own_E p.tables e below G (T.setTop (mkF m pc Ls (.double x :: .int j :: .ref a :: st))) := by
  subst hp
  obtain ⟨cl, Ar, q, S, N, H, F⟩ := A
  obtain ⟨T', h', X', e', W', stp⟩ := stD X hx hZ eT Ar (j := j) (inb_of S hj) (g := mkF m pc Ls (.double x :: .int j :: .ref a :: st)) rfl rfl (hb hby hd)
  exact own_go stp (k T' h' X' e' W' (Arv.set Ar q S N H F rfl W' i hi hlen))
theorem own_stR (X : Stand p l e R s m args below meth c T locs cells slots) (hx : p.tables.exec = Jvm.exec) (hby : c.code = B) (hZ : Z.Warmed39 s.vm) (eT : T.heap = h) {a : Addr} {kA : ClassId} {ty : FieldType} {z j : Int32} {vs : List Value} {dv v : Value} (A : Arv Z h a kA ty z vs dv) (hty : ty.isReference = true) (hv : v.isRef = true) (F : Sto Z h a v) (hj : ¬ j < 0 ∧ j < z) (i : Nat) (hi : j.toNatClampNeg = i) (hlen : i < vs.length) (hd : decode B pc = .ok (.aastore, 1)) (hp : pc + 1 = pc')
    (k : ∀ (T' : State) (h' : Heap), Stand p l e R s m args below meth c T' (locs ++ [⟨a, j.toNatClampNeg⟩]) cells slots → T'.heap = h' → Wr h h' a j.toNatClampNeg v → Arv Z h' a kA ty z (vs.set i v) dv → own_E p.tables e below G (T'.setTop (mkF m pc' Ls (st)))) : own_E p.tables e below G (T.setTop (mkF m pc Ls (v :: .int j :: .ref a :: st))) := by
  subst hp
  obtain ⟨cl, Ar, q, S, N, H, F'⟩ := A
  obtain ⟨T', h', X', e', W', stp⟩ := stR X hx hZ eT Ar (j := j) (inb_of S hj) hty F (g := mkF m pc Ls (v :: .int j :: .ref a :: st)) rfl rfl (hb hby hd)
  exact own_go stp (k T' h' X' e' W' (Arv.set Ar q S N H F' (by cases ty <;> first | (cases hty; done) | (rcases ref_cases hv with rfl | ⟨_, rfl⟩ <;> rfl)) W' i hi hlen))
theorem own_sto {a y : Addr} {kA : ClassId} {ty : FieldType} {z : Int32} {vs : List Value} {dv : Value} {C : String} (A : Arv Z h a kA ty z vs dv) (O : Ovr Z kA C) (I : Ins Z h y C true) : Sto Z h a (.ref y) := by
  obtain ⟨cl, Ar, q, -⟩ := A; exact Sto.ofV Ar q O I
theorem own_ldcI (X : Stand p l e R s m args below meth c T locs cells slots) (hx : p.tables.exec = Jvm.exec) (hby : c.code = B) (hZ : Z.Warmed39 s.vm) {own : String} {index : Nat} {v : Int32} (hown : s.vm.findClass own = some m.cls) (w : (Jvm.Cond.constant own index v).before a0 Z = true) (hd : decode B pc = .ok (.ldc index, 2)) (hp : pc + 2 = pc')
    (k : own_E p.tables e below G (T.setTop (mkF m pc' Ls (.int v :: st)))) : own_E p.tables e below G (T.setTop (mkF m pc Ls (st))) := by
  subst hp; exact own_go (fun t q => X.ldcInt hx hown (mvT hZ w) (g := mkF m pc Ls st) rfl (hb hby hd) t q) k
theorem own_ldcJ (X : Stand p l e R s m args below meth c T locs cells slots) (hx : p.tables.exec = Jvm.exec) (hby : c.code = B) (hZ : Z.Warmed39 s.vm) {own : String} {index : Nat} {v : Int64} (hown : s.vm.findClass own = some m.cls) (w : (Jvm.Cond.constantLong own index v).before a0 Z = true) (hd : decode B pc = .ok (.ldc2_w index, 3)) (hp : pc + 3 = pc')
    (k : own_E p.tables e below G (T.setTop (mkF m pc' Ls (.long v :: st)))) : own_E p.tables e below G (T.setTop (mkF m pc Ls (st))) := by
  subst hp; exact own_go (fun t q => X.ldc2Long hx hown (mvT hZ w) (g := mkF m pc Ls st) rfl (hb hby hd) t q) k
theorem own_ldcD (X : Stand p l e R s m args below meth c T locs cells slots) (hx : p.tables.exec = Jvm.exec) (hby : c.code = B) (hZ : Z.Warmed39 s.vm) {own : String} {index : Nat} {v : UInt64} (hown : s.vm.findClass own = some m.cls) (w : (Jvm.Cond.constantDouble own index v).before a0 Z = true) (hd : decode B pc = .ok (.ldc2_w index, 3)) (hp : pc + 3 = pc')
    (k : own_E p.tables e below G (T.setTop (mkF m pc' Ls (.double v :: st)))) : own_E p.tables e below G (T.setTop (mkF m pc Ls (st))) := by
  subst hp; exact own_go (fun t q => X.ldc2DoubleC hx hown (mvT hZ w) (g := mkF m pc Ls st) rfl (hb hby hd) t q) k
theorem own_cast (X : Stand p l e R s m args below meth c T locs cells slots) (hx : p.tables.exec = Jvm.exec) (hby : c.code = B) (hZ : Z.Warmed39 s.vm) {own K : String} {index : Nat} (hown : s.vm.findClass own = some m.cls) (w : (Jvm.Cond.classLink own index K).before a0 Z = true) (eT : T.heap = h) {a : Addr} (F : Ins Z h a K true) (hd : decode B pc = .ok (.checkcast index, 3)) (hp : pc + 3 = pc')
    (k : ∀ T' : State, Stand p l e R s m args below meth c T' locs cells slots → T'.heap = h → own_E p.tables e below G (T'.setTop (mkF m pc' Ls (.ref a :: st)))) : own_E p.tables e below G (T.setTop (mkF m pc Ls (.ref a :: st))) := by
  subst hp
  obtain ⟨T', X', e', stp⟩ := castY X hx hZ hown w eT F (g := mkF m pc Ls (.ref a :: st)) rfl rfl (hb hby hd)
  exact own_go stp (k T' X' e')
theorem own_instY (X : Stand p l e R s m args below meth c T locs cells slots) (hx : p.tables.exec = Jvm.exec) (hby : c.code = B) (hZ : Z.Warmed39 s.vm) {own K : String} {index : Nat} (hown : s.vm.findClass own = some m.cls) (w : (Jvm.Cond.classLink own index K).before a0 Z = true) (eT : T.heap = h) {a : Addr} (F : Ins Z h a K true) (hd : decode B pc = .ok (.instanceof index, 3)) (hp : pc + 3 = pc')
    (k : ∀ T' : State, Stand p l e R s m args below meth c T' locs cells slots → T'.heap = h → own_E p.tables e below G (T'.setTop (mkF m pc' Ls (.int 1 :: st)))) : own_E p.tables e below G (T.setTop (mkF m pc Ls (.ref a :: st))) := by
  subst hp
  obtain ⟨T', X', e', stp⟩ := instY X hx hZ hown w eT F (g := mkF m pc Ls (.ref a :: st)) rfl rfl (hb hby hd)
  exact own_go stp (k T' X' e')
theorem own_dloadN (X : Stand p l e R s m args below meth c T locs cells slots) (hx : p.tables.exec = Jvm.exec) (hby : c.code = B) {k : Fin 4} {v : UInt64} (hd : decode B pc = .ok (.dload_n k, 1)) (hp : pc + 1 = pc') (hl : Ls[k.val]? = some (.val (.double v)))
    (k : own_E p.tables e below G (T.setTop (mkF m pc' Ls (.double v :: st)))) : own_E p.tables e below G (T.setTop (mkF m pc Ls (st))) := by
  subst hp; exact own_go (fun t q => XS.dloadN X.here hx rfl (hb hby hd) hl q) k
theorem own_dload (X : Stand p l e R s m args below meth c T locs cells slots) (hx : p.tables.exec = Jvm.exec) (hby : c.code = B) {k : Nat} {v : UInt64} (hd : decode B pc = .ok (.dload k, 2)) (hp : pc + 2 = pc') (hl : Ls[k]? = some (.val (.double v)))
    (k : own_E p.tables e below G (T.setTop (mkF m pc' Ls (.double v :: st)))) : own_E p.tables e below G (T.setTop (mkF m pc Ls (st))) := by
  subst hp; exact own_go (fun t q => XS.dload X.here hx rfl (hb hby hd) hl q) k
theorem own_dstoreN (X : Stand p l e R s m args below meth c T locs cells slots) (hx : p.tables.exec = Jvm.exec) (hby : c.code = B) {k : Fin 4} {v : UInt64} (hd : decode B pc = .ok (.dstore_n k, 1)) (hp : pc + 1 = pc') (hl : storeLocals Ls k.val (.double v) = some Ls')
    (k : own_E p.tables e below G (T.setTop (mkF m pc' Ls' (st)))) : own_E p.tables e below G (T.setTop (mkF m pc Ls (.double v :: st))) := by
  subst hp; exact own_go (fun t q => XS.dstoreN X.here hx rfl (hb hby hd) rfl hl q) k
theorem own_dstore (X : Stand p l e R s m args below meth c T locs cells slots) (hx : p.tables.exec = Jvm.exec) (hby : c.code = B) {k : Nat} {v : UInt64} (hd : decode B pc = .ok (.dstore k, 2)) (hp : pc + 2 = pc') (hl : storeLocals Ls k (.double v) = some Ls')
    (k : own_E p.tables e below G (T.setTop (mkF m pc' Ls' (st)))) : own_E p.tables e below G (T.setTop (mkF m pc Ls (.double v :: st))) := by
  subst hp; exact own_go (fun t q => XS.dstore X.here hx rfl (hb hby hd) rfl hl q) k
theorem own_dconst0 (X : Stand p l e R s m args below meth c T locs cells slots) (hx : p.tables.exec = Jvm.exec) (hby : c.code = B) {v : UInt64} (hd : decode B pc = .ok (.dconst 0, 1)) (hp : pc + 1 = pc') (hv : FP.dconst0 = v)
    (k : own_E p.tables e below G (T.setTop (mkF m pc' Ls (.double v :: st)))) : own_E p.tables e below G (T.setTop (mkF m pc Ls (st))) := by
  subst hp; exact own_go (fun t q => XS.dconst0 X.here hx rfl (hb hby hd) hv q) k
theorem own_dconst1 (X : Stand p l e R s m args below meth c T locs cells slots) (hx : p.tables.exec = Jvm.exec) (hby : c.code = B) {v : UInt64} (hd : decode B pc = .ok (.dconst 1, 1)) (hp : pc + 1 = pc') (hv : FP.dconst1 = v)
    (k : own_E p.tables e below G (T.setTop (mkF m pc' Ls (.double v :: st)))) : own_E p.tables e below G (T.setTop (mkF m pc Ls (st))) := by
  subst hp; exact own_go (fun t q => XS.dconst1 X.here hx rfl (hb hby hd) hv q) k
theorem own_i2d (X : Stand p l e R s m args below meth c T locs cells slots) (hx : p.tables.exec = Jvm.exec) (hby : c.code = B) {x : Int32} {v : UInt64} (hd : decode B pc = .ok (.i2d, 1)) (hp : pc + 1 = pc') (hv : FP.i2d x = v)
    (k : own_E p.tables e below G (T.setTop (mkF m pc' Ls (.double v :: st)))) : own_E p.tables e below G (T.setTop (mkF m pc Ls (.int x :: st))) := by
  subst hp; exact own_go (fun t q => XS.i2dS X.here hx rfl (hb hby hd) rfl hv q) k
theorem own_l2d (X : Stand p l e R s m args below meth c T locs cells slots) (hx : p.tables.exec = Jvm.exec) (hby : c.code = B) {x : Int64} {v : UInt64} (hd : decode B pc = .ok (.l2d, 1)) (hp : pc + 1 = pc') (hv : FP.l2d x = v)
    (k : own_E p.tables e below G (T.setTop (mkF m pc' Ls (.double v :: st)))) : own_E p.tables e below G (T.setTop (mkF m pc Ls (.long x :: st))) := by
  subst hp; exact own_go (fun t q => XS.l2dS X.here hx rfl (hb hby hd) rfl hv q) k
theorem own_dadd (X : Stand p l e R s m args below meth c T locs cells slots) (hx : p.tables.exec = Jvm.exec) (hby : c.code = B) {x y v : UInt64} (hd : decode B pc = .ok (.dadd, 1)) (hp : pc + 1 = pc') (hn : Jvm.Free.Fl.NoNaN64 (FP.dadd x y)) (hv : FP.dadd x y = v)
    (k : own_E p.tables e below G (T.setTop (mkF m pc' Ls (.double v :: st)))) : own_E p.tables e below G (T.setTop (mkF m pc Ls (.double y :: .double x :: st))) := by
  subst hp; exact own_go (fun t q => XS.daddS X.here hx rfl (hb hby hd) rfl hn hv q) k
theorem own_dsub (X : Stand p l e R s m args below meth c T locs cells slots) (hx : p.tables.exec = Jvm.exec) (hby : c.code = B) {x y v : UInt64} (hd : decode B pc = .ok (.dsub, 1)) (hp : pc + 1 = pc') (hn : Jvm.Free.Fl.NoNaN64 (FP.dsub x y)) (hv : FP.dsub x y = v)
    (k : own_E p.tables e below G (T.setTop (mkF m pc' Ls (.double v :: st)))) : own_E p.tables e below G (T.setTop (mkF m pc Ls (.double y :: .double x :: st))) := by
  subst hp; exact own_go (fun t q => XS.dsubS X.here hx rfl (hb hby hd) rfl hn hv q) k
theorem own_dmul (X : Stand p l e R s m args below meth c T locs cells slots) (hx : p.tables.exec = Jvm.exec) (hby : c.code = B) {x y v : UInt64} (hd : decode B pc = .ok (.dmul, 1)) (hp : pc + 1 = pc') (hn : Jvm.Free.Fl.NoNaN64 (FP.dmul x y)) (hv : FP.dmul x y = v)
    (k : own_E p.tables e below G (T.setTop (mkF m pc' Ls (.double v :: st)))) : own_E p.tables e below G (T.setTop (mkF m pc Ls (.double y :: .double x :: st))) := by
  subst hp; exact own_go (fun t q => XS.dmulS X.here hx rfl (hb hby hd) rfl hn hv q) k
theorem own_ddiv (X : Stand p l e R s m args below meth c T locs cells slots) (hx : p.tables.exec = Jvm.exec) (hby : c.code = B) {x y v : UInt64} (hd : decode B pc = .ok (.ddiv, 1)) (hp : pc + 1 = pc') (hn : Jvm.Free.Fl.NoNaN64 (FP.ddiv x y)) (hv : FP.ddiv x y = v)
    (k : own_E p.tables e below G (T.setTop (mkF m pc' Ls (.double v :: st)))) : own_E p.tables e below G (T.setTop (mkF m pc Ls (.double y :: .double x :: st))) := by
  subst hp; exact own_go (fun t q => XS.ddivS X.here hx rfl (hb hby hd) rfl hn hv q) k
theorem own_dcmp (X : Stand p l e R s m args below meth c T locs cells slots) (hx : p.tables.exec = Jvm.exec) (hby : c.code = B) {o : CmpOp} {x y : UInt64} {v : Int32} (hd : decode B pc = .ok (.dcmp o, 1)) (hp : pc + 1 = pc') (hv : cmpValue (FP.dcmp x y) o = v)
    (k : own_E p.tables e below G (T.setTop (mkF m pc' Ls (.int v :: st)))) : own_E p.tables e below G (T.setTop (mkF m pc Ls (.double y :: .double x :: st))) := by
  subst hp; exact own_go (fun t q => XS.dcmpS X.here hx rfl (hb hby hd) rfl hv q) k
/-- an array of arrays, each place filled -/
def own_Grid (Z : State) (h : Heap) (a : Addr) (n : Int32) : Prop := ∃ (kA : ClassId) (ty : FieldType) (xs : List Addr), Arv Z h a kA ty n (xs.map Value.ref) .null ∧ ty.isReference = true ∧ xs.length = n.toNatClampNeg
theorem own_Grid.ext {a : Addr} {n : Int32} (G : own_Grid Z h a n) (E : Ext h h') : own_Grid Z h' a n := by
  obtain ⟨kA, ty, xs, A, r⟩ := G; exact ⟨kA, ty, xs, A.ext E, r⟩
theorem own_grid (X : Stand p l e R s m args below meth c T locs cells slots) (hx : p.tables.exec = Jvm.exec) (hby : c.code = B) (hZ : Z.Warmed39 s.vm) {own C ad : String} {ty : FieldType} {index : Nat} (hown : s.vm.findClass own = some m.cls) (hC : (FieldType.array ty).toString = C) (had : "[" ++ C = ad)
    (w1 : (Jvm.Cond.classLink own index ad).before a0 Z = true) (w2 : (Jvm.Cond.arrayOver (.array ty)).before a0 Z = true) (w3 : (Jvm.Cond.arrayClass ty).before a0 Z = true) (eT : T.heap = h) (hd : decode B pc = .ok (.multianewarray index 2, 4)) (hp : pc + 4 = pc') {n : Int32}
    (hn : ¬ n < 0) {CC SS : Nat} (hN : n.toNatClampNeg ≤ SS) (hdf : fits ty (defaultValue ty) = true) (hdd : (defaultValue ty).isDefault = true) (hb1 : SS ≤ 1000) (hCC : 1 + SS ≤ CC) (hc : cells + CC ≤ R.cells) (hl : slots + SS ≤ R.slots)
    (k : ∀ (T' : State) (h' : Heap) (b : Addr), b = h.size → Stand p l e R s m args below meth c T' locs (cells + CC) (slots + SS) → T'.heap = h' → Ext h h' → own_Grid Z h' b n → own_E p.tables e below G (T'.setTop (mkF m pc' Ls (.ref b :: st)))) : own_E p.tables e below G (T.setTop (mkF m pc Ls (.int 0 :: .int n :: st))) := by
  subst hp
  obtain ⟨T', h', cA, comp, X', e', E', V', -, -, -, stp⟩ := gridM X hx hZ hown hC had w1 w2 w3 eT (g := mkF m pc Ls (.int 0 :: .int n :: st)) rfl (hb hby hd) rfl hn (by decide) rfl rfl (cap := 0) (by decide) (by decide) (by omega) hdf hdd (by omega) (by omega)
  exact own_go stp (k T' h' _ rfl (X'.mono (by omega) (by omega)) e' E' ⟨cA, _, _, V', rfl, by simp⟩)
theorem own_aaloadG (X : Stand p l e R s m args below meth c T locs cells slots) (hx : p.tables.exec = Jvm.exec) (hby : c.code = B) (hZ : Z.Warmed39 s.vm) (eT : T.heap = h) {a : Addr} {n j : Int32} (A : own_Grid Z h a n) (hj : ¬ j < 0 ∧ j < n) (hd : decode B pc = .ok (.aaload, 1)) (hp : pc + 1 = pc')
    (k : ∀ x : Addr, own_E p.tables e below G (T.setTop (mkF m pc' Ls (.ref x :: st)))) : own_E p.tables e below G (T.setTop (mkF m pc Ls (.int j :: .ref a :: st))) := by
  obtain ⟨kA, ty, xs, A, ht, hlen⟩ := A
  have hlt : j.toNatClampNeg < xs.length := by
    have h1 := hj.1; have h2 := hj.2
    simp only [Int32.lt_iff_toInt_lt, Int32.reduceToInt] at h1 h2
    rw [hlen]; simp only [Int32.toNatClampNeg]; omega
  exact own_aaloadV X hx hby hZ eT A ht hj (v := .ref xs[j.toNatClampNeg]) (by simp [List.getD_eq_getElem?_getD, hlt]) hd hp (k _)
end OwnHeap

theorem own_d0 : FP.dconst0 = FP.l2d 0 := by rw [l2d_zero]; rfl
def own_S (k : Nat) (a : Int64) : Prop := -((k : Int) * 2147483648) ≤ a.toInt ∧ a.toInt ≤ (k : Int) * 2147483648 ∧ k ≤ 5
theorem own_S0 : own_S 0 0 := ⟨by decide, by decide, by decide⟩
theorem own_S1 (p : Int32) : own_S 1 p.toInt64 := by
  have h1 := p.le_toInt; have h2 := p.toInt_lt
  refine ⟨?_, ?_, by decide⟩ <;> rw [Int32.toInt_toInt64] <;> omega
theorem own_SB {k : Nat} {a : Int64} (h : own_S k a) : B53 a := by
  obtain ⟨h1, h2, h3⟩ := h
  constructor <;> omega
theorem own_Sadd {k : Nat} {a b : Int64} (h : own_S k a) (h' : own_S 1 b) (hk : k + 1 ≤ 5) : own_S (k + 1) (a + b) := by
  have e := add64 (own_SB h) (own_SB h')
  obtain ⟨h1, h2, h3⟩ := h; obtain ⟨g1, g2, g3⟩ := h'
  refine ⟨?_, ?_, hk⟩ <;> rw [e] <;> omega
theorem own_dself (a : Int64) (o : CmpOp) : cmpValue (FP.dcmp (FP.l2d a) (FP.l2d a)) o = 0 := dcmpV_self (nn_w rfl) o
theorem own_mod6 {x q : Int32} (h : (x &&& (2147483647 : Int32)) % (6 : Int32) = q) : q = 0 ∨ q = 1 ∨ q = 2 ∨ q = 3 ∨ q = 4 ∨ q = 5 := by
  have h0 := (c_and x 2147483647 (by decide)).1
  have h1 := (c_irem (x &&& 2147483647) 6 6 (by decide)).1 h0
  rw [h] at h1
  have : q.toInt = 0 ∨ q.toInt = 1 ∨ q.toInt = 2 ∨ q.toInt = 3 ∨ q.toInt = 4 ∨ q.toInt = 5 := by omega
  rcases this with e | e | e | e | e | e
  · exact Or.inl (Int32.toInt_inj.mp e)
  · exact Or.inr (Or.inl (Int32.toInt_inj.mp e))
  · exact Or.inr (Or.inr (Or.inl (Int32.toInt_inj.mp e)))
  · exact Or.inr (Or.inr (Or.inr (Or.inl (Int32.toInt_inj.mp e))))
  · exact Or.inr (Or.inr (Or.inr (Or.inr (Or.inl (Int32.toInt_inj.mp e)))))
  · exact Or.inr (Or.inr (Or.inr (Or.inr (Or.inr (Int32.toInt_inj.mp e)))))
theorem ow_0 {Z : State} {a0 : Array Value} (hw : ∀ d ∈ tables_1, d.before a0 Z = true) : (Jvm.Cond.constant "com/example/kinsmark/kinsmark/score/AggregationSumPinLaw" (7 : Nat) (2147483647 : Int32)).before a0 Z = true := hw _ (List.mem_of_getElem? (i := 0) rfl)
theorem ow_1 {Z : State} {a0 : Array Value} (hw : ∀ d ∈ tables_1, d.before a0 Z = true) : (Jvm.Cond.arrayClass Jvm.ClassFile.FieldType.double).before a0 Z = true := hw _ (List.mem_of_getElem? (i := 1) rfl)
theorem ow_2 {Z : State} {a0 : Array Value} (hw : ∀ d ∈ tables_1, d.before a0 Z = true) : (Jvm.Cond.methodLink "com/example/kinsmark/kinsmark/score/AggregationSumPinLaw" (8 : Nat) ({ cls := "com/example/kinsmark/kinsmark/score/Aggregation", name := "sum", desc := "([D)D" } : Jvm.MethodName)).before a0 Z = true := hw _ (List.mem_of_getElem? (i := 2) rfl)
theorem ow_3 {Z : State} {a0 : Array Value} (hw : ∀ d ∈ tables_1, d.before a0 Z = true) : (Jvm.Cond.static ({ cls := "com/example/kinsmark/kinsmark/score/Aggregation", name := "sum", desc := "([D)D" } : Jvm.MethodName)).before a0 Z = true := hw _ (List.mem_of_getElem? (i := 3) rfl)
theorem ow_4 {Z : State} {a0 : Array Value} (hw : ∀ d ∈ tables_1, d.before a0 Z = true) : (Jvm.Cond.initialized "com/example/kinsmark/kinsmark/score/Aggregation").before a0 Z = true := hw _ (List.mem_of_getElem? (i := 4) rfl)
theorem ow_5 {Z : State} {a0 : Array Value} (hw : ∀ d ∈ tables_1, d.before a0 Z = true) : (Jvm.Cond.code ({ cls := "com/example/kinsmark/kinsmark/score/Aggregation", name := "sum", desc := "([D)D" } : Jvm.MethodName) prog_33_method_3_code (8 : Nat) (Option.some Jvm.ClassFile.FieldType.double)).before a0 Z = true := hw _ (List.mem_of_getElem? (i := 5) rfl)
theorem od_prog_33_method_3_0 : decode prog_33_method_3_code 0 = .ok (.dconst 0, 1) := by decide +kernel
theorem od_prog_33_method_3_1 : decode prog_33_method_3_code 1 = .ok (.dstore_n 1, 1) := by decide +kernel
theorem od_prog_33_method_3_2 : decode prog_33_method_3_code 2 = .ok (.aload_n 0, 1) := by decide +kernel
theorem od_prog_33_method_3_3 : decode prog_33_method_3_code 3 = .ok (.astore_n 3, 1) := by decide +kernel
theorem od_prog_33_method_3_4 : decode prog_33_method_3_code 4 = .ok (.aload_n 3, 1) := by decide +kernel
theorem od_prog_33_method_3_5 : decode prog_33_method_3_code 5 = .ok (.arraylength, 1) := by decide +kernel
theorem od_prog_33_method_3_6 : decode prog_33_method_3_code 6 = .ok (.istore 4, 2) := by decide +kernel
theorem od_prog_33_method_3_8 : decode prog_33_method_3_code 8 = .ok (.iconst 0, 1) := by decide +kernel
theorem od_prog_33_method_3_9 : decode prog_33_method_3_code 9 = .ok (.istore 5, 2) := by decide +kernel
theorem od_prog_33_method_3_11 : decode prog_33_method_3_code 11 = .ok (.iload 5, 2) := by decide +kernel
theorem od_prog_33_method_3_13 : decode prog_33_method_3_code 13 = .ok (.iload 4, 2) := by decide +kernel
theorem od_prog_33_method_3_15 : decode prog_33_method_3_code 15 = .ok (.if_icmp .ge 20, 3) := by decide +kernel
theorem od_prog_33_method_3_35 : decode prog_33_method_3_code 35 = .ok (.dload_n 1, 1) := by decide +kernel
theorem od_prog_33_method_3_36 : decode prog_33_method_3_code 36 = .ok (.dreturn, 1) := by decide +kernel
theorem od_prog_33_method_3_18 : decode prog_33_method_3_code 18 = .ok (.aload_n 3, 1) := by decide +kernel
theorem od_prog_33_method_3_19 : decode prog_33_method_3_code 19 = .ok (.iload 5, 2) := by decide +kernel
theorem od_prog_33_method_3_21 : decode prog_33_method_3_code 21 = .ok (.daload, 1) := by decide +kernel
theorem od_prog_33_method_3_22 : decode prog_33_method_3_code 22 = .ok (.dstore 6, 2) := by decide +kernel
theorem od_prog_33_method_3_24 : decode prog_33_method_3_code 24 = .ok (.dload_n 1, 1) := by decide +kernel
theorem od_prog_33_method_3_25 : decode prog_33_method_3_code 25 = .ok (.dload 6, 2) := by decide +kernel
theorem od_prog_33_method_3_27 : decode prog_33_method_3_code 27 = .ok (.dadd, 1) := by decide +kernel
theorem od_prog_33_method_3_28 : decode prog_33_method_3_code 28 = .ok (.dstore_n 1, 1) := by decide +kernel
theorem od_prog_33_method_3_29 : decode prog_33_method_3_code 29 = .ok (.iinc 5 1, 3) := by decide +kernel
theorem od_prog_33_method_3_32 : decode prog_33_method_3_code 32 = .ok (.goto (-21), 3) := by decide +kernel
theorem opd_0 : parseMethodDescriptor "([D)D" = some ⟨[(.array .double)], some .double⟩ := by decide +kernel
theorem ef_rm_sum0 (m : MethodId) (x0 : Addr) : entryFrame m #[(.ref x0)] 8 = mkF m 0 #[.val (.ref x0), .unset, .unset, .unset, .unset, .unset, .unset, .unset] [] := by first | (simp [entryFrame, mkF, argsToLocals, Value.category]; done) | rfl
set_option maxRecDepth 65536 in
set_option maxHeartbeats 40000000 in
theorem rm_sum0 (l : Launch) (Z : State) (a0 : Array Value) (hw : ∀ d ∈ tables_1, d.before a0 Z = true) (a1 : Addr) (kA : ClassId) (h0 : Heap) (n0 : Nat) (Z0 : n0 ≤ h0.size) (V1 : Arv Z h0 a1 kA .double (0 : Int32) [] (.double (0 : UInt64))) :
    own_Met l Z (⟨"com/example/kinsmark/kinsmark/score/Aggregation", "sum", "([D)D"⟩ : MethodName) prog_33_method_3_code 8 (some .double) ({ frames := 0, cells := 0, slots := 0, locals := 0 } : Room) #[(.ref a1)] h0 (fun v h L => v = some (.double (FP.l2d 0)) ∧ Fr n0 L ∧ h0 = h) := by
  refine own_body (plainFor_of_name (by first | (simp [plainName, overriddenIn]; done) | decide +kernel)) ?_
  intro p e s m below meth c s₁ hx hby hml hown hnm hlk hrt hZ X0 e0
  refine own_enter (ef_rm_sum0 m a1) ?_
  have N0 := Fr.nil n0
  refine own_dconst0 X0 hx hby od_prog_33_method_3_0 (pc' := 1) rfl own_d0 ?_
  refine own_dstoreN X0 hx hby od_prog_33_method_3_1 (pc' := 2) rfl (Ls' := #[.val (.ref a1), .val (.double (FP.l2d 0)), .second, .unset, .unset, .unset, .unset, .unset]) rfl ?_
  refine own_aloadN X0 hx hby od_prog_33_method_3_2 (pc' := 3) rfl rfl rfl ?_
  refine own_astoreN X0 hx hby od_prog_33_method_3_3 (pc' := 4) rfl rfl (Ls' := #[.val (.ref a1), .val (.double (FP.l2d 0)), .second, .val (.ref a1), .unset, .unset, .unset, .unset]) rfl ?_
  refine own_aloadN X0 hx hby od_prog_33_method_3_4 (pc' := 5) rfl rfl rfl ?_
  refine own_alenV X0 hx hby hZ e0 V1 od_prog_33_method_3_5 (pc' := 6) rfl ?_
  refine own_istore X0 hx hby od_prog_33_method_3_6 (pc' := 8) rfl (Ls' := #[.val (.ref a1), .val (.double (FP.l2d 0)), .second, .val (.ref a1), .val (.int (0 : Int32)), .unset, .unset, .unset]) rfl ?_
  refine own_iconst X0 hx hby od_prog_33_method_3_8 (pc' := 9) rfl (z := 0) rfl ?_
  refine own_istore X0 hx hby od_prog_33_method_3_9 (pc' := 11) rfl (Ls' := #[.val (.ref a1), .val (.double (FP.l2d 0)), .second, .val (.ref a1), .val (.int (0 : Int32)), .val (.int (0 : Int32)), .unset, .unset]) rfl ?_
  refine own_iload X0 hx hby od_prog_33_method_3_11 (pc' := 13) rfl rfl ?_
  refine own_iload X0 hx hby od_prog_33_method_3_13 (pc' := 15) rfl rfl ?_
  refine own_icmpY X0 hx hby od_prog_33_method_3_15 (by decide) (pc' := 35) (by decide) (flt (by decide)).2.1 ?_
  refine own_dloadN X0 hx hby od_prog_33_method_3_35 (pc' := 36) rfl rfl ?_
  exact own_retD X0 hx hby hlk hrt od_prog_33_method_3_36 (by first | exact ⟨rfl, N0, rfl⟩ | (rw [e0]; exact ⟨rfl, N0, rfl⟩)) (by decide) (by decide)
theorem ef_rm_sum1 (m : MethodId) (x0 : Addr) : entryFrame m #[(.ref x0)] 8 = mkF m 0 #[.val (.ref x0), .unset, .unset, .unset, .unset, .unset, .unset, .unset] [] := by first | (simp [entryFrame, mkF, argsToLocals, Value.category]; done) | rfl
set_option maxRecDepth 65536 in
set_option maxHeartbeats 40000000 in
theorem rm_sum1 (l : Launch) (Z : State) (a0 : Array Value) (hw : ∀ d ∈ tables_1, d.before a0 Z = true) (a1 : Addr) (kA : ClassId) (q0 : Int64) (h0 : Heap) (n0 : Nat) (Z0 : n0 ≤ h0.size) (V1 : Arv Z h0 a1 kA .double (1 : Int32) [(.double (FP.l2d q0))] (.double (0 : UInt64))) (hb0 : own_S 1 q0) :
    own_Met l Z (⟨"com/example/kinsmark/kinsmark/score/Aggregation", "sum", "([D)D"⟩ : MethodName) prog_33_method_3_code 8 (some .double) ({ frames := 0, cells := 0, slots := 0, locals := 0 } : Room) #[(.ref a1)] h0 (fun v h L => v = some (.double (FP.l2d (0 + q0))) ∧ Fr n0 L ∧ h0 = h) := by
  refine own_body (plainFor_of_name (by first | (simp [plainName, overriddenIn]; done) | decide +kernel)) ?_
  intro p e s m below meth c s₁ hx hby hml hown hnm hlk hrt hZ X0 e0
  refine own_enter (ef_rm_sum1 m a1) ?_
  have N0 := Fr.nil n0
  refine own_dconst0 X0 hx hby od_prog_33_method_3_0 (pc' := 1) rfl own_d0 ?_
  refine own_dstoreN X0 hx hby od_prog_33_method_3_1 (pc' := 2) rfl (Ls' := #[.val (.ref a1), .val (.double (FP.l2d 0)), .second, .unset, .unset, .unset, .unset, .unset]) rfl ?_
  refine own_aloadN X0 hx hby od_prog_33_method_3_2 (pc' := 3) rfl rfl rfl ?_
  refine own_astoreN X0 hx hby od_prog_33_method_3_3 (pc' := 4) rfl rfl (Ls' := #[.val (.ref a1), .val (.double (FP.l2d 0)), .second, .val (.ref a1), .unset, .unset, .unset, .unset]) rfl ?_
  refine own_aloadN X0 hx hby od_prog_33_method_3_4 (pc' := 5) rfl rfl rfl ?_
  refine own_alenV X0 hx hby hZ e0 V1 od_prog_33_method_3_5 (pc' := 6) rfl ?_
  refine own_istore X0 hx hby od_prog_33_method_3_6 (pc' := 8) rfl (Ls' := #[.val (.ref a1), .val (.double (FP.l2d 0)), .second, .val (.ref a1), .val (.int (1 : Int32)), .unset, .unset, .unset]) rfl ?_
  refine own_iconst X0 hx hby od_prog_33_method_3_8 (pc' := 9) rfl (z := 0) rfl ?_
  refine own_istore X0 hx hby od_prog_33_method_3_9 (pc' := 11) rfl (Ls' := #[.val (.ref a1), .val (.double (FP.l2d 0)), .second, .val (.ref a1), .val (.int (1 : Int32)), .val (.int (0 : Int32)), .unset, .unset]) rfl ?_
  refine own_iload X0 hx hby od_prog_33_method_3_11 (pc' := 13) rfl rfl ?_
  refine own_iload X0 hx hby od_prog_33_method_3_13 (pc' := 15) rfl rfl ?_
  refine own_icmpN X0 hx hby od_prog_33_method_3_15 (pc' := 18) rfl (tlt (by decide)).2.1 ?_
  refine own_aloadN X0 hx hby od_prog_33_method_3_18 (pc' := 19) rfl rfl rfl ?_
  refine own_iload X0 hx hby od_prog_33_method_3_19 (pc' := 21) rfl rfl ?_
  refine own_daloadV X0 hx hby hZ e0 V1 ⟨by decide, by decide⟩ (v := (.double (FP.l2d q0))) rfl od_prog_33_method_3_21 (pc' := 22) rfl ?_
  refine own_dstore X0 hx hby od_prog_33_method_3_22 (pc' := 24) rfl (Ls' := #[.val (.ref a1), .val (.double (FP.l2d 0)), .second, .val (.ref a1), .val (.int (1 : Int32)), .val (.int (0 : Int32)), .val (.double (FP.l2d q0)), .second]) rfl ?_
  refine own_dloadN X0 hx hby od_prog_33_method_3_24 (pc' := 25) rfl rfl ?_
  refine own_dload X0 hx hby od_prog_33_method_3_25 (pc' := 27) rfl rfl ?_
  refine own_dadd X0 hx hby od_prog_33_method_3_27 (pc' := 28) rfl (nn_w (dadd_w (own_SB own_S0) (own_SB hb0))) (dadd_w (own_SB own_S0) (own_SB hb0)) ?_
  have hs1 := own_Sadd own_S0 hb0 (by decide)
  refine own_dstoreN X0 hx hby od_prog_33_method_3_28 (pc' := 29) rfl (Ls' := #[.val (.ref a1), .val (.double (FP.l2d (0 + q0))), .second, .val (.ref a1), .val (.int (1 : Int32)), .val (.int (0 : Int32)), .val (.double (FP.l2d q0)), .second]) rfl ?_
  refine own_iinc X0 hx hby od_prog_33_method_3_29 (pc' := 32) rfl rfl (z := 1) rfl (Ls' := #[.val (.ref a1), .val (.double (FP.l2d (0 + q0))), .second, .val (.ref a1), .val (.int (1 : Int32)), .val (.int ((0 : Int32) + (1 : Int32))), .val (.double (FP.l2d q0)), .second]) rfl ?_
  refine own_goto X0 hx hby od_prog_33_method_3_32 (by decide) (pc' := 11) (by decide) ?_
  refine own_iload X0 hx hby od_prog_33_method_3_11 (pc' := 13) rfl rfl ?_
  refine own_iload X0 hx hby od_prog_33_method_3_13 (pc' := 15) rfl rfl ?_
  refine own_icmpY X0 hx hby od_prog_33_method_3_15 (by decide) (pc' := 35) (by decide) (flt (by decide)).2.1 ?_
  refine own_dloadN X0 hx hby od_prog_33_method_3_35 (pc' := 36) rfl rfl ?_
  exact own_retD X0 hx hby hlk hrt od_prog_33_method_3_36 (by first | exact ⟨rfl, N0, rfl⟩ | (rw [e0]; exact ⟨rfl, N0, rfl⟩)) (by decide) (by decide)
theorem ef_rm_sum2 (m : MethodId) (x0 : Addr) : entryFrame m #[(.ref x0)] 8 = mkF m 0 #[.val (.ref x0), .unset, .unset, .unset, .unset, .unset, .unset, .unset] [] := by first | (simp [entryFrame, mkF, argsToLocals, Value.category]; done) | rfl
set_option maxRecDepth 65536 in
set_option maxHeartbeats 40000000 in
theorem rm_sum2 (l : Launch) (Z : State) (a0 : Array Value) (hw : ∀ d ∈ tables_1, d.before a0 Z = true) (a1 : Addr) (kA : ClassId) (q0 q1 : Int64) (h0 : Heap) (n0 : Nat) (Z0 : n0 ≤ h0.size) (V1 : Arv Z h0 a1 kA .double (2 : Int32) [(.double (FP.l2d q0)), (.double (FP.l2d q1))] (.double (0 : UInt64))) (hb0 : own_S 1 q0) (hb1 : own_S 1 q1) :
    own_Met l Z (⟨"com/example/kinsmark/kinsmark/score/Aggregation", "sum", "([D)D"⟩ : MethodName) prog_33_method_3_code 8 (some .double) ({ frames := 0, cells := 0, slots := 0, locals := 0 } : Room) #[(.ref a1)] h0 (fun v h L => v = some (.double (FP.l2d ((0 + q0) + q1))) ∧ Fr n0 L ∧ h0 = h) := by
  refine own_body (plainFor_of_name (by first | (simp [plainName, overriddenIn]; done) | decide +kernel)) ?_
  intro p e s m below meth c s₁ hx hby hml hown hnm hlk hrt hZ X0 e0
  refine own_enter (ef_rm_sum2 m a1) ?_
  have N0 := Fr.nil n0
  refine own_dconst0 X0 hx hby od_prog_33_method_3_0 (pc' := 1) rfl own_d0 ?_
  refine own_dstoreN X0 hx hby od_prog_33_method_3_1 (pc' := 2) rfl (Ls' := #[.val (.ref a1), .val (.double (FP.l2d 0)), .second, .unset, .unset, .unset, .unset, .unset]) rfl ?_
  refine own_aloadN X0 hx hby od_prog_33_method_3_2 (pc' := 3) rfl rfl rfl ?_
  refine own_astoreN X0 hx hby od_prog_33_method_3_3 (pc' := 4) rfl rfl (Ls' := #[.val (.ref a1), .val (.double (FP.l2d 0)), .second, .val (.ref a1), .unset, .unset, .unset, .unset]) rfl ?_
  refine own_aloadN X0 hx hby od_prog_33_method_3_4 (pc' := 5) rfl rfl rfl ?_
  refine own_alenV X0 hx hby hZ e0 V1 od_prog_33_method_3_5 (pc' := 6) rfl ?_
  refine own_istore X0 hx hby od_prog_33_method_3_6 (pc' := 8) rfl (Ls' := #[.val (.ref a1), .val (.double (FP.l2d 0)), .second, .val (.ref a1), .val (.int (2 : Int32)), .unset, .unset, .unset]) rfl ?_
  refine own_iconst X0 hx hby od_prog_33_method_3_8 (pc' := 9) rfl (z := 0) rfl ?_
  refine own_istore X0 hx hby od_prog_33_method_3_9 (pc' := 11) rfl (Ls' := #[.val (.ref a1), .val (.double (FP.l2d 0)), .second, .val (.ref a1), .val (.int (2 : Int32)), .val (.int (0 : Int32)), .unset, .unset]) rfl ?_
  refine own_iload X0 hx hby od_prog_33_method_3_11 (pc' := 13) rfl rfl ?_
  refine own_iload X0 hx hby od_prog_33_method_3_13 (pc' := 15) rfl rfl ?_
  refine own_icmpN X0 hx hby od_prog_33_method_3_15 (pc' := 18) rfl (tlt (by decide)).2.1 ?_
  refine own_aloadN X0 hx hby od_prog_33_method_3_18 (pc' := 19) rfl rfl rfl ?_
  refine own_iload X0 hx hby od_prog_33_method_3_19 (pc' := 21) rfl rfl ?_
  refine own_daloadV X0 hx hby hZ e0 V1 ⟨by decide, by decide⟩ (v := (.double (FP.l2d q0))) rfl od_prog_33_method_3_21 (pc' := 22) rfl ?_
  refine own_dstore X0 hx hby od_prog_33_method_3_22 (pc' := 24) rfl (Ls' := #[.val (.ref a1), .val (.double (FP.l2d 0)), .second, .val (.ref a1), .val (.int (2 : Int32)), .val (.int (0 : Int32)), .val (.double (FP.l2d q0)), .second]) rfl ?_
  refine own_dloadN X0 hx hby od_prog_33_method_3_24 (pc' := 25) rfl rfl ?_
  refine own_dload X0 hx hby od_prog_33_method_3_25 (pc' := 27) rfl rfl ?_
  refine own_dadd X0 hx hby od_prog_33_method_3_27 (pc' := 28) rfl (nn_w (dadd_w (own_SB own_S0) (own_SB hb0))) (dadd_w (own_SB own_S0) (own_SB hb0)) ?_
  have hs1 := own_Sadd own_S0 hb0 (by decide)
  refine own_dstoreN X0 hx hby od_prog_33_method_3_28 (pc' := 29) rfl (Ls' := #[.val (.ref a1), .val (.double (FP.l2d (0 + q0))), .second, .val (.ref a1), .val (.int (2 : Int32)), .val (.int (0 : Int32)), .val (.double (FP.l2d q0)), .second]) rfl ?_
  refine own_iinc X0 hx hby od_prog_33_method_3_29 (pc' := 32) rfl rfl (z := 1) rfl (Ls' := #[.val (.ref a1), .val (.double (FP.l2d (0 + q0))), .second, .val (.ref a1), .val (.int (2 : Int32)), .val (.int ((0 : Int32) + (1 : Int32))), .val (.double (FP.l2d q0)), .second]) rfl ?_
  refine own_goto X0 hx hby od_prog_33_method_3_32 (by decide) (pc' := 11) (by decide) ?_
  refine own_iload X0 hx hby od_prog_33_method_3_11 (pc' := 13) rfl rfl ?_
  refine own_iload X0 hx hby od_prog_33_method_3_13 (pc' := 15) rfl rfl ?_
  refine own_icmpN X0 hx hby od_prog_33_method_3_15 (pc' := 18) rfl (tlt (by decide)).2.1 ?_
  refine own_aloadN X0 hx hby od_prog_33_method_3_18 (pc' := 19) rfl rfl rfl ?_
  refine own_iload X0 hx hby od_prog_33_method_3_19 (pc' := 21) rfl rfl ?_
  refine own_daloadV X0 hx hby hZ e0 V1 ⟨by decide, by decide⟩ (v := (.double (FP.l2d q1))) rfl od_prog_33_method_3_21 (pc' := 22) rfl ?_
  refine own_dstore X0 hx hby od_prog_33_method_3_22 (pc' := 24) rfl (Ls' := #[.val (.ref a1), .val (.double (FP.l2d (0 + q0))), .second, .val (.ref a1), .val (.int (2 : Int32)), .val (.int ((0 : Int32) + (1 : Int32))), .val (.double (FP.l2d q1)), .second]) rfl ?_
  refine own_dloadN X0 hx hby od_prog_33_method_3_24 (pc' := 25) rfl rfl ?_
  refine own_dload X0 hx hby od_prog_33_method_3_25 (pc' := 27) rfl rfl ?_
  refine own_dadd X0 hx hby od_prog_33_method_3_27 (pc' := 28) rfl (nn_w (dadd_w (own_SB hs1) (own_SB hb1))) (dadd_w (own_SB hs1) (own_SB hb1)) ?_
  have hs2 := own_Sadd hs1 hb1 (by decide)
  refine own_dstoreN X0 hx hby od_prog_33_method_3_28 (pc' := 29) rfl (Ls' := #[.val (.ref a1), .val (.double (FP.l2d ((0 + q0) + q1))), .second, .val (.ref a1), .val (.int (2 : Int32)), .val (.int ((0 : Int32) + (1 : Int32))), .val (.double (FP.l2d q1)), .second]) rfl ?_
  refine own_iinc X0 hx hby od_prog_33_method_3_29 (pc' := 32) rfl rfl (z := 1) rfl (Ls' := #[.val (.ref a1), .val (.double (FP.l2d ((0 + q0) + q1))), .second, .val (.ref a1), .val (.int (2 : Int32)), .val (.int (((0 : Int32) + (1 : Int32)) + (1 : Int32))), .val (.double (FP.l2d q1)), .second]) rfl ?_
  refine own_goto X0 hx hby od_prog_33_method_3_32 (by decide) (pc' := 11) (by decide) ?_
  refine own_iload X0 hx hby od_prog_33_method_3_11 (pc' := 13) rfl rfl ?_
  refine own_iload X0 hx hby od_prog_33_method_3_13 (pc' := 15) rfl rfl ?_
  refine own_icmpY X0 hx hby od_prog_33_method_3_15 (by decide) (pc' := 35) (by decide) (flt (by decide)).2.1 ?_
  refine own_dloadN X0 hx hby od_prog_33_method_3_35 (pc' := 36) rfl rfl ?_
  exact own_retD X0 hx hby hlk hrt od_prog_33_method_3_36 (by first | exact ⟨rfl, N0, rfl⟩ | (rw [e0]; exact ⟨rfl, N0, rfl⟩)) (by decide) (by decide)
theorem ef_rm_sum3 (m : MethodId) (x0 : Addr) : entryFrame m #[(.ref x0)] 8 = mkF m 0 #[.val (.ref x0), .unset, .unset, .unset, .unset, .unset, .unset, .unset] [] := by first | (simp [entryFrame, mkF, argsToLocals, Value.category]; done) | rfl
set_option maxRecDepth 65536 in
set_option maxHeartbeats 40000000 in
theorem rm_sum3 (l : Launch) (Z : State) (a0 : Array Value) (hw : ∀ d ∈ tables_1, d.before a0 Z = true) (a1 : Addr) (kA : ClassId) (q0 q1 q2 : Int64) (h0 : Heap) (n0 : Nat) (Z0 : n0 ≤ h0.size) (V1 : Arv Z h0 a1 kA .double (3 : Int32) [(.double (FP.l2d q0)), (.double (FP.l2d q1)), (.double (FP.l2d q2))] (.double (0 : UInt64))) (hb0 : own_S 1 q0) (hb1 : own_S 1 q1) (hb2 : own_S 1 q2) :
    own_Met l Z (⟨"com/example/kinsmark/kinsmark/score/Aggregation", "sum", "([D)D"⟩ : MethodName) prog_33_method_3_code 8 (some .double) ({ frames := 0, cells := 0, slots := 0, locals := 0 } : Room) #[(.ref a1)] h0 (fun v h L => v = some (.double (FP.l2d (((0 + q0) + q1) + q2))) ∧ Fr n0 L ∧ h0 = h) := by
  refine own_body (plainFor_of_name (by first | (simp [plainName, overriddenIn]; done) | decide +kernel)) ?_
  intro p e s m below meth c s₁ hx hby hml hown hnm hlk hrt hZ X0 e0
  refine own_enter (ef_rm_sum3 m a1) ?_
  have N0 := Fr.nil n0
  refine own_dconst0 X0 hx hby od_prog_33_method_3_0 (pc' := 1) rfl own_d0 ?_
  refine own_dstoreN X0 hx hby od_prog_33_method_3_1 (pc' := 2) rfl (Ls' := #[.val (.ref a1), .val (.double (FP.l2d 0)), .second, .unset, .unset, .unset, .unset, .unset]) rfl ?_
  refine own_aloadN X0 hx hby od_prog_33_method_3_2 (pc' := 3) rfl rfl rfl ?_
  refine own_astoreN X0 hx hby od_prog_33_method_3_3 (pc' := 4) rfl rfl (Ls' := #[.val (.ref a1), .val (.double (FP.l2d 0)), .second, .val (.ref a1), .unset, .unset, .unset, .unset]) rfl ?_
  refine own_aloadN X0 hx hby od_prog_33_method_3_4 (pc' := 5) rfl rfl rfl ?_
  refine own_alenV X0 hx hby hZ e0 V1 od_prog_33_method_3_5 (pc' := 6) rfl ?_
  refine own_istore X0 hx hby od_prog_33_method_3_6 (pc' := 8) rfl (Ls' := #[.val (.ref a1), .val (.double (FP.l2d 0)), .second, .val (.ref a1), .val (.int (3 : Int32)), .unset, .unset, .unset]) rfl ?_
  refine own_iconst X0 hx hby od_prog_33_method_3_8 (pc' := 9) rfl (z := 0) rfl ?_
  refine own_istore X0 hx hby od_prog_33_method_3_9 (pc' := 11) rfl (Ls' := #[.val (.ref a1), .val (.double (FP.l2d 0)), .second, .val (.ref a1), .val (.int (3 : Int32)), .val (.int (0 : Int32)), .unset, .unset]) rfl ?_
  refine own_iload X0 hx hby od_prog_33_method_3_11 (pc' := 13) rfl rfl ?_
  refine own_iload X0 hx hby od_prog_33_method_3_13 (pc' := 15) rfl rfl ?_
  refine own_icmpN X0 hx hby od_prog_33_method_3_15 (pc' := 18) rfl (tlt (by decide)).2.1 ?_
  refine own_aloadN X0 hx hby od_prog_33_method_3_18 (pc' := 19) rfl rfl rfl ?_
  refine own_iload X0 hx hby od_prog_33_method_3_19 (pc' := 21) rfl rfl ?_
  refine own_daloadV X0 hx hby hZ e0 V1 ⟨by decide, by decide⟩ (v := (.double (FP.l2d q0))) rfl od_prog_33_method_3_21 (pc' := 22) rfl ?_
  refine own_dstore X0 hx hby od_prog_33_method_3_22 (pc' := 24) rfl (Ls' := #[.val (.ref a1), .val (.double (FP.l2d 0)), .second, .val (.ref a1), .val (.int (3 : Int32)), .val (.int (0 : Int32)), .val (.double (FP.l2d q0)), .second]) rfl ?_
  refine own_dloadN X0 hx hby od_prog_33_method_3_24 (pc' := 25) rfl rfl ?_
  refine own_dload X0 hx hby od_prog_33_method_3_25 (pc' := 27) rfl rfl ?_
  refine own_dadd X0 hx hby od_prog_33_method_3_27 (pc' := 28) rfl (nn_w (dadd_w (own_SB own_S0) (own_SB hb0))) (dadd_w (own_SB own_S0) (own_SB hb0)) ?_
  have hs1 := own_Sadd own_S0 hb0 (by decide)
  refine own_dstoreN X0 hx hby od_prog_33_method_3_28 (pc' := 29) rfl (Ls' := #[.val (.ref a1), .val (.double (FP.l2d (0 + q0))), .second, .val (.ref a1), .val (.int (3 : Int32)), .val (.int (0 : Int32)), .val (.double (FP.l2d q0)), .second]) rfl ?_
  refine own_iinc X0 hx hby od_prog_33_method_3_29 (pc' := 32) rfl rfl (z := 1) rfl (Ls' := #[.val (.ref a1), .val (.double (FP.l2d (0 + q0))), .second, .val (.ref a1), .val (.int (3 : Int32)), .val (.int ((0 : Int32) + (1 : Int32))), .val (.double (FP.l2d q0)), .second]) rfl ?_
  refine own_goto X0 hx hby od_prog_33_method_3_32 (by decide) (pc' := 11) (by decide) ?_
  refine own_iload X0 hx hby od_prog_33_method_3_11 (pc' := 13) rfl rfl ?_
  refine own_iload X0 hx hby od_prog_33_method_3_13 (pc' := 15) rfl rfl ?_
  refine own_icmpN X0 hx hby od_prog_33_method_3_15 (pc' := 18) rfl (tlt (by decide)).2.1 ?_
  refine own_aloadN X0 hx hby od_prog_33_method_3_18 (pc' := 19) rfl rfl rfl ?_
  refine own_iload X0 hx hby od_prog_33_method_3_19 (pc' := 21) rfl rfl ?_
  refine own_daloadV X0 hx hby hZ e0 V1 ⟨by decide, by decide⟩ (v := (.double (FP.l2d q1))) rfl od_prog_33_method_3_21 (pc' := 22) rfl ?_
  refine own_dstore X0 hx hby od_prog_33_method_3_22 (pc' := 24) rfl (Ls' := #[.val (.ref a1), .val (.double (FP.l2d (0 + q0))), .second, .val (.ref a1), .val (.int (3 : Int32)), .val (.int ((0 : Int32) + (1 : Int32))), .val (.double (FP.l2d q1)), .second]) rfl ?_
  refine own_dloadN X0 hx hby od_prog_33_method_3_24 (pc' := 25) rfl rfl ?_
  refine own_dload X0 hx hby od_prog_33_method_3_25 (pc' := 27) rfl rfl ?_
  refine own_dadd X0 hx hby od_prog_33_method_3_27 (pc' := 28) rfl (nn_w (dadd_w (own_SB hs1) (own_SB hb1))) (dadd_w (own_SB hs1) (own_SB hb1)) ?_
  have hs2 := own_Sadd hs1 hb1 (by decide)
  refine own_dstoreN X0 hx hby od_prog_33_method_3_28 (pc' := 29) rfl (Ls' := #[.val (.ref a1), .val (.double (FP.l2d ((0 + q0) + q1))), .second, .val (.ref a1), .val (.int (3 : Int32)), .val (.int ((0 : Int32) + (1 : Int32))), .val (.double (FP.l2d q1)), .second]) rfl ?_
  refine own_iinc X0 hx hby od_prog_33_method_3_29 (pc' := 32) rfl rfl (z := 1) rfl (Ls' := #[.val (.ref a1), .val (.double (FP.l2d ((0 + q0) + q1))), .second, .val (.ref a1), .val (.int (3 : Int32)), .val (.int (((0 : Int32) + (1 : Int32)) + (1 : Int32))), .val (.double (FP.l2d q1)), .second]) rfl ?_
  refine own_goto X0 hx hby od_prog_33_method_3_32 (by decide) (pc' := 11) (by decide) ?_
  refine own_iload X0 hx hby od_prog_33_method_3_11 (pc' := 13) rfl rfl ?_
  refine own_iload X0 hx hby od_prog_33_method_3_13 (pc' := 15) rfl rfl ?_
  refine own_icmpN X0 hx hby od_prog_33_method_3_15 (pc' := 18) rfl (tlt (by decide)).2.1 ?_
  refine own_aloadN X0 hx hby od_prog_33_method_3_18 (pc' := 19) rfl rfl rfl ?_
  refine own_iload X0 hx hby od_prog_33_method_3_19 (pc' := 21) rfl rfl ?_
  refine own_daloadV X0 hx hby hZ e0 V1 ⟨by decide, by decide⟩ (v := (.double (FP.l2d q2))) rfl od_prog_33_method_3_21 (pc' := 22) rfl ?_
  refine own_dstore X0 hx hby od_prog_33_method_3_22 (pc' := 24) rfl (Ls' := #[.val (.ref a1), .val (.double (FP.l2d ((0 + q0) + q1))), .second, .val (.ref a1), .val (.int (3 : Int32)), .val (.int (((0 : Int32) + (1 : Int32)) + (1 : Int32))), .val (.double (FP.l2d q2)), .second]) rfl ?_
  refine own_dloadN X0 hx hby od_prog_33_method_3_24 (pc' := 25) rfl rfl ?_
  refine own_dload X0 hx hby od_prog_33_method_3_25 (pc' := 27) rfl rfl ?_
  refine own_dadd X0 hx hby od_prog_33_method_3_27 (pc' := 28) rfl (nn_w (dadd_w (own_SB hs2) (own_SB hb2))) (dadd_w (own_SB hs2) (own_SB hb2)) ?_
  have hs3 := own_Sadd hs2 hb2 (by decide)
  refine own_dstoreN X0 hx hby od_prog_33_method_3_28 (pc' := 29) rfl (Ls' := #[.val (.ref a1), .val (.double (FP.l2d (((0 + q0) + q1) + q2))), .second, .val (.ref a1), .val (.int (3 : Int32)), .val (.int (((0 : Int32) + (1 : Int32)) + (1 : Int32))), .val (.double (FP.l2d q2)), .second]) rfl ?_
  refine own_iinc X0 hx hby od_prog_33_method_3_29 (pc' := 32) rfl rfl (z := 1) rfl (Ls' := #[.val (.ref a1), .val (.double (FP.l2d (((0 + q0) + q1) + q2))), .second, .val (.ref a1), .val (.int (3 : Int32)), .val (.int ((((0 : Int32) + (1 : Int32)) + (1 : Int32)) + (1 : Int32))), .val (.double (FP.l2d q2)), .second]) rfl ?_
  refine own_goto X0 hx hby od_prog_33_method_3_32 (by decide) (pc' := 11) (by decide) ?_
  refine own_iload X0 hx hby od_prog_33_method_3_11 (pc' := 13) rfl rfl ?_
  refine own_iload X0 hx hby od_prog_33_method_3_13 (pc' := 15) rfl rfl ?_
  refine own_icmpY X0 hx hby od_prog_33_method_3_15 (by decide) (pc' := 35) (by decide) (flt (by decide)).2.1 ?_
  refine own_dloadN X0 hx hby od_prog_33_method_3_35 (pc' := 36) rfl rfl ?_
  exact own_retD X0 hx hby hlk hrt od_prog_33_method_3_36 (by first | exact ⟨rfl, N0, rfl⟩ | (rw [e0]; exact ⟨rfl, N0, rfl⟩)) (by decide) (by decide)
theorem ef_rm_sum4 (m : MethodId) (x0 : Addr) : entryFrame m #[(.ref x0)] 8 = mkF m 0 #[.val (.ref x0), .unset, .unset, .unset, .unset, .unset, .unset, .unset] [] := by first | (simp [entryFrame, mkF, argsToLocals, Value.category]; done) | rfl
set_option maxRecDepth 65536 in
set_option maxHeartbeats 40000000 in
theorem rm_sum4 (l : Launch) (Z : State) (a0 : Array Value) (hw : ∀ d ∈ tables_1, d.before a0 Z = true) (a1 : Addr) (kA : ClassId) (q0 q1 q2 q3 : Int64) (h0 : Heap) (n0 : Nat) (Z0 : n0 ≤ h0.size) (V1 : Arv Z h0 a1 kA .double (4 : Int32) [(.double (FP.l2d q0)), (.double (FP.l2d q1)), (.double (FP.l2d q2)), (.double (FP.l2d q3))] (.double (0 : UInt64))) (hb0 : own_S 1 q0) (hb1 : own_S 1 q1) (hb2 : own_S 1 q2) (hb3 : own_S 1 q3) :
    own_Met l Z (⟨"com/example/kinsmark/kinsmark/score/Aggregation", "sum", "([D)D"⟩ : MethodName) prog_33_method_3_code 8 (some .double) ({ frames := 0, cells := 0, slots := 0, locals := 0 } : Room) #[(.ref a1)] h0 (fun v h L => v = some (.double (FP.l2d ((((0 + q0) + q1) + q2) + q3))) ∧ Fr n0 L ∧ h0 = h) := by
  refine own_body (plainFor_of_name (by first | (simp [plainName, overriddenIn]; done) | decide +kernel)) ?_
  intro p e s m below meth c s₁ hx hby hml hown hnm hlk hrt hZ X0 e0
  refine own_enter (ef_rm_sum4 m a1) ?_
  have N0 := Fr.nil n0
  refine own_dconst0 X0 hx hby od_prog_33_method_3_0 (pc' := 1) rfl own_d0 ?_
  refine own_dstoreN X0 hx hby od_prog_33_method_3_1 (pc' := 2) rfl (Ls' := #[.val (.ref a1), .val (.double (FP.l2d 0)), .second, .unset, .unset, .unset, .unset, .unset]) rfl ?_
  refine own_aloadN X0 hx hby od_prog_33_method_3_2 (pc' := 3) rfl rfl rfl ?_
  refine own_astoreN X0 hx hby od_prog_33_method_3_3 (pc' := 4) rfl rfl (Ls' := #[.val (.ref a1), .val (.double (FP.l2d 0)), .second, .val (.ref a1), .unset, .unset, .unset, .unset]) rfl ?_
  refine own_aloadN X0 hx hby od_prog_33_method_3_4 (pc' := 5) rfl rfl rfl ?_
  refine own_alenV X0 hx hby hZ e0 V1 od_prog_33_method_3_5 (pc' := 6) rfl ?_
  refine own_istore X0 hx hby od_prog_33_method_3_6 (pc' := 8) rfl (Ls' := #[.val (.ref a1), .val (.double (FP.l2d 0)), .second, .val (.ref a1), .val (.int (4 : Int32)), .unset, .unset, .unset]) rfl ?_
  refine own_iconst X0 hx hby od_prog_33_method_3_8 (pc' := 9) rfl (z := 0) rfl ?_
  refine own_istore X0 hx hby od_prog_33_method_3_9 (pc' := 11) rfl (Ls' := #[.val (.ref a1), .val (.double (FP.l2d 0)), .second, .val (.ref a1), .val (.int (4 : Int32)), .val (.int (0 : Int32)), .unset, .unset]) rfl ?_
  refine own_iload X0 hx hby od_prog_33_method_3_11 (pc' := 13) rfl rfl ?_
  refine own_iload X0 hx hby od_prog_33_method_3_13 (pc' := 15) rfl rfl ?_
  refine own_icmpN X0 hx hby od_prog_33_method_3_15 (pc' := 18) rfl (tlt (by decide)).2.1 ?_
  refine own_aloadN X0 hx hby od_prog_33_method_3_18 (pc' := 19) rfl rfl rfl ?_
  refine own_iload X0 hx hby od_prog_33_method_3_19 (pc' := 21) rfl rfl ?_
  refine own_daloadV X0 hx hby hZ e0 V1 ⟨by decide, by decide⟩ (v := (.double (FP.l2d q0))) rfl od_prog_33_method_3_21 (pc' := 22) rfl ?_
  refine own_dstore X0 hx hby od_prog_33_method_3_22 (pc' := 24) rfl (Ls' := #[.val (.ref a1), .val (.double (FP.l2d 0)), .second, .val (.ref a1), .val (.int (4 : Int32)), .val (.int (0 : Int32)), .val (.double (FP.l2d q0)), .second]) rfl ?_
  refine own_dloadN X0 hx hby od_prog_33_method_3_24 (pc' := 25) rfl rfl ?_
  refine own_dload X0 hx hby od_prog_33_method_3_25 (pc' := 27) rfl rfl ?_
  refine own_dadd X0 hx hby od_prog_33_method_3_27 (pc' := 28) rfl (nn_w (dadd_w (own_SB own_S0) (own_SB hb0))) (dadd_w (own_SB own_S0) (own_SB hb0)) ?_
  have hs1 := own_Sadd own_S0 hb0 (by decide)
  refine own_dstoreN X0 hx hby od_prog_33_method_3_28 (pc' := 29) rfl (Ls' := #[.val (.ref a1), .val (.double (FP.l2d (0 + q0))), .second, .val (.ref a1), .val (.int (4 : Int32)), .val (.int (0 : Int32)), .val (.double (FP.l2d q0)), .second]) rfl ?_
  refine own_iinc X0 hx hby od_prog_33_method_3_29 (pc' := 32) rfl rfl (z := 1) rfl (Ls' := #[.val (.ref a1), .val (.double (FP.l2d (0 + q0))), .second, .val (.ref a1), .val (.int (4 : Int32)), .val (.int ((0 : Int32) + (1 : Int32))), .val (.double (FP.l2d q0)), .second]) rfl ?_
  refine own_goto X0 hx hby od_prog_33_method_3_32 (by decide) (pc' := 11) (by decide) ?_
  refine own_iload X0 hx hby od_prog_33_method_3_11 (pc' := 13) rfl rfl ?_
  refine own_iload X0 hx hby od_prog_33_method_3_13 (pc' := 15) rfl rfl ?_
  refine own_icmpN X0 hx hby od_prog_33_method_3_15 (pc' := 18) rfl (tlt (by decide)).2.1 ?_
  refine own_aloadN X0 hx hby od_prog_33_method_3_18 (pc' := 19) rfl rfl rfl ?_
  refine own_iload X0 hx hby od_prog_33_method_3_19 (pc' := 21) rfl rfl ?_
  refine own_daloadV X0 hx hby hZ e0 V1 ⟨by decide, by decide⟩ (v := (.double (FP.l2d q1))) rfl od_prog_33_method_3_21 (pc' := 22) rfl ?_
  refine own_dstore X0 hx hby od_prog_33_method_3_22 (pc' := 24) rfl (Ls' := #[.val (.ref a1), .val (.double (FP.l2d (0 + q0))), .second, .val (.ref a1), .val (.int (4 : Int32)), .val (.int ((0 : Int32) + (1 : Int32))), .val (.double (FP.l2d q1)), .second]) rfl ?_
  refine own_dloadN X0 hx hby od_prog_33_method_3_24 (pc' := 25) rfl rfl ?_
  refine own_dload X0 hx hby od_prog_33_method_3_25 (pc' := 27) rfl rfl ?_
  refine own_dadd X0 hx hby od_prog_33_method_3_27 (pc' := 28) rfl (nn_w (dadd_w (own_SB hs1) (own_SB hb1))) (dadd_w (own_SB hs1) (own_SB hb1)) ?_
  have hs2 := own_Sadd hs1 hb1 (by decide)
  refine own_dstoreN X0 hx hby od_prog_33_method_3_28 (pc' := 29) rfl (Ls' := #[.val (.ref a1), .val (.double (FP.l2d ((0 + q0) + q1))), .second, .val (.ref a1), .val (.int (4 : Int32)), .val (.int ((0 : Int32) + (1 : Int32))), .val (.double (FP.l2d q1)), .second]) rfl ?_
  refine own_iinc X0 hx hby od_prog_33_method_3_29 (pc' := 32) rfl rfl (z := 1) rfl (Ls' := #[.val (.ref a1), .val (.double (FP.l2d ((0 + q0) + q1))), .second, .val (.ref a1), .val (.int (4 : Int32)), .val (.int (((0 : Int32) + (1 : Int32)) + (1 : Int32))), .val (.double (FP.l2d q1)), .second]) rfl ?_
  refine own_goto X0 hx hby od_prog_33_method_3_32 (by decide) (pc' := 11) (by decide) ?_
  refine own_iload X0 hx hby od_prog_33_method_3_11 (pc' := 13) rfl rfl ?_
  refine own_iload X0 hx hby od_prog_33_method_3_13 (pc' := 15) rfl rfl ?_
  refine own_icmpN X0 hx hby od_prog_33_method_3_15 (pc' := 18) rfl (tlt (by decide)).2.1 ?_
  refine own_aloadN X0 hx hby od_prog_33_method_3_18 (pc' := 19) rfl rfl rfl ?_
  refine own_iload X0 hx hby od_prog_33_method_3_19 (pc' := 21) rfl rfl ?_
  refine own_daloadV X0 hx hby hZ e0 V1 ⟨by decide, by decide⟩ (v := (.double (FP.l2d q2))) rfl od_prog_33_method_3_21 (pc' := 22) rfl ?_
  refine own_dstore X0 hx hby od_prog_33_method_3_22 (pc' := 24) rfl (Ls' := #[.val (.ref a1), .val (.double (FP.l2d ((0 + q0) + q1))), .second, .val (.ref a1), .val (.int (4 : Int32)), .val (.int (((0 : Int32) + (1 : Int32)) + (1 : Int32))), .val (.double (FP.l2d q2)), .second]) rfl ?_
  refine own_dloadN X0 hx hby od_prog_33_method_3_24 (pc' := 25) rfl rfl ?_
  refine own_dload X0 hx hby od_prog_33_method_3_25 (pc' := 27) rfl rfl ?_
  refine own_dadd X0 hx hby od_prog_33_method_3_27 (pc' := 28) rfl (nn_w (dadd_w (own_SB hs2) (own_SB hb2))) (dadd_w (own_SB hs2) (own_SB hb2)) ?_
  have hs3 := own_Sadd hs2 hb2 (by decide)
  refine own_dstoreN X0 hx hby od_prog_33_method_3_28 (pc' := 29) rfl (Ls' := #[.val (.ref a1), .val (.double (FP.l2d (((0 + q0) + q1) + q2))), .second, .val (.ref a1), .val (.int (4 : Int32)), .val (.int (((0 : Int32) + (1 : Int32)) + (1 : Int32))), .val (.double (FP.l2d q2)), .second]) rfl ?_
  refine own_iinc X0 hx hby od_prog_33_method_3_29 (pc' := 32) rfl rfl (z := 1) rfl (Ls' := #[.val (.ref a1), .val (.double (FP.l2d (((0 + q0) + q1) + q2))), .second, .val (.ref a1), .val (.int (4 : Int32)), .val (.int ((((0 : Int32) + (1 : Int32)) + (1 : Int32)) + (1 : Int32))), .val (.double (FP.l2d q2)), .second]) rfl ?_
  refine own_goto X0 hx hby od_prog_33_method_3_32 (by decide) (pc' := 11) (by decide) ?_
  refine own_iload X0 hx hby od_prog_33_method_3_11 (pc' := 13) rfl rfl ?_
  refine own_iload X0 hx hby od_prog_33_method_3_13 (pc' := 15) rfl rfl ?_
  refine own_icmpN X0 hx hby od_prog_33_method_3_15 (pc' := 18) rfl (tlt (by decide)).2.1 ?_
  refine own_aloadN X0 hx hby od_prog_33_method_3_18 (pc' := 19) rfl rfl rfl ?_
  refine own_iload X0 hx hby od_prog_33_method_3_19 (pc' := 21) rfl rfl ?_
  refine own_daloadV X0 hx hby hZ e0 V1 ⟨by decide, by decide⟩ (v := (.double (FP.l2d q3))) rfl od_prog_33_method_3_21 (pc' := 22) rfl ?_
  refine own_dstore X0 hx hby od_prog_33_method_3_22 (pc' := 24) rfl (Ls' := #[.val (.ref a1), .val (.double (FP.l2d (((0 + q0) + q1) + q2))), .second, .val (.ref a1), .val (.int (4 : Int32)), .val (.int ((((0 : Int32) + (1 : Int32)) + (1 : Int32)) + (1 : Int32))), .val (.double (FP.l2d q3)), .second]) rfl ?_
  refine own_dloadN X0 hx hby od_prog_33_method_3_24 (pc' := 25) rfl rfl ?_
  refine own_dload X0 hx hby od_prog_33_method_3_25 (pc' := 27) rfl rfl ?_
  refine own_dadd X0 hx hby od_prog_33_method_3_27 (pc' := 28) rfl (nn_w (dadd_w (own_SB hs3) (own_SB hb3))) (dadd_w (own_SB hs3) (own_SB hb3)) ?_
  have hs4 := own_Sadd hs3 hb3 (by decide)
  refine own_dstoreN X0 hx hby od_prog_33_method_3_28 (pc' := 29) rfl (Ls' := #[.val (.ref a1), .val (.double (FP.l2d ((((0 + q0) + q1) + q2) + q3))), .second, .val (.ref a1), .val (.int (4 : Int32)), .val (.int ((((0 : Int32) + (1 : Int32)) + (1 : Int32)) + (1 : Int32))), .val (.double (FP.l2d q3)), .second]) rfl ?_
  refine own_iinc X0 hx hby od_prog_33_method_3_29 (pc' := 32) rfl rfl (z := 1) rfl (Ls' := #[.val (.ref a1), .val (.double (FP.l2d ((((0 + q0) + q1) + q2) + q3))), .second, .val (.ref a1), .val (.int (4 : Int32)), .val (.int (((((0 : Int32) + (1 : Int32)) + (1 : Int32)) + (1 : Int32)) + (1 : Int32))), .val (.double (FP.l2d q3)), .second]) rfl ?_
  refine own_goto X0 hx hby od_prog_33_method_3_32 (by decide) (pc' := 11) (by decide) ?_
  refine own_iload X0 hx hby od_prog_33_method_3_11 (pc' := 13) rfl rfl ?_
  refine own_iload X0 hx hby od_prog_33_method_3_13 (pc' := 15) rfl rfl ?_
  refine own_icmpY X0 hx hby od_prog_33_method_3_15 (by decide) (pc' := 35) (by decide) (flt (by decide)).2.1 ?_
  refine own_dloadN X0 hx hby od_prog_33_method_3_35 (pc' := 36) rfl rfl ?_
  exact own_retD X0 hx hby hlk hrt od_prog_33_method_3_36 (by first | exact ⟨rfl, N0, rfl⟩ | (rw [e0]; exact ⟨rfl, N0, rfl⟩)) (by decide) (by decide)
theorem ef_rm_sum5 (m : MethodId) (x0 : Addr) : entryFrame m #[(.ref x0)] 8 = mkF m 0 #[.val (.ref x0), .unset, .unset, .unset, .unset, .unset, .unset, .unset] [] := by first | (simp [entryFrame, mkF, argsToLocals, Value.category]; done) | rfl
set_option maxRecDepth 65536 in
set_option maxHeartbeats 40000000 in
theorem rm_sum5 (l : Launch) (Z : State) (a0 : Array Value) (hw : ∀ d ∈ tables_1, d.before a0 Z = true) (a1 : Addr) (kA : ClassId) (q0 q1 q2 q3 q4 : Int64) (h0 : Heap) (n0 : Nat) (Z0 : n0 ≤ h0.size) (V1 : Arv Z h0 a1 kA .double (5 : Int32) [(.double (FP.l2d q0)), (.double (FP.l2d q1)), (.double (FP.l2d q2)), (.double (FP.l2d q3)), (.double (FP.l2d q4))] (.double (0 : UInt64))) (hb0 : own_S 1 q0) (hb1 : own_S 1 q1) (hb2 : own_S 1 q2) (hb3 : own_S 1 q3) (hb4 : own_S 1 q4) :
    own_Met l Z (⟨"com/example/kinsmark/kinsmark/score/Aggregation", "sum", "([D)D"⟩ : MethodName) prog_33_method_3_code 8 (some .double) ({ frames := 0, cells := 0, slots := 0, locals := 0 } : Room) #[(.ref a1)] h0 (fun v h L => v = some (.double (FP.l2d (((((0 + q0) + q1) + q2) + q3) + q4))) ∧ Fr n0 L ∧ h0 = h) := by
  refine own_body (plainFor_of_name (by first | (simp [plainName, overriddenIn]; done) | decide +kernel)) ?_
  intro p e s m below meth c s₁ hx hby hml hown hnm hlk hrt hZ X0 e0
  refine own_enter (ef_rm_sum5 m a1) ?_
  have N0 := Fr.nil n0
  refine own_dconst0 X0 hx hby od_prog_33_method_3_0 (pc' := 1) rfl own_d0 ?_
  refine own_dstoreN X0 hx hby od_prog_33_method_3_1 (pc' := 2) rfl (Ls' := #[.val (.ref a1), .val (.double (FP.l2d 0)), .second, .unset, .unset, .unset, .unset, .unset]) rfl ?_
  refine own_aloadN X0 hx hby od_prog_33_method_3_2 (pc' := 3) rfl rfl rfl ?_
  refine own_astoreN X0 hx hby od_prog_33_method_3_3 (pc' := 4) rfl rfl (Ls' := #[.val (.ref a1), .val (.double (FP.l2d 0)), .second, .val (.ref a1), .unset, .unset, .unset, .unset]) rfl ?_
  refine own_aloadN X0 hx hby od_prog_33_method_3_4 (pc' := 5) rfl rfl rfl ?_
  refine own_alenV X0 hx hby hZ e0 V1 od_prog_33_method_3_5 (pc' := 6) rfl ?_
  refine own_istore X0 hx hby od_prog_33_method_3_6 (pc' := 8) rfl (Ls' := #[.val (.ref a1), .val (.double (FP.l2d 0)), .second, .val (.ref a1), .val (.int (5 : Int32)), .unset, .unset, .unset]) rfl ?_
  refine own_iconst X0 hx hby od_prog_33_method_3_8 (pc' := 9) rfl (z := 0) rfl ?_
  refine own_istore X0 hx hby od_prog_33_method_3_9 (pc' := 11) rfl (Ls' := #[.val (.ref a1), .val (.double (FP.l2d 0)), .second, .val (.ref a1), .val (.int (5 : Int32)), .val (.int (0 : Int32)), .unset, .unset]) rfl ?_
  refine own_iload X0 hx hby od_prog_33_method_3_11 (pc' := 13) rfl rfl ?_
  refine own_iload X0 hx hby od_prog_33_method_3_13 (pc' := 15) rfl rfl ?_
  refine own_icmpN X0 hx hby od_prog_33_method_3_15 (pc' := 18) rfl (tlt (by decide)).2.1 ?_
  refine own_aloadN X0 hx hby od_prog_33_method_3_18 (pc' := 19) rfl rfl rfl ?_
  refine own_iload X0 hx hby od_prog_33_method_3_19 (pc' := 21) rfl rfl ?_
  refine own_daloadV X0 hx hby hZ e0 V1 ⟨by decide, by decide⟩ (v := (.double (FP.l2d q0))) rfl od_prog_33_method_3_21 (pc' := 22) rfl ?_
  refine own_dstore X0 hx hby od_prog_33_method_3_22 (pc' := 24) rfl (Ls' := #[.val (.ref a1), .val (.double (FP.l2d 0)), .second, .val (.ref a1), .val (.int (5 : Int32)), .val (.int (0 : Int32)), .val (.double (FP.l2d q0)), .second]) rfl ?_
  refine own_dloadN X0 hx hby od_prog_33_method_3_24 (pc' := 25) rfl rfl ?_
  refine own_dload X0 hx hby od_prog_33_method_3_25 (pc' := 27) rfl rfl ?_
  refine own_dadd X0 hx hby od_prog_33_method_3_27 (pc' := 28) rfl (nn_w (dadd_w (own_SB own_S0) (own_SB hb0))) (dadd_w (own_SB own_S0) (own_SB hb0)) ?_
  have hs1 := own_Sadd own_S0 hb0 (by decide)
  refine own_dstoreN X0 hx hby od_prog_33_method_3_28 (pc' := 29) rfl (Ls' := #[.val (.ref a1), .val (.double (FP.l2d (0 + q0))), .second, .val (.ref a1), .val (.int (5 : Int32)), .val (.int (0 : Int32)), .val (.double (FP.l2d q0)), .second]) rfl ?_
  refine own_iinc X0 hx hby od_prog_33_method_3_29 (pc' := 32) rfl rfl (z := 1) rfl (Ls' := #[.val (.ref a1), .val (.double (FP.l2d (0 + q0))), .second, .val (.ref a1), .val (.int (5 : Int32)), .val (.int ((0 : Int32) + (1 : Int32))), .val (.double (FP.l2d q0)), .second]) rfl ?_
  refine own_goto X0 hx hby od_prog_33_method_3_32 (by decide) (pc' := 11) (by decide) ?_
  refine own_iload X0 hx hby od_prog_33_method_3_11 (pc' := 13) rfl rfl ?_
  refine own_iload X0 hx hby od_prog_33_method_3_13 (pc' := 15) rfl rfl ?_
  refine own_icmpN X0 hx hby od_prog_33_method_3_15 (pc' := 18) rfl (tlt (by decide)).2.1 ?_
  refine own_aloadN X0 hx hby od_prog_33_method_3_18 (pc' := 19) rfl rfl rfl ?_
  refine own_iload X0 hx hby od_prog_33_method_3_19 (pc' := 21) rfl rfl ?_
  refine own_daloadV X0 hx hby hZ e0 V1 ⟨by decide, by decide⟩ (v := (.double (FP.l2d q1))) rfl od_prog_33_method_3_21 (pc' := 22) rfl ?_
  refine own_dstore X0 hx hby od_prog_33_method_3_22 (pc' := 24) rfl (Ls' := #[.val (.ref a1), .val (.double (FP.l2d (0 + q0))), .second, .val (.ref a1), .val (.int (5 : Int32)), .val (.int ((0 : Int32) + (1 : Int32))), .val (.double (FP.l2d q1)), .second]) rfl ?_
  refine own_dloadN X0 hx hby od_prog_33_method_3_24 (pc' := 25) rfl rfl ?_
  refine own_dload X0 hx hby od_prog_33_method_3_25 (pc' := 27) rfl rfl ?_
  refine own_dadd X0 hx hby od_prog_33_method_3_27 (pc' := 28) rfl (nn_w (dadd_w (own_SB hs1) (own_SB hb1))) (dadd_w (own_SB hs1) (own_SB hb1)) ?_
  have hs2 := own_Sadd hs1 hb1 (by decide)
  refine own_dstoreN X0 hx hby od_prog_33_method_3_28 (pc' := 29) rfl (Ls' := #[.val (.ref a1), .val (.double (FP.l2d ((0 + q0) + q1))), .second, .val (.ref a1), .val (.int (5 : Int32)), .val (.int ((0 : Int32) + (1 : Int32))), .val (.double (FP.l2d q1)), .second]) rfl ?_
  refine own_iinc X0 hx hby od_prog_33_method_3_29 (pc' := 32) rfl rfl (z := 1) rfl (Ls' := #[.val (.ref a1), .val (.double (FP.l2d ((0 + q0) + q1))), .second, .val (.ref a1), .val (.int (5 : Int32)), .val (.int (((0 : Int32) + (1 : Int32)) + (1 : Int32))), .val (.double (FP.l2d q1)), .second]) rfl ?_
  refine own_goto X0 hx hby od_prog_33_method_3_32 (by decide) (pc' := 11) (by decide) ?_
  refine own_iload X0 hx hby od_prog_33_method_3_11 (pc' := 13) rfl rfl ?_
  refine own_iload X0 hx hby od_prog_33_method_3_13 (pc' := 15) rfl rfl ?_
  refine own_icmpN X0 hx hby od_prog_33_method_3_15 (pc' := 18) rfl (tlt (by decide)).2.1 ?_
  refine own_aloadN X0 hx hby od_prog_33_method_3_18 (pc' := 19) rfl rfl rfl ?_
  refine own_iload X0 hx hby od_prog_33_method_3_19 (pc' := 21) rfl rfl ?_
  refine own_daloadV X0 hx hby hZ e0 V1 ⟨by decide, by decide⟩ (v := (.double (FP.l2d q2))) rfl od_prog_33_method_3_21 (pc' := 22) rfl ?_
  refine own_dstore X0 hx hby od_prog_33_method_3_22 (pc' := 24) rfl (Ls' := #[.val (.ref a1), .val (.double (FP.l2d ((0 + q0) + q1))), .second, .val (.ref a1), .val (.int (5 : Int32)), .val (.int (((0 : Int32) + (1 : Int32)) + (1 : Int32))), .val (.double (FP.l2d q2)), .second]) rfl ?_
  refine own_dloadN X0 hx hby od_prog_33_method_3_24 (pc' := 25) rfl rfl ?_
  refine own_dload X0 hx hby od_prog_33_method_3_25 (pc' := 27) rfl rfl ?_
  refine own_dadd X0 hx hby od_prog_33_method_3_27 (pc' := 28) rfl (nn_w (dadd_w (own_SB hs2) (own_SB hb2))) (dadd_w (own_SB hs2) (own_SB hb2)) ?_
  have hs3 := own_Sadd hs2 hb2 (by decide)
  refine own_dstoreN X0 hx hby od_prog_33_method_3_28 (pc' := 29) rfl (Ls' := #[.val (.ref a1), .val (.double (FP.l2d (((0 + q0) + q1) + q2))), .second, .val (.ref a1), .val (.int (5 : Int32)), .val (.int (((0 : Int32) + (1 : Int32)) + (1 : Int32))), .val (.double (FP.l2d q2)), .second]) rfl ?_
  refine own_iinc X0 hx hby od_prog_33_method_3_29 (pc' := 32) rfl rfl (z := 1) rfl (Ls' := #[.val (.ref a1), .val (.double (FP.l2d (((0 + q0) + q1) + q2))), .second, .val (.ref a1), .val (.int (5 : Int32)), .val (.int ((((0 : Int32) + (1 : Int32)) + (1 : Int32)) + (1 : Int32))), .val (.double (FP.l2d q2)), .second]) rfl ?_
  refine own_goto X0 hx hby od_prog_33_method_3_32 (by decide) (pc' := 11) (by decide) ?_
  refine own_iload X0 hx hby od_prog_33_method_3_11 (pc' := 13) rfl rfl ?_
  refine own_iload X0 hx hby od_prog_33_method_3_13 (pc' := 15) rfl rfl ?_
  refine own_icmpN X0 hx hby od_prog_33_method_3_15 (pc' := 18) rfl (tlt (by decide)).2.1 ?_
  refine own_aloadN X0 hx hby od_prog_33_method_3_18 (pc' := 19) rfl rfl rfl ?_
  refine own_iload X0 hx hby od_prog_33_method_3_19 (pc' := 21) rfl rfl ?_
  refine own_daloadV X0 hx hby hZ e0 V1 ⟨by decide, by decide⟩ (v := (.double (FP.l2d q3))) rfl od_prog_33_method_3_21 (pc' := 22) rfl ?_
  refine own_dstore X0 hx hby od_prog_33_method_3_22 (pc' := 24) rfl (Ls' := #[.val (.ref a1), .val (.double (FP.l2d (((0 + q0) + q1) + q2))), .second, .val (.ref a1), .val (.int (5 : Int32)), .val (.int ((((0 : Int32) + (1 : Int32)) + (1 : Int32)) + (1 : Int32))), .val (.double (FP.l2d q3)), .second]) rfl ?_
  refine own_dloadN X0 hx hby od_prog_33_method_3_24 (pc' := 25) rfl rfl ?_
  refine own_dload X0 hx hby od_prog_33_method_3_25 (pc' := 27) rfl rfl ?_
  refine own_dadd X0 hx hby od_prog_33_method_3_27 (pc' := 28) rfl (nn_w (dadd_w (own_SB hs3) (own_SB hb3))) (dadd_w (own_SB hs3) (own_SB hb3)) ?_
  have hs4 := own_Sadd hs3 hb3 (by decide)
  refine own_dstoreN X0 hx hby od_prog_33_method_3_28 (pc' := 29) rfl (Ls' := #[.val (.ref a1), .val (.double (FP.l2d ((((0 + q0) + q1) + q2) + q3))), .second, .val (.ref a1), .val (.int (5 : Int32)), .val (.int ((((0 : Int32) + (1 : Int32)) + (1 : Int32)) + (1 : Int32))), .val (.double (FP.l2d q3)), .second]) rfl ?_
  refine own_iinc X0 hx hby od_prog_33_method_3_29 (pc' := 32) rfl rfl (z := 1) rfl (Ls' := #[.val (.ref a1), .val (.double (FP.l2d ((((0 + q0) + q1) + q2) + q3))), .second, .val (.ref a1), .val (.int (5 : Int32)), .val (.int (((((0 : Int32) + (1 : Int32)) + (1 : Int32)) + (1 : Int32)) + (1 : Int32))), .val (.double (FP.l2d q3)), .second]) rfl ?_
  refine own_goto X0 hx hby od_prog_33_method_3_32 (by decide) (pc' := 11) (by decide) ?_
  refine own_iload X0 hx hby od_prog_33_method_3_11 (pc' := 13) rfl rfl ?_
  refine own_iload X0 hx hby od_prog_33_method_3_13 (pc' := 15) rfl rfl ?_
  refine own_icmpN X0 hx hby od_prog_33_method_3_15 (pc' := 18) rfl (tlt (by decide)).2.1 ?_
  refine own_aloadN X0 hx hby od_prog_33_method_3_18 (pc' := 19) rfl rfl rfl ?_
  refine own_iload X0 hx hby od_prog_33_method_3_19 (pc' := 21) rfl rfl ?_
  refine own_daloadV X0 hx hby hZ e0 V1 ⟨by decide, by decide⟩ (v := (.double (FP.l2d q4))) rfl od_prog_33_method_3_21 (pc' := 22) rfl ?_
  refine own_dstore X0 hx hby od_prog_33_method_3_22 (pc' := 24) rfl (Ls' := #[.val (.ref a1), .val (.double (FP.l2d ((((0 + q0) + q1) + q2) + q3))), .second, .val (.ref a1), .val (.int (5 : Int32)), .val (.int (((((0 : Int32) + (1 : Int32)) + (1 : Int32)) + (1 : Int32)) + (1 : Int32))), .val (.double (FP.l2d q4)), .second]) rfl ?_
  refine own_dloadN X0 hx hby od_prog_33_method_3_24 (pc' := 25) rfl rfl ?_
  refine own_dload X0 hx hby od_prog_33_method_3_25 (pc' := 27) rfl rfl ?_
  refine own_dadd X0 hx hby od_prog_33_method_3_27 (pc' := 28) rfl (nn_w (dadd_w (own_SB hs4) (own_SB hb4))) (dadd_w (own_SB hs4) (own_SB hb4)) ?_
  have hs5 := own_Sadd hs4 hb4 (by decide)
  refine own_dstoreN X0 hx hby od_prog_33_method_3_28 (pc' := 29) rfl (Ls' := #[.val (.ref a1), .val (.double (FP.l2d (((((0 + q0) + q1) + q2) + q3) + q4))), .second, .val (.ref a1), .val (.int (5 : Int32)), .val (.int (((((0 : Int32) + (1 : Int32)) + (1 : Int32)) + (1 : Int32)) + (1 : Int32))), .val (.double (FP.l2d q4)), .second]) rfl ?_
  refine own_iinc X0 hx hby od_prog_33_method_3_29 (pc' := 32) rfl rfl (z := 1) rfl (Ls' := #[.val (.ref a1), .val (.double (FP.l2d (((((0 + q0) + q1) + q2) + q3) + q4))), .second, .val (.ref a1), .val (.int (5 : Int32)), .val (.int ((((((0 : Int32) + (1 : Int32)) + (1 : Int32)) + (1 : Int32)) + (1 : Int32)) + (1 : Int32))), .val (.double (FP.l2d q4)), .second]) rfl ?_
  refine own_goto X0 hx hby od_prog_33_method_3_32 (by decide) (pc' := 11) (by decide) ?_
  refine own_iload X0 hx hby od_prog_33_method_3_11 (pc' := 13) rfl rfl ?_
  refine own_iload X0 hx hby od_prog_33_method_3_13 (pc' := 15) rfl rfl ?_
  refine own_icmpY X0 hx hby od_prog_33_method_3_15 (by decide) (pc' := 35) (by decide) (flt (by decide)).2.1 ?_
  refine own_dloadN X0 hx hby od_prog_33_method_3_35 (pc' := 36) rfl rfl ?_
  exact own_retD X0 hx hby hlk hrt od_prog_33_method_3_36 (by first | exact ⟨rfl, N0, rfl⟩ | (rw [e0]; exact ⟨rfl, N0, rfl⟩)) (by decide) (by decide)
theorem ef_rm_law (m : MethodId) (x0 : Int32) (x1 : Int32) (x2 : Int32) (x3 : Int32) (x4 : Int32) (x5 : Int32) : entryFrame m #[(.int x0), (.int x1), (.int x2), (.int x3), (.int x4), (.int x5)] maxLocals = mkF m 0 #[.val (.int x0), .val (.int x1), .val (.int x2), .val (.int x3), .val (.int x4), .val (.int x5), .unset, .unset, .unset, .unset, .unset, .unset] [] := by first | (simp [entryFrame, mkF, argsToLocals, Value.category, maxLocals]; done) | rfl
set_option maxRecDepth 65536 in
set_option maxHeartbeats 40000000 in
theorem rm_law (l : Launch) (Z : State) (a0 : Array Value) (hw : ∀ d ∈ tables_1, d.before a0 Z = true) (p0 p1 p2 p3 p4 p5 : Int32) (h0 : Heap) (n0 : Nat) (Z0 : n0 ≤ h0.size) :
    own_Met l Z x code maxLocals ret room_1 #[(.int p0), (.int p1), (.int p2), (.int p3), (.int p4), (.int p5)] h0 (fun v h L => v = some (.int 1) ∧ Fr n0 L) := by
  refine own_body (plainFor_of_name (by first | (simp [plainName, overriddenIn]; done) | decide +kernel)) ?_
  intro p e s m below meth c s₁ hx hby hml hown hnm hlk hrt hZ X0 e0
  have hml : c.maxLocals = 12 := hml
  refine own_enter (ef_rm_law m p0 p1 p2 p3 p4 p5) ?_
  have N0 := Fr.nil n0
  refine own_iloadN X0 hx hby at_0 (pc' := 1) rfl rfl ?_
  refine own_ldcI X0 hx hby hZ hown (ow_0 hw) at_1 (pc' := 3) rfl ?_
  refine own_iand X0 hx hby at_3 (pc' := 4) rfl ?_
  refine own_bipush X0 hx hby at_4 (pc' := 6) rfl (z := 6) rfl ?_
  refine own_irem X0 hx hby at_6 (pc' := 7) rfl (by decide) ?_
  generalize hq_q : ((p0 &&& (2147483647 : Int32)) % (6 : Int32)) = q
  rcases own_mod6 hq_q with rfl | rfl | rfl | rfl | rfl | rfl
  · refine own_istore X0 hx hby at_7 (pc' := 9) rfl (Ls' := #[.val (.int p0), .val (.int p1), .val (.int p2), .val (.int p3), .val (.int p4), .val (.int p5), .val (.int (0 : Int32)), .unset, .unset, .unset, .unset, .unset]) rfl ?_
    refine own_iload X0 hx hby at_9 (pc' := 11) rfl rfl ?_
    refine own_newP (aty := .double) X0 hx hby hZ (ow_1 hw) e0 at_11 (pc' := 13) rfl (by decide) (cap := 0) (by decide) (by decide) (by decide) (by decide) ?_
    intro T1 h1 b1 kA1 g1 X1 e1 E1 V_b1
    have le2 : h0.size ≤ b1 := Nat.le_of_eq g1.symm
    have n0_b1 : n0 ≤ b1 := Nat.le_trans Z0 (Nat.le_of_eq g1.symm)
    replace V_b1 : Arv Z h1 b1 kA1 .double (0 : Int32) [] (.double (0 : UInt64)) := V_b1
    refine own_astore X1 hx hby at_13 (pc' := 15) rfl rfl (Ls' := #[.val (.int p0), .val (.int p1), .val (.int p2), .val (.int p3), .val (.int p4), .val (.int p5), .val (.int (0 : Int32)), .val (.ref b1), .unset, .unset, .unset, .unset]) rfl ?_
    refine own_lconst X1 hx hby at_15 (pc' := 16) rfl (z := 0) rfl ?_
    refine own_lstore X1 hx hby at_16 (pc' := 18) rfl (Ls' := #[.val (.int p0), .val (.int p1), .val (.int p2), .val (.int p3), .val (.int p4), .val (.int p5), .val (.int (0 : Int32)), .val (.ref b1), .val (.long (0 : Int64)), .second, .unset, .unset]) rfl ?_
    refine own_iload X1 hx hby at_18 (pc' := 20) rfl rfl ?_
    refine own_ifY X1 hx hby at_20 (by decide) (pc' := 36) (by decide) (flt (by decide)).2.2.2 ?_
    refine own_iload X1 hx hby at_36 (pc' := 38) rfl rfl ?_
    refine own_iconst X1 hx hby at_38 (pc' := 39) rfl (z := 1) rfl ?_
    refine own_icmpY X1 hx hby at_39 (by decide) (pc' := 55) (by decide) (flt (by decide)).2.2.2 ?_
    refine own_iload X1 hx hby at_55 (pc' := 57) rfl rfl ?_
    refine own_iconst X1 hx hby at_57 (pc' := 58) rfl (z := 2) rfl ?_
    refine own_icmpY X1 hx hby at_58 (by decide) (pc' := 74) (by decide) (flt (by decide)).2.2.2 ?_
    refine own_iload X1 hx hby at_74 (pc' := 76) rfl rfl ?_
    refine own_iconst X1 hx hby at_76 (pc' := 77) rfl (z := 3) rfl ?_
    refine own_icmpY X1 hx hby at_77 (by decide) (pc' := 95) (by decide) (flt (by decide)).2.2.2 ?_
    refine own_iload X1 hx hby at_95 (pc' := 97) rfl rfl ?_
    refine own_iconst X1 hx hby at_97 (pc' := 98) rfl (z := 4) rfl ?_
    refine own_icmpY X1 hx hby at_98 (by decide) (pc' := 116) (by decide) (flt (by decide)).2.2.2 ?_
    refine own_aload X1 hx hby at_116 (pc' := 118) rfl rfl rfl ?_
    refine own_callM X1 hx hby hml hZ hown (ow_2 hw) (ow_3 hw) (ow_4 hw) (ow_5 hw) (by decide) (cc := 0) (ss := 0) (rm_sum0 l Z a0 hw b1 kA1  h1 n0 (Nat.le_trans Z0 E1.1) V_b1 ) 0 rfl rfl (by decide) (by decide) rfl (argsL := [(.ref b1)]) (rest := []) opd_0 rfl rfl (Nat.le_refl _) at_118 (pc' := 121) rfl rfl e1 (by decide) (by decide) ?_
    rintro v3 T3 h3 L3 X3 e3 ⟨rfl, Nq3, rfl⟩
    have N3 := N0.app Nq3
    refine own_dstore X3 hx hby at_121 (pc' := 123) rfl (Ls' := #[.val (.int p0), .val (.int p1), .val (.int p2), .val (.int p3), .val (.int p4), .val (.int p5), .val (.int (0 : Int32)), .val (.ref b1), .val (.long (0 : Int64)), .second, .val (.double (FP.l2d 0)), .second]) rfl ?_
    refine own_dload X3 hx hby at_123 (pc' := 125) rfl rfl ?_
    refine own_lload X3 hx hby at_125 (pc' := 127) rfl rfl ?_
    refine own_l2d X3 hx hby at_127 (pc' := 128) rfl rfl ?_
    refine own_dcmp X3 hx hby at_128 (pc' := 129) rfl (v := 0) (own_dself _ _) ?_
    refine own_ifN X3 hx hby at_129 (pc' := 132) rfl (teq (by decide)).2 ?_
    refine own_iconst X3 hx hby at_132 (pc' := 133) rfl (z := 1) rfl ?_
    refine own_goto X3 hx hby at_133 (by decide) (pc' := 137) (by decide) ?_
    exact own_retN X3 hx hby hlk hrt (by simp) at_137 (z' := (1 : Int32)) rfl ⟨rfl, N3⟩ (by decide) (by decide)
  · refine own_istore X0 hx hby at_7 (pc' := 9) rfl (Ls' := #[.val (.int p0), .val (.int p1), .val (.int p2), .val (.int p3), .val (.int p4), .val (.int p5), .val (.int (1 : Int32)), .unset, .unset, .unset, .unset, .unset]) rfl ?_
    refine own_iload X0 hx hby at_9 (pc' := 11) rfl rfl ?_
    refine own_newP (aty := .double) X0 hx hby hZ (ow_1 hw) e0 at_11 (pc' := 13) rfl (by decide) (cap := 1) (by decide) (by decide) (by decide) (by decide) ?_
    intro T4 h4 b4 kA4 g4 X4 e4 E4 V_b4
    have le5 : h0.size ≤ b4 := Nat.le_of_eq g4.symm
    have n0_b4 : n0 ≤ b4 := Nat.le_trans Z0 (Nat.le_of_eq g4.symm)
    replace V_b4 : Arv Z h4 b4 kA4 .double (1 : Int32) [(.double (0 : UInt64))] (.double (0 : UInt64)) := V_b4.pad (pad_rep [] (.double (0 : UInt64)) 1)
    refine own_astore X4 hx hby at_13 (pc' := 15) rfl rfl (Ls' := #[.val (.int p0), .val (.int p1), .val (.int p2), .val (.int p3), .val (.int p4), .val (.int p5), .val (.int (1 : Int32)), .val (.ref b4), .unset, .unset, .unset, .unset]) rfl ?_
    refine own_lconst X4 hx hby at_15 (pc' := 16) rfl (z := 0) rfl ?_
    refine own_lstore X4 hx hby at_16 (pc' := 18) rfl (Ls' := #[.val (.int p0), .val (.int p1), .val (.int p2), .val (.int p3), .val (.int p4), .val (.int p5), .val (.int (1 : Int32)), .val (.ref b4), .val (.long (0 : Int64)), .second, .unset, .unset]) rfl ?_
    refine own_iload X4 hx hby at_18 (pc' := 20) rfl rfl ?_
    refine own_ifN X4 hx hby at_20 (pc' := 23) rfl (tlt (by decide)).2.2.2 ?_
    refine own_aload X4 hx hby at_23 (pc' := 25) rfl rfl rfl ?_
    refine own_iconst X4 hx hby at_25 (pc' := 26) rfl (z := 0) rfl ?_
    refine own_iloadN X4 hx hby at_26 (pc' := 27) rfl rfl ?_
    refine own_i2d X4 hx hby at_27 (pc' := 28) rfl (i2d_w _) ?_
    refine own_stD X4 hx hby hZ e4 V_b4 ⟨by decide, by decide⟩ 0 rfl (Nat.le_of_ble_eq_true rfl) at_28 (pc' := 29) rfl ?_
    intro T6 h6 X6 e6 W6 V6_b4
    replace V6_b4 : Arv Z h6 b4 kA4 .double (1 : Int32) [(.double (FP.l2d p1.toInt64))] (.double (0 : UInt64)) := V6_b4
    have Ea7 := own_xw E4 W6 le5
    have N6 := own_fr1 (sl := ((0 : Int32)).toNatClampNeg) N0 n0_b4
    refine own_lload X6 hx hby at_29 (pc' := 31) rfl rfl ?_
    refine own_iloadN X6 hx hby at_31 (pc' := 32) rfl rfl ?_
    refine own_i2l X6 hx hby at_32 (pc' := 33) rfl ?_
    refine own_ladd X6 hx hby at_33 (pc' := 34) rfl ?_
    refine own_lstore X6 hx hby at_34 (pc' := 36) rfl (Ls' := #[.val (.int p0), .val (.int p1), .val (.int p2), .val (.int p3), .val (.int p4), .val (.int p5), .val (.int (1 : Int32)), .val (.ref b4), .val (.long ((0 : Int64) + (p1.toInt64))), .second, .unset, .unset]) rfl ?_
    refine own_iload X6 hx hby at_36 (pc' := 38) rfl rfl ?_
    refine own_iconst X6 hx hby at_38 (pc' := 39) rfl (z := 1) rfl ?_
    refine own_icmpY X6 hx hby at_39 (by decide) (pc' := 55) (by decide) (flt (by decide)).2.2.2 ?_
    refine own_iload X6 hx hby at_55 (pc' := 57) rfl rfl ?_
    refine own_iconst X6 hx hby at_57 (pc' := 58) rfl (z := 2) rfl ?_
    refine own_icmpY X6 hx hby at_58 (by decide) (pc' := 74) (by decide) (flt (by decide)).2.2.2 ?_
    refine own_iload X6 hx hby at_74 (pc' := 76) rfl rfl ?_
    refine own_iconst X6 hx hby at_76 (pc' := 77) rfl (z := 3) rfl ?_
    refine own_icmpY X6 hx hby at_77 (by decide) (pc' := 95) (by decide) (flt (by decide)).2.2.2 ?_
    refine own_iload X6 hx hby at_95 (pc' := 97) rfl rfl ?_
    refine own_iconst X6 hx hby at_97 (pc' := 98) rfl (z := 4) rfl ?_
    refine own_icmpY X6 hx hby at_98 (by decide) (pc' := 116) (by decide) (flt (by decide)).2.2.2 ?_
    refine own_aload X6 hx hby at_116 (pc' := 118) rfl rfl rfl ?_
    refine own_callM X6 hx hby hml hZ hown (ow_2 hw) (ow_3 hw) (ow_4 hw) (ow_5 hw) (by decide) (cc := 0) (ss := 0) (rm_sum1 l Z a0 hw b4 kA4 p1.toInt64 h6 n0 (Nat.le_trans Z0 Ea7.1) V6_b4 (own_S1 p1)) 0 rfl rfl (by decide) (by decide) rfl (argsL := [(.ref b4)]) (rest := []) opd_0 rfl rfl (Nat.le_refl _) at_118 (pc' := 121) rfl rfl e6 (by decide) (by decide) ?_
    rintro v8 T8 h8 L8 X8 e8 ⟨rfl, Nq8, rfl⟩
    have N8 := N6.app Nq8
    refine own_dstore X8 hx hby at_121 (pc' := 123) rfl (Ls' := #[.val (.int p0), .val (.int p1), .val (.int p2), .val (.int p3), .val (.int p4), .val (.int p5), .val (.int (1 : Int32)), .val (.ref b4), .val (.long ((0 : Int64) + (p1.toInt64))), .second, .val (.double (FP.l2d (0 + p1.toInt64))), .second]) rfl ?_
    refine own_dload X8 hx hby at_123 (pc' := 125) rfl rfl ?_
    refine own_lload X8 hx hby at_125 (pc' := 127) rfl rfl ?_
    refine own_l2d X8 hx hby at_127 (pc' := 128) rfl rfl ?_
    refine own_dcmp X8 hx hby at_128 (pc' := 129) rfl (v := 0) (own_dself _ _) ?_
    refine own_ifN X8 hx hby at_129 (pc' := 132) rfl (teq (by decide)).2 ?_
    refine own_iconst X8 hx hby at_132 (pc' := 133) rfl (z := 1) rfl ?_
    refine own_goto X8 hx hby at_133 (by decide) (pc' := 137) (by decide) ?_
    exact own_retN X8 hx hby hlk hrt (by simp) at_137 (z' := (1 : Int32)) rfl ⟨rfl, N8⟩ (by decide) (by decide)
  · refine own_istore X0 hx hby at_7 (pc' := 9) rfl (Ls' := #[.val (.int p0), .val (.int p1), .val (.int p2), .val (.int p3), .val (.int p4), .val (.int p5), .val (.int (2 : Int32)), .unset, .unset, .unset, .unset, .unset]) rfl ?_
    refine own_iload X0 hx hby at_9 (pc' := 11) rfl rfl ?_
    refine own_newP (aty := .double) X0 hx hby hZ (ow_1 hw) e0 at_11 (pc' := 13) rfl (by decide) (cap := 2) (by decide) (by decide) (by decide) (by decide) ?_
    intro T9 h9 b9 kA9 g9 X9 e9 E9 V_b9
    have le10 : h0.size ≤ b9 := Nat.le_of_eq g9.symm
    have n0_b9 : n0 ≤ b9 := Nat.le_trans Z0 (Nat.le_of_eq g9.symm)
    replace V_b9 : Arv Z h9 b9 kA9 .double (2 : Int32) [(.double (0 : UInt64)), (.double (0 : UInt64))] (.double (0 : UInt64)) := V_b9.pad (pad_rep [] (.double (0 : UInt64)) 2)
    refine own_astore X9 hx hby at_13 (pc' := 15) rfl rfl (Ls' := #[.val (.int p0), .val (.int p1), .val (.int p2), .val (.int p3), .val (.int p4), .val (.int p5), .val (.int (2 : Int32)), .val (.ref b9), .unset, .unset, .unset, .unset]) rfl ?_
    refine own_lconst X9 hx hby at_15 (pc' := 16) rfl (z := 0) rfl ?_
    refine own_lstore X9 hx hby at_16 (pc' := 18) rfl (Ls' := #[.val (.int p0), .val (.int p1), .val (.int p2), .val (.int p3), .val (.int p4), .val (.int p5), .val (.int (2 : Int32)), .val (.ref b9), .val (.long (0 : Int64)), .second, .unset, .unset]) rfl ?_
    refine own_iload X9 hx hby at_18 (pc' := 20) rfl rfl ?_
    refine own_ifN X9 hx hby at_20 (pc' := 23) rfl (tlt (by decide)).2.2.2 ?_
    refine own_aload X9 hx hby at_23 (pc' := 25) rfl rfl rfl ?_
    refine own_iconst X9 hx hby at_25 (pc' := 26) rfl (z := 0) rfl ?_
    refine own_iloadN X9 hx hby at_26 (pc' := 27) rfl rfl ?_
    refine own_i2d X9 hx hby at_27 (pc' := 28) rfl (i2d_w _) ?_
    refine own_stD X9 hx hby hZ e9 V_b9 ⟨by decide, by decide⟩ 0 rfl (Nat.le_of_ble_eq_true rfl) at_28 (pc' := 29) rfl ?_
    intro T11 h11 X11 e11 W11 V11_b9
    replace V11_b9 : Arv Z h11 b9 kA9 .double (2 : Int32) [(.double (FP.l2d p1.toInt64)), (.double (0 : UInt64))] (.double (0 : UInt64)) := V11_b9
    have Ea12 := own_xw E9 W11 le10
    have N11 := own_fr1 (sl := ((0 : Int32)).toNatClampNeg) N0 n0_b9
    refine own_lload X11 hx hby at_29 (pc' := 31) rfl rfl ?_
    refine own_iloadN X11 hx hby at_31 (pc' := 32) rfl rfl ?_
    refine own_i2l X11 hx hby at_32 (pc' := 33) rfl ?_
    refine own_ladd X11 hx hby at_33 (pc' := 34) rfl ?_
    refine own_lstore X11 hx hby at_34 (pc' := 36) rfl (Ls' := #[.val (.int p0), .val (.int p1), .val (.int p2), .val (.int p3), .val (.int p4), .val (.int p5), .val (.int (2 : Int32)), .val (.ref b9), .val (.long ((0 : Int64) + (p1.toInt64))), .second, .unset, .unset]) rfl ?_
    refine own_iload X11 hx hby at_36 (pc' := 38) rfl rfl ?_
    refine own_iconst X11 hx hby at_38 (pc' := 39) rfl (z := 1) rfl ?_
    refine own_icmpN X11 hx hby at_39 (pc' := 42) rfl (tlt (by decide)).2.2.2 ?_
    refine own_aload X11 hx hby at_42 (pc' := 44) rfl rfl rfl ?_
    refine own_iconst X11 hx hby at_44 (pc' := 45) rfl (z := 1) rfl ?_
    refine own_iloadN X11 hx hby at_45 (pc' := 46) rfl rfl ?_
    refine own_i2d X11 hx hby at_46 (pc' := 47) rfl (i2d_w _) ?_
    refine own_stD X11 hx hby hZ e11 V11_b9 ⟨by decide, by decide⟩ 1 rfl (Nat.le_of_ble_eq_true rfl) at_47 (pc' := 48) rfl ?_
    intro T13 h13 X13 e13 W13 V13_b9
    replace V13_b9 : Arv Z h13 b9 kA9 .double (2 : Int32) [(.double (FP.l2d p1.toInt64)), (.double (FP.l2d p2.toInt64))] (.double (0 : UInt64)) := V13_b9
    have Ea14 := own_xw Ea12 W13 le10
    have N13 := own_fr1 (sl := ((1 : Int32)).toNatClampNeg) N11 n0_b9
    refine own_lload X13 hx hby at_48 (pc' := 50) rfl rfl ?_
    refine own_iloadN X13 hx hby at_50 (pc' := 51) rfl rfl ?_
    refine own_i2l X13 hx hby at_51 (pc' := 52) rfl ?_
    refine own_ladd X13 hx hby at_52 (pc' := 53) rfl ?_
    refine own_lstore X13 hx hby at_53 (pc' := 55) rfl (Ls' := #[.val (.int p0), .val (.int p1), .val (.int p2), .val (.int p3), .val (.int p4), .val (.int p5), .val (.int (2 : Int32)), .val (.ref b9), .val (.long (((0 : Int64) + (p1.toInt64)) + (p2.toInt64))), .second, .unset, .unset]) rfl ?_
    refine own_iload X13 hx hby at_55 (pc' := 57) rfl rfl ?_
    refine own_iconst X13 hx hby at_57 (pc' := 58) rfl (z := 2) rfl ?_
    refine own_icmpY X13 hx hby at_58 (by decide) (pc' := 74) (by decide) (flt (by decide)).2.2.2 ?_
    refine own_iload X13 hx hby at_74 (pc' := 76) rfl rfl ?_
    refine own_iconst X13 hx hby at_76 (pc' := 77) rfl (z := 3) rfl ?_
    refine own_icmpY X13 hx hby at_77 (by decide) (pc' := 95) (by decide) (flt (by decide)).2.2.2 ?_
    refine own_iload X13 hx hby at_95 (pc' := 97) rfl rfl ?_
    refine own_iconst X13 hx hby at_97 (pc' := 98) rfl (z := 4) rfl ?_
    refine own_icmpY X13 hx hby at_98 (by decide) (pc' := 116) (by decide) (flt (by decide)).2.2.2 ?_
    refine own_aload X13 hx hby at_116 (pc' := 118) rfl rfl rfl ?_
    refine own_callM X13 hx hby hml hZ hown (ow_2 hw) (ow_3 hw) (ow_4 hw) (ow_5 hw) (by decide) (cc := 0) (ss := 0) (rm_sum2 l Z a0 hw b9 kA9 p1.toInt64 p2.toInt64 h13 n0 (Nat.le_trans Z0 Ea14.1) V13_b9 (own_S1 p1) (own_S1 p2)) 0 rfl rfl (by decide) (by decide) rfl (argsL := [(.ref b9)]) (rest := []) opd_0 rfl rfl (Nat.le_refl _) at_118 (pc' := 121) rfl rfl e13 (by decide) (by decide) ?_
    rintro v15 T15 h15 L15 X15 e15 ⟨rfl, Nq15, rfl⟩
    have N15 := N13.app Nq15
    refine own_dstore X15 hx hby at_121 (pc' := 123) rfl (Ls' := #[.val (.int p0), .val (.int p1), .val (.int p2), .val (.int p3), .val (.int p4), .val (.int p5), .val (.int (2 : Int32)), .val (.ref b9), .val (.long (((0 : Int64) + (p1.toInt64)) + (p2.toInt64))), .second, .val (.double (FP.l2d ((0 + p1.toInt64) + p2.toInt64))), .second]) rfl ?_
    refine own_dload X15 hx hby at_123 (pc' := 125) rfl rfl ?_
    refine own_lload X15 hx hby at_125 (pc' := 127) rfl rfl ?_
    refine own_l2d X15 hx hby at_127 (pc' := 128) rfl rfl ?_
    refine own_dcmp X15 hx hby at_128 (pc' := 129) rfl (v := 0) (own_dself _ _) ?_
    refine own_ifN X15 hx hby at_129 (pc' := 132) rfl (teq (by decide)).2 ?_
    refine own_iconst X15 hx hby at_132 (pc' := 133) rfl (z := 1) rfl ?_
    refine own_goto X15 hx hby at_133 (by decide) (pc' := 137) (by decide) ?_
    exact own_retN X15 hx hby hlk hrt (by simp) at_137 (z' := (1 : Int32)) rfl ⟨rfl, N15⟩ (by decide) (by decide)
  · refine own_istore X0 hx hby at_7 (pc' := 9) rfl (Ls' := #[.val (.int p0), .val (.int p1), .val (.int p2), .val (.int p3), .val (.int p4), .val (.int p5), .val (.int (3 : Int32)), .unset, .unset, .unset, .unset, .unset]) rfl ?_
    refine own_iload X0 hx hby at_9 (pc' := 11) rfl rfl ?_
    refine own_newP (aty := .double) X0 hx hby hZ (ow_1 hw) e0 at_11 (pc' := 13) rfl (by decide) (cap := 3) (by decide) (by decide) (by decide) (by decide) ?_
    intro T16 h16 b16 kA16 g16 X16 e16 E16 V_b16
    have le17 : h0.size ≤ b16 := Nat.le_of_eq g16.symm
    have n0_b16 : n0 ≤ b16 := Nat.le_trans Z0 (Nat.le_of_eq g16.symm)
    replace V_b16 : Arv Z h16 b16 kA16 .double (3 : Int32) [(.double (0 : UInt64)), (.double (0 : UInt64)), (.double (0 : UInt64))] (.double (0 : UInt64)) := V_b16.pad (pad_rep [] (.double (0 : UInt64)) 3)
    refine own_astore X16 hx hby at_13 (pc' := 15) rfl rfl (Ls' := #[.val (.int p0), .val (.int p1), .val (.int p2), .val (.int p3), .val (.int p4), .val (.int p5), .val (.int (3 : Int32)), .val (.ref b16), .unset, .unset, .unset, .unset]) rfl ?_
    refine own_lconst X16 hx hby at_15 (pc' := 16) rfl (z := 0) rfl ?_
    refine own_lstore X16 hx hby at_16 (pc' := 18) rfl (Ls' := #[.val (.int p0), .val (.int p1), .val (.int p2), .val (.int p3), .val (.int p4), .val (.int p5), .val (.int (3 : Int32)), .val (.ref b16), .val (.long (0 : Int64)), .second, .unset, .unset]) rfl ?_
    refine own_iload X16 hx hby at_18 (pc' := 20) rfl rfl ?_
    refine own_ifN X16 hx hby at_20 (pc' := 23) rfl (tlt (by decide)).2.2.2 ?_
    refine own_aload X16 hx hby at_23 (pc' := 25) rfl rfl rfl ?_
    refine own_iconst X16 hx hby at_25 (pc' := 26) rfl (z := 0) rfl ?_
    refine own_iloadN X16 hx hby at_26 (pc' := 27) rfl rfl ?_
    refine own_i2d X16 hx hby at_27 (pc' := 28) rfl (i2d_w _) ?_
    refine own_stD X16 hx hby hZ e16 V_b16 ⟨by decide, by decide⟩ 0 rfl (Nat.le_of_ble_eq_true rfl) at_28 (pc' := 29) rfl ?_
    intro T18 h18 X18 e18 W18 V18_b16
    replace V18_b16 : Arv Z h18 b16 kA16 .double (3 : Int32) [(.double (FP.l2d p1.toInt64)), (.double (0 : UInt64)), (.double (0 : UInt64))] (.double (0 : UInt64)) := V18_b16
    have Ea19 := own_xw E16 W18 le17
    have N18 := own_fr1 (sl := ((0 : Int32)).toNatClampNeg) N0 n0_b16
    refine own_lload X18 hx hby at_29 (pc' := 31) rfl rfl ?_
    refine own_iloadN X18 hx hby at_31 (pc' := 32) rfl rfl ?_
    refine own_i2l X18 hx hby at_32 (pc' := 33) rfl ?_
    refine own_ladd X18 hx hby at_33 (pc' := 34) rfl ?_
    refine own_lstore X18 hx hby at_34 (pc' := 36) rfl (Ls' := #[.val (.int p0), .val (.int p1), .val (.int p2), .val (.int p3), .val (.int p4), .val (.int p5), .val (.int (3 : Int32)), .val (.ref b16), .val (.long ((0 : Int64) + (p1.toInt64))), .second, .unset, .unset]) rfl ?_
    refine own_iload X18 hx hby at_36 (pc' := 38) rfl rfl ?_
    refine own_iconst X18 hx hby at_38 (pc' := 39) rfl (z := 1) rfl ?_
    refine own_icmpN X18 hx hby at_39 (pc' := 42) rfl (tlt (by decide)).2.2.2 ?_
    refine own_aload X18 hx hby at_42 (pc' := 44) rfl rfl rfl ?_
    refine own_iconst X18 hx hby at_44 (pc' := 45) rfl (z := 1) rfl ?_
    refine own_iloadN X18 hx hby at_45 (pc' := 46) rfl rfl ?_
    refine own_i2d X18 hx hby at_46 (pc' := 47) rfl (i2d_w _) ?_
    refine own_stD X18 hx hby hZ e18 V18_b16 ⟨by decide, by decide⟩ 1 rfl (Nat.le_of_ble_eq_true rfl) at_47 (pc' := 48) rfl ?_
    intro T20 h20 X20 e20 W20 V20_b16
    replace V20_b16 : Arv Z h20 b16 kA16 .double (3 : Int32) [(.double (FP.l2d p1.toInt64)), (.double (FP.l2d p2.toInt64)), (.double (0 : UInt64))] (.double (0 : UInt64)) := V20_b16
    have Ea21 := own_xw Ea19 W20 le17
    have N20 := own_fr1 (sl := ((1 : Int32)).toNatClampNeg) N18 n0_b16
    refine own_lload X20 hx hby at_48 (pc' := 50) rfl rfl ?_
    refine own_iloadN X20 hx hby at_50 (pc' := 51) rfl rfl ?_
    refine own_i2l X20 hx hby at_51 (pc' := 52) rfl ?_
    refine own_ladd X20 hx hby at_52 (pc' := 53) rfl ?_
    refine own_lstore X20 hx hby at_53 (pc' := 55) rfl (Ls' := #[.val (.int p0), .val (.int p1), .val (.int p2), .val (.int p3), .val (.int p4), .val (.int p5), .val (.int (3 : Int32)), .val (.ref b16), .val (.long (((0 : Int64) + (p1.toInt64)) + (p2.toInt64))), .second, .unset, .unset]) rfl ?_
    refine own_iload X20 hx hby at_55 (pc' := 57) rfl rfl ?_
    refine own_iconst X20 hx hby at_57 (pc' := 58) rfl (z := 2) rfl ?_
    refine own_icmpN X20 hx hby at_58 (pc' := 61) rfl (tlt (by decide)).2.2.2 ?_
    refine own_aload X20 hx hby at_61 (pc' := 63) rfl rfl rfl ?_
    refine own_iconst X20 hx hby at_63 (pc' := 64) rfl (z := 2) rfl ?_
    refine own_iloadN X20 hx hby at_64 (pc' := 65) rfl rfl ?_
    refine own_i2d X20 hx hby at_65 (pc' := 66) rfl (i2d_w _) ?_
    refine own_stD X20 hx hby hZ e20 V20_b16 ⟨by decide, by decide⟩ 2 rfl (Nat.le_of_ble_eq_true rfl) at_66 (pc' := 67) rfl ?_
    intro T22 h22 X22 e22 W22 V22_b16
    replace V22_b16 : Arv Z h22 b16 kA16 .double (3 : Int32) [(.double (FP.l2d p1.toInt64)), (.double (FP.l2d p2.toInt64)), (.double (FP.l2d p3.toInt64))] (.double (0 : UInt64)) := V22_b16
    have Ea23 := own_xw Ea21 W22 le17
    have N22 := own_fr1 (sl := ((2 : Int32)).toNatClampNeg) N20 n0_b16
    refine own_lload X22 hx hby at_67 (pc' := 69) rfl rfl ?_
    refine own_iloadN X22 hx hby at_69 (pc' := 70) rfl rfl ?_
    refine own_i2l X22 hx hby at_70 (pc' := 71) rfl ?_
    refine own_ladd X22 hx hby at_71 (pc' := 72) rfl ?_
    refine own_lstore X22 hx hby at_72 (pc' := 74) rfl (Ls' := #[.val (.int p0), .val (.int p1), .val (.int p2), .val (.int p3), .val (.int p4), .val (.int p5), .val (.int (3 : Int32)), .val (.ref b16), .val (.long ((((0 : Int64) + (p1.toInt64)) + (p2.toInt64)) + (p3.toInt64))), .second, .unset, .unset]) rfl ?_
    refine own_iload X22 hx hby at_74 (pc' := 76) rfl rfl ?_
    refine own_iconst X22 hx hby at_76 (pc' := 77) rfl (z := 3) rfl ?_
    refine own_icmpY X22 hx hby at_77 (by decide) (pc' := 95) (by decide) (flt (by decide)).2.2.2 ?_
    refine own_iload X22 hx hby at_95 (pc' := 97) rfl rfl ?_
    refine own_iconst X22 hx hby at_97 (pc' := 98) rfl (z := 4) rfl ?_
    refine own_icmpY X22 hx hby at_98 (by decide) (pc' := 116) (by decide) (flt (by decide)).2.2.2 ?_
    refine own_aload X22 hx hby at_116 (pc' := 118) rfl rfl rfl ?_
    refine own_callM X22 hx hby hml hZ hown (ow_2 hw) (ow_3 hw) (ow_4 hw) (ow_5 hw) (by decide) (cc := 0) (ss := 0) (rm_sum3 l Z a0 hw b16 kA16 p1.toInt64 p2.toInt64 p3.toInt64 h22 n0 (Nat.le_trans Z0 Ea23.1) V22_b16 (own_S1 p1) (own_S1 p2) (own_S1 p3)) 0 rfl rfl (by decide) (by decide) rfl (argsL := [(.ref b16)]) (rest := []) opd_0 rfl rfl (Nat.le_refl _) at_118 (pc' := 121) rfl rfl e22 (by decide) (by decide) ?_
    rintro v24 T24 h24 L24 X24 e24 ⟨rfl, Nq24, rfl⟩
    have N24 := N22.app Nq24
    refine own_dstore X24 hx hby at_121 (pc' := 123) rfl (Ls' := #[.val (.int p0), .val (.int p1), .val (.int p2), .val (.int p3), .val (.int p4), .val (.int p5), .val (.int (3 : Int32)), .val (.ref b16), .val (.long ((((0 : Int64) + (p1.toInt64)) + (p2.toInt64)) + (p3.toInt64))), .second, .val (.double (FP.l2d (((0 + p1.toInt64) + p2.toInt64) + p3.toInt64))), .second]) rfl ?_
    refine own_dload X24 hx hby at_123 (pc' := 125) rfl rfl ?_
    refine own_lload X24 hx hby at_125 (pc' := 127) rfl rfl ?_
    refine own_l2d X24 hx hby at_127 (pc' := 128) rfl rfl ?_
    refine own_dcmp X24 hx hby at_128 (pc' := 129) rfl (v := 0) (own_dself _ _) ?_
    refine own_ifN X24 hx hby at_129 (pc' := 132) rfl (teq (by decide)).2 ?_
    refine own_iconst X24 hx hby at_132 (pc' := 133) rfl (z := 1) rfl ?_
    refine own_goto X24 hx hby at_133 (by decide) (pc' := 137) (by decide) ?_
    exact own_retN X24 hx hby hlk hrt (by simp) at_137 (z' := (1 : Int32)) rfl ⟨rfl, N24⟩ (by decide) (by decide)
  · refine own_istore X0 hx hby at_7 (pc' := 9) rfl (Ls' := #[.val (.int p0), .val (.int p1), .val (.int p2), .val (.int p3), .val (.int p4), .val (.int p5), .val (.int (4 : Int32)), .unset, .unset, .unset, .unset, .unset]) rfl ?_
    refine own_iload X0 hx hby at_9 (pc' := 11) rfl rfl ?_
    refine own_newP (aty := .double) X0 hx hby hZ (ow_1 hw) e0 at_11 (pc' := 13) rfl (by decide) (cap := 4) (by decide) (by decide) (by decide) (by decide) ?_
    intro T25 h25 b25 kA25 g25 X25 e25 E25 V_b25
    have le26 : h0.size ≤ b25 := Nat.le_of_eq g25.symm
    have n0_b25 : n0 ≤ b25 := Nat.le_trans Z0 (Nat.le_of_eq g25.symm)
    replace V_b25 : Arv Z h25 b25 kA25 .double (4 : Int32) [(.double (0 : UInt64)), (.double (0 : UInt64)), (.double (0 : UInt64)), (.double (0 : UInt64))] (.double (0 : UInt64)) := V_b25.pad (pad_rep [] (.double (0 : UInt64)) 4)
    refine own_astore X25 hx hby at_13 (pc' := 15) rfl rfl (Ls' := #[.val (.int p0), .val (.int p1), .val (.int p2), .val (.int p3), .val (.int p4), .val (.int p5), .val (.int (4 : Int32)), .val (.ref b25), .unset, .unset, .unset, .unset]) rfl ?_
    refine own_lconst X25 hx hby at_15 (pc' := 16) rfl (z := 0) rfl ?_
    refine own_lstore X25 hx hby at_16 (pc' := 18) rfl (Ls' := #[.val (.int p0), .val (.int p1), .val (.int p2), .val (.int p3), .val (.int p4), .val (.int p5), .val (.int (4 : Int32)), .val (.ref b25), .val (.long (0 : Int64)), .second, .unset, .unset]) rfl ?_
    refine own_iload X25 hx hby at_18 (pc' := 20) rfl rfl ?_
    refine own_ifN X25 hx hby at_20 (pc' := 23) rfl (tlt (by decide)).2.2.2 ?_
    refine own_aload X25 hx hby at_23 (pc' := 25) rfl rfl rfl ?_
    refine own_iconst X25 hx hby at_25 (pc' := 26) rfl (z := 0) rfl ?_
    refine own_iloadN X25 hx hby at_26 (pc' := 27) rfl rfl ?_
    refine own_i2d X25 hx hby at_27 (pc' := 28) rfl (i2d_w _) ?_
    refine own_stD X25 hx hby hZ e25 V_b25 ⟨by decide, by decide⟩ 0 rfl (Nat.le_of_ble_eq_true rfl) at_28 (pc' := 29) rfl ?_
    intro T27 h27 X27 e27 W27 V27_b25
    replace V27_b25 : Arv Z h27 b25 kA25 .double (4 : Int32) [(.double (FP.l2d p1.toInt64)), (.double (0 : UInt64)), (.double (0 : UInt64)), (.double (0 : UInt64))] (.double (0 : UInt64)) := V27_b25
    have Ea28 := own_xw E25 W27 le26
    have N27 := own_fr1 (sl := ((0 : Int32)).toNatClampNeg) N0 n0_b25
    refine own_lload X27 hx hby at_29 (pc' := 31) rfl rfl ?_
    refine own_iloadN X27 hx hby at_31 (pc' := 32) rfl rfl ?_
    refine own_i2l X27 hx hby at_32 (pc' := 33) rfl ?_
    refine own_ladd X27 hx hby at_33 (pc' := 34) rfl ?_
    refine own_lstore X27 hx hby at_34 (pc' := 36) rfl (Ls' := #[.val (.int p0), .val (.int p1), .val (.int p2), .val (.int p3), .val (.int p4), .val (.int p5), .val (.int (4 : Int32)), .val (.ref b25), .val (.long ((0 : Int64) + (p1.toInt64))), .second, .unset, .unset]) rfl ?_
    refine own_iload X27 hx hby at_36 (pc' := 38) rfl rfl ?_
    refine own_iconst X27 hx hby at_38 (pc' := 39) rfl (z := 1) rfl ?_
    refine own_icmpN X27 hx hby at_39 (pc' := 42) rfl (tlt (by decide)).2.2.2 ?_
    refine own_aload X27 hx hby at_42 (pc' := 44) rfl rfl rfl ?_
    refine own_iconst X27 hx hby at_44 (pc' := 45) rfl (z := 1) rfl ?_
    refine own_iloadN X27 hx hby at_45 (pc' := 46) rfl rfl ?_
    refine own_i2d X27 hx hby at_46 (pc' := 47) rfl (i2d_w _) ?_
    refine own_stD X27 hx hby hZ e27 V27_b25 ⟨by decide, by decide⟩ 1 rfl (Nat.le_of_ble_eq_true rfl) at_47 (pc' := 48) rfl ?_
    intro T29 h29 X29 e29 W29 V29_b25
    replace V29_b25 : Arv Z h29 b25 kA25 .double (4 : Int32) [(.double (FP.l2d p1.toInt64)), (.double (FP.l2d p2.toInt64)), (.double (0 : UInt64)), (.double (0 : UInt64))] (.double (0 : UInt64)) := V29_b25
    have Ea30 := own_xw Ea28 W29 le26
    have N29 := own_fr1 (sl := ((1 : Int32)).toNatClampNeg) N27 n0_b25
    refine own_lload X29 hx hby at_48 (pc' := 50) rfl rfl ?_
    refine own_iloadN X29 hx hby at_50 (pc' := 51) rfl rfl ?_
    refine own_i2l X29 hx hby at_51 (pc' := 52) rfl ?_
    refine own_ladd X29 hx hby at_52 (pc' := 53) rfl ?_
    refine own_lstore X29 hx hby at_53 (pc' := 55) rfl (Ls' := #[.val (.int p0), .val (.int p1), .val (.int p2), .val (.int p3), .val (.int p4), .val (.int p5), .val (.int (4 : Int32)), .val (.ref b25), .val (.long (((0 : Int64) + (p1.toInt64)) + (p2.toInt64))), .second, .unset, .unset]) rfl ?_
    refine own_iload X29 hx hby at_55 (pc' := 57) rfl rfl ?_
    refine own_iconst X29 hx hby at_57 (pc' := 58) rfl (z := 2) rfl ?_
    refine own_icmpN X29 hx hby at_58 (pc' := 61) rfl (tlt (by decide)).2.2.2 ?_
    refine own_aload X29 hx hby at_61 (pc' := 63) rfl rfl rfl ?_
    refine own_iconst X29 hx hby at_63 (pc' := 64) rfl (z := 2) rfl ?_
    refine own_iloadN X29 hx hby at_64 (pc' := 65) rfl rfl ?_
    refine own_i2d X29 hx hby at_65 (pc' := 66) rfl (i2d_w _) ?_
    refine own_stD X29 hx hby hZ e29 V29_b25 ⟨by decide, by decide⟩ 2 rfl (Nat.le_of_ble_eq_true rfl) at_66 (pc' := 67) rfl ?_
    intro T31 h31 X31 e31 W31 V31_b25
    replace V31_b25 : Arv Z h31 b25 kA25 .double (4 : Int32) [(.double (FP.l2d p1.toInt64)), (.double (FP.l2d p2.toInt64)), (.double (FP.l2d p3.toInt64)), (.double (0 : UInt64))] (.double (0 : UInt64)) := V31_b25
    have Ea32 := own_xw Ea30 W31 le26
    have N31 := own_fr1 (sl := ((2 : Int32)).toNatClampNeg) N29 n0_b25
    refine own_lload X31 hx hby at_67 (pc' := 69) rfl rfl ?_
    refine own_iloadN X31 hx hby at_69 (pc' := 70) rfl rfl ?_
    refine own_i2l X31 hx hby at_70 (pc' := 71) rfl ?_
    refine own_ladd X31 hx hby at_71 (pc' := 72) rfl ?_
    refine own_lstore X31 hx hby at_72 (pc' := 74) rfl (Ls' := #[.val (.int p0), .val (.int p1), .val (.int p2), .val (.int p3), .val (.int p4), .val (.int p5), .val (.int (4 : Int32)), .val (.ref b25), .val (.long ((((0 : Int64) + (p1.toInt64)) + (p2.toInt64)) + (p3.toInt64))), .second, .unset, .unset]) rfl ?_
    refine own_iload X31 hx hby at_74 (pc' := 76) rfl rfl ?_
    refine own_iconst X31 hx hby at_76 (pc' := 77) rfl (z := 3) rfl ?_
    refine own_icmpN X31 hx hby at_77 (pc' := 80) rfl (tlt (by decide)).2.2.2 ?_
    refine own_aload X31 hx hby at_80 (pc' := 82) rfl rfl rfl ?_
    refine own_iconst X31 hx hby at_82 (pc' := 83) rfl (z := 3) rfl ?_
    refine own_iload X31 hx hby at_83 (pc' := 85) rfl rfl ?_
    refine own_i2d X31 hx hby at_85 (pc' := 86) rfl (i2d_w _) ?_
    refine own_stD X31 hx hby hZ e31 V31_b25 ⟨by decide, by decide⟩ 3 rfl (Nat.le_of_ble_eq_true rfl) at_86 (pc' := 87) rfl ?_
    intro T33 h33 X33 e33 W33 V33_b25
    replace V33_b25 : Arv Z h33 b25 kA25 .double (4 : Int32) [(.double (FP.l2d p1.toInt64)), (.double (FP.l2d p2.toInt64)), (.double (FP.l2d p3.toInt64)), (.double (FP.l2d p4.toInt64))] (.double (0 : UInt64)) := V33_b25
    have Ea34 := own_xw Ea32 W33 le26
    have N33 := own_fr1 (sl := ((3 : Int32)).toNatClampNeg) N31 n0_b25
    refine own_lload X33 hx hby at_87 (pc' := 89) rfl rfl ?_
    refine own_iload X33 hx hby at_89 (pc' := 91) rfl rfl ?_
    refine own_i2l X33 hx hby at_91 (pc' := 92) rfl ?_
    refine own_ladd X33 hx hby at_92 (pc' := 93) rfl ?_
    refine own_lstore X33 hx hby at_93 (pc' := 95) rfl (Ls' := #[.val (.int p0), .val (.int p1), .val (.int p2), .val (.int p3), .val (.int p4), .val (.int p5), .val (.int (4 : Int32)), .val (.ref b25), .val (.long (((((0 : Int64) + (p1.toInt64)) + (p2.toInt64)) + (p3.toInt64)) + (p4.toInt64))), .second, .unset, .unset]) rfl ?_
    refine own_iload X33 hx hby at_95 (pc' := 97) rfl rfl ?_
    refine own_iconst X33 hx hby at_97 (pc' := 98) rfl (z := 4) rfl ?_
    refine own_icmpY X33 hx hby at_98 (by decide) (pc' := 116) (by decide) (flt (by decide)).2.2.2 ?_
    refine own_aload X33 hx hby at_116 (pc' := 118) rfl rfl rfl ?_
    refine own_callM X33 hx hby hml hZ hown (ow_2 hw) (ow_3 hw) (ow_4 hw) (ow_5 hw) (by decide) (cc := 0) (ss := 0) (rm_sum4 l Z a0 hw b25 kA25 p1.toInt64 p2.toInt64 p3.toInt64 p4.toInt64 h33 n0 (Nat.le_trans Z0 Ea34.1) V33_b25 (own_S1 p1) (own_S1 p2) (own_S1 p3) (own_S1 p4)) 0 rfl rfl (by decide) (by decide) rfl (argsL := [(.ref b25)]) (rest := []) opd_0 rfl rfl (Nat.le_refl _) at_118 (pc' := 121) rfl rfl e33 (by decide) (by decide) ?_
    rintro v35 T35 h35 L35 X35 e35 ⟨rfl, Nq35, rfl⟩
    have N35 := N33.app Nq35
    refine own_dstore X35 hx hby at_121 (pc' := 123) rfl (Ls' := #[.val (.int p0), .val (.int p1), .val (.int p2), .val (.int p3), .val (.int p4), .val (.int p5), .val (.int (4 : Int32)), .val (.ref b25), .val (.long (((((0 : Int64) + (p1.toInt64)) + (p2.toInt64)) + (p3.toInt64)) + (p4.toInt64))), .second, .val (.double (FP.l2d ((((0 + p1.toInt64) + p2.toInt64) + p3.toInt64) + p4.toInt64))), .second]) rfl ?_
    refine own_dload X35 hx hby at_123 (pc' := 125) rfl rfl ?_
    refine own_lload X35 hx hby at_125 (pc' := 127) rfl rfl ?_
    refine own_l2d X35 hx hby at_127 (pc' := 128) rfl rfl ?_
    refine own_dcmp X35 hx hby at_128 (pc' := 129) rfl (v := 0) (own_dself _ _) ?_
    refine own_ifN X35 hx hby at_129 (pc' := 132) rfl (teq (by decide)).2 ?_
    refine own_iconst X35 hx hby at_132 (pc' := 133) rfl (z := 1) rfl ?_
    refine own_goto X35 hx hby at_133 (by decide) (pc' := 137) (by decide) ?_
    exact own_retN X35 hx hby hlk hrt (by simp) at_137 (z' := (1 : Int32)) rfl ⟨rfl, N35⟩ (by decide) (by decide)
  · refine own_istore X0 hx hby at_7 (pc' := 9) rfl (Ls' := #[.val (.int p0), .val (.int p1), .val (.int p2), .val (.int p3), .val (.int p4), .val (.int p5), .val (.int (5 : Int32)), .unset, .unset, .unset, .unset, .unset]) rfl ?_
    refine own_iload X0 hx hby at_9 (pc' := 11) rfl rfl ?_
    refine own_newP (aty := .double) X0 hx hby hZ (ow_1 hw) e0 at_11 (pc' := 13) rfl (by decide) (cap := 5) (by decide) (by decide) (by decide) (by decide) ?_
    intro T36 h36 b36 kA36 g36 X36 e36 E36 V_b36
    have le37 : h0.size ≤ b36 := Nat.le_of_eq g36.symm
    have n0_b36 : n0 ≤ b36 := Nat.le_trans Z0 (Nat.le_of_eq g36.symm)
    replace V_b36 : Arv Z h36 b36 kA36 .double (5 : Int32) [(.double (0 : UInt64)), (.double (0 : UInt64)), (.double (0 : UInt64)), (.double (0 : UInt64)), (.double (0 : UInt64))] (.double (0 : UInt64)) := V_b36.pad (pad_rep [] (.double (0 : UInt64)) 5)
    refine own_astore X36 hx hby at_13 (pc' := 15) rfl rfl (Ls' := #[.val (.int p0), .val (.int p1), .val (.int p2), .val (.int p3), .val (.int p4), .val (.int p5), .val (.int (5 : Int32)), .val (.ref b36), .unset, .unset, .unset, .unset]) rfl ?_
    refine own_lconst X36 hx hby at_15 (pc' := 16) rfl (z := 0) rfl ?_
    refine own_lstore X36 hx hby at_16 (pc' := 18) rfl (Ls' := #[.val (.int p0), .val (.int p1), .val (.int p2), .val (.int p3), .val (.int p4), .val (.int p5), .val (.int (5 : Int32)), .val (.ref b36), .val (.long (0 : Int64)), .second, .unset, .unset]) rfl ?_
    refine own_iload X36 hx hby at_18 (pc' := 20) rfl rfl ?_
    refine own_ifN X36 hx hby at_20 (pc' := 23) rfl (tlt (by decide)).2.2.2 ?_
    refine own_aload X36 hx hby at_23 (pc' := 25) rfl rfl rfl ?_
    refine own_iconst X36 hx hby at_25 (pc' := 26) rfl (z := 0) rfl ?_
    refine own_iloadN X36 hx hby at_26 (pc' := 27) rfl rfl ?_
    refine own_i2d X36 hx hby at_27 (pc' := 28) rfl (i2d_w _) ?_
    refine own_stD X36 hx hby hZ e36 V_b36 ⟨by decide, by decide⟩ 0 rfl (Nat.le_of_ble_eq_true rfl) at_28 (pc' := 29) rfl ?_
    intro T38 h38 X38 e38 W38 V38_b36
    replace V38_b36 : Arv Z h38 b36 kA36 .double (5 : Int32) [(.double (FP.l2d p1.toInt64)), (.double (0 : UInt64)), (.double (0 : UInt64)), (.double (0 : UInt64)), (.double (0 : UInt64))] (.double (0 : UInt64)) := V38_b36
    have Ea39 := own_xw E36 W38 le37
    have N38 := own_fr1 (sl := ((0 : Int32)).toNatClampNeg) N0 n0_b36
    refine own_lload X38 hx hby at_29 (pc' := 31) rfl rfl ?_
    refine own_iloadN X38 hx hby at_31 (pc' := 32) rfl rfl ?_
    refine own_i2l X38 hx hby at_32 (pc' := 33) rfl ?_
    refine own_ladd X38 hx hby at_33 (pc' := 34) rfl ?_
    refine own_lstore X38 hx hby at_34 (pc' := 36) rfl (Ls' := #[.val (.int p0), .val (.int p1), .val (.int p2), .val (.int p3), .val (.int p4), .val (.int p5), .val (.int (5 : Int32)), .val (.ref b36), .val (.long ((0 : Int64) + (p1.toInt64))), .second, .unset, .unset]) rfl ?_
    refine own_iload X38 hx hby at_36 (pc' := 38) rfl rfl ?_
    refine own_iconst X38 hx hby at_38 (pc' := 39) rfl (z := 1) rfl ?_
    refine own_icmpN X38 hx hby at_39 (pc' := 42) rfl (tlt (by decide)).2.2.2 ?_
    refine own_aload X38 hx hby at_42 (pc' := 44) rfl rfl rfl ?_
    refine own_iconst X38 hx hby at_44 (pc' := 45) rfl (z := 1) rfl ?_
    refine own_iloadN X38 hx hby at_45 (pc' := 46) rfl rfl ?_
    refine own_i2d X38 hx hby at_46 (pc' := 47) rfl (i2d_w _) ?_
    refine own_stD X38 hx hby hZ e38 V38_b36 ⟨by decide, by decide⟩ 1 rfl (Nat.le_of_ble_eq_true rfl) at_47 (pc' := 48) rfl ?_
    intro T40 h40 X40 e40 W40 V40_b36
    replace V40_b36 : Arv Z h40 b36 kA36 .double (5 : Int32) [(.double (FP.l2d p1.toInt64)), (.double (FP.l2d p2.toInt64)), (.double (0 : UInt64)), (.double (0 : UInt64)), (.double (0 : UInt64))] (.double (0 : UInt64)) := V40_b36
    have Ea41 := own_xw Ea39 W40 le37
    have N40 := own_fr1 (sl := ((1 : Int32)).toNatClampNeg) N38 n0_b36
    refine own_lload X40 hx hby at_48 (pc' := 50) rfl rfl ?_
    refine own_iloadN X40 hx hby at_50 (pc' := 51) rfl rfl ?_
    refine own_i2l X40 hx hby at_51 (pc' := 52) rfl ?_
    refine own_ladd X40 hx hby at_52 (pc' := 53) rfl ?_
    refine own_lstore X40 hx hby at_53 (pc' := 55) rfl (Ls' := #[.val (.int p0), .val (.int p1), .val (.int p2), .val (.int p3), .val (.int p4), .val (.int p5), .val (.int (5 : Int32)), .val (.ref b36), .val (.long (((0 : Int64) + (p1.toInt64)) + (p2.toInt64))), .second, .unset, .unset]) rfl ?_
    refine own_iload X40 hx hby at_55 (pc' := 57) rfl rfl ?_
    refine own_iconst X40 hx hby at_57 (pc' := 58) rfl (z := 2) rfl ?_
    refine own_icmpN X40 hx hby at_58 (pc' := 61) rfl (tlt (by decide)).2.2.2 ?_
    refine own_aload X40 hx hby at_61 (pc' := 63) rfl rfl rfl ?_
    refine own_iconst X40 hx hby at_63 (pc' := 64) rfl (z := 2) rfl ?_
    refine own_iloadN X40 hx hby at_64 (pc' := 65) rfl rfl ?_
    refine own_i2d X40 hx hby at_65 (pc' := 66) rfl (i2d_w _) ?_
    refine own_stD X40 hx hby hZ e40 V40_b36 ⟨by decide, by decide⟩ 2 rfl (Nat.le_of_ble_eq_true rfl) at_66 (pc' := 67) rfl ?_
    intro T42 h42 X42 e42 W42 V42_b36
    replace V42_b36 : Arv Z h42 b36 kA36 .double (5 : Int32) [(.double (FP.l2d p1.toInt64)), (.double (FP.l2d p2.toInt64)), (.double (FP.l2d p3.toInt64)), (.double (0 : UInt64)), (.double (0 : UInt64))] (.double (0 : UInt64)) := V42_b36
    have Ea43 := own_xw Ea41 W42 le37
    have N42 := own_fr1 (sl := ((2 : Int32)).toNatClampNeg) N40 n0_b36
    refine own_lload X42 hx hby at_67 (pc' := 69) rfl rfl ?_
    refine own_iloadN X42 hx hby at_69 (pc' := 70) rfl rfl ?_
    refine own_i2l X42 hx hby at_70 (pc' := 71) rfl ?_
    refine own_ladd X42 hx hby at_71 (pc' := 72) rfl ?_
    refine own_lstore X42 hx hby at_72 (pc' := 74) rfl (Ls' := #[.val (.int p0), .val (.int p1), .val (.int p2), .val (.int p3), .val (.int p4), .val (.int p5), .val (.int (5 : Int32)), .val (.ref b36), .val (.long ((((0 : Int64) + (p1.toInt64)) + (p2.toInt64)) + (p3.toInt64))), .second, .unset, .unset]) rfl ?_
    refine own_iload X42 hx hby at_74 (pc' := 76) rfl rfl ?_
    refine own_iconst X42 hx hby at_76 (pc' := 77) rfl (z := 3) rfl ?_
    refine own_icmpN X42 hx hby at_77 (pc' := 80) rfl (tlt (by decide)).2.2.2 ?_
    refine own_aload X42 hx hby at_80 (pc' := 82) rfl rfl rfl ?_
    refine own_iconst X42 hx hby at_82 (pc' := 83) rfl (z := 3) rfl ?_
    refine own_iload X42 hx hby at_83 (pc' := 85) rfl rfl ?_
    refine own_i2d X42 hx hby at_85 (pc' := 86) rfl (i2d_w _) ?_
    refine own_stD X42 hx hby hZ e42 V42_b36 ⟨by decide, by decide⟩ 3 rfl (Nat.le_of_ble_eq_true rfl) at_86 (pc' := 87) rfl ?_
    intro T44 h44 X44 e44 W44 V44_b36
    replace V44_b36 : Arv Z h44 b36 kA36 .double (5 : Int32) [(.double (FP.l2d p1.toInt64)), (.double (FP.l2d p2.toInt64)), (.double (FP.l2d p3.toInt64)), (.double (FP.l2d p4.toInt64)), (.double (0 : UInt64))] (.double (0 : UInt64)) := V44_b36
    have Ea45 := own_xw Ea43 W44 le37
    have N44 := own_fr1 (sl := ((3 : Int32)).toNatClampNeg) N42 n0_b36
    refine own_lload X44 hx hby at_87 (pc' := 89) rfl rfl ?_
    refine own_iload X44 hx hby at_89 (pc' := 91) rfl rfl ?_
    refine own_i2l X44 hx hby at_91 (pc' := 92) rfl ?_
    refine own_ladd X44 hx hby at_92 (pc' := 93) rfl ?_
    refine own_lstore X44 hx hby at_93 (pc' := 95) rfl (Ls' := #[.val (.int p0), .val (.int p1), .val (.int p2), .val (.int p3), .val (.int p4), .val (.int p5), .val (.int (5 : Int32)), .val (.ref b36), .val (.long (((((0 : Int64) + (p1.toInt64)) + (p2.toInt64)) + (p3.toInt64)) + (p4.toInt64))), .second, .unset, .unset]) rfl ?_
    refine own_iload X44 hx hby at_95 (pc' := 97) rfl rfl ?_
    refine own_iconst X44 hx hby at_97 (pc' := 98) rfl (z := 4) rfl ?_
    refine own_icmpN X44 hx hby at_98 (pc' := 101) rfl (tlt (by decide)).2.2.2 ?_
    refine own_aload X44 hx hby at_101 (pc' := 103) rfl rfl rfl ?_
    refine own_iconst X44 hx hby at_103 (pc' := 104) rfl (z := 4) rfl ?_
    refine own_iload X44 hx hby at_104 (pc' := 106) rfl rfl ?_
    refine own_i2d X44 hx hby at_106 (pc' := 107) rfl (i2d_w _) ?_
    refine own_stD X44 hx hby hZ e44 V44_b36 ⟨by decide, by decide⟩ 4 rfl (Nat.le_of_ble_eq_true rfl) at_107 (pc' := 108) rfl ?_
    intro T46 h46 X46 e46 W46 V46_b36
    replace V46_b36 : Arv Z h46 b36 kA36 .double (5 : Int32) [(.double (FP.l2d p1.toInt64)), (.double (FP.l2d p2.toInt64)), (.double (FP.l2d p3.toInt64)), (.double (FP.l2d p4.toInt64)), (.double (FP.l2d p5.toInt64))] (.double (0 : UInt64)) := V46_b36
    have Ea47 := own_xw Ea45 W46 le37
    have N46 := own_fr1 (sl := ((4 : Int32)).toNatClampNeg) N44 n0_b36
    refine own_lload X46 hx hby at_108 (pc' := 110) rfl rfl ?_
    refine own_iload X46 hx hby at_110 (pc' := 112) rfl rfl ?_
    refine own_i2l X46 hx hby at_112 (pc' := 113) rfl ?_
    refine own_ladd X46 hx hby at_113 (pc' := 114) rfl ?_
    refine own_lstore X46 hx hby at_114 (pc' := 116) rfl (Ls' := #[.val (.int p0), .val (.int p1), .val (.int p2), .val (.int p3), .val (.int p4), .val (.int p5), .val (.int (5 : Int32)), .val (.ref b36), .val (.long ((((((0 : Int64) + (p1.toInt64)) + (p2.toInt64)) + (p3.toInt64)) + (p4.toInt64)) + (p5.toInt64))), .second, .unset, .unset]) rfl ?_
    refine own_aload X46 hx hby at_116 (pc' := 118) rfl rfl rfl ?_
    refine own_callM X46 hx hby hml hZ hown (ow_2 hw) (ow_3 hw) (ow_4 hw) (ow_5 hw) (by decide) (cc := 0) (ss := 0) (rm_sum5 l Z a0 hw b36 kA36 p1.toInt64 p2.toInt64 p3.toInt64 p4.toInt64 p5.toInt64 h46 n0 (Nat.le_trans Z0 Ea47.1) V46_b36 (own_S1 p1) (own_S1 p2) (own_S1 p3) (own_S1 p4) (own_S1 p5)) 0 rfl rfl (by decide) (by decide) rfl (argsL := [(.ref b36)]) (rest := []) opd_0 rfl rfl (Nat.le_refl _) at_118 (pc' := 121) rfl rfl e46 (by decide) (by decide) ?_
    rintro v48 T48 h48 L48 X48 e48 ⟨rfl, Nq48, rfl⟩
    have N48 := N46.app Nq48
    refine own_dstore X48 hx hby at_121 (pc' := 123) rfl (Ls' := #[.val (.int p0), .val (.int p1), .val (.int p2), .val (.int p3), .val (.int p4), .val (.int p5), .val (.int (5 : Int32)), .val (.ref b36), .val (.long ((((((0 : Int64) + (p1.toInt64)) + (p2.toInt64)) + (p3.toInt64)) + (p4.toInt64)) + (p5.toInt64))), .second, .val (.double (FP.l2d (((((0 + p1.toInt64) + p2.toInt64) + p3.toInt64) + p4.toInt64) + p5.toInt64))), .second]) rfl ?_
    refine own_dload X48 hx hby at_123 (pc' := 125) rfl rfl ?_
    refine own_lload X48 hx hby at_125 (pc' := 127) rfl rfl ?_
    refine own_l2d X48 hx hby at_127 (pc' := 128) rfl rfl ?_
    refine own_dcmp X48 hx hby at_128 (pc' := 129) rfl (v := 0) (own_dself _ _) ?_
    refine own_ifN X48 hx hby at_129 (pc' := 132) rfl (teq (by decide)).2 ?_
    refine own_iconst X48 hx hby at_132 (pc' := 133) rfl (z := 1) rfl ?_
    refine own_goto X48 hx hby at_133 (by decide) (pc' := 137) (by decide) ?_
    exact own_retN X48 hx hby hlk hrt (by simp) at_137 (z' := (1 : Int32)) rfl ⟨rfl, N48⟩ (by decide) (by decide)
set_option maxRecDepth 65536 in
set_option maxHeartbeats 40000000 in
theorem comes_1 {Post : Tables → Env → Array Value → State → Outcome → State → Prop} (hpost : ∀ tb e args s v u, (limb_1_1.after args s (.returned v) u = true ∧ limb_1_2.after args s (.returned v) u = true ∧ True) → FrameEnd s (.returned v) u (Jvm.fieldLocs frame_1_writes args s ++ Jvm.arrayLocs frame_1_arrays args s ++ Jvm.staticLocs frame_1_statics s) 16 128 → Post tb e args s (.returned v) u) :
    ArmFor flags0 classFile x code maxLocals ret World_1 tables_1 room_1 Calls_1 rest_1 Pre_1 Post := by
  intro l hfl _ _ p e ha hc hk s m args below hf hA hF happ hP
  obtain ⟨hcalls, hrest, hpre⟩ := hP
  obtain ⟨-, -, -, hnamed, -, -, -, hat⟩ := (Spec.applies_iff hf).mp happ
  obtain ⟨hg, hn⟩ := and_e (Cond.before_iff.mp (show (Jvm.Cond.and given_1 narrow_1).before args s = true from hpre))
  obtain ⟨g1, g2⟩ := and_e hg
  obtain ⟨g3, g4⟩ := and_e g2
  obtain ⟨g5, g6⟩ := and_e g4
  obtain ⟨g7, g8⟩ := and_e g6
  obtain ⟨g9, g10⟩ := and_e g8
  obtain ⟨g11, g12⟩ := and_e g10
  obtain ⟨w0, w1, w2, w3, w4, w5, rfl⟩ : ∃ w0 w1 w2 w3 w4 w5 : Value, args = #[w0, w1, w2, w3, w4, w5] := by
    have hs : args.size = 6 := by simpa [Cond.value, given_1] using g1
    obtain ⟨L⟩ := args
    match L, hs with
    | [w0, w1, w2, w3, w4, w5], _ => exact ⟨w0, w1, w2, w3, w4, w5, rfl⟩
  have hw := fun d (hd : d ∈ tables_1) => atoms_spec (ws := Jvm.Cond.code x code maxLocals ret :: tables_1) hat d (List.mem_cons_of_mem _ hd)
  have hfit : Fit s := fun {y c} hc i hi => by
    obtain ⟨ha, rfl⟩ := Array.getElem?_eq_some_iff.mp hc
    have q := List.all_eq_true.mp ((Array.all_eq_true_iff_forall_mem.mp hF) _ (Array.getElem_mem ha)) i (List.mem_range.mpr hi)
    simpa [Array.getElem?_eq_getElem hi] using q
  obtain ⟨i0, ei0⟩ := is_v g3
  obtain rfl : w0 = (.int i0) := Option.some.inj ei0
  obtain ⟨i1, ei1⟩ := is_v g5
  obtain rfl : w1 = (.int i1) := Option.some.inj ei1
  obtain ⟨i2, ei2⟩ := is_v g7
  obtain rfl : w2 = (.int i2) := Option.some.inj ei2
  obtain ⟨i3, ei3⟩ := is_v g9
  obtain rfl : w3 = (.int i3) := Option.some.inj ei3
  obtain ⟨i4, ei4⟩ := is_v g11
  obtain rfl : w4 = (.int i4) := Option.some.inj ei4
  obtain ⟨i5, ei5⟩ := is_v g12
  obtain rfl : w5 = (.int i5) := Option.some.inj ei5
  obtain ⟨n, o, h1, h2, h3, _, L, rfl, ⟨rfl, N⟩, hq⟩ := rm_law l s _ hw i0 i1 i2 i3 i4 i5  s.heap s.heap.size (Nat.le_refl _)  tables_1 p e ha hc hk s m _ below hf ((Spec.applies_iff_loose hf).mp happ).1 ⟨rfl, State.Warmed39.refl s, rfl⟩ trivial
  refine ⟨n, _, h1, h2, h3, hpost _ _ _ _ _ _ ⟨Cond.after_iff.mpr rfl, Cond.after_iff.mpr (eq_i res_at (Term.int_eval (1)) rfl), trivial⟩ ⟨hq.1, hq.2.1, (hq.2.2.sift fun y hy => Or.inr (N y hy)).mono (by decide) (by decide)⟩⟩
theorem main_1_1 : Claimed_1_1 := comes_1 fun _ _ _ _ _ _ h hF => ⟨h.1, hF⟩
theorem main_1_2 : Claimed_1_2 := comes_1 fun _ _ _ _ _ _ h hF => ⟨h.2.1, hF⟩
end Jvm.Pilot.@@N@@
namespace Jvm.Pilot.@@N@@
open Jvm Jvm.ClassFile Sem Op Lib Jvm.Free Jvm.Stand Jvm.Pilot.@@N@@.Jvm.D
/-! MADE BY PROGRAM (witnessworld.py) out of the Statement's table words and the real class files: 11 classes; the members and pool entries that the words name. The judged class is class 1, her method 1. -/
namespace start1
open Jvm.ClassFile
def u (s : String) : CpInfo := .utf8 (stringToUtf16 s)
/-- a pool by its gaps: so many unusable entries, then the entry; so many at the end -/
def gap : Nat → List CpInfo → List CpInfo
  | 0, r => r
  | n + 1, r => .unusable :: gap n r
def poolList (es : List (Nat × CpInfo)) (last : Nat) : List CpInfo := es.foldr (fun e r => gap e.1 (e.2 :: r)) (gap last [])
def pool (es : List (Nat × CpInfo)) (last : Nat) : Array CpInfo := ⟨poolList es last⟩
def fileOf (pool : Array CpInfo) (this : Nat) (attrs : Array Attribute := #[]) (ms : Array MethodInfo := #[]) (fl : Nat := 33) (sup : Nat := 0) (ifs : Array Nat := #[]) (fds : Array FieldInfo := #[]) : ClassFile where
  minorVersion := 0
  majorVersion := 65
  constantPool := pool
  accessFlags := fl
  thisClass := this
  superClass := sup
  interfaces := ifs
  fields := fds
  methods := ms
  attributes := attrs
def plain (name : String) (sup : Option ClassId) : Class where
  name := name
  kind := .ordinary
  loader := none
  accessFlags := 33
  super := sup
  interfaces := #[]
  cf := none
  fields := #[]
  methods := #[]
  instanceTypes := #[]
  staticTypes := #[]
  resolved := #[]
  callSites := []
  init := .initialized
  statics := none
  mirror := none

def pool0 : Array CpInfo := pool [(5, u "<init>"), (0, u "()V"), (1, .class_ 10), (1, u "java/lang/Object")] 113

def k0m0 : Method := { name := "<init>", desc := "()V", sig := { parameters := [], returnType := none }, accessFlags := 1, code := none }
/-- java/lang/Object -/
def k0 : Class := { plain "java/lang/Object" none with
  accessFlags := 33
  interfaces := #[]
  cf := some (fileOf pool0 8 #[] #[{ accessFlags := 1, nameIndex := 5, descriptorIndex := 6, attributes := #[] }] 33 0 #[] #[])
  fields := #[]
  methods := #[k0m0]
  instanceTypes := #[]
  staticTypes := #[]
  resolved := Array.replicate 124 none
  statics := none }

def pool1 : Array CpInfo := pool [(2, .class_ 4), (1, u "java/lang/Object"), (0, u "<init>"), (0, u "()V"), (0, .integer 2147483647), (0, .interfaceMethodref 9 10), (0, .class_ 11), (0, .nameAndType 12 13), (0, u "com/example/kinsmark/kinsmark/score/Aggregation"), (0, u "sum"), (0, u "([D)D"), (0, .class_ 15), (0, u "com/example/kinsmark/kinsmark/score/AggregationSumPinLaw"), (2, u "law"), (0, u "(IIIIII)Z")] 5

def k1m0 : Method := { name := "<init>", desc := "()V", sig := { parameters := [], returnType := none }, accessFlags := 2, code := none }
def k1c1 : Code := { maxStack := 4, maxLocals := 12, code := code, exceptionTable := #[], attributes := #[] }
def k1m1 : Method := { name := "law", desc := "(IIIIII)Z", sig := { parameters := [.int, .int, .int, .int, .int, .int], returnType := some .boolean }, accessFlags := 9, code := some k1c1 }
/-- com/example/kinsmark/kinsmark/score/AggregationSumPinLaw -/
def k1 : Class := { plain "com/example/kinsmark/kinsmark/score/AggregationSumPinLaw" (some 0) with
  accessFlags := 49
  interfaces := #[]
  cf := some (fileOf pool1 14 #[] #[{ accessFlags := 2, nameIndex := 5, descriptorIndex := 6, attributes := #[] }, { accessFlags := 9, nameIndex := 18, descriptorIndex := 19, attributes := #[] }] 49 2 #[] #[])
  fields := #[]
  methods := #[k1m0, k1m1]
  instanceTypes := #[]
  staticTypes := #[]
  resolved := Array.replicate 25 none
  statics := none }

def pool2 : Array CpInfo := pool [(1, .class_ 2), (0, u "com/example/kinsmark/kinsmark/score/Aggregation"), (0, .class_ 4), (0, u "java/lang/Object"), (9, u "sum"), (0, u "([D)D")] 5

def k2c0 : Code := { maxStack := 4, maxLocals := 8, code := prog_33_method_3_code, exceptionTable := #[], attributes := #[] }
def k2m0 : Method := { name := "sum", desc := "([D)D", sig := { parameters := [(.array .double)], returnType := some .double }, accessFlags := 9, code := some k2c0 }
/-- com/example/kinsmark/kinsmark/score/Aggregation -/
def k2 : Class := { plain "com/example/kinsmark/kinsmark/score/Aggregation" (some 0) with
  accessFlags := 1537
  interfaces := #[]
  cf := some (fileOf pool2 1 #[] #[{ accessFlags := 9, nameIndex := 14, descriptorIndex := 15, attributes := #[] }] 1537 3 #[] #[])
  fields := #[]
  methods := #[k2m0]
  instanceTypes := #[]
  staticTypes := #[]
  resolved := Array.replicate 21 none
  statics := none }

def pool3 : Array CpInfo := pool [(1, u "java/lang/Cloneable"), (0, .class_ 1), (0, u "java/lang/Object"), (0, .class_ 3)] 3

/-- java/lang/Cloneable -/
def k3 : Class := { plain "java/lang/Cloneable" (some 0) with
  accessFlags := 1537
  interfaces := #[]
  cf := some (fileOf pool3 2 #[] #[] 1537 4 #[] #[])
  fields := #[]
  methods := #[]
  instanceTypes := #[]
  staticTypes := #[]
  resolved := Array.replicate 8 none
  statics := none }

def pool4 : Array CpInfo := pool [(1, u "java/io/Serializable"), (0, .class_ 1), (0, u "java/lang/Object"), (0, .class_ 3)] 3

/-- java/io/Serializable -/
def k4 : Class := { plain "java/io/Serializable" (some 0) with
  accessFlags := 1537
  interfaces := #[]
  cf := some (fileOf pool4 2 #[] #[] 1537 4 #[] #[])
  fields := #[]
  methods := #[]
  instanceTypes := #[]
  staticTypes := #[]
  resolved := Array.replicate 8 none
  statics := none }

/-- the primitive byte -/
def k5 : Class := { plain "byte" none with kind := .primitive 'B', accessFlags := 0x411 }
/-- [B -/
def k6 : Class := { plain "[B" (some 0) with kind := .array 5 .byte, interfaces := #[3, 4], accessFlags := 1041 }

/-- the primitive double -/
def k7 : Class := { plain "double" none with kind := .primitive 'D', accessFlags := 0x411 }
/-- [D -/
def k8 : Class := { plain "[D" (some 0) with kind := .array 7 .double, interfaces := #[3, 4], accessFlags := 1041 }

/-- the primitive int -/
def k9 : Class := { plain "int" none with kind := .primitive 'I', accessFlags := 0x411 }
/-- [I -/
def k10 : Class := { plain "[I" (some 0) with kind := .array 9 .int, interfaces := #[3, 4], accessFlags := 1041 }

def heap : Heap := #[]
def classes : Array Class := #[k0, k1, k2, k3, k4, k5, k6, k7, k8, k9, k10]
def interned : List (Array UInt16 × Addr) := []
def slotsUsed : Nat := 0
def theMethod : MethodId := ⟨1, 1⟩
def args0 : Array Value := #[.int 5, .int 1, .int 2, .int 3, .int 4, .int 5]
def aboutOver (below : List Frame) : State where
  vm := { classes := classes, interned := interned.toArray }
  heap := heap
  slotsUsed := slotsUsed
  threads := #[{ frames := .invoking theMethod args0 :: below }]
def below0 : List Frame := [.native { method := ⟨0, 0⟩, args := #[] }]
def about1 : State := aboutOver below0
def p0 : Program := .bare "" "" ""
def e0 : Env := launch0.env 0 0 0
theorem w_frames : about1.frames = Frame.invoking theMethod args0 :: below0 := rfl
set_option maxRecDepth 65536 in
theorem w_args : argsFit about1.vm theMethod args0 = true := by decide +kernel
set_option maxRecDepth 65536 in
theorem w_heap : heapFits about1 = true := by decide +kernel
set_option maxRecDepth 65536 in
theorem w_runnable : about1.curStatus? = some .runnable := by decide +kernel
set_option maxRecDepth 65536 in
theorem w_alone : about1.alone = true := by decide +kernel
set_option maxRecDepth 65536 in
theorem w_named : about1.methodNamed? x = some theMethod := by decide +kernel
set_option maxRecDepth 65536 in
theorem w_hears : about1.hears theMethod below0 = true := by decide +kernel
set_option maxRecDepth 65536 in
theorem w_ripe : about1.ripe theMethod args0 below0 = true := by decide +kernel
theorem w_running : about1.status = .running := rfl
set_option maxRecDepth 65536 in
theorem w_room : about1.hasRoom e0.platform room_1 = true :=
  launch0.hasRoom_least _ room_1 (by decide +kernel) (by decide +kernel) (by decide +kernel) (by decide +kernel) (by decide +kernel) (by decide +kernel)
theorem allAtoms_all (ts : List Jvm.Cond) (a : Array Jvm.Value) (st : Jvm.State) : (allAtoms ts).before a st = ts.all (fun c => c.before a st) := by
  induction ts with
  | nil => rfl
  | cons c t ih =>
    show (Jvm.Cond.and c (allAtoms t)).before a st = _
    rw [Jvm.Cond.before_and, ih, List.all_cons]
def words1 : List Jvm.Cond := Jvm.Cond.code x code maxLocals ret :: tables_1
/-- a 'code' word, met by the world's own term for the bytes: nothing is compared byte by byte -/
theorem code_word {y : MethodName} {bytes : ByteArray} {mx : Nat} {rt : Option FieldType} {a : Array Value} {s : State} {m : MethodId} {meth : Method} {c : Code} (h1 : s.methodNamed? y = some m) (h2 : s.vm.method? m = some meth) (h3 : meth.code = some c) (h4 : c.code = bytes)
    (h5 : (c.maxLocals == mx && c.exceptionTable.isEmpty && decide (c.maxStack ≤ mostOperands) && decide (meth.sig.returnType = rt) && !meth.locks && decide (parseMethodDescriptor y.desc = some meth.sig)) = true) : (Jvm.Cond.code y bytes mx rt).before a s = true := by
  simp only [Bool.and_eq_true, beq_iff_eq, Bool.not_eq_true', decide_eq_true_eq] at h5
  obtain ⟨⟨⟨⟨⟨g1, g2⟩, g3⟩, g4⟩, g5⟩, g6⟩ := h5
  simp [Cond.before, Cond.holds, Cond.value, h1, h2, h3, h4, g1, g2, g3, g4, g5, g6]
def isCode : Jvm.Cond → Bool
  | .code _ _ _ _ => true
  | _ => false
theorem all_split {L : List Jvm.Cond} {P : Jvm.Cond → Bool} (h1 : L.all (fun c => isCode c || P c) = true) (h2 : ∀ c ∈ L.filter isCode, P c = true) : L.all P = true := by
  refine List.all_eq_true.mpr fun c hc => ?_
  have h := List.all_eq_true.mp h1 c hc
  rcases Bool.eq_false_or_eq_true (isCode c) with hi | hi
  · exact h2 c (List.mem_filter.mpr ⟨hc, hi⟩)
  · simpa [hi] using h
set_option maxRecDepth 65536 in
theorem w_c0 : (Jvm.Cond.code x code maxLocals ret).before args0 about1 = true := code_word (m := ⟨1, 1⟩) (meth := k1m1) (c := k1c1) (by decide +kernel) rfl rfl rfl (by decide +kernel)
set_option maxRecDepth 65536 in
theorem w_c1 : (Jvm.Cond.code ({ cls := "com/example/kinsmark/kinsmark/score/Aggregation", name := "sum", desc := "([D)D" } : Jvm.MethodName) prog_33_method_3_code (8 : Nat) (Option.some Jvm.ClassFile.FieldType.double)).before args0 about1 = true := code_word (m := ⟨2, 0⟩) (meth := k2m0) (c := k2c0) (by decide +kernel) rfl rfl rfl (by decide +kernel)
def codes1 : List Jvm.Cond := [Jvm.Cond.code x code maxLocals ret, Jvm.Cond.code ({ cls := "com/example/kinsmark/kinsmark/score/Aggregation", name := "sum", desc := "([D)D" } : Jvm.MethodName) prog_33_method_3_code (8 : Nat) (Option.some Jvm.ClassFile.FieldType.double)]
set_option maxRecDepth 65536 in
theorem codes_eq : words1.filter isCode = codes1 := rfl
theorem w_codes : ∀ c ∈ words1.filter isCode, c.before args0 about1 = true := by
  rw [codes_eq]
  intro c hc
  simp only [codes1, List.mem_cons, List.not_mem_nil, or_false] at hc
  rcases hc with rfl | rfl
  · exact w_c0
  · exact w_c1
set_option maxRecDepth 65536 in
theorem w_t1 : words1.all (fun c => isCode c || c.before args0 about1) = true := by decide +kernel
theorem w_tables : (allAtoms (Jvm.Cond.code x code maxLocals ret :: tables_1)).before args0 about1 = true := by
  rw [allAtoms_all]
  show words1.all (fun c => c.before args0 about1) = true
  refine all_split ?_ w_codes
  rw [w_t1]
set_option maxRecDepth 65536 in
theorem w_case : (Jvm.Cond.and given_1 narrow_1).before args0 about1 = true := by decide +kernel
theorem w_applies : (headSpec (Jvm.Cond.code x code maxLocals ret :: tables_1) room_1).applies x e0.platform about1 = true :=
  (Spec.applies_iff w_frames).mpr ⟨w_running, w_runnable, w_alone, w_named, w_hears, w_ripe, w_room, w_tables⟩
theorem atStart : AtStart classFile x code maxLocals ret World_1 tables_1 room_1 Calls_1 rest_1 Pre_1 launch0 p0 e0 about1 theMethod args0 below0 :=
  ⟨lists_1, trivial, launch0.admits_env _ _ _, launch0.least_env, fairChoices_fair.cas, fairChoices_fair.clock, w_frames, w_args, w_heap, w_applies, trivial, trivial, w_case⟩
end start1
theorem witness_1 : WitnessClaimed_1 := ⟨start1.p0, start1.e0, start1.about1, start1.theMethod, start1.args0, start1.below0, start1.atStart⟩
end Jvm.Pilot.@@N@@

import JvmDerived
import JvmDerived.Pilot.@@N@@Statement
import JvmDerived.Pilot.@@N@@Code
set_option linter.unusedVariables false
set_option linter.unusedSimpArgs false
namespace Jvm.Pilot.@@N@@
open Jvm Jvm.ClassFile Sem Op Lib Jvm.Free Jvm.Stand Jvm.LawKit Jvm.RoadKit Bundle Jvm.Pilot.@@N@@.Jvm.D
section OwnSteps
variable {p : Program} {l : Launch} {e : Env} {R : Room} {s : State} {m : MethodId} {args : Array Value} {below : List Frame} {meth : Method} {c : Code} {T : State} {locs : List Loc} {cells slots : Nat} {G : State → Outcome → Prop} {B : ByteArray} {pc pc' : Nat} {Ls Ls' : Array Slot} {st : List Value}
/-- from here the run ends as G says -/
def own_E (tb : Tables) (e : Env) (below : List Frame) (G : State → Outcome → Prop) (A : State) : Prop := ∃ s₂ o, Steps tb e below A s₂ ∧ G s₂ o
theorem own_go {tb : Tables} {A A' : State} (h : ∀ t, Steps tb e below A' t → Steps tb e below A t) (k : own_E tb e below G A') : own_E tb e below G A := by
  obtain ⟨s₂, o, h1, h2⟩ := k; exact ⟨s₂, o, h _ h1, h2⟩
theorem own_tr {tb : Tables} {A A' : State} (h : Steps tb e below A A') (k : own_E tb e below G A') : own_E tb e below G A := own_go (fun _ q => h.trans q) k
theorem own_iloadN (X : Stand p l e R s m args below meth c T locs cells slots) (hx : p.tables.exec = Jvm.exec) (hby : c.code = B) {k : Fin 4} {v : Int32} (hd : decode B pc = .ok (.iload_n k, 1)) (hp : pc + 1 = pc') (hl : Ls[k.val]? = some (.val (.int v)))
    (k : own_E p.tables e below G (T.setTop (mkF m pc' Ls (.int v :: st)))) : own_E p.tables e below G (T.setTop (mkF m pc Ls (st))) := by
  subst hp; exact own_go (fun t q => XS.iloadN X.here hx rfl (hb hby hd) hl q) k
theorem own_iload (X : Stand p l e R s m args below meth c T locs cells slots) (hx : p.tables.exec = Jvm.exec) (hby : c.code = B) {k : Nat} {v : Int32} (hd : decode B pc = .ok (.iload k, 2)) (hp : pc + 2 = pc') (hl : Ls[k]? = some (.val (.int v)))
    (k : own_E p.tables e below G (T.setTop (mkF m pc' Ls (.int v :: st)))) : own_E p.tables e below G (T.setTop (mkF m pc Ls (st))) := by
  subst hp; exact own_go (fun t q => XS.iload X.here hx rfl (hb hby hd) hl q) k
theorem own_lloadN (X : Stand p l e R s m args below meth c T locs cells slots) (hx : p.tables.exec = Jvm.exec) (hby : c.code = B) {k : Fin 4} {v : Int64} (hd : decode B pc = .ok (.lload_n k, 1)) (hp : pc + 1 = pc') (hl : Ls[k.val]? = some (.val (.long v)))
    (k : own_E p.tables e below G (T.setTop (mkF m pc' Ls (.long v :: st)))) : own_E p.tables e below G (T.setTop (mkF m pc Ls (st))) := by
  subst hp; exact own_go (fun t q => XS.lloadN X.here hx rfl (hb hby hd) hl q) k
theorem own_lload (X : Stand p l e R s m args below meth c T locs cells slots) (hx : p.tables.exec = Jvm.exec) (hby : c.code = B) {k : Nat} {v : Int64} (hd : decode B pc = .ok (.lload k, 2)) (hp : pc + 2 = pc') (hl : Ls[k]? = some (.val (.long v)))
    (k : own_E p.tables e below G (T.setTop (mkF m pc' Ls (.long v :: st)))) : own_E p.tables e below G (T.setTop (mkF m pc Ls (st))) := by
  subst hp; exact own_go (fun t q => XS.lload X.here hx rfl (hb hby hd) hl q) k
theorem own_aloadN (X : Stand p l e R s m args below meth c T locs cells slots) (hx : p.tables.exec = Jvm.exec) (hby : c.code = B) {k : Fin 4} {v : Value} (hd : decode B pc = .ok (.aload_n k, 1)) (hp : pc + 1 = pc') (hl : Ls[k.val]? = some (.val v)) (hv : v.isRef = true)
    (k : own_E p.tables e below G (T.setTop (mkF m pc' Ls (v :: st)))) : own_E p.tables e below G (T.setTop (mkF m pc Ls (st))) := by
  subst hp; exact own_go (fun t q => XS.aloadN X.here hx rfl (hb hby hd) hl hv q) k
theorem own_aload (X : Stand p l e R s m args below meth c T locs cells slots) (hx : p.tables.exec = Jvm.exec) (hby : c.code = B) {k : Nat} {v : Value} (hd : decode B pc = .ok (.aload k, 2)) (hp : pc + 2 = pc') (hl : Ls[k]? = some (.val v)) (hv : v.isRef = true)
    (k : own_E p.tables e below G (T.setTop (mkF m pc' Ls (v :: st)))) : own_E p.tables e below G (T.setTop (mkF m pc Ls (st))) := by
  subst hp; exact own_go (fun t q => XS.aload X.here hx rfl (hb hby hd) hl hv q) k
theorem own_istoreN (X : Stand p l e R s m args below meth c T locs cells slots) (hx : p.tables.exec = Jvm.exec) (hby : c.code = B) {k : Fin 4} {v : Int32} (hd : decode B pc = .ok (.istore_n k, 1)) (hp : pc + 1 = pc') (hl : storeLocals Ls k.val (.int v) = some Ls')
    (k : own_E p.tables e below G (T.setTop (mkF m pc' Ls' (st)))) : own_E p.tables e below G (T.setTop (mkF m pc Ls (.int v :: st))) := by
  subst hp; exact own_go (fun t q => XS.istoreN X.here hx rfl (hb hby hd) rfl hl q) k
theorem own_istore (X : Stand p l e R s m args below meth c T locs cells slots) (hx : p.tables.exec = Jvm.exec) (hby : c.code = B) {k : Nat} {v : Int32} (hd : decode B pc = .ok (.istore k, 2)) (hp : pc + 2 = pc') (hl : storeLocals Ls k (.int v) = some Ls')
    (k : own_E p.tables e below G (T.setTop (mkF m pc' Ls' (st)))) : own_E p.tables e below G (T.setTop (mkF m pc Ls (.int v :: st))) := by
  subst hp; exact own_go (fun t q => XS.istore X.here hx rfl (hb hby hd) rfl hl q) k
theorem own_lstoreN (X : Stand p l e R s m args below meth c T locs cells slots) (hx : p.tables.exec = Jvm.exec) (hby : c.code = B) {k : Fin 4} {v : Int64} (hd : decode B pc = .ok (.lstore_n k, 1)) (hp : pc + 1 = pc') (hl : storeLocals Ls k.val (.long v) = some Ls')
    (k : own_E p.tables e below G (T.setTop (mkF m pc' Ls' (st)))) : own_E p.tables e below G (T.setTop (mkF m pc Ls (.long v :: st))) := by
  subst hp; exact own_go (fun t q => XS.lstoreN X.here hx rfl (hb hby hd) rfl hl q) k
theorem own_lstore (X : Stand p l e R s m args below meth c T locs cells slots) (hx : p.tables.exec = Jvm.exec) (hby : c.code = B) {k : Nat} {v : Int64} (hd : decode B pc = .ok (.lstore k, 2)) (hp : pc + 2 = pc') (hl : storeLocals Ls k (.long v) = some Ls')
    (k : own_E p.tables e below G (T.setTop (mkF m pc' Ls' (st)))) : own_E p.tables e below G (T.setTop (mkF m pc Ls (.long v :: st))) := by
  subst hp; exact own_go (fun t q => XS.lstore X.here hx rfl (hb hby hd) rfl hl q) k
theorem own_astoreN (X : Stand p l e R s m args below meth c T locs cells slots) (hx : p.tables.exec = Jvm.exec) (hby : c.code = B) {k : Fin 4} {v : Value} (hd : decode B pc = .ok (.astore_n k, 1)) (hp : pc + 1 = pc') (hv : v.isRef = true) (hl : storeLocals Ls k.val v = some Ls')
    (k : own_E p.tables e below G (T.setTop (mkF m pc' Ls' (st)))) : own_E p.tables e below G (T.setTop (mkF m pc Ls (v :: st))) := by
  subst hp; exact own_go (fun t q => XS.astoreN X.here hx rfl (hb hby hd) rfl hv hl q) k
theorem own_astore (X : Stand p l e R s m args below meth c T locs cells slots) (hx : p.tables.exec = Jvm.exec) (hby : c.code = B) {k : Nat} {v : Value} (hd : decode B pc = .ok (.astore k, 2)) (hp : pc + 2 = pc') (hv : v.isRef = true) (hl : storeLocals Ls k v = some Ls')
    (k : own_E p.tables e below G (T.setTop (mkF m pc' Ls' (st)))) : own_E p.tables e below G (T.setTop (mkF m pc Ls (v :: st))) := by
  subst hp; exact own_go (fun t q => XS.astore X.here hx rfl (hb hby hd) rfl hv hl q) k
theorem own_iinc (X : Stand p l e R s m args below meth c T locs cells slots) (hx : p.tables.exec = Jvm.exec) (hby : c.code = B) {k : Nat} {cst : Int} {v z : Int32} (hd : decode B pc = .ok (.iinc k cst, 3)) (hp : pc + 3 = pc') (hl : Ls[k]? = some (.val (.int v))) (hz : Int32.ofInt cst = z) (hl' : storeLocals Ls k (.int (v + z)) = some Ls')
    (k : own_E p.tables e below G (T.setTop (mkF m pc' Ls' (st)))) : own_E p.tables e below G (T.setTop (mkF m pc Ls (st))) := by
  subst hp; exact own_go (fun t q => XS.iinc X.here hx rfl (hb hby hd) hl (hz ▸ hl') q) k
theorem own_iconst (X : Stand p l e R s m args below meth c T locs cells slots) (hx : p.tables.exec = Jvm.exec) (hby : c.code = B) {i : Int} {z : Int32} (hd : decode B pc = .ok (.iconst i, 1)) (hp : pc + 1 = pc') (hz : Int32.ofInt i = z)
    (k : own_E p.tables e below G (T.setTop (mkF m pc' Ls (.int z :: st)))) : own_E p.tables e below G (T.setTop (mkF m pc Ls (st))) := by
  subst hp hz; exact own_go (fun t q => XS.iconst X.here hx rfl (hb hby hd) q) k
theorem own_bipush (X : Stand p l e R s m args below meth c T locs cells slots) (hx : p.tables.exec = Jvm.exec) (hby : c.code = B) {i : Int} {z : Int32} (hd : decode B pc = .ok (.bipush i, 2)) (hp : pc + 2 = pc') (hz : (Int8.ofInt i).toInt32 = z)
    (k : own_E p.tables e below G (T.setTop (mkF m pc' Ls (.int z :: st)))) : own_E p.tables e below G (T.setTop (mkF m pc Ls (st))) := by
  subst hp hz; exact own_go (fun t q => XS.bipush X.here hx rfl (hb hby hd) q) k
theorem own_sipush (X : Stand p l e R s m args below meth c T locs cells slots) (hx : p.tables.exec = Jvm.exec) (hby : c.code = B) {i : Int} {z : Int32} (hd : decode B pc = .ok (.sipush i, 3)) (hp : pc + 3 = pc') (hz : (Int16.ofInt i).toInt32 = z)
    (k : own_E p.tables e below G (T.setTop (mkF m pc' Ls (.int z :: st)))) : own_E p.tables e below G (T.setTop (mkF m pc Ls (st))) := by
  subst hp hz; exact own_go (fun t q => XS.sipush X.here hx rfl (hb hby hd) q) k
theorem own_lconst (X : Stand p l e R s m args below meth c T locs cells slots) (hx : p.tables.exec = Jvm.exec) (hby : c.code = B) {i : Fin 2} {z : Int64} (hd : decode B pc = .ok (.lconst i, 1)) (hp : pc + 1 = pc') (hz : Int64.ofNat i = z)
    (k : own_E p.tables e below G (T.setTop (mkF m pc' Ls (.long z :: st)))) : own_E p.tables e below G (T.setTop (mkF m pc Ls (st))) := by
  subst hp hz; exact own_go (fun t q => XS.lconst X.here hx rfl (hb hby hd) q) k
theorem own_aconst_null (X : Stand p l e R s m args below meth c T locs cells slots) (hx : p.tables.exec = Jvm.exec) (hby : c.code = B)  (hd : decode B pc = .ok (.aconst_null, 1)) (hp : pc + 1 = pc') 
    (k : own_E p.tables e below G (T.setTop (mkF m pc' Ls (.null :: st)))) : own_E p.tables e below G (T.setTop (mkF m pc Ls (st))) := by
  subst hp; exact own_go (fun t q => XS.aconstNull X.here hx rfl (hb hby hd)  q) k
theorem own_iadd (X : Stand p l e R s m args below meth c T locs cells slots) (hx : p.tables.exec = Jvm.exec) (hby : c.code = B) {x y : Int32} (hd : decode B pc = .ok (.iadd, 1)) (hp : pc + 1 = pc') 
    (k : own_E p.tables e below G (T.setTop (mkF m pc' Ls (.int (x + y) :: st)))) : own_E p.tables e below G (T.setTop (mkF m pc Ls (.int y :: .int x :: st))) := by
  subst hp; exact own_go (fun t q => XS.iadd X.here hx rfl (hb hby hd) rfl q) k
theorem own_isub (X : Stand p l e R s m args below meth c T locs cells slots) (hx : p.tables.exec = Jvm.exec) (hby : c.code = B) {x y : Int32} (hd : decode B pc = .ok (.isub, 1)) (hp : pc + 1 = pc') 
    (k : own_E p.tables e below G (T.setTop (mkF m pc' Ls (.int (x - y) :: st)))) : own_E p.tables e below G (T.setTop (mkF m pc Ls (.int y :: .int x :: st))) := by
  subst hp; exact own_go (fun t q => XS.isub X.here hx rfl (hb hby hd) rfl q) k
theorem own_iand (X : Stand p l e R s m args below meth c T locs cells slots) (hx : p.tables.exec = Jvm.exec) (hby : c.code = B) {x y : Int32} (hd : decode B pc = .ok (.iand, 1)) (hp : pc + 1 = pc') 
    (k : own_E p.tables e below G (T.setTop (mkF m pc' Ls (.int (x &&& y) :: st)))) : own_E p.tables e below G (T.setTop (mkF m pc Ls (.int y :: .int x :: st))) := by
  subst hp; exact own_go (fun t q => XS.iand X.here hx rfl (hb hby hd) rfl q) k
theorem own_imul (X : Stand p l e R s m args below meth c T locs cells slots) (hx : p.tables.exec = Jvm.exec) (hby : c.code = B) {x y : Int32} (hd : decode B pc = .ok (.imul, 1)) (hp : pc + 1 = pc') 
    (k : own_E p.tables e below G (T.setTop (mkF m pc' Ls (.int (x * y) :: st)))) : own_E p.tables e below G (T.setTop (mkF m pc Ls (.int y :: .int x :: st))) := by
  subst hp; exact own_go (fun t q => XS.imul X.here hx rfl (hb hby hd) rfl q) k
theorem own_ixor (X : Stand p l e R s m args below meth c T locs cells slots) (hx : p.tables.exec = Jvm.exec) (hby : c.code = B) {x y : Int32} (hd : decode B pc = .ok (.ixor, 1)) (hp : pc + 1 = pc') 
    (k : own_E p.tables e below G (T.setTop (mkF m pc' Ls (.int (x ^^^ y) :: st)))) : own_E p.tables e below G (T.setTop (mkF m pc Ls (.int y :: .int x :: st))) := by
  subst hp; exact own_go (fun t q => XS.ixor X.here hx rfl (hb hby hd) rfl q) k
theorem own_ior (X : Stand p l e R s m args below meth c T locs cells slots) (hx : p.tables.exec = Jvm.exec) (hby : c.code = B) {x y : Int32} (hd : decode B pc = .ok (.ior, 1)) (hp : pc + 1 = pc') 
    (k : own_E p.tables e below G (T.setTop (mkF m pc' Ls (.int (x ||| y) :: st)))) : own_E p.tables e below G (T.setTop (mkF m pc Ls (.int y :: .int x :: st))) := by
  subst hp; exact own_go (fun t q => XS.ior X.here hx rfl (hb hby hd) rfl q) k
theorem own_ishl (X : Stand p l e R s m args below meth c T locs cells slots) (hx : p.tables.exec = Jvm.exec) (hby : c.code = B) {x y : Int32} (hd : decode B pc = .ok (.ishl, 1)) (hp : pc + 1 = pc') 
    (k : own_E p.tables e below G (T.setTop (mkF m pc' Ls (.int (x <<< (y &&& 31)) :: st)))) : own_E p.tables e below G (T.setTop (mkF m pc Ls (.int y :: .int x :: st))) := by
  subst hp; exact own_go (fun t q => XS.ishl X.here hx rfl (hb hby hd) rfl q) k
theorem own_ishr (X : Stand p l e R s m args below meth c T locs cells slots) (hx : p.tables.exec = Jvm.exec) (hby : c.code = B) {x y : Int32} (hd : decode B pc = .ok (.ishr, 1)) (hp : pc + 1 = pc') 
    (k : own_E p.tables e below G (T.setTop (mkF m pc' Ls (.int (x >>> (y &&& 31)) :: st)))) : own_E p.tables e below G (T.setTop (mkF m pc Ls (.int y :: .int x :: st))) := by
  subst hp; exact own_go (fun t q => XS.ishr X.here hx rfl (hb hby hd) rfl q) k
theorem own_iushr (X : Stand p l e R s m args below meth c T locs cells slots) (hx : p.tables.exec = Jvm.exec) (hby : c.code = B) {x y : Int32} (hd : decode B pc = .ok (.iushr, 1)) (hp : pc + 1 = pc') 
    (k : own_E p.tables e below G (T.setTop (mkF m pc' Ls (.int ((x.toUInt32 >>> (y &&& 31).toUInt32).toInt32) :: st)))) : own_E p.tables e below G (T.setTop (mkF m pc Ls (.int y :: .int x :: st))) := by
  subst hp; exact own_go (fun t q => XS.iushr X.here hx rfl (hb hby hd) rfl q) k
theorem own_ladd (X : Stand p l e R s m args below meth c T locs cells slots) (hx : p.tables.exec = Jvm.exec) (hby : c.code = B) {x y : Int64} (hd : decode B pc = .ok (.ladd, 1)) (hp : pc + 1 = pc') 
    (k : own_E p.tables e below G (T.setTop (mkF m pc' Ls (.long (x + y) :: st)))) : own_E p.tables e below G (T.setTop (mkF m pc Ls (.long y :: .long x :: st))) := by
  subst hp; exact own_go (fun t q => XS.ladd X.here hx rfl (hb hby hd) rfl q) k
theorem own_lsub (X : Stand p l e R s m args below meth c T locs cells slots) (hx : p.tables.exec = Jvm.exec) (hby : c.code = B) {x y : Int64} (hd : decode B pc = .ok (.lsub, 1)) (hp : pc + 1 = pc') 
    (k : own_E p.tables e below G (T.setTop (mkF m pc' Ls (.long (x - y) :: st)))) : own_E p.tables e below G (T.setTop (mkF m pc Ls (.long y :: .long x :: st))) := by
  subst hp; exact own_go (fun t q => XS.lsub X.here hx rfl (hb hby hd) rfl q) k
theorem own_lmul (X : Stand p l e R s m args below meth c T locs cells slots) (hx : p.tables.exec = Jvm.exec) (hby : c.code = B) {x y : Int64} (hd : decode B pc = .ok (.lmul, 1)) (hp : pc + 1 = pc') 
    (k : own_E p.tables e below G (T.setTop (mkF m pc' Ls (.long (x * y) :: st)))) : own_E p.tables e below G (T.setTop (mkF m pc Ls (.long y :: .long x :: st))) := by
  subst hp; exact own_go (fun t q => XS.lmul X.here hx rfl (hb hby hd) rfl q) k
theorem own_land (X : Stand p l e R s m args below meth c T locs cells slots) (hx : p.tables.exec = Jvm.exec) (hby : c.code = B) {x y : Int64} (hd : decode B pc = .ok (.land, 1)) (hp : pc + 1 = pc') 
    (k : own_E p.tables e below G (T.setTop (mkF m pc' Ls (.long (x &&& y) :: st)))) : own_E p.tables e below G (T.setTop (mkF m pc Ls (.long y :: .long x :: st))) := by
  subst hp; exact own_go (fun t q => XS.land X.here hx rfl (hb hby hd) rfl q) k
theorem own_lor (X : Stand p l e R s m args below meth c T locs cells slots) (hx : p.tables.exec = Jvm.exec) (hby : c.code = B) {x y : Int64} (hd : decode B pc = .ok (.lor, 1)) (hp : pc + 1 = pc') 
    (k : own_E p.tables e below G (T.setTop (mkF m pc' Ls (.long (x ||| y) :: st)))) : own_E p.tables e below G (T.setTop (mkF m pc Ls (.long y :: .long x :: st))) := by
  subst hp; exact own_go (fun t q => XS.lor X.here hx rfl (hb hby hd) rfl q) k
theorem own_lxor (X : Stand p l e R s m args below meth c T locs cells slots) (hx : p.tables.exec = Jvm.exec) (hby : c.code = B) {x y : Int64} (hd : decode B pc = .ok (.lxor, 1)) (hp : pc + 1 = pc') 
    (k : own_E p.tables e below G (T.setTop (mkF m pc' Ls (.long (x ^^^ y) :: st)))) : own_E p.tables e below G (T.setTop (mkF m pc Ls (.long y :: .long x :: st))) := by
  subst hp; exact own_go (fun t q => XS.lxor X.here hx rfl (hb hby hd) rfl q) k
theorem own_lshl (X : Stand p l e R s m args below meth c T locs cells slots) (hx : p.tables.exec = Jvm.exec) (hby : c.code = B) {x : Int64} {y : Int32} (hd : decode B pc = .ok (.lshl, 1)) (hp : pc + 1 = pc')
    (k : own_E p.tables e below G (T.setTop (mkF m pc' Ls (.long (x <<< (y &&& 0x3f).toInt64) :: st)))) : own_E p.tables e below G (T.setTop (mkF m pc Ls (.int y :: .long x :: st))) := by
  subst hp; exact own_go (fun t q => by
    jvm_step X.here [X.here.top, hx, hb hby hd]
    first | exact q | simpa [Int32.toInt64_and] using q) k
theorem own_lshr (X : Stand p l e R s m args below meth c T locs cells slots) (hx : p.tables.exec = Jvm.exec) (hby : c.code = B) {x : Int64} {y : Int32} (hd : decode B pc = .ok (.lshr, 1)) (hp : pc + 1 = pc')
    (k : own_E p.tables e below G (T.setTop (mkF m pc' Ls (.long (x >>> (y &&& 0x3f).toInt64) :: st)))) : own_E p.tables e below G (T.setTop (mkF m pc Ls (.int y :: .long x :: st))) := by
  subst hp; exact own_go (fun t q => by
    jvm_step X.here [X.here.top, hx, hb hby hd]
    first | exact q | simpa [Int32.toInt64_and] using q) k
theorem own_lushr (X : Stand p l e R s m args below meth c T locs cells slots) (hx : p.tables.exec = Jvm.exec) (hby : c.code = B) {x : Int64} {y : Int32} (hd : decode B pc = .ok (.lushr, 1)) (hp : pc + 1 = pc')
    (k : own_E p.tables e below G (T.setTop (mkF m pc' Ls (.long ((x.toUInt64 >>> (y &&& 0x3f).toInt64.toUInt64).toInt64) :: st)))) : own_E p.tables e below G (T.setTop (mkF m pc Ls (.int y :: .long x :: st))) := by
  subst hp; exact own_go (fun t q => by
    jvm_step X.here [X.here.top, hx, hb hby hd]
    first | exact q | simpa [Int32.toInt64_and] using q) k
theorem own_idiv (X : Stand p l e R s m args below meth c T locs cells slots) (hx : p.tables.exec = Jvm.exec) (hby : c.code = B) {x y : Int32} (hd : decode B pc = .ok (.idiv, 1)) (hp : pc + 1 = pc') (hy : y ≠ 0)
    (k : own_E p.tables e below G (T.setTop (mkF m pc' Ls (.int (x / y) :: st)))) : own_E p.tables e below G (T.setTop (mkF m pc Ls (.int y :: .int x :: st))) := by
  subst hp; exact own_go (fun t q => XS.idiv X.here hx rfl (hb hby hd) rfl hy q) k
theorem own_irem (X : Stand p l e R s m args below meth c T locs cells slots) (hx : p.tables.exec = Jvm.exec) (hby : c.code = B) {x y : Int32} (hd : decode B pc = .ok (.irem, 1)) (hp : pc + 1 = pc') (hy : y ≠ 0)
    (k : own_E p.tables e below G (T.setTop (mkF m pc' Ls (.int (x % y) :: st)))) : own_E p.tables e below G (T.setTop (mkF m pc Ls (.int y :: .int x :: st))) := by
  subst hp; exact own_go (fun t q => iremM X hx rfl (hb hby hd) rfl hy q) k
theorem own_lrem (X : Stand p l e R s m args below meth c T locs cells slots) (hx : p.tables.exec = Jvm.exec) (hby : c.code = B) {x y : Int64} (hd : decode B pc = .ok (.lrem, 1)) (hp : pc + 1 = pc') (hy : y ≠ 0)
    (k : own_E p.tables e below G (T.setTop (mkF m pc' Ls (.long (x % y) :: st)))) : own_E p.tables e below G (T.setTop (mkF m pc Ls (.long y :: .long x :: st))) := by
  subst hp; exact own_go (fun t q => XS.lrem X.here hx rfl (hb hby hd) rfl hy (by rw [lrem_mod]; exact q)) k
theorem own_ineg (X : Stand p l e R s m args below meth c T locs cells slots) (hx : p.tables.exec = Jvm.exec) (hby : c.code = B) {x : Int32} (hd : decode B pc = .ok (.ineg, 1)) (hp : pc + 1 = pc') 
    (k : own_E p.tables e below G (T.setTop (mkF m pc' Ls (.int (-x) :: st)))) : own_E p.tables e below G (T.setTop (mkF m pc Ls (.int x :: st))) := by
  subst hp; exact own_go (fun t q => XS.ineg X.here hx rfl (hb hby hd) rfl q) k
theorem own_lneg (X : Stand p l e R s m args below meth c T locs cells slots) (hx : p.tables.exec = Jvm.exec) (hby : c.code = B) {x : Int64} (hd : decode B pc = .ok (.lneg, 1)) (hp : pc + 1 = pc') 
    (k : own_E p.tables e below G (T.setTop (mkF m pc' Ls (.long (-x) :: st)))) : own_E p.tables e below G (T.setTop (mkF m pc Ls (.long x :: st))) := by
  subst hp; exact own_go (fun t q => XS.lneg X.here hx rfl (hb hby hd) rfl q) k
theorem own_i2l (X : Stand p l e R s m args below meth c T locs cells slots) (hx : p.tables.exec = Jvm.exec) (hby : c.code = B) {x : Int32} (hd : decode B pc = .ok (.i2l, 1)) (hp : pc + 1 = pc') 
    (k : own_E p.tables e below G (T.setTop (mkF m pc' Ls (.long (x.toInt64) :: st)))) : own_E p.tables e below G (T.setTop (mkF m pc Ls (.int x :: st))) := by
  subst hp; exact own_go (fun t q => XS.i2l X.here hx rfl (hb hby hd) rfl q) k
theorem own_l2i (X : Stand p l e R s m args below meth c T locs cells slots) (hx : p.tables.exec = Jvm.exec) (hby : c.code = B) {x : Int64} (hd : decode B pc = .ok (.l2i, 1)) (hp : pc + 1 = pc') 
    (k : own_E p.tables e below G (T.setTop (mkF m pc' Ls (.int (x.toInt32) :: st)))) : own_E p.tables e below G (T.setTop (mkF m pc Ls (.long x :: st))) := by
  subst hp; exact own_go (fun t q => XS.l2i X.here hx rfl (hb hby hd) rfl q) k
theorem own_i2b (X : Stand p l e R s m args below meth c T locs cells slots) (hx : p.tables.exec = Jvm.exec) (hby : c.code = B) {x : Int32} (hd : decode B pc = .ok (.i2b, 1)) (hp : pc + 1 = pc') 
    (k : own_E p.tables e below G (T.setTop (mkF m pc' Ls (.int (x.toInt8.toInt32) :: st)))) : own_E p.tables e below G (T.setTop (mkF m pc Ls (.int x :: st))) := by
  subst hp; exact own_go (fun t q => XS.i2b X.here hx rfl (hb hby hd) rfl q) k
theorem own_i2c (X : Stand p l e R s m args below meth c T locs cells slots) (hx : p.tables.exec = Jvm.exec) (hby : c.code = B) {x : Int32} (hd : decode B pc = .ok (.i2c, 1)) (hp : pc + 1 = pc') 
    (k : own_E p.tables e below G (T.setTop (mkF m pc' Ls (.int (x.toUInt32.toUInt16.toUInt32.toInt32) :: st)))) : own_E p.tables e below G (T.setTop (mkF m pc Ls (.int x :: st))) := by
  subst hp; exact own_go (fun t q => XS.i2c X.here hx rfl (hb hby hd) rfl q) k
theorem own_i2s (X : Stand p l e R s m args below meth c T locs cells slots) (hx : p.tables.exec = Jvm.exec) (hby : c.code = B) {x : Int32} (hd : decode B pc = .ok (.i2s, 1)) (hp : pc + 1 = pc') 
    (k : own_E p.tables e below G (T.setTop (mkF m pc' Ls (.int (x.toInt16.toInt32) :: st)))) : own_E p.tables e below G (T.setTop (mkF m pc Ls (.int x :: st))) := by
  subst hp; exact own_go (fun t q => XS.i2s X.here hx rfl (hb hby hd) rfl q) k
theorem own_i2cE (X : Stand p l e R s m args below meth c T locs cells slots) (hx : p.tables.exec = Jvm.exec) (hby : c.code = B) {x v : Int32} (hd : decode B pc = .ok (.i2c, 1)) (hp : pc + 1 = pc') (hv : x.toUInt32.toUInt16.toUInt32.toInt32 = v)
    (k : own_E p.tables e below G (T.setTop (mkF m pc' Ls (.int v :: st)))) : own_E p.tables e below G (T.setTop (mkF m pc Ls (.int x :: st))) := by
  subst hv; exact own_i2c X hx hby hd hp k
theorem own_lcmp (X : Stand p l e R s m args below meth c T locs cells slots) (hx : p.tables.exec = Jvm.exec) (hby : c.code = B) {x y : Int64} (hd : decode B pc = .ok (.lcmp, 1)) (hp : pc + 1 = pc')
    (k : own_E p.tables e below G (T.setTop (mkF m pc' Ls (.int (lcmpW x y) :: st)))) : own_E p.tables e below G (T.setTop (mkF m pc Ls (.long y :: .long x :: st))) := by
  subst hp; exact own_go (fun t q => XS.lcmp X.here hx rfl (hb hby hd) rfl q) k
theorem own_dup (X : Stand p l e R s m args below meth c T locs cells slots) (hx : p.tables.exec = Jvm.exec) (hby : c.code = B) {v : Value} (hd : decode B pc = .ok (.dup, 1)) (hp : pc + 1 = pc') (hc : v.category = 1)
    (k : own_E p.tables e below G (T.setTop (mkF m pc' Ls (v :: v :: st)))) : own_E p.tables e below G (T.setTop (mkF m pc Ls (v :: st))) := by
  subst hp; exact own_go (fun t q => XS.dup X.here hx rfl (hb hby hd) rfl hc q) k
theorem own_pop (X : Stand p l e R s m args below meth c T locs cells slots) (hx : p.tables.exec = Jvm.exec) (hby : c.code = B) {v : Value} (hd : decode B pc = .ok (.pop, 1)) (hp : pc + 1 = pc') (hc : v.category = 1)
    (k : own_E p.tables e below G (T.setTop (mkF m pc' Ls (st)))) : own_E p.tables e below G (T.setTop (mkF m pc Ls (v :: st))) := by
  subst hp; exact own_go (fun t q => XS.pop X.here hx rfl (hb hby hd) rfl hc q) k
theorem own_dup_x1 (X : Stand p l e R s m args below meth c T locs cells slots) (hx : p.tables.exec = Jvm.exec) (hby : c.code = B) {v w : Value} (hd : decode B pc = .ok (.dup_x1, 1)) (hp : pc + 1 = pc') (hc : v.category = 1) (hc' : w.category = 1)
    (k : own_E p.tables e below G (T.setTop (mkF m pc' Ls (v :: w :: v :: st)))) : own_E p.tables e below G (T.setTop (mkF m pc Ls (v :: w :: st))) := by
  subst hp; exact own_go (fun t q => XS.dupX1 X.here hx rfl (hb hby hd) rfl hc hc' q) k
theorem own_dup2 (X : Stand p l e R s m args below meth c T locs cells slots) (hx : p.tables.exec = Jvm.exec) (hby : c.code = B) {v w : Value} (hd : decode B pc = .ok (.dup2, 1)) (hp : pc + 1 = pc') (hc : v.category = 1) (hc' : w.category = 1)
    (k : own_E p.tables e below G (T.setTop (mkF m pc' Ls (v :: w :: v :: w :: st)))) : own_E p.tables e below G (T.setTop (mkF m pc Ls (v :: w :: st))) := by
  subst hp; exact own_go (fun t q => by
    jvm_step X.here [X.here.top, hx, hb hby hd, hc, hc']
    exact q) k
theorem own_goto (X : Stand p l e R s m args below meth c T locs cells slots) (hx : p.tables.exec = Jvm.exec) (hby : c.code = B) {o : Int} (hd : decode B pc = .ok (.goto o, 3)) (ho : 0 ≤ (pc : Int) + o) (hp : ((pc : Int) + o).toNat = pc')
    (k : own_E p.tables e below G (T.setTop (mkF m pc' Ls (st)))) : own_E p.tables e below G (T.setTop (mkF m pc Ls (st))) := own_go (fun t q => XS.goto X.here hx rfl rfl (hb hby hd) ho hp q) k
theorem own_ifY (X : Stand p l e R s m args below meth c T locs cells slots) (hx : p.tables.exec = Jvm.exec) (hby : c.code = B) {cd : ClassFile.Cond} {x : Int32} {o : Int} (hd : decode B pc = .ok (.ifCond cd o, 3)) (ho : 0 ≤ (pc : Int) + o) (hp : ((pc : Int) + o).toNat = pc') (hc : if_icmp.holds cd x 0 = true)
    (k : own_E p.tables e below G (T.setTop (mkF m pc' Ls (st)))) : own_E p.tables e below G (T.setTop (mkF m pc Ls (.int x :: st))) := own_go (fun t q => XS.ifYes X.here hx rfl rfl (hb hby hd) rfl ((if0 _ _).trans hc) ho hp q) k
theorem own_ifN (X : Stand p l e R s m args below meth c T locs cells slots) (hx : p.tables.exec = Jvm.exec) (hby : c.code = B) {cd : ClassFile.Cond} {x : Int32} {o : Int} (hd : decode B pc = .ok (.ifCond cd o, 3)) (hp : pc + 3 = pc') (hc : if_icmp.holds cd x 0 = false)
    (k : own_E p.tables e below G (T.setTop (mkF m pc' Ls (st)))) : own_E p.tables e below G (T.setTop (mkF m pc Ls (.int x :: st))) := by
  subst hp; exact own_go (fun t q => XS.ifNo X.here hx rfl (hb hby hd) rfl ((if0 _ _).trans hc) q) k
theorem own_icmpY (X : Stand p l e R s m args below meth c T locs cells slots) (hx : p.tables.exec = Jvm.exec) (hby : c.code = B) {cd : ClassFile.Cond} {x y : Int32} {o : Int} (hd : decode B pc = .ok (.if_icmp cd o, 3)) (ho : 0 ≤ (pc : Int) + o) (hp : ((pc : Int) + o).toNat = pc') (hc : if_icmp.holds cd x y = true)
    (k : own_E p.tables e below G (T.setTop (mkF m pc' Ls (st)))) : own_E p.tables e below G (T.setTop (mkF m pc Ls (.int y :: .int x :: st))) := own_go (fun t q => XS.icmpYes X.here hx rfl rfl (hb hby hd) rfl hc ho hp q) k
theorem own_icmpN (X : Stand p l e R s m args below meth c T locs cells slots) (hx : p.tables.exec = Jvm.exec) (hby : c.code = B) {cd : ClassFile.Cond} {x y : Int32} {o : Int} (hd : decode B pc = .ok (.if_icmp cd o, 3)) (hp : pc + 3 = pc') (hc : if_icmp.holds cd x y = false)
    (k : own_E p.tables e below G (T.setTop (mkF m pc' Ls (st)))) : own_E p.tables e below G (T.setTop (mkF m pc Ls (.int y :: .int x :: st))) := by
  subst hp; exact own_go (fun t q => XS.icmpNo X.here hx rfl (hb hby hd) rfl hc q) k
theorem own_ifnullY (X : Stand p l e R s m args below meth c T locs cells slots) (hx : p.tables.exec = Jvm.exec) (hby : c.code = B)  {o : Int} (hd : decode B pc = .ok (.ifnull o, 3)) (ho : 0 ≤ (pc : Int) + o) (hp : ((pc : Int) + o).toNat = pc')
    (k : own_E p.tables e below G (T.setTop (mkF m pc' Ls (st)))) : own_E p.tables e below G (T.setTop (mkF m pc Ls (.null :: st))) := own_go (fun t q => XS.ifnullYes X.here hx rfl rfl (hb hby hd) rfl ho hp q) k
theorem own_ifnonnullY (X : Stand p l e R s m args below meth c T locs cells slots) (hx : p.tables.exec = Jvm.exec) (hby : c.code = B) {b : Addr} {o : Int} (hd : decode B pc = .ok (.ifnonnull o, 3)) (ho : 0 ≤ (pc : Int) + o) (hp : ((pc : Int) + o).toNat = pc')
    (k : own_E p.tables e below G (T.setTop (mkF m pc' Ls (st)))) : own_E p.tables e below G (T.setTop (mkF m pc Ls (.ref b :: st))) := own_go (fun t q => XS.ifnonnullYes X.here hx rfl rfl (hb hby hd) rfl ho hp q) k
theorem own_ifnullN (X : Stand p l e R s m args below meth c T locs cells slots) (hx : p.tables.exec = Jvm.exec) (hby : c.code = B) {b : Addr} {o : Int} (hd : decode B pc = .ok (.ifnull o, 3)) (hp : pc + 3 = pc')
    (k : own_E p.tables e below G (T.setTop (mkF m pc' Ls (st)))) : own_E p.tables e below G (T.setTop (mkF m pc Ls (.ref b :: st))) := by
  subst hp; exact own_go (fun t q => XS.ifnullNo X.here hx rfl (hb hby hd) rfl q) k
theorem own_ifnonnullN (X : Stand p l e R s m args below meth c T locs cells slots) (hx : p.tables.exec = Jvm.exec) (hby : c.code = B)  {o : Int} (hd : decode B pc = .ok (.ifnonnull o, 3)) (hp : pc + 3 = pc')
    (k : own_E p.tables e below G (T.setTop (mkF m pc' Ls (st)))) : own_E p.tables e below G (T.setTop (mkF m pc Ls (.null :: st))) := by
  subst hp; exact own_go (fun t q => XS.ifnonnullNo X.here hx rfl (hb hby hd) rfl q) k
theorem own_acmp (X : Stand p l e R s m args below meth c T locs cells slots) (hx : p.tables.exec = Jvm.exec) (hby : c.code = B) {cd : ClassFile.ACond} {x y : Value} {o : Int} {same : Bool} (hd : decode B pc = .ok (.if_acmp cd o, 3)) (h1 : x.isRef = true) (h2 : y.isRef = true) (hq : decide (x = y) = same) (ho : 0 ≤ (pc : Int) + o) (hp : pc' = if acV cd same = true then ((pc : Int) + o).toNat else pc + 3)
    (k : own_E p.tables e below G (T.setTop (mkF m pc' Ls (st)))) : own_E p.tables e below G (T.setTop (mkF m pc Ls (y :: x :: st))) := own_go (fun t q => Jvm.RoadKit.acmp (g := mkF m pc Ls (y :: x :: st)) X hx rfl h1 h2 rfl (hb hby hd) rfl hq ho hp q) k
/-- what a body owes at its end -/
def own_End (s : State) (below : List Frame) (Q : Option Value → Heap → List Loc → Prop) (C S : Nat) (s₂ : State) (o : Outcome) : Prop := s₂.status = .running ∧ Ended s₂ below o ∧ ∃ v L, o = .returned v ∧ Q v s₂.heap L ∧ FrameEnd s o s₂ L C S
theorem own_ret (X : Stand p l e R s m args below meth c T locs cells slots) {Q : Option Value → Heap → List Loc → Prop} {C S : Nat} {v : Option Value} (hv : meth.sig.returnType = none → v = none) (hlocks : meth.locks = false)
    (hst : ∀ fs : List Frame, (∀ (f : JFrame) (acts : List Action), f.method = m → f.locked = none → f.entered = [] → (doReturn e (T.setTop f) acts v).1 = T.setFrames fs) → Steps p.tables e below (T.setTop (mkF m pc Ls st)) (T.setFrames fs))
    (hq : Q v T.heap locs) (hc : cells ≤ C) (hs : slots ≤ S) : own_E p.tables e below (own_End s below Q C S) (T.setTop (mkF m pc Ls st)) := by
  obtain ⟨fs, hr, hrun, hended, hW, hsame⟩ := X.leave hv hlocks
  exact ⟨_, _, hst fs hr, hrun, hended, v, locs, rfl, hq, ⟨_, rfl⟩, hW, hsame.mono hc hs⟩
theorem own_retN (X : Stand p l e R s m args below meth c T locs cells slots) (hx : p.tables.exec = Jvm.exec) (hby : c.code = B) {Q : Option Value → Heap → List Loc → Prop} {C S : Nat} {t : FieldType} {z z' : Int32} (hlocks : meth.locks = false) (hret : meth.sig.returnType = some t) (ht : t = .boolean ∨ t = .byte ∨ t = .char ∨ t = .short)
    (hd : decode B pc = .ok (.ireturn, 1)) (hz : nar t z = z') (hq : Q (some (.int z')) T.heap locs) (hc : cells ≤ C) (hs : slots ≤ S) : own_E p.tables e below (own_End s below Q C S) (T.setTop (mkF m pc Ls (.int z :: st))) :=
  own_ret X (fun h => by rw [hret] at h; cases h) hlocks (fun fs hl => retN X hx (t := t) hret ht (hb hby hd) (by rw [hz]; exact hl)) hq hc hs
theorem own_retI (X : Stand p l e R s m args below meth c T locs cells slots) (hx : p.tables.exec = Jvm.exec) (hby : c.code = B) {Q : Option Value → Heap → List Loc → Prop} {C S : Nat} {z : Int32} (hlocks : meth.locks = false) (hret : meth.sig.returnType = some .int)
    (hd : decode B pc = .ok (.ireturn, 1)) (hq : Q (some (.int z)) T.heap locs) (hc : cells ≤ C) (hs : slots ≤ S) : own_E p.tables e below (own_End s below Q C S) (T.setTop (mkF m pc Ls (.int z :: st))) :=
  own_ret X (fun h => by rw [hret] at h; cases h) hlocks (fun fs hl => retOut X hx hret rfl (Or.inl ⟨rfl, Or.inl rfl, _, rfl⟩) (hb hby hd) hl) hq hc hs
theorem own_retL (X : Stand p l e R s m args below meth c T locs cells slots) (hx : p.tables.exec = Jvm.exec) (hby : c.code = B) {Q : Option Value → Heap → List Loc → Prop} {C S : Nat} {z : Int64} (hlocks : meth.locks = false) (hret : meth.sig.returnType = some .long)
    (hd : decode B pc = .ok (.lreturn, 1)) (hq : Q (some (.long z)) T.heap locs) (hc : cells ≤ C) (hs : slots ≤ S) : own_E p.tables e below (own_End s below Q C S) (T.setTop (mkF m pc Ls (.long z :: st))) :=
  own_ret X (fun h => by rw [hret] at h; cases h) hlocks (fun fs hl => retOut X hx hret rfl (Or.inr (Or.inl ⟨rfl, rfl, _, rfl⟩)) (hb hby hd) hl) hq hc hs
theorem own_retD (X : Stand p l e R s m args below meth c T locs cells slots) (hx : p.tables.exec = Jvm.exec) (hby : c.code = B) {Q : Option Value → Heap → List Loc → Prop} {C S : Nat} {z : UInt64} (hlocks : meth.locks = false) (hret : meth.sig.returnType = some .double)
    (hd : decode B pc = .ok (.dreturn, 1)) (hq : Q (some (.double z)) T.heap locs) (hc : cells ≤ C) (hs : slots ≤ S) : own_E p.tables e below (own_End s below Q C S) (T.setTop (mkF m pc Ls (.double z :: st))) :=
  own_ret X (fun h => by rw [hret] at h; cases h) hlocks (fun fs hl => retOut X hx hret rfl (Or.inr (Or.inr (Or.inl ⟨rfl, rfl, _, rfl⟩))) (hb hby hd) hl) hq hc hs
theorem own_retA (X : Stand p l e R s m args below meth c T locs cells slots) (hx : p.tables.exec = Jvm.exec) (hby : c.code = B) {Q : Option Value → Heap → List Loc → Prop} {C S : Nat} {t : FieldType} {v : Value} (hlocks : meth.locks = false) (hret : meth.sig.returnType = some t) (ht : t.isReference = true) (hv : v.isRef = true)
    (hd : decode B pc = .ok (.areturn, 1)) (hq : Q (some v) T.heap locs) (hc : cells ≤ C) (hs : slots ≤ S) : own_E p.tables e below (own_End s below Q C S) (T.setTop (mkF m pc Ls (v :: st))) :=
  own_ret X (fun h => by rw [hret] at h; cases h) hlocks (fun fs hl => retOut X hx hret (by cases t <;> first | (cases ht; done) | (rcases ref_cases hv with rfl | ⟨_, rfl⟩ <;> rfl)) (Or.inr (Or.inr (Or.inr (Or.inr ⟨rfl, ht, hv⟩)))) (hb hby hd) hl) hq hc hs
theorem own_ret0 (X : Stand p l e R s m args below meth c T locs cells slots) (hx : p.tables.exec = Jvm.exec) (hby : c.code = B) {Q : Option Value → Heap → List Loc → Prop} {C S : Nat} (hlocks : meth.locks = false) (hret : meth.sig.returnType = none)
    (hd : decode B pc = .ok (.return_, 1)) (hq : Q none T.heap locs) (hc : cells ≤ C) (hs : slots ≤ S) : own_E p.tables e below (own_End s below Q C S) (T.setTop (mkF m pc Ls [])) :=
  own_ret X (fun _ => rfl) hlocks (fun fs hl => X.returnOut hx hret (hb hby hd) hl) hq hc hs
theorem own_callS (X : Stand p l e R s m args below meth c T locs cells slots) (hx : p.tables.exec = Jvm.exec) (hby : c.code = B) {Z : State} {a0 : Array Value} {h : Heap} {own : String} {index nl : Nat} {as' : Array Value} {W cc ss : Nat} {Q : Option Value → Heap → List Loc → Prop} {y : MethodName} {bytes : ByteArray} {maxL : Nat} {ret : Option FieldType} (hml : c.maxLocals = nl) (hZ : Z.Warmed39 s.vm) (hown : s.vm.findClass own = some m.cls)
    (w1 : (Cond.methodLink own index y).before a0 Z = true) (w2 : (Cond.static y).before a0 Z = true) (w3 : (Cond.initialized y.cls).before a0 Z = true) (w4 : (Cond.code y bytes maxL ret).before a0 Z = true) (hy : y.cls ≠ "java/lang/invoke/MethodHandle" ∧ y.cls ≠ "java/lang/invoke/VarHandle")
    (hK : Back l R p e below s args y 3 W (fun P a => a = as' ∧ P.U.heap = h ∧ P.cells + cc ≤ R.cells ∧ P.slots + ss ≤ R.slots) (fun P _ v B => ∃ L, Q v B.U.heap L ∧ B.locs = P.locs ++ L ∧ B.cells = P.cells + cc ∧ B.slots = P.slots + ss)) (hsz : Ls.size = nl) {argsL rest : List Value} {ps : List FieldType} {r : Option FieldType} (hpd : parseMethodDescriptor y.desc = some ⟨ps, r⟩) (hlen : argsL.length = ps.length) (hst : st = argsL.reverse ++ rest) (hW : (rest.map fun v => v.category).sum ≤ W)
    (hd : decode B pc = .ok (.invokestatic index, 3)) (hp : pc + 3 = pc') (hargs : argsL.toArray = as') (eT : T.heap = h) (hc : cells + cc ≤ R.cells) (hs : slots + ss ≤ R.slots)
    (k : ∀ (v : Option Value) (T' : State) (h' : Heap) (L : List Loc), Stand p l e R s m args below meth c T' (locs ++ L) (cells + cc) (slots + ss) → T'.heap = h' → Q v h' L → own_E p.tables e below G (T'.setTop (mkF m pc' Ls (v.toList ++ rest)))) : own_E p.tables e below G (T.setTop (mkF m pc Ls st)) := by
  subst hp
  obtain ⟨v, vm₁, ⟨T', L', k', n'⟩, -, X', ⟨L, hQ, q1, q2, q3⟩, stp⟩ := Jvm.LawKit.callS X hx hown (mvT hZ w1) (mvT hZ w2) (mvT hZ w3) (mvT hZ w4) hy hK (g := mkF m pc Ls st) rfl (by rw [hml]; exact hsz) (argsL := argsL) (rest := rest) (lenOf hpd hlen) hst (by show 2 * 0 + _ ≤ _; rw [Nat.mul_zero, Nat.zero_add]; exact hW) (hb hby hd) (fun _ _ => ⟨hargs, eT, hc, hs⟩)
  dsimp only at X' hQ q1 q2 q3 stp
  subst q1 q2 q3
  exact own_go stp (k v T' _ L X' rfl hQ)
theorem own_spec (X : Stand p l e R s m args below meth c T locs cells slots) (hx : p.tables.exec = Jvm.exec) (hby : c.code = B) {Z : State} {a0 : Array Value} {h : Heap} {own : String} {index nl : Nat} {as' : Array Value} {W cc ss : Nat} {Q : Option Value → Heap → List Loc → Prop} {y : MethodName} {bytes : ByteArray} {maxL : Nat} (hml : c.maxLocals = nl) (hZ : Z.Warmed39 s.vm) (hown : s.vm.findClass own = some m.cls) (hy1 : y.name = "<init>")
    (w1 : (Cond.methodLink own index y).before a0 Z = true) (w2 : (Cond.instanceMethod y).before a0 Z = true) (w4 : (Cond.code y bytes maxL none).before a0 Z = true) (hy : y.cls ≠ "java/lang/invoke/MethodHandle" ∧ y.cls ≠ "java/lang/invoke/VarHandle")
    (hK : Back l R p e below s args y 3 W (fun P a => a = as' ∧ P.U.heap = h ∧ P.cells + cc ≤ R.cells ∧ P.slots + ss ≤ R.slots) (fun P _ v B => ∃ L, Q v B.U.heap L ∧ B.locs = P.locs ++ L ∧ B.cells = P.cells + cc ∧ B.slots = P.slots + ss)) (hsz : Ls.size = nl) {a : Addr} {argsL rest : List Value} {ps : List FieldType} {r : Option FieldType} (hpd : parseMethodDescriptor y.desc = some ⟨ps, r⟩) (hlen : argsL.length = ps.length) (hst : st = argsL.reverse ++ .ref a :: rest) (hW : (rest.map fun v => v.category).sum ≤ W)
    (hd : decode B pc = .ok (.invokespecial index, 3)) (hp : pc + 3 = pc') (hargs : (.ref a :: argsL).toArray = as') (eT : T.heap = h) (hc : cells + cc ≤ R.cells) (hs : slots + ss ≤ R.slots)
    (k : ∀ (v : Option Value) (T' : State) (h' : Heap) (L : List Loc), Stand p l e R s m args below meth c T' (locs ++ L) (cells + cc) (slots + ss) → T'.heap = h' → Q v h' L → own_E p.tables e below G (T'.setTop (mkF m pc' Ls (v.toList ++ rest)))) : own_E p.tables e below G (T.setTop (mkF m pc Ls st)) := by
  subst hp
  obtain ⟨v, vm₁, ⟨T', L', k', n'⟩, -, X', ⟨L, hQ, q1, q2, q3⟩, stp⟩ := X.specialBack hx hy1 hown (mvT hZ w1) (mvT hZ w2) (mvT hZ w4) hy hK (g := mkF m pc Ls st) rfl (by rw [hml]; exact hsz) (Steps.refl _) (a := a) (argsL := argsL) (rest := rest) (lenOf hpd hlen) hst (by show 2 * 0 + _ ≤ _; rw [Nat.mul_zero, Nat.zero_add]; exact hW) (hb hby hd) (fun _ _ => ⟨hargs, eT, hc, hs⟩)
  dsimp only at X' hQ q1 q2 q3 stp
  subst q1 q2 q3
  exact own_tr stp (k v T' _ L X' rfl hQ)
theorem own_virt (X : Stand p l e R s m args below meth c T locs cells slots) (hx : p.tables.exec = Jvm.exec) (hby : c.code = B) {Z : State} {a0 : Array Value} {h : Heap} {own : String} {index nl : Nat} {as' : Array Value} {W cc ss : Nat} {Q : Option Value → Heap → List Loc → Prop} {C : String} {y z : MethodName} (hml : c.maxLocals = nl) (hZ : Z.Warmed39 s.vm) (hown : s.vm.findClass own = some m.cls)
    (w1 : (Cond.methodLink own index y).before a0 Z = true) (w2 : (Cond.declares y).before a0 Z = true) (hnf : NotFace s y) (w3 : (Cond.selects C y z).before a0 Z = true) (w4 : (Cond.instanceMethod z).before a0 Z = true) (hy : y.cls ≠ "java/lang/invoke/MethodHandle" ∧ y.cls ≠ "java/lang/invoke/VarHandle")
    (hK : Back l R p e below s args z 3 W (fun P a => a = as' ∧ P.U.heap = h ∧ P.cells + cc ≤ R.cells ∧ P.slots + ss ≤ R.slots) (fun P _ v B => ∃ L, Q v B.U.heap L ∧ B.locs = P.locs ++ L ∧ B.cells = P.cells + cc ∧ B.slots = P.slots + ss)) (hsz : Ls.size = nl) {a : Addr} (hE : Exa Z h a C) {argsL rest : List Value} {ps : List FieldType} {r : Option FieldType} (hpd : parseMethodDescriptor y.desc = some ⟨ps, r⟩) (hlen : argsL.length = ps.length) (hst : st = argsL.reverse ++ .ref a :: rest) (hW : (rest.map fun v => v.category).sum ≤ W)
    (hd : decode B pc = .ok (.invokevirtual index, 3)) (hp : pc + 3 = pc') (hargs : (.ref a :: argsL).toArray = as') (eT : T.heap = h) (hc : cells + cc ≤ R.cells) (hs : slots + ss ≤ R.slots)
    (k : ∀ (v : Option Value) (T' : State) (h' : Heap) (L : List Loc), Stand p l e R s m args below meth c T' (locs ++ L) (cells + cc) (slots + ss) → T'.heap = h' → Q v h' L → own_E p.tables e below G (T'.setTop (mkF m pc' Ls (v.toList ++ rest)))) : own_E p.tables e below G (T.setTop (mkF m pc Ls st)) := by
  subst hp
  obtain ⟨cq, kq, qa, qb, qc⟩ := isOf hZ eT hE
  obtain ⟨v, vm₁, ⟨T', L', k', n'⟩, -, X', ⟨L, hQ, q1, q2, q3⟩, stp⟩ := X.virtualBack hx hown (mvT hZ w1) (mvT hZ w2) hnf (mvT hZ w3) (mvT hZ w4) hy hK qa qc (g := mkF m pc Ls st) rfl (by rw [hml]; exact hsz) (Steps.refl _) (argsL := argsL) (rest := rest) (lenOf hpd hlen) hst (by show 2 * 0 + _ ≤ _; rw [Nat.mul_zero, Nat.zero_add]; exact hW) (hb hby hd) (fun _ _ => ⟨hargs, eT, hc, hs⟩)
  dsimp only at X' hQ q1 q2 q3 stp
  subst q1 q2 q3
  exact own_tr stp (k v T' _ L X' rfl hQ)
theorem own_priv (X : Stand p l e R s m args below meth c T locs cells slots) (hx : p.tables.exec = Jvm.exec) (hby : c.code = B) {Z : State} {a0 : Array Value} {h : Heap} {own : String} {index nl : Nat} {as' : Array Value} {W cc ss : Nat} {Q : Option Value → Heap → List Loc → Prop} {y : MethodName} {bytes : ByteArray} {maxL : Nat} {ret : Option FieldType} (hml : c.maxLocals = nl) (hZ : Z.Warmed39 s.vm) (hown : s.vm.findClass own = some m.cls)
    (w1 : (Cond.methodLink own index y).before a0 Z = true) (w2 : (Cond.instanceMethod y).before a0 Z = true) (w3 : (Cond.selects y.cls y y).before a0 Z = true) (w5 : (Cond.privateMethod y).before a0 Z = true) (w4 : (Cond.code y bytes maxL ret).before a0 Z = true) (hy : y.cls ≠ "java/lang/invoke/MethodHandle" ∧ y.cls ≠ "java/lang/invoke/VarHandle")
    (hK : Back l R p e below s args y 3 W (fun P a => a = as' ∧ P.U.heap = h ∧ P.cells + cc ≤ R.cells ∧ P.slots + ss ≤ R.slots) (fun P _ v B => ∃ L, Q v B.U.heap L ∧ B.locs = P.locs ++ L ∧ B.cells = P.cells + cc ∧ B.slots = P.slots + ss)) (hsz : Ls.size = nl) {a : Addr} {C : String} (hE : Exa Z h a C) {argsL rest : List Value} {ps : List FieldType} {r : Option FieldType} (hpd : parseMethodDescriptor y.desc = some ⟨ps, r⟩) (hlen : argsL.length = ps.length) (hst : st = argsL.reverse ++ .ref a :: rest) (hW : (rest.map fun v => v.category).sum ≤ W)
    (hd : decode B pc = .ok (.invokevirtual index, 3)) (hp : pc + 3 = pc') (hargs : (.ref a :: argsL).toArray = as') (eT : T.heap = h) (hc : cells + cc ≤ R.cells) (hs : slots + ss ≤ R.slots)
    (k : ∀ (v : Option Value) (T' : State) (h' : Heap) (L : List Loc), Stand p l e R s m args below meth c T' (locs ++ L) (cells + cc) (slots + ss) → T'.heap = h' → Q v h' L → own_E p.tables e below G (T'.setTop (mkF m pc' Ls (v.toList ++ rest)))) : own_E p.tables e below G (T.setTop (mkF m pc Ls st)) := by
  subst hp
  obtain ⟨cq, qa, qb⟩ := hE.cell
  obtain ⟨v, vm₁, ⟨T', L', k', n'⟩, -, X', ⟨L, hQ, q1, q2, q3⟩, stp⟩ := X.privateBack hx hown (mvT hZ w1) (mvT hZ w2) (mvT hZ w3) (Cond.privateMethod_at (mvP hZ w5 (args := #[]))) (mvT hZ w4) hy hK (g := mkF m pc Ls st) rfl (by rw [hml]; exact hsz) (Steps.refl _) (a := a) (by rw [eT]; exact qa) qb (argsL := argsL) (rest := rest) (lenOf hpd hlen) hst (by show 2 * 0 + _ ≤ _; rw [Nat.mul_zero, Nat.zero_add]; exact hW) (hb hby hd) (fun _ _ => ⟨hargs, eT, hc, hs⟩)
  dsimp only at X' hQ q1 q2 q3 stp
  subst q1 q2 q3
  exact own_tr stp (k v T' _ L X' rfl hQ)
theorem own_intf (X : Stand p l e R s m args below meth c T locs cells slots) (hx : p.tables.exec = Jvm.exec) (hby : c.code = B) {Z : State} {a0 : Array Value} {h : Heap} {own : String} {index nl : Nat} {as' : Array Value} {W cc ss : Nat} {Q : Option Value → Heap → List Loc → Prop} {C : String} {y z : MethodName} {cnt : Nat} (hml : c.maxLocals = nl) (hZ : Z.Warmed39 s.vm) (hown : s.vm.findClass own = some m.cls)
    (w1 : (Cond.methodLink own index y).before args s = true) (w2 : (Cond.declares y).before args s = true) (w5 : (Cond.interfaceMethod y.cls y.cls y.name y.desc).before args s = true) (w3 : (Cond.selects C y z).before args s = true) (w4 : (Cond.instanceMethod z).before args s = true) (w6 : (Cond.publicMethod z).before args s = true) (w7 : (Cond.unhidden C y.name y.desc).before args s = true) (w8 : (Cond.castable C y.cls).before args s = true) (hy : y.cls ≠ "java/lang/invoke/MethodHandle" ∧ y.cls ≠ "java/lang/invoke/VarHandle")
    (hK : Back l R p e below s args z 5 W (fun P a => a = as' ∧ P.U.heap = h ∧ P.cells + cc ≤ R.cells ∧ P.slots + ss ≤ R.slots) (fun P _ v B => ∃ L, Q v B.U.heap L ∧ B.locs = P.locs ++ L ∧ B.cells = P.cells + cc ∧ B.slots = P.slots + ss)) (hsz : Ls.size = nl) {a : Addr} (hE : Exa Z h a C) {argsL rest : List Value} {ps : List FieldType} {r : Option FieldType} (hpd : parseMethodDescriptor y.desc = some ⟨ps, r⟩) (hlen : argsL.length = ps.length) (hst : st = argsL.reverse ++ .ref a :: rest) (hW : (rest.map fun v => v.category).sum ≤ W)
    (hd : decode B pc = .ok (.invokeinterface index cnt, 5)) (hp : pc + 5 = pc') (hargs : (.ref a :: argsL).toArray = as') (eT : T.heap = h) (hc : cells + cc ≤ R.cells) (hs : slots + ss ≤ R.slots)
    (k : ∀ (v : Option Value) (T' : State) (h' : Heap) (L : List Loc), Stand p l e R s m args below meth c T' (locs ++ L) (cells + cc) (slots + ss) → T'.heap = h' → Q v h' L → own_E p.tables e below G (T'.setTop (mkF m pc' Ls (v.toList ++ rest)))) : own_E p.tables e below G (T.setTop (mkF m pc Ls st)) := by
  subst hp
  obtain ⟨cq, kq, qa, qb, qc⟩ := isOf hZ eT hE
  obtain ⟨v, vm₁, ⟨T', L', k', n'⟩, -, X', ⟨L, hQ, q1, q2, q3⟩, stp⟩ := X.interfaceBack hx hown w1 w2 w5 w3 w4 w6 w7 w8 hy hK qa qb qc (g := mkF m pc Ls st) rfl (by rw [hml]; exact hsz) (Steps.refl _) (argsL := argsL) (rest := rest) (lenOf hpd hlen) hst (by show 2 * 0 + _ ≤ _; rw [Nat.mul_zero, Nat.zero_add]; exact hW) (hb hby hd) (fun _ _ => ⟨hargs, eT, hc, hs⟩)
  dsimp only at X' hQ q1 q2 q3 stp
  subst q1 q2 q3
  exact own_tr stp (k v T' _ L X' rfl hQ)
end OwnSteps

section OwnHeap
variable {p : Program} {l : Launch} {e : Env} {R : Room} {s : State} {m : MethodId} {args : Array Value} {below : List Frame} {meth : Method} {c : Code} {T : State} {locs : List Loc} {cells slots : Nat} {G : State → Outcome → Prop} {B : ByteArray} {pc pc' : Nat} {Ls Ls' : Array Slot} {st : List Value} {Z : State} {a0 : Array Value} {h h' h'' : Heap}
theorem own_xr : Ext h h := ⟨Nat.le_refl _, fun _ _ q => q⟩
theorem own_xt (E : Ext h h') (E' : Ext h' h'') : Ext h h'' := ⟨Nat.le_trans E.1 E'.1, fun a c q => E'.2 a c (E.2 a c q)⟩
theorem own_xk {ws : List Addr} (E : Ext h h') (K : Keep h' h'' ws) (q : ∀ x ∈ ws, h.size ≤ x) : Ext h h'' := ⟨Nat.le_trans E.1 K.1, fun a c r => K.2.1 a c (E.2 a c r) fun z => absurd (Array.getElem?_eq_some_iff.mp r).1 (Nat.not_lt.mpr (q a z))⟩
theorem own_xw {a : Addr} {sl : Nat} {v : Value} (E : Ext h h') (W : Wr h' h'' a sl v) (q : h.size ≤ a) : Ext h h'' := own_xk E (Keep.of_wr W) (allS q all0)
theorem own_kx {ws : List Addr} (E : Ext h h') : Keep h h' ws := (Keep.refl h ws).ext E
theorem own_fr1 {k : Nat} {L : List Loc} (N : Fr k L) {a : Addr} {sl : Nat} (q : k ≤ a) : Fr k (L ++ [⟨a, sl⟩]) := N.app fun y hy => by cases List.mem_singleton.mp hy; exact q
/-- a body's contract: called with these arguments over the heap h0 it returns as Q says -/
def own_Met (l : Launch) (Z : State) (x : MethodName) (bytes : ByteArray) (maxL : Nat) (ret : Option FieldType) (rm : Room) (as' : Array Value) (h0 : Heap) (Q : Option Value → Heap → List Loc → Prop) : Prop :=
  ∀ ws : List Jvm.Cond, MetFree l x (head1 (Jvm.Cond.code x bytes maxL ret :: ws) rm) (fun a U => a = as' ∧ Z.Warmed39 U.vm ∧ U.heap = h0) (fun _ _ _ _ _ => True) (fun _ U o U' => ∃ v L, o = .returned v ∧ Q v U'.heap L ∧ FrameEnd U o U' L rm.cells rm.slots)
theorem own_body {x : MethodName} {bytes : ByteArray} {maxL : Nat} {ret : Option FieldType} {rm : Room} {as' : Array Value} {h0 : Heap} {Q : Option Value → Heap → List Loc → Prop} (hpl : plainFor x = true)
    (body : ∀ (p : Program) (e : Env) (s : State) (m : MethodId) (below : List Frame) (meth : Method) (c : Code) (s₁ : State), p.tables.exec = Jvm.exec → c.code = bytes → c.maxLocals = maxL → s.vm.findClass x.cls = some m.cls → meth.name = x.name → meth.locks = false → meth.sig.returnType = ret → Z.Warmed39 s.vm → Stand p l e rm s m as' below meth c s₁ [] 0 0 → s₁.heap = h0 →
      own_E p.tables e below (own_End s below Q rm.cells rm.slots) (s₁.setTop (entryFrame m as' maxL))) : own_Met l Z x bytes maxL ret rm as' h0 Q := by
  intro ws
  refine MetFree.of_bodySF hpl hisR ?_
  intro p e s m args below meth c s₁ Bd hml0 hP hK
  obtain ⟨rfl, hZ, hh⟩ := hP
  obtain ⟨s₂, o, q1, q2, q3, q4⟩ := body p e s m below meth c s₁ Bd.exec Bd.bytes hml0 (findClass_of_methodNamed Bd.named) (name_of_methodNamed Bd.named Bd.method).1 (BodyLoose.notSynchronized Bd) Bd.returns hZ (Stand.of_body Bd) (by rw [← hh, Bd.state]; rfl)
  exact ⟨s₂, o, q1, q2, q3, q4⟩
theorem own_back {y : MethodName} {bytes : ByteArray} {maxL : Nat} {ret : Option FieldType} {rm : Room} {len W : Nat} {as' : Array Value} {Q : Option Value → Heap → List Loc → Prop} (hM : own_Met l Z y bytes maxL ret rm as' h Q)
    (hZ : Z.Warmed39 s.vm) (wc : (Jvm.Cond.code y bytes maxL ret).before a0 Z = true) (wz : (Jvm.Cond.initialized y.cls).before a0 Z = true) (hf : rm.frames + 1 ≤ R.frames) (hl : W + (maxL + 11) + rm.locals ≤ R.locals) :
    Back l R p e below s args y len W (fun A a => a = as' ∧ A.U.heap = h ∧ A.cells + rm.cells ≤ R.cells ∧ A.slots + rm.slots ≤ R.slots)
      (fun A _ v B => ∃ L, Q v B.U.heap L ∧ B.locs = A.locs ++ L ∧ B.cells = A.cells + rm.cells ∧ B.slots = A.slots + rm.slots) := backOf (hM []) hZ wc wz hf hl
theorem own_enter {m : MethodId} {A : Array Value} {ml : Nat} {Ls : Array Slot} (ef : entryFrame m A ml = mkF m 0 Ls []) (k : own_E p.tables e below G (T.setTop (mkF m 0 Ls []))) : own_E p.tables e below G (T.setTop (entryFrame m A ml)) := own_go (fun _ q => castTop ef q) k
theorem own_callM (X : Stand p l e R s m args below meth c T locs cells slots) (hx : p.tables.exec = Jvm.exec) (hby : c.code = B) {own : String} {index nl : Nat} {as' : Array Value} {cc ss maxL : Nat} {bytes : ByteArray} {ret : Option FieldType} {rm : Room} {Q : Option Value → Heap → List Loc → Prop} {y : MethodName} (hml : c.maxLocals = nl) (hZ : Z.Warmed39 s.vm) (hown : s.vm.findClass own = some m.cls) (w1 : (Jvm.Cond.methodLink own index y).before a0 Z = true) (w2 : (Jvm.Cond.static y).before a0 Z = true) (w3 : (Jvm.Cond.initialized y.cls).before a0 Z = true) (w4 : (Jvm.Cond.code y bytes maxL ret).before a0 Z = true) (hy : y.cls ≠ "java/lang/invoke/MethodHandle" ∧ y.cls ≠ "java/lang/invoke/VarHandle")
    (hM : own_Met l Z y bytes maxL ret rm as' h Q) (W : Nat) (hcc : rm.cells = cc) (hss : rm.slots = ss) (hf : rm.frames + 1 ≤ R.frames) (hl : W + (maxL + 11) + rm.locals ≤ R.locals) (hsz : Ls.size = nl) {argsL rest : List Value} {ps : List FieldType} {r : Option FieldType} (hpd : parseMethodDescriptor y.desc = some ⟨ps, r⟩) (hlen : argsL.length = ps.length) (hst : st = argsL.reverse ++ rest) (hW : (rest.map fun v => v.category).sum ≤ W) (hd : decode B pc = .ok (.invokestatic index, 3)) (hp : pc + 3 = pc') (hargs : argsL.toArray = as') (eT : T.heap = h) (hc : cells + cc ≤ R.cells) (hs : slots + ss ≤ R.slots)
    (k : ∀ (v : Option Value) (T' : State) (h' : Heap) (L : List Loc), Stand p l e R s m args below meth c T' (locs ++ L) (cells + cc) (slots + ss) → T'.heap = h' → Q v h' L → own_E p.tables e below G (T'.setTop (mkF m pc' Ls (v.toList ++ rest)))) : own_E p.tables e below G (T.setTop (mkF m pc Ls st)) := by
  subst hcc hss
  exact own_callS X hx hby hml hZ hown w1 w2 w3 w4 hy (own_back hM hZ w4 w3 hf hl) hsz hpd hlen hst hW hd hp hargs eT hc hs k
theorem own_specM (X : Stand p l e R s m args below meth c T locs cells slots) (hx : p.tables.exec = Jvm.exec) (hby : c.code = B) {own : String} {index nl : Nat} {as' : Array Value} {cc ss maxL : Nat} {bytes : ByteArray} {rm : Room} {Q : Option Value → Heap → List Loc → Prop} {y : MethodName} (hml : c.maxLocals = nl) (hZ : Z.Warmed39 s.vm) (hown : s.vm.findClass own = some m.cls) (hy1 : y.name = "<init>") (w1 : (Jvm.Cond.methodLink own index y).before a0 Z = true) (w2 : (Jvm.Cond.instanceMethod y).before a0 Z = true) (w3 : (Jvm.Cond.initialized y.cls).before a0 Z = true) (w4 : (Jvm.Cond.code y bytes maxL none).before a0 Z = true) (hy : y.cls ≠ "java/lang/invoke/MethodHandle" ∧ y.cls ≠ "java/lang/invoke/VarHandle")
    (hM : own_Met l Z y bytes maxL none rm as' h Q) (W : Nat) (hcc : rm.cells = cc) (hss : rm.slots = ss) (hf : rm.frames + 1 ≤ R.frames) (hl : W + (maxL + 11) + rm.locals ≤ R.locals) (hsz : Ls.size = nl) {a : Addr} {argsL rest : List Value} {ps : List FieldType} {r : Option FieldType} (hpd : parseMethodDescriptor y.desc = some ⟨ps, r⟩) (hlen : argsL.length = ps.length) (hst : st = argsL.reverse ++ .ref a :: rest) (hW : (rest.map fun v => v.category).sum ≤ W) (hd : decode B pc = .ok (.invokespecial index, 3)) (hp : pc + 3 = pc') (hargs : (.ref a :: argsL).toArray = as') (eT : T.heap = h) (hc : cells + cc ≤ R.cells) (hs : slots + ss ≤ R.slots)
    (k : ∀ (v : Option Value) (T' : State) (h' : Heap) (L : List Loc), Stand p l e R s m args below meth c T' (locs ++ L) (cells + cc) (slots + ss) → T'.heap = h' → Q v h' L → own_E p.tables e below G (T'.setTop (mkF m pc' Ls (v.toList ++ rest)))) : own_E p.tables e below G (T.setTop (mkF m pc Ls st)) := by
  subst hcc hss
  exact own_spec X hx hby hml hZ hown hy1 w1 w2 w4 hy (own_back hM hZ w4 w3 hf hl) hsz hpd hlen hst hW hd hp hargs eT hc hs k
theorem own_virtM (X : Stand p l e R s m args below meth c T locs cells slots) (hx : p.tables.exec = Jvm.exec) (hby : c.code = B) {own : String} {index nl : Nat} {as' : Array Value} {cc ss maxL : Nat} {bytes : ByteArray} {ret : Option FieldType} {rm : Room} {Q : Option Value → Heap → List Loc → Prop} {C : String} {y z : MethodName} (hml : c.maxLocals = nl) (hZ : Z.Warmed39 s.vm) (hown : s.vm.findClass own = some m.cls) (w1 : (Jvm.Cond.methodLink own index y).before a0 Z = true) (w2 : (Jvm.Cond.declares y).before a0 Z = true) (hnf : NotFace s y) (w5 : (Jvm.Cond.selects C y z).before a0 Z = true) (w6 : (Jvm.Cond.instanceMethod z).before a0 Z = true) (w3 : (Jvm.Cond.initialized z.cls).before a0 Z = true) (w4 : (Jvm.Cond.code z bytes maxL ret).before a0 Z = true) (hy : y.cls ≠ "java/lang/invoke/MethodHandle" ∧ y.cls ≠ "java/lang/invoke/VarHandle")
    (hM : own_Met l Z z bytes maxL ret rm as' h Q) (W : Nat) (hcc : rm.cells = cc) (hss : rm.slots = ss) (hf : rm.frames + 1 ≤ R.frames) (hl : W + (maxL + 11) + rm.locals ≤ R.locals) (hsz : Ls.size = nl) {a : Addr} (hE : Exa Z h a C) {argsL rest : List Value} {ps : List FieldType} {r : Option FieldType} (hpd : parseMethodDescriptor y.desc = some ⟨ps, r⟩) (hlen : argsL.length = ps.length) (hst : st = argsL.reverse ++ .ref a :: rest) (hW : (rest.map fun v => v.category).sum ≤ W) (hd : decode B pc = .ok (.invokevirtual index, 3)) (hp : pc + 3 = pc') (hargs : (.ref a :: argsL).toArray = as') (eT : T.heap = h) (hc : cells + cc ≤ R.cells) (hs : slots + ss ≤ R.slots)
    (k : ∀ (v : Option Value) (T' : State) (h' : Heap) (L : List Loc), Stand p l e R s m args below meth c T' (locs ++ L) (cells + cc) (slots + ss) → T'.heap = h' → Q v h' L → own_E p.tables e below G (T'.setTop (mkF m pc' Ls (v.toList ++ rest)))) : own_E p.tables e below G (T.setTop (mkF m pc Ls st)) := by
  subst hcc hss
  exact own_virt X hx hby hml hZ hown w1 w2 hnf w5 w6 hy (own_back hM hZ w4 w3 hf hl) hsz hE hpd hlen hst hW hd hp hargs eT hc hs k
theorem own_privM (X : Stand p l e R s m args below meth c T locs cells slots) (hx : p.tables.exec = Jvm.exec) (hby : c.code = B) {own : String} {index nl : Nat} {as' : Array Value} {cc ss maxL : Nat} {bytes : ByteArray} {ret : Option FieldType} {rm : Room} {Q : Option Value → Heap → List Loc → Prop} {C : String} {y : MethodName} (hml : c.maxLocals = nl) (hZ : Z.Warmed39 s.vm) (hown : s.vm.findClass own = some m.cls) (w1 : (Jvm.Cond.methodLink own index y).before a0 Z = true) (w6 : (Jvm.Cond.instanceMethod y).before a0 Z = true) (w5 : (Jvm.Cond.selects y.cls y y).before a0 Z = true) (w7 : (Jvm.Cond.privateMethod y).before a0 Z = true) (w3 : (Jvm.Cond.initialized y.cls).before a0 Z = true) (w4 : (Jvm.Cond.code y bytes maxL ret).before a0 Z = true) (hy : y.cls ≠ "java/lang/invoke/MethodHandle" ∧ y.cls ≠ "java/lang/invoke/VarHandle")
    (hM : own_Met l Z y bytes maxL ret rm as' h Q) (W : Nat) (hcc : rm.cells = cc) (hss : rm.slots = ss) (hf : rm.frames + 1 ≤ R.frames) (hl : W + (maxL + 11) + rm.locals ≤ R.locals) (hsz : Ls.size = nl) {a : Addr} (hE : Exa Z h a C) {argsL rest : List Value} {ps : List FieldType} {r : Option FieldType} (hpd : parseMethodDescriptor y.desc = some ⟨ps, r⟩) (hlen : argsL.length = ps.length) (hst : st = argsL.reverse ++ .ref a :: rest) (hW : (rest.map fun v => v.category).sum ≤ W) (hd : decode B pc = .ok (.invokevirtual index, 3)) (hp : pc + 3 = pc') (hargs : (.ref a :: argsL).toArray = as') (eT : T.heap = h) (hc : cells + cc ≤ R.cells) (hs : slots + ss ≤ R.slots)
    (k : ∀ (v : Option Value) (T' : State) (h' : Heap) (L : List Loc), Stand p l e R s m args below meth c T' (locs ++ L) (cells + cc) (slots + ss) → T'.heap = h' → Q v h' L → own_E p.tables e below G (T'.setTop (mkF m pc' Ls (v.toList ++ rest)))) : own_E p.tables e below G (T.setTop (mkF m pc Ls st)) := by
  subst hcc hss
  exact own_priv X hx hby hml hZ hown w1 w6 w5 w7 w4 hy (own_back hM hZ w4 w3 hf hl) hsz hE hpd hlen hst hW hd hp hargs eT hc hs k
theorem own_intfM (X : Stand p l e R s m args below meth c T locs cells slots) (hx : p.tables.exec = Jvm.exec) (hby : c.code = B) {own : String} {index nl : Nat} {as' : Array Value} {cc ss maxL : Nat} {bytes : ByteArray} {ret : Option FieldType} {rm : Room} {Q : Option Value → Heap → List Loc → Prop} {C : String} {y z : MethodName} {cnt : Nat} (hml : c.maxLocals = nl) (hZ : Z.Warmed39 s.vm) (hown : s.vm.findClass own = some m.cls) (w1 : (Jvm.Cond.methodLink own index y).before args s = true) (w2 : (Jvm.Cond.declares y).before args s = true) (w5 : (Jvm.Cond.interfaceMethod y.cls y.cls y.name y.desc).before args s = true) (w6 : (Jvm.Cond.selects C y z).before args s = true) (w7 : (Jvm.Cond.instanceMethod z).before args s = true) (w8 : (Jvm.Cond.publicMethod z).before args s = true) (w9 : (Jvm.Cond.unhidden C y.name y.desc).before args s = true) (w10 : (Jvm.Cond.castable C y.cls).before args s = true) (w3 : (Jvm.Cond.initialized z.cls).before a0 Z = true) (w4 : (Jvm.Cond.code z bytes maxL ret).before a0 Z = true) (hy : y.cls ≠ "java/lang/invoke/MethodHandle" ∧ y.cls ≠ "java/lang/invoke/VarHandle")
    (hM : own_Met l Z z bytes maxL ret rm as' h Q) (W : Nat) (hcc : rm.cells = cc) (hss : rm.slots = ss) (hf : rm.frames + 1 ≤ R.frames) (hl : W + (maxL + 11) + rm.locals ≤ R.locals) (hsz : Ls.size = nl) {a : Addr} (hE : Exa Z h a C) {argsL rest : List Value} {ps : List FieldType} {r : Option FieldType} (hpd : parseMethodDescriptor y.desc = some ⟨ps, r⟩) (hlen : argsL.length = ps.length) (hst : st = argsL.reverse ++ .ref a :: rest) (hW : (rest.map fun v => v.category).sum ≤ W) (hd : decode B pc = .ok (.invokeinterface index cnt, 5)) (hp : pc + 5 = pc') (hargs : (.ref a :: argsL).toArray = as') (eT : T.heap = h) (hc : cells + cc ≤ R.cells) (hs : slots + ss ≤ R.slots)
    (k : ∀ (v : Option Value) (T' : State) (h' : Heap) (L : List Loc), Stand p l e R s m args below meth c T' (locs ++ L) (cells + cc) (slots + ss) → T'.heap = h' → Q v h' L → own_E p.tables e below G (T'.setTop (mkF m pc' Ls (v.toList ++ rest)))) : own_E p.tables e below G (T.setTop (mkF m pc Ls st)) := by
  subst hcc hss
  exact own_intf (a0 := a0) X hx hby hml hZ hown w1 w2 w5 w6 w7 w8 w9 w10 hy (own_back hM hZ w4 w3 hf hl) hsz hE hpd hlen hst hW hd hp hargs eT hc hs k
theorem own_newO (X : Stand p l e R s m args below meth c T locs cells slots) (hx : p.tables.exec = Jvm.exec) (hby : c.code = B) (hZ : Z.Warmed39 s.vm) {own C : String} {index n : Nat} (hown : s.vm.findClass own = some m.cls) (w : (Jvm.Cond.classLink own index C).before a0 Z = true) (wi : (Jvm.Cond.instantiable C n).before a0 Z = true) (wz : (Jvm.Cond.initialized C).before a0 Z = true) (eT : T.heap = h)
    (hd : decode B pc = .ok (.new index, 3)) (hp : pc + 3 = pc') (hc : cells + 1 ≤ R.cells) (hl : slots + n ≤ R.slots)
    (k : ∀ (T' : State) (h' : Heap) (b : Addr), b = h.size → Stand p l e R s m args below meth c T' locs (cells + 1) (slots + n) → T'.heap = h' → Ext h h' → Exa Z h' b C → (∀ {O nm d : String} {ty : FieldType}, Laid Z a0 C O nm d → parseFieldDescriptor d = some ty → Fld Z h' b O nm d (defaultValue ty)) → own_E p.tables e below G (T'.setTop (mkF m pc' Ls (.ref b :: st)))) : own_E p.tables e below G (T.setTop (mkF m pc Ls (st))) := by
  subst hp
  obtain ⟨T', h', X', e', E', A', D', -, stp⟩ := newO X hx hZ hown w wi wz eT (g := mkF m pc Ls st) rfl (hb hby hd) hc hl
  exact own_go stp (k T' h' _ rfl X' e' E' A' D')
theorem own_newP (X : Stand p l e R s m args below meth c T locs cells slots) (hx : p.tables.exec = Jvm.exec) (hby : c.code = B) (hZ : Z.Warmed39 s.vm) {aty : ArrayType} (w : (Jvm.Cond.arrayClass (newarray.typeOf aty)).before a0 Z = true) (eT : T.heap = h) {n : Int32} {cap : Nat} (hd : decode B pc = .ok (.newarray aty, 2)) (hp : pc + 2 = pc') (hn : ¬ n < 0) (hcap : n.toNatClampNeg ≤ cap) (hbig : cap * 8 ≤ 536870912) (hc : cells + 1 ≤ R.cells) (hl : slots + cap ≤ R.slots)
    (k : ∀ (T' : State) (h' : Heap) (b : Addr) (kA : ClassId), b = h.size → Stand p l e R s m args below meth c T' locs (cells + 1) (slots + cap) → T'.heap = h' → Ext h h' → Arv Z h' b kA (newarray.typeOf aty) n [] (defaultValue (newarray.typeOf aty)) → own_E p.tables e below G (T'.setTop (mkF m pc' Ls (.ref b :: st)))) : own_E p.tables e below G (T.setTop (mkF m pc Ls (.int n :: st))) := by
  subst hp
  obtain ⟨T', h', kA, X', e', E', A', stp⟩ := newP X hx hZ w eT (g := mkF m pc Ls (.int n :: st)) rfl (hb hby hd) rfl hn hcap hbig hc hl
  exact own_go stp (k T' h' _ kA rfl X' e' E' (Arv.new A' hn))
theorem own_newR (X : Stand p l e R s m args below meth c T locs cells slots) (hx : p.tables.exec = Jvm.exec) (hby : c.code = B) (hZ : Z.Warmed39 s.vm) {own C : String} {index : Nat} (hown : s.vm.findClass own = some m.cls) (w1 : (Jvm.Cond.classLink own index C).before a0 Z = true) (w2 : (Jvm.Cond.arrayOver (.object C)).before a0 Z = true) (eT : T.heap = h) {n : Int32} {cap : Nat} (hd : decode B pc = .ok (.anewarray index, 3)) (hp : pc + 3 = pc') (hn : ¬ n < 0) (hcap : n.toNatClampNeg ≤ cap) (hbig : cap * 8 ≤ 536870912) (hc : cells + 1 ≤ R.cells) (hl : slots + cap ≤ R.slots)
    (k : ∀ (T' : State) (h' : Heap) (b : Addr) (kA : ClassId), b = h.size → Stand p l e R s m args below meth c T' locs (cells + 1) (slots + cap) → T'.heap = h' → Ext h h' → Arv Z h' b kA (.object C) n [] .null → Ovr Z kA C → own_E p.tables e below G (T'.setTop (mkF m pc' Ls (.ref b :: st)))) : own_E p.tables e below G (T.setTop (mkF m pc Ls (.int n :: st))) := by
  subst hp
  obtain ⟨T', h', kA, X', e', E', A', O', stp⟩ := newR X hx hZ hown w1 w2 eT (g := mkF m pc Ls (.int n :: st)) rfl (hb hby hd) rfl hn hcap hbig hc hl
  exact own_go stp (k T' h' _ kA rfl X' e' E' (Arv.new A' hn) O')
theorem own_getF (X : Stand p l e R s m args below meth c T locs cells slots) (hx : p.tables.exec = Jvm.exec) (hby : c.code = B) (hZ : Z.Warmed39 s.vm) {own R0 O n d host : String} {index : Nat} (hown : s.vm.findClass own = some m.cls) (w : (Jvm.Cond.fieldLink own index R0 n d).before a0 Z = true ∨ (Jvm.Cond.fieldLinkNest own index R0 n d host).before a0 Z = true) (via : Via Z R0 O n d) (eT : T.heap = h) {a : Addr} {v : Value} (F : Fld Z h a O n d v) (hd : decode B pc = .ok (.getfield index, 3)) (hp : pc + 3 = pc')
    (k : ∀ T' : State, Stand p l e R s m args below meth c T' locs cells slots → T'.heap = h → own_E p.tables e below G (T'.setTop (mkF m pc' Ls (v :: st)))) : own_E p.tables e below G (T.setTop (mkF m pc Ls (.ref a :: st))) := by
  subst hp
  obtain ⟨T', X', e', stp⟩ := getF X hx hZ hown w via eT F (g := mkF m pc Ls (.ref a :: st)) rfl rfl (hb hby hd)
  exact own_go stp (k T' X' e')
theorem own_getS (X : Stand p l e R s m args below meth c T locs cells slots) (hx : p.tables.exec = Jvm.exec) (hby : c.code = B) (hZ : Z.Warmed39 s.vm) {own R0 O n d host : String} {index : Nat} (hown : s.vm.findClass own = some m.cls) (w : (Jvm.Cond.fieldLink own index R0 n d).before a0 Z = true ∨ (Jvm.Cond.fieldLinkNest own index R0 n d host).before a0 Z = true) (via : Via Z R0 O n d) (eT : T.heap = h) {v : Value} (F : Sta Z h O n d v) (hd : decode B pc = .ok (.getstatic index, 3)) (hp : pc + 3 = pc')
    (k : ∀ T' : State, Stand p l e R s m args below meth c T' locs cells slots → T'.heap = h → own_E p.tables e below G (T'.setTop (mkF m pc' Ls (v :: st)))) : own_E p.tables e below G (T.setTop (mkF m pc Ls (st))) := by
  subst hp
  obtain ⟨T', X', e', stp⟩ := getS2 X hx hZ hown w via eT F (g := mkF m pc Ls st) rfl (hb hby hd)
  exact own_go stp (k T' X' e')
theorem own_putF (X : Stand p l e R s m args below meth c T locs cells slots) (hx : p.tables.exec = Jvm.exec) (hby : c.code = B) (hZ : Z.Warmed39 s.vm) {own R0 O n d host C : String} {index kk : Nat} {ty : FieldType} (hown : s.vm.findClass own = some m.cls) (w : (Jvm.Cond.fieldLink own index R0 n d).before a0 Z = true ∨ (Jvm.Cond.fieldLinkNest own index R0 n d host).before a0 Z = true) (via : Via Z R0 O n d) (eT : T.heap = h) {a : Addr} {v old : Value} (F : Fld Z h a O n d old) (A : Exa Z h a C)
    (L : (Jvm.Cond.lays C O n d).before a0 Z = true ∨ ((Jvm.Cond.laysFinal C O n d).before a0 Z = true ∧ own = O ∧ meth.name = "<init>")) (wi : (Jvm.Cond.instantiable C kk).before a0 Z = true) (hty : parseFieldDescriptor d = some ty) (hn : narrow ty v = v) (hf : fits ty v = true) (hd : decode B pc = .ok (.putfield index, 3)) (hp : pc + 3 = pc')
    (k : ∀ (T' : State) (h' : Heap), Stand p l e R s m args below meth c T' (locs ++ [⟨a, Jvm.RoadKit.slotOf Z O n d⟩]) cells slots → T'.heap = h' → Wr h h' a (Jvm.RoadKit.slotOf Z O n d) v → Fld Z h' a O n d v → Exa Z h' a C → own_E p.tables e below G (T'.setTop (mkF m pc' Ls (st)))) : own_E p.tables e below G (T.setTop (mkF m pc Ls (v :: .ref a :: st))) := by
  subst hp
  obtain ⟨T', h', X', e', W', stp⟩ := putF X hx hZ hown w via eT F A L wi hty hn hf (g := mkF m pc Ls (v :: .ref a :: st)) rfl rfl (hb hby hd)
  exact own_go stp (k T' h' X' e' W' (F.same W') (A.wr W'))
theorem own_putFN (X : Stand p l e R s m args below meth c T locs cells slots) (hx : p.tables.exec = Jvm.exec) (hby : c.code = B) (hZ : Z.Warmed39 s.vm) {own R0 O n d C : String} {index kk : Nat} {ty : FieldType} (hown : s.vm.findClass own = some m.cls) (w : (Jvm.Cond.fieldLink own index R0 n d).before a0 Z = true) (via : Via Z R0 O n d) (eT : T.heap = h) {a : Addr} {v v' old : Value} (F : Fld Z h a O n d old) (A : Exa Z h a C)
    (L : (Jvm.Cond.lays C O n d).before a0 Z = true ∨ ((Jvm.Cond.laysFinal C O n d).before a0 Z = true ∧ own = O ∧ meth.name = "<init>")) (wi : (Jvm.Cond.instantiable C kk).before a0 Z = true) (hty : parseFieldDescriptor d = some ty) (hn : narrow ty v = v') (hf : fits ty v' = true) (hd : decode B pc = .ok (.putfield index, 3)) (hp : pc + 3 = pc')
    (k : ∀ (T' : State) (h' : Heap), Stand p l e R s m args below meth c T' (locs ++ [⟨a, Jvm.RoadKit.slotOf Z O n d⟩]) cells slots → T'.heap = h' → Wr h h' a (Jvm.RoadKit.slotOf Z O n d) v' → Fld Z h' a O n d v' → Exa Z h' a C → own_E p.tables e below G (T'.setTop (mkF m pc' Ls (st)))) : own_E p.tables e below G (T.setTop (mkF m pc Ls (v :: .ref a :: st))) := by
  subst hp
  obtain ⟨T', h', X', e', W', stp⟩ := putFN X hx hZ hown w via eT F A L wi hty hn hf (g := mkF m pc Ls (v :: .ref a :: st)) rfl rfl (hb hby hd)
  exact own_go stp (k T' h' X' e' W' (F.same W') (A.wr W'))
theorem own_initO (X : Stand p l e R s m args below meth c T locs cells slots) (hx : p.tables.exec = Jvm.exec) (hby : c.code = B) (hZ : Z.Warmed39 s.vm) {own : String} {idx nl W : Nat} (hml : c.maxLocals = nl) (hown : s.vm.findClass own = some m.cls) (w1 : (Jvm.Cond.methodLink own idx Lib.objectInit).before a0 Z = true) (w2 : (Jvm.Cond.instanceMethod Lib.objectInit).before a0 Z = true) (w3 : (Jvm.Cond.code Lib.objectInit ⟨#[0xb1]⟩ 1 none).before a0 Z = true) (eT : T.heap = h) (hsz : Ls.size = nl) {a : Addr} (hd : decode B pc = .ok (.invokespecial idx, 3)) (hp : pc + 3 = pc') (hf : 1 ≤ R.frames) (hW : (st.map fun v => v.category).sum ≤ W) (hl : W + 12 ≤ R.locals)
    (k : ∀ T' : State, Stand p l e R s m args below meth c T' locs cells slots → T'.heap = h → own_E p.tables e below G (T'.setTop (mkF m pc' Ls (st)))) : own_E p.tables e below G (T.setTop (mkF m pc Ls (.ref a :: st))) := by
  subst hp
  obtain ⟨T', X', e', stp⟩ := initO X hx hZ hown w1 w2 w3 eT (g := mkF m pc Ls (.ref a :: st)) rfl (by rw [hml]; exact hsz) rfl (hb hby hd) hf (W := W) (by show 2 * 0 + _ ≤ _; rw [Nat.mul_zero, Nat.zero_add]; exact hW) hl
  exact own_go stp (k T' X' e')
theorem own_ialoadV (X : Stand p l e R s m args below meth c T locs cells slots) (hx : p.tables.exec = Jvm.exec) (hby : c.code = B) (hZ : Z.Warmed39 s.vm) (eT : T.heap = h) {a : Addr} {kA : ClassId} {z j : Int32} {vs : List Value} {dv v : Value} (A : Arv Z h a kA .int z vs dv) (hj : ¬ j < 0 ∧ j < z) (hv : vs.getD j.toNatClampNeg dv = v) (hd : decode B pc = .ok (.iaload, 1)) (hp : pc + 1 = pc')
    (k : own_E p.tables e below G (T.setTop (mkF m pc' Ls (v :: st)))) : own_E p.tables e below G (T.setTop (mkF m pc Ls (.int j :: .ref a :: st))) := by
  subst hp
  obtain ⟨cl, Ar, -, S, -, H, -⟩ := A
  exact own_go (fun t q => X.iaload hx (by rw [eT]; exact Ar.1) (State.isArrayOf_alike hZ.alike Ar.2.1) Ar.2.2 (inb_of S hj) (H.at (inb_of S hj) hv) (g := mkF m pc Ls (.int j :: .ref a :: st)) rfl rfl (hb hby hd) t q) k
theorem own_laloadV (X : Stand p l e R s m args below meth c T locs cells slots) (hx : p.tables.exec = Jvm.exec) (hby : c.code = B) (hZ : Z.Warmed39 s.vm) (eT : T.heap = h) {a : Addr} {kA : ClassId} {z j : Int32} {vs : List Value} {dv v : Value} (A : Arv Z h a kA .long z vs dv) (hj : ¬ j < 0 ∧ j < z) (hv : vs.getD j.toNatClampNeg dv = v) (hd : decode B pc = .ok (.laload, 1)) (hp : pc + 1 = pc')
    (k : own_E p.tables e below G (T.setTop (mkF m pc' Ls (v :: st)))) : own_E p.tables e below G (T.setTop (mkF m pc Ls (.int j :: .ref a :: st))) := by
  subst hp
  obtain ⟨cl, Ar, -, S, -, H, -⟩ := A
  exact own_go (fun t q => X.laload hx (by rw [eT]; exact Ar.1) (State.isArrayOf_alike hZ.alike Ar.2.1) Ar.2.2 (inb_of S hj) (H.at (inb_of S hj) hv) (g := mkF m pc Ls (.int j :: .ref a :: st)) rfl rfl (hb hby hd) t q) k
theorem own_caloadV (X : Stand p l e R s m args below meth c T locs cells slots) (hx : p.tables.exec = Jvm.exec) (hby : c.code = B) (hZ : Z.Warmed39 s.vm) (eT : T.heap = h) {a : Addr} {kA : ClassId} {z j : Int32} {vs : List Value} {dv v : Value} (A : Arv Z h a kA .char z vs dv) (hj : ¬ j < 0 ∧ j < z) (hv : vs.getD j.toNatClampNeg dv = v) (hd : decode B pc = .ok (.caload, 1)) (hp : pc + 1 = pc')
    (k : own_E p.tables e below G (T.setTop (mkF m pc' Ls (v :: st)))) : own_E p.tables e below G (T.setTop (mkF m pc Ls (.int j :: .ref a :: st))) := by
  subst hp
  obtain ⟨cl, Ar, -, S, -, H, -⟩ := A
  exact own_go (fun t q => X.caload hx (by rw [eT]; exact Ar.1) (State.isArrayOf_alike hZ.alike Ar.2.1) Ar.2.2 (inb_of S hj) (H.at (inb_of S hj) hv) (g := mkF m pc Ls (.int j :: .ref a :: st)) rfl rfl (hb hby hd) t q) k
theorem own_baloadV (X : Stand p l e R s m args below meth c T locs cells slots) (hx : p.tables.exec = Jvm.exec) (hby : c.code = B) (hZ : Z.Warmed39 s.vm) (eT : T.heap = h) {a : Addr} {kA : ClassId} {z j : Int32} {vs : List Value} {dv v : Value} (A : Arv Z h a kA .byte z vs dv) (hj : ¬ j < 0 ∧ j < z) (hv : vs.getD j.toNatClampNeg dv = v) (hd : decode B pc = .ok (.baload, 1)) (hp : pc + 1 = pc')
    (k : own_E p.tables e below G (T.setTop (mkF m pc' Ls (v :: st)))) : own_E p.tables e below G (T.setTop (mkF m pc Ls (.int j :: .ref a :: st))) := by
  subst hp
  obtain ⟨cl, Ar, -, S, -, H, -⟩ := A
  exact own_go (fun t q => X.baloadBytes hx (by rw [eT]; exact Ar.1) (State.isArrayOf_alike hZ.alike Ar.2.1) Ar.2.2 (inb_of S hj) (H.at (inb_of S hj) hv) (g := mkF m pc Ls (.int j :: .ref a :: st)) rfl rfl (hb hby hd) t q) k
theorem own_daloadV (X : Stand p l e R s m args below meth c T locs cells slots) (hx : p.tables.exec = Jvm.exec) (hby : c.code = B) (hZ : Z.Warmed39 s.vm) (eT : T.heap = h) {a : Addr} {kA : ClassId} {z j : Int32} {vs : List Value} {dv v : Value} (A : Arv Z h a kA .double z vs dv) (hj : ¬ j < 0 ∧ j < z) (hv : vs.getD j.toNatClampNeg dv = v) (hd : decode B pc = .ok (.daload, 1)) (hp : pc + 1 = pc')
    (k : own_E p.tables e below G (T.setTop (mkF m pc' Ls (v :: st)))) : own_E p.tables e below G (T.setTop (mkF m pc Ls (.int j :: .ref a :: st))) := by
  subst hp
  obtain ⟨cl, Ar, -, S, -, H, -⟩ := A
  exact own_go (fun t q => X.daload hx (by rw [eT]; exact Ar.1) (State.isArrayOf_alike hZ.alike Ar.2.1) Ar.2.2 (inb_of S hj) (H.at (inb_of S hj) hv) (g := mkF m pc Ls (.int j :: .ref a :: st)) rfl rfl (hb hby hd) t q) k
theorem own_aaloadV (X : Stand p l e R s m args below meth c T locs cells slots) (hx : p.tables.exec = Jvm.exec) (hby : c.code = B) (hZ : Z.Warmed39 s.vm) (eT : T.heap = h) {a : Addr} {kA : ClassId} {ty : FieldType} {z j : Int32} {vs : List Value} {dv v : Value} (A : Arv Z h a kA ty z vs dv) (hty : ty.isReference = true) (hj : ¬ j < 0 ∧ j < z) (hv : vs.getD j.toNatClampNeg dv = v) (hd : decode B pc = .ok (.aaload, 1)) (hp : pc + 1 = pc')
    (k : own_E p.tables e below G (T.setTop (mkF m pc' Ls (v :: st)))) : own_E p.tables e below G (T.setTop (mkF m pc Ls (.int j :: .ref a :: st))) := by
  subst hp
  obtain ⟨cl, Ar, -, S, -, H, -⟩ := A
  exact own_go (fun t q => X.aaload hx (by rw [eT]; exact Ar.1) (State.isArrayOf_alike hZ.alike Ar.2.1) hty Ar.2.2 (inb_of S hj) (H.at (inb_of S hj) hv) (g := mkF m pc Ls (.int j :: .ref a :: st)) rfl rfl (hb hby hd) t q) k
theorem own_alenV (X : Stand p l e R s m args below meth c T locs cells slots) (hx : p.tables.exec = Jvm.exec) (hby : c.code = B) (hZ : Z.Warmed39 s.vm) (eT : T.heap = h) {a : Addr} {kA : ClassId} {ty : FieldType} {z : Int32} {vs : List Value} {dv : Value} (A : Arv Z h a kA ty z vs dv) (hd : decode B pc = .ok (.arraylength, 1)) (hp : pc + 1 = pc')
    (k : own_E p.tables e below G (T.setTop (mkF m pc' Ls (.int z :: st)))) : own_E p.tables e below G (T.setTop (mkF m pc Ls (.ref a :: st))) := by
  subst hp
  obtain ⟨cl, Ar, -, S, N, -, -⟩ := A
  refine own_go (fun t q => X.arraylength hx (by rw [eT]; exact Ar.1) (State.isArrayOf_alike hZ.alike Ar.2.1) (g := mkF m pc Ls (.ref a :: st)) rfl rfl (hb hby hd) t ?_) k
  rw [len_of S N]; exact q
theorem own_stI (X : Stand p l e R s m args below meth c T locs cells slots) (hx : p.tables.exec = Jvm.exec) (hby : c.code = B) (hZ : Z.Warmed39 s.vm) (eT : T.heap = h) {a : Addr} {kA : ClassId} {z j : Int32} {vs : List Value} {dv : Value} {x : Int32} (A : Arv Z h a kA .int z vs dv) (hj : ¬ j < 0 ∧ j < z) (i : Nat) (hi : j.toNatClampNeg = i) (hlen : i < vs.length) (hd : decode B pc = .ok (.iastore, 1)) (hp : pc + 1 = pc')
    (k : ∀ (T' : State) (h' : Heap), Stand p l e R s m args below meth c T' (locs ++ [⟨a, j.toNatClampNeg⟩]) cells slots → T'.heap = h' → Wr h h' a j.toNatClampNeg (.int x) → Arv Z h' a kA .int z (vs.set i (.int x)) dv → own_E p.tables e below G (T'.setTop (mkF m pc' Ls (st)))) : own_E p.tables e below G (T.setTop (mkF m pc Ls (.int x :: .int j :: .ref a :: st))) := by
  subst hp
  obtain ⟨cl, Ar, q, S, N, H, F⟩ := A
  obtain ⟨T', h', X', e', W', stp⟩ := stI X hx hZ eT Ar (j := j) (inb_of S hj) (g := mkF m pc Ls (.int x :: .int j :: .ref a :: st)) rfl rfl (hb hby hd)
  exact own_go stp (k T' h' X' e' W' (Arv.set Ar q S N H F rfl W' i hi hlen))
theorem own_stJ (X : Stand p l e R s m args below meth c T locs cells slots) (hx : p.tables.exec = Jvm.exec) (hby : c.code = B) (hZ : Z.Warmed39 s.vm) (eT : T.heap = h) {a : Addr} {kA : ClassId} {z j : Int32} {vs : List Value} {dv : Value} {x : Int64} (A : Arv Z h a kA .long z vs dv) (hj : ¬ j < 0 ∧ j < z) (i : Nat) (hi : j.toNatClampNeg = i) (hlen : i < vs.length) (hd : decode B pc = .ok (.lastore, 1)) (hp : pc + 1 = pc')
    (k : ∀ (T' : State) (h' : Heap), Stand p l e R s m args below meth c T' (locs ++ [⟨a, j.toNatClampNeg⟩]) cells slots → T'.heap = h' → Wr h h' a j.toNatClampNeg (.long x) → Arv Z h' a kA .long z (vs.set i (.long x)) dv → own_E p.tables e below G (T'.setTop (mkF m pc' Ls (st)))) : own_E p.tables e below G (T.setTop (mkF m pc Ls (.long x :: .int j :: .ref a :: st))) := by
  subst hp
  obtain ⟨cl, Ar, q, S, N, H, F⟩ := A
  obtain ⟨T', h', X', e', W', stp⟩ := stJ X hx hZ eT Ar (j := j) (inb_of S hj) (g := mkF m pc Ls (.long x :: .int j :: .ref a :: st)) rfl rfl (hb hby hd)
  exact own_go stp (k T' h' X' e' W' (Arv.set Ar q S N H F rfl W' i hi hlen))
theorem own_stC (X : Stand p l e R s m args below meth c T locs cells slots) (hx : p.tables.exec = Jvm.exec) (hby : c.code = B) (hZ : Z.Warmed39 s.vm) (eT : T.heap = h) {a : Addr} {kA : ClassId} {z j : Int32} {vs : List Value} {dv : Value} {x : Int32} (A : Arv Z h a kA .char z vs dv) (hj : ¬ j < 0 ∧ j < z) (i : Nat) (hi : j.toNatClampNeg = i) (hlen : i < vs.length) (hd : decode B pc = .ok (.castore, 1)) (hp : pc + 1 = pc')
    (k : ∀ (T' : State) (h' : Heap), Stand p l e R s m args below meth c T' (locs ++ [⟨a, j.toNatClampNeg⟩]) cells slots → T'.heap = h' → Wr h h' a j.toNatClampNeg (.int (nar .char x)) → Arv Z h' a kA .char z (vs.set i (.int (nar .char x))) dv → own_E p.tables e below G (T'.setTop (mkF m pc' Ls (st)))) : own_E p.tables e below G (T.setTop (mkF m pc Ls (.int x :: .int j :: .ref a :: st))) := by
  subst hp
  obtain ⟨cl, Ar, q, S, N, H, F⟩ := A
  obtain ⟨T', h', X', e', W', stp⟩ := stC X hx hZ eT Ar (j := j) (inb_of S hj) (g := mkF m pc Ls (.int x :: .int j :: .ref a :: st)) rfl rfl (hb hby hd)
  exact own_go stp (k T' h' X' e' W' (Arv.set Ar q S N H F (fits_nar_char _) W' i hi hlen))
theorem own_stB (X : Stand p l e R s m args below meth c T locs cells slots) (hx : p.tables.exec = Jvm.exec) (hby : c.code = B) (hZ : Z.Warmed39 s.vm) (eT : T.heap = h) {a : Addr} {kA : ClassId} {z j : Int32} {vs : List Value} {dv : Value} {x : Int32} (A : Arv Z h a kA .byte z vs dv) (hj : ¬ j < 0 ∧ j < z) (i : Nat) (hi : j.toNatClampNeg = i) (hlen : i < vs.length) (hd : decode B pc = .ok (.bastore, 1)) (hp : pc + 1 = pc')
    (k : ∀ (T' : State) (h' : Heap), Stand p l e R s m args below meth c T' (locs ++ [⟨a, j.toNatClampNeg⟩]) cells slots → T'.heap = h' → Wr h h' a j.toNatClampNeg (.int (nar .byte x)) → Arv Z h' a kA .byte z (vs.set i (.int (nar .byte x))) dv → own_E p.tables e below G (T'.setTop (mkF m pc' Ls (st)))) : own_E p.tables e below G (T.setTop (mkF m pc Ls (.int x :: .int j :: .ref a :: st))) := by
  subst hp
  obtain ⟨cl, Ar, q, S, N, H, F⟩ := A
  obtain ⟨T', h', X', e', W', stp⟩ := stB X hx hZ eT Ar (j := j) (inb_of S hj) (g := mkF m pc Ls (.int x :: .int j :: .ref a :: st)) rfl rfl (hb hby hd)
  exact own_go stp (k T' h' X' e' W' (Arv.set Ar q S N H F (fits_nar_byte _) W' i hi hlen))
theorem own_stZ (X : Stand p l e R s m args below meth c T locs cells slots) (hx : p.tables.exec = Jvm.exec) (hby : c.code = B) (hZ : Z.Warmed39 s.vm) (eT : T.heap = h) {a : Addr} {kA : ClassId} {z j : Int32} {vs : List Value} {dv : Value} {x : Int32} (A : Arv Z h a kA .boolean z vs dv) (hj : ¬ j < 0 ∧ j < z) (i : Nat) (hi : j.toNatClampNeg = i) (hlen : i < vs.length) (hd : decode B pc = .ok (.bastore, 1)) (hp : pc + 1 = pc')
    (k : ∀ (T' : State) (h' : Heap), Stand p l e R s m args below meth c T' (locs ++ [⟨a, j.toNatClampNeg⟩]) cells slots → T'.heap = h' → Wr h h' a j.toNatClampNeg (.int (nar .boolean x)) → Arv Z h' a kA .boolean z (vs.set i (.int (nar .boolean x))) dv → own_E p.tables e below G (T'.setTop (mkF m pc' Ls (st)))) : own_E p.tables e below G (T.setTop (mkF m pc Ls (.int x :: .int j :: .ref a :: st))) := by
  subst hp
  obtain ⟨cl, Ar, q, S, N, H, F⟩ := A
  obtain ⟨T', h', X', e', W', stp⟩ := stZ X hx hZ eT Ar (j := j) (inb_of S hj) (g := mkF m pc Ls (.int x :: .int j :: .ref a :: st)) rfl rfl (hb hby hd)
  exact own_go stp (k T' h' X' e' W' (Arv.set Ar q S N H F (fits_nar_bool _) W' i hi hlen))
theorem own_stD (X : Stand p l e R s m args below meth c T locs cells slots) (hx : p.tables.exec = Jvm.exec) (hby : c.code = B) (hZ : Z.Warmed39 s.vm) (eT : T.heap = h) {a : Addr} {kA : ClassId} {z j : Int32} {vs : List Value} {dv : Value} {x : UInt64} (A : Arv Z h a kA .double z vs dv) (hj : ¬ j < 0 ∧ j < z) (i : Nat) (hi : j.toNatClampNeg = i) (hlen : i < vs.length) (hd : decode B pc = .ok (.dastore, 1)) (hp : pc + 1 = pc')
    (k : ∀ (T' : State) (h' : Heap), Stand p l e R s m args below meth c T' (locs ++ [⟨a, j.toNatClampNeg⟩]) cells slots → T'.heap = h' → Wr h h' a j.toNatClampNeg (.double x) → Arv Z h' a kA .double z (vs.set i (.double x)) dv → own_E p.tables e below G (T'.setTop (mkF m pc' Ls (st)))) : own_E p.tables e below G (T.setTop (mkF m pc Ls (.double x :: .int j :: .ref a :: st))) := by
  subst hp
  obtain ⟨cl, Ar, q, S, N, H, F⟩ := A
  obtain ⟨T', h', X', e', W', stp⟩ := stD X hx hZ eT Ar (j := j) (inb_of S hj) (g := mkF m pc Ls (.double x :: .int j :: .ref a :: st)) rfl rfl (hb hby hd)
  exact own_go stp (k T' h' X' e' W' (Arv.set Ar q S N H F rfl W' i hi hlen))
theorem own_stR (X : Stand p l e R s m args below meth c T locs cells slots) (hx : p.tables.exec = Jvm.exec) (hby : c.code = B) (hZ : Z.Warmed39 s.vm) (eT : T.heap = h) {a : Addr} {kA : ClassId} {ty : FieldType} {z j : Int32} {vs : List Value} {dv v : Value} (A : Arv Z h a kA ty z vs dv) (hty : ty.isReference = true) (hv : v.isRef = true) (F : Sto Z h a v) (hj : ¬ j < 0 ∧ j < z) (i : Nat) (hi : j.toNatClampNeg = i) (hlen : i < vs.length) (hd : decode B pc = .ok (.aastore, 1)) (hp : pc + 1 = pc')
    (k : ∀ (T' : State) (h' : Heap), Stand p l e R s m args below meth c T' (locs ++ [⟨a, j.toNatClampNeg⟩]) cells slots → T'.heap = h' → Wr h h' a j.toNatClampNeg v → Arv Z h' a kA ty z (vs.set i v) dv → own_E p.tables e below G (T'.setTop (mkF m pc' Ls (st)))) : own_E p.tables e below G (T.setTop (mkF m pc Ls (v :: .int j :: .ref a :: st))) := by
  subst hp
  obtain ⟨cl, Ar, q, S, N, H, F'⟩ := A
  obtain ⟨T', h', X', e', W', stp⟩ := stR X hx hZ eT Ar (j := j) (inb_of S hj) hty F (g := mkF m pc Ls (v :: .int j :: .ref a :: st)) rfl rfl (hb hby hd)
  exact own_go stp (k T' h' X' e' W' (Arv.set Ar q S N H F' (by cases ty <;> first | (cases hty; done) | (rcases ref_cases hv with rfl | ⟨_, rfl⟩ <;> rfl)) W' i hi hlen))
theorem own_sto {a y : Addr} {kA : ClassId} {ty : FieldType} {z : Int32} {vs : List Value} {dv : Value} {C : String} (A : Arv Z h a kA ty z vs dv) (O : Ovr Z kA C) (I : Ins Z h y C true) : Sto Z h a (.ref y) := by
  obtain ⟨cl, Ar, q, -⟩ := A; exact Sto.ofV Ar q O I
theorem own_ldcI (X : Stand p l e R s m args below meth c T locs cells slots) (hx : p.tables.exec = Jvm.exec) (hby : c.code = B) (hZ : Z.Warmed39 s.vm) {own : String} {index : Nat} {v : Int32} (hown : s.vm.findClass own = some m.cls) (w : (Jvm.Cond.constant own index v).before a0 Z = true) (hd : decode B pc = .ok (.ldc index, 2)) (hp : pc + 2 = pc')
    (k : own_E p.tables e below G (T.setTop (mkF m pc' Ls (.int v :: st)))) : own_E p.tables e below G (T.setTop (mkF m pc Ls (st))) := by
  subst hp; exact own_go (fun t q => X.ldcInt hx hown (mvT hZ w) (g := mkF m pc Ls st) rfl (hb hby hd) t q) k
theorem own_ldcJ (X : Stand p l e R s m args below meth c T locs cells slots) (hx : p.tables.exec = Jvm.exec) (hby : c.code = B) (hZ : Z.Warmed39 s.vm) {own : String} {index : Nat} {v : Int64} (hown : s.vm.findClass own = some m.cls) (w : (Jvm.Cond.constantLong own index v).before a0 Z = true) (hd : decode B pc = .ok (.ldc2_w index, 3)) (hp : pc + 3 = pc')
    (k : own_E p.tables e below G (T.setTop (mkF m pc' Ls (.long v :: st)))) : own_E p.tables e below G (T.setTop (mkF m pc Ls (st))) := by
  subst hp; exact own_go (fun t q => X.ldc2Long hx hown (mvT hZ w) (g := mkF m pc Ls st) rfl (hb hby hd) t q) k
theorem own_ldcD (X : Stand p l e R s m args below meth c T locs cells slots) (hx : p.tables.exec = Jvm.exec) (hby : c.code = B) (hZ : Z.Warmed39 s.vm) {own : String} {index : Nat} {v : UInt64} (hown : s.vm.findClass own = some m.cls) (w : (Jvm.Cond.constantDouble own index v).before a0 Z = true) (hd : decode B pc = .ok (.ldc2_w index, 3)) (hp : pc + 3 = pc')
    (k : own_E p.tables e below G (T.setTop (mkF m pc' Ls (.double v :: st)))) : own_E p.tables e below G (T.setTop (mkF m pc Ls (st))) := by
  subst hp; exact own_go (fun t q => X.ldc2DoubleC hx hown (mvT hZ w) (g := mkF m pc Ls st) rfl (hb hby hd) t q) k
theorem own_cast (X : Stand p l e R s m args below meth c T locs cells slots) (hx : p.tables.exec = Jvm.exec) (hby : c.code = B) (hZ : Z.Warmed39 s.vm) {own K : String} {index : Nat} (hown : s.vm.findClass own = some m.cls) (w : (Jvm.Cond.classLink own index K).before a0 Z = true) (eT : T.heap = h) {a : Addr} (F : Ins Z h a K true) (hd : decode B pc = .ok (.checkcast index, 3)) (hp : pc + 3 = pc')
    (k : ∀ T' : State, Stand p l e R s m args below meth c T' locs cells slots → T'.heap = h → own_E p.tables e below G (T'.setTop (mkF m pc' Ls (.ref a :: st)))) : own_E p.tables e below G (T.setTop (mkF m pc Ls (.ref a :: st))) := by
  subst hp
  obtain ⟨T', X', e', stp⟩ := castY X hx hZ hown w eT F (g := mkF m pc Ls (.ref a :: st)) rfl rfl (hb hby hd)
  exact own_go stp (k T' X' e')
theorem own_instY (X : Stand p l e R s m args below meth c T locs cells slots) (hx : p.tables.exec = Jvm.exec) (hby : c.code = B) (hZ : Z.Warmed39 s.vm) {own K : String} {index : Nat} (hown : s.vm.findClass own = some m.cls) (w : (Jvm.Cond.classLink own index K).before a0 Z = true) (eT : T.heap = h) {a : Addr} (F : Ins Z h a K true) (hd : decode B pc = .ok (.instanceof index, 3)) (hp : pc + 3 = pc')
    (k : ∀ T' : State, Stand p l e R s m args below meth c T' locs cells slots → T'.heap = h → own_E p.tables e below G (T'.setTop (mkF m pc' Ls (.int 1 :: st)))) : own_E p.tables e below G (T.setTop (mkF m pc Ls (.ref a :: st))) := by
  subst hp
  obtain ⟨T', X', e', stp⟩ := instY X hx hZ hown w eT F (g := mkF m pc Ls (.ref a :: st)) rfl rfl (hb hby hd)
  exact own_go stp (k T' X' e')
theorem own_dloadN (X : Stand p l e R s m args below meth c T locs cells slots) (hx : p.tables.exec = Jvm.exec) (hby : c.code = B) {k : Fin 4} {v : UInt64} (hd : decode B pc = .ok (.dload_n k, 1)) (hp : pc + 1 = pc') (hl : Ls[k.val]? = some (.val (.double v)))
    (k : own_E p.tables e below G (T.setTop (mkF m pc' Ls (.double v :: st)))) : own_E p.tables e below G (T.setTop (mkF m pc Ls (st))) := by
  subst hp; exact own_go (fun t q => XS.dloadN X.here hx rfl (hb hby hd) hl q) k
theorem own_dload (X : Stand p l e R s m args below meth c T locs cells slots) (hx : p.tables.exec = Jvm.exec) (hby : c.code = B) {k : Nat} {v : UInt64} (hd : decode B pc = .ok (.dload k, 2)) (hp : pc + 2 = pc') (hl : Ls[k]? = some (.val (.double v)))
    (k : own_E p.tables e below G (T.setTop (mkF m pc' Ls (.double v :: st)))) : own_E p.tables e below G (T.setTop (mkF m pc Ls (st))) := by
  subst hp; exact own_go (fun t q => XS.dload X.here hx rfl (hb hby hd) hl q) k
theorem own_dstoreN (X : Stand p l e R s m args below meth c T locs cells slots) (hx : p.tables.exec = Jvm.exec) (hby : c.code = B) {k : Fin 4} {v : UInt64} (hd : decode B pc = .ok (.dstore_n k, 1)) (hp : pc + 1 = pc') (hl : storeLocals Ls k.val (.double v) = some Ls')
    (k : own_E p.tables e below G (T.setTop (mkF m pc' Ls' (st)))) : own_E p.tables e below G (T.setTop (mkF m pc Ls (.double v :: st))) := by
  subst hp; exact own_go (fun t q => XS.dstoreN X.here hx rfl (hb hby hd) rfl hl q) k
theorem own_dstore (X : Stand p l e R s m args below meth c T locs cells slots) (hx : p.tables.exec = Jvm.exec) (hby : c.code = B) {k : Nat} {v : UInt64} (hd : decode B pc = .ok (.dstore k, 2)) (hp : pc + 2 = pc') (hl : storeLocals Ls k (.double v) = some Ls')
    (k : own_E p.tables e below G (T.setTop (mkF m pc' Ls' (st)))) : own_E p.tables e below G (T.setTop (mkF m pc Ls (.double v :: st))) := by
  subst hp; exact own_go (fun t q => XS.dstore X.here hx rfl (hb hby hd) rfl hl q) k
theorem own_dconst0 (X : Stand p l e R s m args below meth c T locs cells slots) (hx : p.tables.exec = Jvm.exec) (hby : c.code = B) {v : UInt64} (hd : decode B pc = .ok (.dconst 0, 1)) (hp : pc + 1 = pc') (hv : FP.dconst0 = v)
    (k : own_E p.tables e below G (T.setTop (mkF m pc' Ls (.double v :: st)))) : own_E p.tables e below G (T.setTop (mkF m pc Ls (st))) := by
  subst hp; exact own_go (fun t q => XS.dconst0 X.here hx rfl (hb hby hd) hv q) k
theorem own_dconst1 (X : Stand p l e R s m args below meth c T locs cells slots) (hx : p.tables.exec = Jvm.exec) (hby : c.code = B) {v : UInt64} (hd : decode B pc = .ok (.dconst 1, 1)) (hp : pc + 1 = pc') (hv : FP.dconst1 = v)
    (k : own_E p.tables e below G (T.setTop (mkF m pc' Ls (.double v :: st)))) : own_E p.tables e below G (T.setTop (mkF m pc Ls (st))) := by
  subst hp; exact own_go (fun t q => XS.dconst1 X.here hx rfl (hb hby hd) hv q) k
theorem own_i2d (X : Stand p l e R s m args below meth c T locs cells slots) (hx : p.tables.exec = Jvm.exec) (hby : c.code = B) {x : Int32} {v : UInt64} (hd : decode B pc = .ok (.i2d, 1)) (hp : pc + 1 = pc') (hv : FP.i2d x = v)
    (k : own_E p.tables e below G (T.setTop (mkF m pc' Ls (.double v :: st)))) : own_E p.tables e below G (T.setTop (mkF m pc Ls (.int x :: st))) := by
  subst hp; exact own_go (fun t q => XS.i2dS X.here hx rfl (hb hby hd) rfl hv q) k
theorem own_l2d (X : Stand p l e R s m args below meth c T locs cells slots) (hx : p.tables.exec = Jvm.exec) (hby : c.code = B) {x : Int64} {v : UInt64} (hd : decode B pc = .ok (.l2d, 1)) (hp : pc + 1 = pc') (hv : FP.l2d x = v)
    (k : own_E p.tables e below G (T.setTop (mkF m pc' Ls (.double v :: st)))) : own_E p.tables e below G (T.setTop (mkF m pc Ls (.long x :: st))) := by
  subst hp; exact own_go (fun t q => XS.l2dS X.here hx rfl (hb hby hd) rfl hv q) k
theorem own_dadd (X : Stand p l e R s m args below meth c T locs cells slots) (hx : p.tables.exec = Jvm.exec) (hby : c.code = B) {x y v : UInt64} (hd : decode B pc = .ok (.dadd, 1)) (hp : pc + 1 = pc') (hn : Jvm.Free.Fl.NoNaN64 (FP.dadd x y)) (hv : FP.dadd x y = v)
    (k : own_E p.tables e below G (T.setTop (mkF m pc' Ls (.double v :: st)))) : own_E p.tables e below G (T.setTop (mkF m pc Ls (.double y :: .double x :: st))) := by
  subst hp; exact own_go (fun t q => XS.daddS X.here hx rfl (hb hby hd) rfl hn hv q) k
theorem own_dsub (X : Stand p l e R s m args below meth c T locs cells slots) (hx : p.tables.exec = Jvm.exec) (hby : c.code = B) {x y v : UInt64} (hd : decode B pc = .ok (.dsub, 1)) (hp : pc + 1 = pc') (hn : Jvm.Free.Fl.NoNaN64 (FP.dsub x y)) (hv : FP.dsub x y = v)
    (k : own_E p.tables e below G (T.setTop (mkF m pc' Ls (.double v :: st)))) : own_E p.tables e below G (T.setTop (mkF m pc Ls (.double y :: .double x :: st))) := by
  subst hp; exact own_go (fun t q => XS.dsubS X.here hx rfl (hb hby hd) rfl hn hv q) k
theorem own_dmul (X : Stand p l e R s m args below meth c T locs cells slots) (hx : p.tables.exec = Jvm.exec) (hby : c.code = B) {x y v : UInt64} (hd : decode B pc = .ok (.dmul, 1)) (hp : pc + 1 = pc') (hn : Jvm.Free.Fl.NoNaN64 (FP.dmul x y)) (hv : FP.dmul x y = v)
    (k : own_E p.tables e below G (T.setTop (mkF m pc' Ls (.double v :: st)))) : own_E p.tables e below G (T.setTop (mkF m pc Ls (.double y :: .double x :: st))) := by
  subst hp; exact own_go (fun t q => XS.dmulS X.here hx rfl (hb hby hd) rfl hn hv q) k
theorem own_ddiv (X : Stand p l e R s m args below meth c T locs cells slots) (hx : p.tables.exec = Jvm.exec) (hby : c.code = B) {x y v : UInt64} (hd : decode B pc = .ok (.ddiv, 1)) (hp : pc + 1 = pc') (hn : Jvm.Free.Fl.NoNaN64 (FP.ddiv x y)) (hv : FP.ddiv x y = v)
    (k : own_E p.tables e below G (T.setTop (mkF m pc' Ls (.double v :: st)))) : own_E p.tables e below G (T.setTop (mkF m pc Ls (.double y :: .double x :: st))) := by
  subst hp; exact own_go (fun t q => XS.ddivS X.here hx rfl (hb hby hd) rfl hn hv q) k
theorem own_dcmp (X : Stand p l e R s m args below meth c T locs cells slots) (hx : p.tables.exec = Jvm.exec) (hby : c.code = B) {o : CmpOp} {x y : UInt64} {v : Int32} (hd : decode B pc = .ok (.dcmp o, 1)) (hp : pc + 1 = pc') (hv : cmpValue (FP.dcmp x y) o = v)
    (k : own_E p.tables e below G (T.setTop (mkF m pc' Ls (.int v :: st)))) : own_E p.tables e below G (T.setTop (mkF m pc Ls (.double y :: .double x :: st))) := by
  subst hp; exact own_go (fun t q => XS.dcmpS X.here hx rfl (hb hby hd) rfl hv q) k
theorem own_join {tb : Tables} {α : Type} {F : α → State} {P : α → Prop} {A : State} (rest : ∀ z, P z → own_E tb e below G (F z)) (br : (∀ z, P z → own_E tb e below G (F z)) → own_E tb e below G A) : own_E tb e below G A := br rest
/-- an array of arrays, each place filled -/
def own_Grid (Z : State) (h : Heap) (a : Addr) (n : Int32) : Prop := ∃ (kA : ClassId) (ty : FieldType) (xs : List Addr), Arv Z h a kA ty n (xs.map Value.ref) .null ∧ ty.isReference = true ∧ xs.length = n.toNatClampNeg
theorem own_Grid.ext {a : Addr} {n : Int32} (G : own_Grid Z h a n) (E : Ext h h') : own_Grid Z h' a n := by
  obtain ⟨kA, ty, xs, A, r⟩ := G; exact ⟨kA, ty, xs, A.ext E, r⟩
theorem own_grid (X : Stand p l e R s m args below meth c T locs cells slots) (hx : p.tables.exec = Jvm.exec) (hby : c.code = B) (hZ : Z.Warmed39 s.vm) {own C ad : String} {ty : FieldType} {index : Nat} (hown : s.vm.findClass own = some m.cls) (hC : (FieldType.array ty).toString = C) (had : "[" ++ C = ad)
    (w1 : (Jvm.Cond.classLink own index ad).before a0 Z = true) (w2 : (Jvm.Cond.arrayOver (.array ty)).before a0 Z = true) (w3 : (Jvm.Cond.arrayClass ty).before a0 Z = true) (eT : T.heap = h) (hd : decode B pc = .ok (.multianewarray index 2, 4)) (hp : pc + 4 = pc') {n : Int32}
    (hn : ¬ n < 0) {CC SS : Nat} (hN : n.toNatClampNeg ≤ SS) (hdf : fits ty (defaultValue ty) = true) (hdd : (defaultValue ty).isDefault = true) (hb1 : SS ≤ 1000) (hCC : 1 + SS ≤ CC) (hc : cells + CC ≤ R.cells) (hl : slots + SS ≤ R.slots)
    (k : ∀ (T' : State) (h' : Heap) (b : Addr), b = h.size → Stand p l e R s m args below meth c T' locs (cells + CC) (slots + SS) → T'.heap = h' → Ext h h' → own_Grid Z h' b n → own_E p.tables e below G (T'.setTop (mkF m pc' Ls (.ref b :: st)))) : own_E p.tables e below G (T.setTop (mkF m pc Ls (.int 0 :: .int n :: st))) := by
  subst hp
  obtain ⟨T', h', cA, comp, X', e', E', V', -, -, -, stp⟩ := gridM X hx hZ hown hC had w1 w2 w3 eT (g := mkF m pc Ls (.int 0 :: .int n :: st)) rfl (hb hby hd) rfl hn (by decide) rfl rfl (cap := 0) (by decide) (by decide) (by omega) hdf hdd (by omega) (by omega)
  exact own_go stp (k T' h' _ rfl (X'.mono (by omega) (by omega)) e' E' ⟨cA, _, _, V', rfl, by simp⟩)
theorem own_aaloadG (X : Stand p l e R s m args below meth c T locs cells slots) (hx : p.tables.exec = Jvm.exec) (hby : c.code = B) (hZ : Z.Warmed39 s.vm) (eT : T.heap = h) {a : Addr} {n j : Int32} (A : own_Grid Z h a n) (hj : ¬ j < 0 ∧ j < n) (hd : decode B pc = .ok (.aaload, 1)) (hp : pc + 1 = pc')
    (k : ∀ x : Addr, own_E p.tables e below G (T.setTop (mkF m pc' Ls (.ref x :: st)))) : own_E p.tables e below G (T.setTop (mkF m pc Ls (.int j :: .ref a :: st))) := by
  obtain ⟨kA, ty, xs, A, ht, hlen⟩ := A
  have hlt : j.toNatClampNeg < xs.length := by
    have h1 := hj.1; have h2 := hj.2
    simp only [Int32.lt_iff_toInt_lt, Int32.reduceToInt] at h1 h2
    rw [hlen]; simp only [Int32.toNatClampNeg]; omega
  exact own_aaloadV X hx hby hZ eT A ht hj (v := .ref xs[j.toNatClampNeg]) (by simp [List.getD_eq_getElem?_getD, hlt]) hd hp (k _)
end OwnHeap

abbrev own_ST : String := "java/lang/String"
/-- a String of these chars, each 0 to 255 -/
def own_Str (Z : State) (h : Heap) (a : Addr) (cs : List Int32) : Prop := Exa Z h a "java/lang/String" ∧ Fld Z h a "java/lang/String" "coder" "B" (.int (0 : Int32)) ∧ (∀ c ∈ cs, ¬ c < 0 ∧ ¬ (255 : Int32) < c) ∧ ∃ (t : Addr) (kb : ClassId), Fld Z h a "java/lang/String" "value" "[B" (.ref t) ∧ Arv Z h t kb .byte (Int32.ofNat cs.length) ((cs.map (fun c => c.toInt8.toInt32)).map Value.int) (.int (0 : Int32))
theorem own_Str.ext {Z : State} {h h' : Heap} {a : Addr} {cs : List Int32} (S : own_Str Z h a cs) (E : Ext h h') : own_Str Z h' a cs := by
  obtain ⟨A, C, hp, t, kb, V, K⟩ := S; exact ⟨A.ext E, C.ext E, hp, t, kb, V.ext E, K.ext E⟩
theorem own_Str.exa {Z : State} {h : Heap} {a : Addr} {cs : List Int32} (S : own_Str Z h a cs) : Exa Z h a "java/lang/String" := S.1
theorem own_narb (x : Int32) : nar .byte x.toInt8.toInt32 = x.toInt8.toInt32 := by simp [nar]
theorem own_char {x : Int32} (h0 : ¬ x < 0) (h1 : ¬ (255 : Int32) < x) : nar .char x = x ∧ x.toUInt32.toUInt16.toUInt32.toInt32 = x := by
  have t : ∀ k : Fin 256, nar .char (Int32.ofNat k.val) = Int32.ofNat k.val ∧ (Int32.ofNat k.val).toUInt32.toUInt16.toUInt32.toInt32 = Int32.ofNat k.val := by decide +kernel
  rw [Int32.lt_iff_toInt_lt] at h0 h1
  have e0 : (0 : Int32).toInt = 0 := rfl
  have e1 : (255 : Int32).toInt = 255 := rfl
  obtain ⟨k, hk⟩ : ∃ k : Nat, x.toInt = k := ⟨x.toInt.toNat, by omega⟩
  have hx : x = Int32.ofNat k := Int32.toInt_inj.mp (by rw [hk, Int32.toInt_ofNat_small (by omega)])
  rw [hx]
  exact t ⟨k, by omega⟩
theorem own_mask (x : Int32) : ¬ (x &&& (255 : Int32)) < 0 ∧ ¬ (255 : Int32) < (x &&& (255 : Int32)) := by
  have h := c_and x 255 (by decide)
  have e0 : (0 : Int32).toInt = 0 := rfl
  have e1 : (255 : Int32).toInt = 255 := rfl
  rw [Int32.lt_iff_toInt_lt, Int32.lt_iff_toInt_lt, e0, e1]; rw [e1] at h; omega
theorem own_mask_c (x : Int32) : (x &&& (255 : Int32)).toUInt32.toUInt16.toUInt32.toInt32 = x &&& (255 : Int32) := (own_char (own_mask x).1 (own_mask x).2).2
theorem own_mask_n (x : Int32) : nar .char (x &&& (255 : Int32)) = x &&& (255 : Int32) := (own_char (own_mask x).1 (own_mask x).2).1
theorem own_not0 {args : Array Value} {s : State} {t : Term} {G : Int32} (e : t.eval args s none [] s = some (.int G)) (h : (Jvm.Cond.not (Jvm.Cond.eq t (Jvm.Term.int (0 : Int32)))).before args s = true) : ¬ (G = (0 : Int32)) := by
  intro q; subst q
  have h1 := Cond.before_iff.mp h
  simp [Cond.value, e, Term.eval] at h1
theorem own_pow (a b c : Nat) (h : c = a + b) : (2 : Nat) ^ c = 2 ^ a * 2 ^ b := by rw [h, Nat.pow_add]
theorem own_p1074 : (2 : Nat) ^ 1074 = 2 ^ 40 * 2 ^ 1034 := own_pow 40 1034 1074 rfl
open Jvm.FP.Core (Fmt Datum b64 roundRatio zmag zval sgn val64 inUnits good_b64 Good) in
theorem own_l2dX {a : Int64} (h0 : 0 ≤ a.toInt) (h1 : a.toInt < 9007199254740992) : ∃ c q, val64 (FP.l2d a) = .fin false c q ∧ b64.qmin ≤ q ∧ c * 2 ^ (q + 1074).toNat = a.toInt.toNat * 2 ^ 1074 := by
  have e1 : val64 (FP.l2d a) = Jvm.FP.Core.round b64 (Jvm.FP.Core.ofInt a.toInt) := Jvm.FP.Core.val64_l2d a
  have e2 : Jvm.FP.Core.ofInt a.toInt = .fin false a.toInt.toNat 0 := by
    unfold Jvm.FP.Core.ofInt
    rw [show decide (a.toInt < 0) = false from decide_eq_false (by omega), show a.toInt.natAbs = a.toInt.toNat from by omega]
  have hq : b64.qmin = -1074 := Jvm.FP.Core.qmin_b64
  obtain ⟨c, q, r1, r2⟩ := Jvm.FP.Core.round_exact good_b64 false (c := a.toInt.toNat) (q := 0) (by show _ < 2 ^ 53; omega) (by rw [hq]; decide) (by decide)
  refine ⟨c, q, by rw [e1, e2, r1], ?_, ?_⟩
  · have hf := Jvm.FP.Core.round_fits good_b64 (.fin false a.toInt.toNat 0)
    rw [r1] at hf
    exact hf.2.1
  · unfold inUnits at r2
    rw [hq] at r2
    simpa using r2
open Jvm.FP.Core (Fmt Datum b64 roundRatio zmag zval sgn val64 inUnits good_b64 Good) in
theorem own_div {t m : Int64} (h0 : 0 ≤ t.toInt) (h1 : t.toInt < 9007199254740992) (h2 : 0 < m.toInt) (h3 : m.toInt < 9007199254740992) : val64 (FP.ddiv (FP.l2d t) (FP.l2d m)) = roundRatio b64 false t.toInt.toNat m.toInt.toNat 0 := by
  obtain ⟨c, q, v1, q1, k1⟩ := own_l2dX h0 h1
  obtain ⟨d, r, v2, q2, k2⟩ := own_l2dX (Int.le_of_lt h2) h3
  have hq : b64.qmin = -1074 := Jvm.FP.Core.qmin_b64
  rw [hq] at q1 q2
  have hd : d ≠ 0 := by
    rintro rfl
    rw [Nat.zero_mul] at k2
    have p := Nat.two_pow_pos 1074
    have : 0 < m.toInt.toNat * 2 ^ 1074 := Nat.mul_pos (by omega) p
    omega
  have e1 : val64 (FP.ddiv (FP.l2d t) (FP.l2d m)) = Jvm.FP.Core.quotient b64 (val64 (FP.l2d t)) (val64 (FP.l2d m)) := Jvm.FP.Core.val64_ddiv _ _
  rw [e1, v1, v2]
  show (if d = 0 then (if c = 0 then Datum.nan else Datum.inf (false != false)) else roundRatio b64 (false != false) c d (q - r)) = _
  rw [if_neg hd]
  show roundRatio b64 false c d (q - r) = _
  refine Jvm.FP.Core.roundRatio_congr (Nat.pos_of_ne_zero hd) (by omega) ?_
  generalize t.toInt.toNat = T at *
  generalize m.toInt.toNat = M at *
  have p := Nat.two_pow_pos 1074
  generalize 2 ^ 1074 = P at *
  have k3 : c * M * 2 ^ (q + 1074).toNat = T * d * 2 ^ (r + 1074).toNat := by
    refine Nat.eq_of_mul_eq_mul_right p ?_
    calc c * M * 2 ^ (q + 1074).toNat * P = (c * 2 ^ (q + 1074).toNat) * (M * P) := by ac_rfl
      _ = (T * P) * (d * 2 ^ (r + 1074).toNat) := by rw [k1, k2]
      _ = T * d * 2 ^ (r + 1074).toNat * P := by ac_rfl
  rcases Int.le_total r q with h | h
  · rw [show (q + 1074).toNat = (q - r - 0).toNat + (r + 1074).toNat by omega, Nat.pow_add, ← Nat.mul_assoc] at k3
    rw [show (0 - (q - r)).toNat = 0 by omega, Nat.pow_zero, Nat.mul_one]
    exact Nat.eq_of_mul_eq_mul_right (Nat.two_pow_pos _) k3
  · rw [show (r + 1074).toNat = (0 - (q - r)).toNat + (q + 1074).toNat by omega, Nat.pow_add, ← Nat.mul_assoc] at k3
    rw [show (q - r - 0).toNat = 0 by omega, Nat.pow_zero, Nat.mul_one]
    exact Nat.eq_of_mul_eq_mul_right (Nat.two_pow_pos _) k3
/-- the quotient's magnitude, in units of the least double -/
def own_z (t m : Nat) : Nat := Jvm.FP.Core.zmag Jvm.FP.Core.b64 (Jvm.FP.Core.roundRatio Jvm.FP.Core.b64 false t m 0)
open Jvm.FP.Core (Fmt Datum b64 roundRatio zmag zval sgn val64 inUnits good_b64 Good) in
theorem own_z_le {t m : Nat} {V : Datum} (hm : 0 < m) (hV : Jvm.FP.Core.fits b64 V) (hn : V ≠ .nan) (h : t * 2 ^ 1074 ≤ zmag b64 V * m) : own_z t m ≤ zmag b64 V := by
  refine Jvm.FP.Core.zmag_roundRatio_le good_b64 (e0 := b64.qmin) hm hV hn (Int.le_refl _) (by decide) ?_
  rw [show (b64.qmin - b64.qmin).toNat = 0 by omega, Nat.pow_zero, Nat.mul_one]
  unfold inUnits
  rw [Jvm.FP.Core.qmin_b64]
  exact h
open Jvm.FP.Core (Fmt Datum b64 roundRatio zmag zval sgn val64 inUnits good_b64 Good) in
theorem own_z_ge {t m : Nat} {V : Datum} (hm : 0 < m) (hV : Jvm.FP.Core.fits b64 V) (h : zmag b64 V * m ≤ t * 2 ^ 1074) : zmag b64 V ≤ own_z t m := by
  refine Jvm.FP.Core.zmag_roundRatio_ge good_b64 (e0 := b64.qmin) hm hV (Int.le_refl _) (by decide) ?_
  rw [show (b64.qmin - b64.qmin).toNat = 0 by omega, Nat.pow_zero, Nat.mul_one]
  unfold inUnits
  rw [Jvm.FP.Core.qmin_b64]
  exact h
open Jvm.FP.Core (Fmt Datum b64 roundRatio zmag zval sgn val64 inUnits good_b64 Good) in
theorem own_z_fin {t m : Nat} (hm : 0 < m) (h : t ≤ m) : ∃ c q, roundRatio b64 false t m 0 = .fin false c q := by
  rcases Jvm.FP.Core.roundRatio_cases b64 false t m 0 with q | q
  · exact q
  · exfalso
    have h1 : own_z t m ≤ zmag b64 (.fin false (2 ^ 52) (-52)) := own_z_le hm ⟨by decide, by decide, by decide, Or.inr (by decide)⟩ (by decide) (by
      have e : zmag b64 (.fin false (2 ^ 52) (-52)) = 2 ^ 1074 := by decide +kernel
      rw [e, Nat.mul_comm (2 ^ 1074)]; exact Nat.mul_le_mul_right _ h)
    unfold own_z at h1
    rw [q] at h1
    revert h1
    decide +kernel
open Jvm.FP.Core (Fmt Datum b64 roundRatio zmag zval sgn val64 inUnits good_b64 Good) in
/-- rounding keeps the order -/
theorem own_z_mono {t m t' m' : Nat} (hm : 0 < m) (hm' : 0 < m') (h1 : t ≤ m) (h1' : t' ≤ m') (h : t * m' ≤ t' * m) : own_z t m ≤ own_z t' m' := by
  refine Nat.le_of_not_lt fun hlt => ?_
  obtain ⟨c, q, e1⟩ := own_z_fin hm h1
  obtain ⟨c', q', e2⟩ := own_z_fin hm' h1'
  have f1 := Jvm.FP.Core.roundRatio_fits good_b64 false t hm 0
  have f2 := Jvm.FP.Core.roundRatio_fits good_b64 false t' hm' 0
  by_cases he : t * m' = t' * m
  · have := Jvm.FP.Core.roundRatio_congr (f := b64) (s := false) (e := 0) (e' := 0) hm hm' (by simpa using he)
    unfold own_z at hlt
    rw [this] at hlt
    exact Nat.lt_irrefl _ hlt
  · have a1 : ¬ t * 2 ^ 1074 ≤ own_z t' m' * m := fun g => Nat.lt_irrefl _ (Nat.lt_of_le_of_lt (own_z_le hm f2 (Jvm.FP.Core.roundRatio_ne_nan _ _ _ _ _) g) hlt)
    have a2 : ¬ own_z t m * m' ≤ t' * 2 ^ 1074 := fun g => Nat.lt_irrefl _ (Nat.lt_of_lt_of_le hlt (own_z_ge hm' f1 g))
    rw [e1] at f1
    rw [e2] at f2
    have d1 := Jvm.FP.Core.roundRatio_nearest good_b64 hm e1 f2.1 f2.2.1 (e0 := b64.qmin) (Int.le_refl _) (by decide)
    have d2 := Jvm.FP.Core.roundRatio_nearest good_b64 hm' e2 f1.1 f1.2.1 (e0 := b64.qmin) (Int.le_refl _) (by decide)
    have z1 : inUnits c q b64.qmin = own_z t m := by unfold own_z; rw [e1]; rfl
    have z2 : inUnits c' q' b64.qmin = own_z t' m' := by unfold own_z; rw [e2]; rfl
    unfold Jvm.FP.Core.distance at d1 d2
    rw [z1, z2] at d1 d2
    have u1 : inUnits t 0 b64.qmin = t * 2 ^ 1074 := by unfold inUnits; rw [Jvm.FP.Core.qmin_b64]; rfl
    have u2 : inUnits t' 0 b64.qmin = t' * 2 ^ 1074 := by unfold inUnits; rw [Jvm.FP.Core.qmin_b64]; rfl
    rw [u1] at d1
    rw [u2] at d2
    have hp := Nat.two_pow_pos 1074
    generalize 2 ^ 1074 = P at *
    generalize own_z t m = x at *
    generalize own_z t' m' = y at *
    rw [← Int.natCast_mul, ← Int.natCast_mul] at d1 d2
    have s1 : x * m + y * m ≤ 2 * (t * P) := by
      have : y * m < x * m := Nat.mul_lt_mul_of_pos_right hlt hm
      omega
    have s2 : 2 * (t' * P) ≤ x * m' + y * m' := by
      have : y * m' < x * m' := Nat.mul_lt_mul_of_pos_right hlt hm'
      omega
    have w1 := Nat.mul_le_mul_right m' s1
    have w2 := Nat.mul_le_mul_right m s2
    have w3 : t * m' < t' * m := Nat.lt_of_le_of_ne h he
    have w4 := Nat.mul_lt_mul_of_pos_right w3 hp
    have v1 : (x * m + y * m) * m' = (x * m' + y * m') * m := by rw [Nat.add_mul, Nat.add_mul, Nat.mul_right_comm x m m', Nat.mul_right_comm y m m']
    have v2 : 2 * (t * P) * m' = 2 * (t * m' * P) := by ac_rfl
    have v3 : 2 * (t' * P) * m = 2 * (t' * m * P) := by ac_rfl
    rw [v1, v2] at w1
    rw [v3] at w2
    omega
open Jvm.FP.Core (Fmt Datum b64 roundRatio zmag zval sgn val64 inUnits good_b64 Good) in
/-- two quotients of one divisor under 2^31 fall apart -/
theorem own_z_strict {t t' m : Nat} (hm : 0 < m) (hb : m < 2147483648) (h : t < t') (h' : t' ≤ m) : own_z t m < own_z t' m := by
  have key : ∀ k : Nat, k ≤ 2 ^ 40 → ∃ V, Jvm.FP.Core.fits b64 V ∧ V ≠ .nan ∧ zmag b64 V = k * 2 ^ 1034 := by
    intro k hk
    obtain ⟨c, q, r1, r2⟩ := Jvm.FP.Core.round_exact good_b64 false (c := k) (q := -40) (Nat.lt_of_le_of_lt hk (by decide)) (by rw [Jvm.FP.Core.qmin_b64]; decide) (by decide)
    have hf := Jvm.FP.Core.round_fits good_b64 (.fin false k (-40))
    rw [r1] at hf
    refine ⟨_, hf, by simp, ?_⟩
    show inUnits c q b64.qmin = _
    rw [r2]
    unfold inUnits
    rw [Jvm.FP.Core.qmin_b64]
    rfl
  have ea : (t * 2 ^ 40 / m) * m ≤ t * 2 ^ 40 := Nat.div_mul_le_self _ _
  have eb : t * 2 ^ 40 < (t * 2 ^ 40 / m + 1) * m := by
    rw [Nat.add_mul, Nat.one_mul, Nat.mul_comm (t * 2 ^ 40 / m)]; have := Nat.div_add_mod (t * 2 ^ 40) m; have := Nat.mod_lt (t * 2 ^ 40) hm; omega
  have ec : (t' * 2 ^ 40 / m) * m ≤ t' * 2 ^ 40 := Nat.div_mul_le_self _ _
  have g : t * 2 ^ 40 / m + 1 + 1 ≤ t' * 2 ^ 40 / m := by
    refine (Nat.le_div_iff_mul_le hm).mpr ?_
    rw [Nat.add_mul, Nat.add_mul, Nat.one_mul]
    have : (t + 1) * 2 ^ 40 ≤ t' * 2 ^ 40 := Nat.mul_le_mul_right _ h
    rw [Nat.add_mul, Nat.one_mul] at this
    omega
  have top : t' * 2 ^ 40 / m ≤ 2 ^ 40 := by
    refine Nat.div_le_of_le_mul ?_
    exact Nat.mul_le_mul_right _ h'
  obtain ⟨V, v1, v2, v3⟩ := key (t * 2 ^ 40 / m + 1) (by omega)
  obtain ⟨W, w1, w2, w3⟩ := key (t' * 2 ^ 40 / m) top
  have hs : ∀ n : Nat, n * 2 ^ 1074 = n * 2 ^ 40 * 2 ^ 1034 := fun n => (congrArg (n * ·) own_p1074).trans (Nat.mul_assoc n _ _).symm
  have p := Nat.two_pow_pos 1034
  have l1 : own_z t m ≤ zmag b64 V := own_z_le hm v1 v2 (by
    rw [v3, hs, Nat.mul_right_comm (t * 2 ^ 40 / m + 1) (2 ^ 1034) m]; exact Nat.mul_le_mul_right _ (Nat.le_of_lt eb))
  have l2 : zmag b64 W ≤ own_z t' m := own_z_ge hm w1 (by
    rw [w3, hs, Nat.mul_right_comm (t' * 2 ^ 40 / m) (2 ^ 1034) m]; exact Nat.mul_le_mul_right _ ec)
  have l3 : zmag b64 V < zmag b64 W := by
    rw [v3, w3]; exact Nat.mul_lt_mul_of_pos_right (by omega) p
  omega
open Jvm.FP.Core (Fmt Datum b64 roundRatio zmag zval sgn val64 inUnits good_b64 Good) in
/-- a quotient that is a double -/
theorem own_z_at {t m : Nat} {V : Datum} (hm : 0 < m) (hV : Jvm.FP.Core.fits b64 V) (hn : V ≠ .nan) (h : t * 2 ^ 1074 = zmag b64 V * m) : own_z t m = zmag b64 V := Nat.le_antisymm (own_z_le hm hV hn (Nat.le_of_eq h)) (own_z_ge hm hV (Nat.le_of_eq h.symm))
open Jvm.FP.Core (Fmt Datum b64 roundRatio zmag zval sgn val64 inUnits good_b64 Good) in
/-- the order of two doubles that are no NaN and not below zero -/
theorem own_dcmp_z {x y : UInt64} {A B : Nat} (hx : val64 x ≠ .nan) (hy : val64 y ≠ .nan) (sx : zval b64 (val64 x) = (A : Int)) (sy : zval b64 (val64 y) = (B : Int)) : FP.dcmp x y = some (compare (A : Int) (B : Int)) := by
  have := Jvm.FP.Core.order_zval good_b64 (Jvm.FP.Core.val64_fits x) (Jvm.FP.Core.val64_fits y) hx hy
  rw [sx, sy] at this
  exact this

/-- t of m, 0 to m, m over 0 -/
def own_In (t m : Int32) : Prop := 0 ≤ t.toInt ∧ t.toInt ≤ m.toInt ∧ 0 < m.toInt
def own_Q (t m : Int32) : UInt64 := FP.ddiv (FP.l2d t.toInt64) (FP.l2d m.toInt64)
def own_Z (t m : Int32) : Nat := own_z t.toInt.toNat m.toInt.toNat
theorem own_Q_val {t m : Int32} (I : own_In t m) : Jvm.FP.Core.val64 (own_Q t m) = Jvm.FP.Core.roundRatio Jvm.FP.Core.b64 false t.toInt.toNat m.toInt.toNat 0 := by
  obtain ⟨i1, i2, i3⟩ := I
  have b := m.toInt_lt
  have e1 := c_i2l t
  have e2 := c_i2l m
  have := own_div (t := t.toInt64) (m := m.toInt64) (by omega) (by omega) (by omega) (by omega)
  rw [e1, e2] at this
  exact this
theorem own_Q_nan {t m : Int32} (I : own_In t m) : Jvm.FP.Core.val64 (own_Q t m) ≠ .nan := by rw [own_Q_val I]; exact Jvm.FP.Core.roundRatio_ne_nan _ _ _ _ _
theorem own_Q_nn {t m : Int32} (I : own_In t m) : Jvm.Free.Fl.NoNaN64 (own_Q t m) := Jvm.Free.Fl.noNaN64_no.mpr ((Jvm.FP.Core.notNaN_iff _).mpr (own_Q_nan I))
theorem own_Q_z {t m : Int32} (I : own_In t m) : Jvm.FP.Core.zval Jvm.FP.Core.b64 (Jvm.FP.Core.val64 (own_Q t m)) = (own_Z t m : Int) := by
  rw [own_Q_val I]
  unfold Jvm.FP.Core.zval
  rw [Jvm.FP.Core.sgn_roundRatio]
  rfl
theorem own_QQ {t m t' m' : Int32} (I : own_In t m) (I' : own_In t' m') : FP.dcmp (own_Q t m) (own_Q t' m') = some (compare (own_Z t m : Int) (own_Z t' m' : Int)) := own_dcmp_z (own_Q_nan I) (own_Q_nan I') (own_Q_z I) (own_Q_z I')
theorem own_Qk {t m : Int32} (I : own_In t m) {K : UInt64} {k : Nat} (hn : Jvm.FP.Core.val64 K ≠ .nan) (hk : Jvm.FP.Core.zval Jvm.FP.Core.b64 (Jvm.FP.Core.val64 K) = (k : Int)) : FP.dcmp (own_Q t m) K = some (compare (own_Z t m : Int) (k : Int)) := own_dcmp_z (own_Q_nan I) hn (own_Q_z I) hk
theorem own_cmp_le {a b : Nat} (h : a ≤ b) (o : CmpOp) : ∃ v, cmpValue (some (compare (a : Int) (b : Int))) o = v ∧ ¬ (0 : Int32) < v := by
  rcases Nat.lt_or_eq_of_le h with h | h
  · rw [show compare (a : Int) (b : Int) = .lt from by rw [Jvm.FP.Core.compare_ite, if_pos (by omega)]]
    exact ⟨-1, rfl, by decide⟩
  · subst h
    rw [show compare (a : Int) (a : Int) = .eq from by rw [Jvm.FP.Core.compare_ite, if_neg (by omega), if_pos rfl]]
    exact ⟨0, rfl, by decide⟩
theorem own_cmp_ge {a b : Nat} (h : b ≤ a) (o : CmpOp) : ∃ v, cmpValue (some (compare (a : Int) (b : Int))) o = v ∧ ¬ v < (0 : Int32) := by
  rcases Nat.lt_or_eq_of_le h with h | h
  · rw [show compare (a : Int) (b : Int) = .gt from by rw [Jvm.FP.Core.compare_ite, if_neg (by omega), if_neg (by omega)]]
    exact ⟨1, rfl, by decide⟩
  · subst h
    rw [show compare (b : Int) (b : Int) = .eq from by rw [Jvm.FP.Core.compare_ite, if_neg (by omega), if_pos rfl]]
    exact ⟨0, rfl, by decide⟩
theorem own_cmp_lt {a b : Nat} (h : a < b) (o : CmpOp) : cmpValue (some (compare (a : Int) (b : Int))) o = -1 := by
  rw [show compare (a : Int) (b : Int) = .lt from by rw [Jvm.FP.Core.compare_ite, if_pos (by omega)]]; rfl
theorem own_cmp_gt {a b : Nat} (h : b < a) (o : CmpOp) : cmpValue (some (compare (a : Int) (b : Int))) o = 1 := by
  rw [show compare (a : Int) (b : Int) = .gt from by rw [Jvm.FP.Core.compare_ite, if_neg (by omega), if_neg (by omega)]]; rfl
theorem own_cmp_eq {a b : Nat} (h : a = b) (o : CmpOp) : cmpValue (some (compare (a : Int) (b : Int))) o = 0 := by
  subst h
  rw [show compare (a : Int) (a : Int) = .eq from by rw [Jvm.FP.Core.compare_ite, if_neg (by omega), if_pos rfl]]; rfl
/-- the doubles 0, 1, 1/2, 1/4, 3/4 -/
theorem own_k0 : Jvm.FP.Core.val64 0 = .fin false 0 (-1074) := by decide +kernel
theorem own_k1 : Jvm.FP.Core.val64 4607182418800017408 = .fin false (2 ^ 52) (-52) := by decide +kernel
theorem own_k2 : Jvm.FP.Core.val64 4602678819172646912 = .fin false (2 ^ 52) (-53) := by decide +kernel
theorem own_k4 : Jvm.FP.Core.val64 4598175219545276416 = .fin false (2 ^ 52) (-54) := by decide +kernel
theorem own_k34 : Jvm.FP.Core.val64 4604930618986332160 = .fin false (3 * 2 ^ 51) (-53) := by decide +kernel
theorem own_m1 : Jvm.FP.Core.zmag Jvm.FP.Core.b64 (.fin false (2 ^ 52) (-52)) = 4 * 2 ^ 1072 := by decide +kernel
theorem own_m2 : Jvm.FP.Core.zmag Jvm.FP.Core.b64 (.fin false (2 ^ 52) (-53)) = 2 * 2 ^ 1072 := by decide +kernel
theorem own_m4 : Jvm.FP.Core.zmag Jvm.FP.Core.b64 (.fin false (2 ^ 52) (-54)) = 1 * 2 ^ 1072 := by decide +kernel
theorem own_m34 : Jvm.FP.Core.zmag Jvm.FP.Core.b64 (.fin false (3 * 2 ^ 51) (-53)) = 3 * 2 ^ 1072 := by decide +kernel
theorem own_p1072 : (2 : Nat) ^ 1074 = 4 * 2 ^ 1072 := (own_pow 2 1072 1074 rfl).trans (congrArg (· * 2 ^ 1072) (show (2 : Nat) ^ 2 = 4 from rfl))
/-- t of m is j quarters, and K is the double of j quarters -/
theorem own_quarter {t m : Int32} (I : own_In t m) {K : UInt64} {c : Nat} {q : Int} {j : Nat} (hK : Jvm.FP.Core.val64 K = .fin false c q) (hz : Jvm.FP.Core.zmag Jvm.FP.Core.b64 (.fin false c q) = j * 2 ^ 1072) (h : 4 * t.toInt = j * m.toInt) (o : CmpOp) : cmpValue (FP.dcmp (own_Q t m) K) o = 0 := by
  have hf : Jvm.FP.Core.fits Jvm.FP.Core.b64 (.fin false c q) := by rw [← hK]; exact Jvm.FP.Core.val64_fits K
  obtain ⟨i1, i2, i3⟩ := id I
  have e : own_Z t m = j * 2 ^ 1072 := by
    rw [← hz]
    refine own_z_at (by omega) hf (by simp) ?_
    rw [hz, own_p1072]
    have g : 4 * t.toInt.toNat = j * m.toInt.toNat := by
      have : ((4 * t.toInt.toNat : Nat) : Int) = ((j * m.toInt.toNat : Nat) : Int) := by
        rw [Int.natCast_mul, Int.natCast_mul, Int.toNat_of_nonneg i1, Int.toNat_of_nonneg (by omega)]; exact h
      exact Int.ofNat.inj this
    rw [← Nat.mul_assoc, Nat.mul_comm t.toInt.toNat 4, g, Nat.mul_right_comm]
  rw [own_Qk I (by rw [hK]; simp) (k := j * 2 ^ 1072) (by rw [hK]; unfold Jvm.FP.Core.zval; rw [hz]; rfl)]
  exact own_cmp_eq e o
theorem own_f0 {t m : Int32} (I : own_In t m) : ∃ v, cmpValue (FP.dcmp (0 : UInt64) (own_Q t m)) .g = v ∧ ¬ (0 : Int32) < v := by
  rw [own_dcmp_z (A := 0) (by rw [own_k0]; simp) (own_Q_nan I) (by rw [own_k0]; decide +kernel) (own_Q_z I)]
  exact own_cmp_le (Nat.zero_le _) _
theorem own_f1 {t m : Int32} (I : own_In t m) : ∃ v, cmpValue (FP.dcmp (own_Q t m) (4607182418800017408 : UInt64)) .g = v ∧ ¬ (0 : Int32) < v := by
  obtain ⟨i1, i2, i3⟩ := id I
  rw [own_Qk I (by rw [own_k1]; simp) (k := 4 * 2 ^ 1072) (by rw [own_k1]; unfold Jvm.FP.Core.zval; rw [own_m1]; rfl)]
  refine own_cmp_le ?_ _
  rw [← own_m1]
  refine own_z_le (by omega) (by rw [← own_k1]; exact Jvm.FP.Core.val64_fits _) (by simp) ?_
  rw [own_m1, own_p1072, Nat.mul_comm (4 * 2 ^ 1072)]
  exact Nat.mul_le_mul_right _ (by omega)
theorem own_e0 {t m : Int32} (I : own_In t m) (h : t = 0) : cmpValue (FP.dcmp (own_Q t m) (0 : UInt64)) .l = 0 := by
  subst h
  rw [own_Qk I (by rw [own_k0]; simp) (k := 0) (by rw [own_k0]; decide +kernel)]
  refine own_cmp_eq ?_ _
  unfold own_Z own_z
  have : (0 : Int32).toInt.toNat = 0 := rfl
  rw [this]
  unfold Jvm.FP.Core.roundRatio
  rw [if_pos rfl]
  decide +kernel
theorem own_e1 {t m : Int32} (I : own_In t m) (h : t = m) : cmpValue (FP.dcmp (own_Q t m) (4607182418800017408 : UInt64)) .l = 0 := own_quarter I own_k1 own_m1 (by subst h; rfl) _
theorem own_lcmp0 {x y : Int64} (h : lcmpW x y = 0) : x.toInt = y.toInt := by
  obtain ⟨a, b, c⟩ := c_lcmp x y
  rw [h] at a b c
  have e : (0 : Int32).toInt = 0 := rfl
  rw [e] at a c
  omega
theorem own_lcmpL {x y : Int64} (h : lcmpW x y < 0) : x.toInt < y.toInt := by
  obtain ⟨a, b, c⟩ := c_lcmp x y
  rw [Int32.lt_iff_toInt_lt] at h
  have e : (0 : Int32).toInt = 0 := rfl
  rw [e] at h
  omega
theorem own_lcmpG {x y : Int64} (h : 0 < lcmpW x y) : y.toInt < x.toInt := by
  obtain ⟨a, b, c⟩ := c_lcmp x y
  rw [Int32.lt_iff_toInt_lt] at h
  have e : (0 : Int32).toInt = 0 := rfl
  rw [e] at h
  omega
theorem own_kmul (k : Int64) (x : Int32) (h0 : 0 ≤ k.toInt) (h1 : k.toInt ≤ 4) : (k * x.toInt64).toInt = k.toInt * x.toInt := by
  have a := c_lmul k x.toInt64
  rw [c_i2l] at a
  have b1 := x.le_toInt; have b2 := x.toInt_lt
  have d1 := (k * x.toInt64).le_toInt; have d2 := (k * x.toInt64).toInt_lt
  have : k.toInt = 0 ∨ k.toInt = 1 ∨ k.toInt = 2 ∨ k.toInt = 3 ∨ k.toInt = 4 := by omega
  rcases this with e | e | e | e | e <;> rw [e] at a ⊢ <;> omega
theorem own_e2 {t m : Int32} (I : own_In t m) (h : lcmpW ((2 : Int64) * t.toInt64) m.toInt64 = 0) : cmpValue (FP.dcmp (own_Q t m) (4602678819172646912 : UInt64)) .l = 0 := by
  have e := own_lcmp0 h
  rw [own_kmul 2 t (by decide) (by decide), c_i2l] at e
  have : (2 : Int64).toInt = 2 := rfl
  rw [this] at e
  exact own_quarter I own_k2 own_m2 (by omega) _
theorem own_e4 {t m : Int32} (I : own_In t m) (h : lcmpW ((4 : Int64) * t.toInt64) m.toInt64 = 0) : cmpValue (FP.dcmp (own_Q t m) (4598175219545276416 : UInt64)) .l = 0 := by
  have e := own_lcmp0 h
  rw [own_kmul 4 t (by decide) (by decide), c_i2l] at e
  have : (4 : Int64).toInt = 4 := rfl
  rw [this] at e
  exact own_quarter I own_k4 own_m4 (by omega) _
theorem own_e34 {t m : Int32} (I : own_In t m) (h : lcmpW ((4 : Int64) * t.toInt64) ((3 : Int64) * m.toInt64) = 0) : cmpValue (FP.dcmp (own_Q t m) (4604930618986332160 : UInt64)) .l = 0 := by
  have e := own_lcmp0 h
  rw [own_kmul 4 t (by decide) (by decide), own_kmul 3 m (by decide) (by decide)] at e
  have a : (4 : Int64).toInt = 4 := rfl
  have b : (3 : Int64).toInt = 3 := rfl
  rw [a, b] at e
  exact own_quarter I own_k34 own_m34 (by omega) _
theorem own_mul {t m t' m' : Int32} (I : own_In t m) (I' : own_In t' m') : (t.toInt64 * m'.toInt64).toInt = ((t.toInt.toNat * m'.toInt.toNat : Nat) : Int) := by
  obtain ⟨i1, i2, i3⟩ := I
  obtain ⟨j1, j2, j3⟩ := I'
  have a := c_lmul t.toInt64 m'.toInt64
  rw [c_i2l, c_i2l] at a
  have b1 := m.toInt_lt; have b2 := m'.toInt_lt
  have d1 := (t.toInt64 * m'.toInt64).le_toInt; have d2 := (t.toInt64 * m'.toInt64).toInt_lt
  rw [Int.natCast_mul, Int.toNat_of_nonneg i1, Int.toNat_of_nonneg (by omega)]
  have p0 : 0 ≤ t.toInt * m'.toInt := Int.mul_nonneg i1 (by omega)
  have p1 : t.toInt * m'.toInt ≤ 2147483647 * 2147483647 := Int.mul_le_mul (by omega) (by omega) (by omega) (by omega)
  omega
theorem own_ZL {t m t' m' : Int32} (I : own_In t m) (I' : own_In t' m') (h : t.toInt.toNat * m'.toInt.toNat ≤ t'.toInt.toNat * m.toInt.toNat) : own_Z t m ≤ own_Z t' m' := by
  obtain ⟨i1, i2, i3⟩ := I
  obtain ⟨j1, j2, j3⟩ := I'
  exact own_z_mono (by omega) (by omega) (by omega) (by omega) h
theorem own_lt {t m t' m' : Int32} (I : own_In t m) (I' : own_In t' m') (h : lcmpW (t.toInt64 * m'.toInt64) (t'.toInt64 * m.toInt64) < 0) : ∃ v, cmpValue (FP.dcmp (own_Q t m) (own_Q t' m')) .g = v ∧ ¬ (0 : Int32) < v := by
  have e := own_lcmpL h
  rw [own_mul I I', own_mul I' I] at e
  rw [own_QQ I I']; exact own_cmp_le (own_ZL I I' (by omega)) _
theorem own_gt {t m t' m' : Int32} (I : own_In t m) (I' : own_In t' m') (h : 0 < lcmpW (t.toInt64 * m'.toInt64) (t'.toInt64 * m.toInt64)) : ∃ v, cmpValue (FP.dcmp (own_Q t m) (own_Q t' m')) .l = v ∧ ¬ v < (0 : Int32) := by
  have e := own_lcmpG h
  rw [own_mul I I', own_mul I' I] at e
  rw [own_QQ I I']; exact own_cmp_ge (own_ZL I' I (by omega)) _
theorem own_eq {t m t' m' : Int32} (I : own_In t m) (I' : own_In t' m') (h : lcmpW (t.toInt64 * m'.toInt64) (t'.toInt64 * m.toInt64) = 0) : cmpValue (FP.dcmp (own_Q t m) (own_Q t' m')) .l = 0 := by
  have e := own_lcmp0 h
  rw [own_mul I I', own_mul I' I] at e
  rw [own_QQ I I']; exact own_cmp_eq (Nat.le_antisymm (own_ZL I I' (by omega)) (own_ZL I' I (by omega))) _
theorem own_Zs {t t' m : Int32} (I : own_In t m) (I' : own_In t' m) (h : t < t') : own_Z t m < own_Z t' m := by
  obtain ⟨i1, i2, i3⟩ := I
  obtain ⟨j1, j2, j3⟩ := I'
  have b := m.toInt_lt
  rw [Int32.lt_iff_toInt_lt] at h
  exact own_z_strict (by omega) (by omega) (by omega) (by omega)
theorem own_slt {t t' m : Int32} (I : own_In t m) (I' : own_In t' m) (h : t < t') : cmpValue (FP.dcmp (own_Q t m) (own_Q t' m)) .g = -1 := by rw [own_QQ I I']; exact own_cmp_lt (own_Zs I I' h) _
theorem own_sgt {t t' m : Int32} (I : own_In t m) (I' : own_In t' m) (h : t' < t) : cmpValue (FP.dcmp (own_Q t m) (own_Q t' m)) .l = 1 := by rw [own_QQ I I']; exact own_cmp_gt (own_Zs I' I h) _
theorem own_seq {t t' m : Int32} (I : own_In t m) (I' : own_In t' m) (h : t = t') : cmpValue (FP.dcmp (own_Q t m) (own_Q t' m)) .l = 0 := by subst h; rw [own_QQ I I']; exact own_cmp_eq rfl _
theorem own_lnn (x : Int64) : 0 ≤ (x &&& (4294967295 : Int64)).toInt := by
  show 0 ≤ (x &&& (4294967295 : Int64)).toBitVec.toInt
  rw [Int64.toBitVec_and, BitVec.toInt_eq_toNat_of_msb (by rw [BitVec.msb_and, show (4294967295 : Int64).toBitVec.msb = false from by decide, Bool.and_false])]
  exact Int.natCast_nonneg _
theorem own_m1l {m : Int32} (hm : ¬ m < (1 : Int32)) : (m.toInt64 + (1 : Int64)).toInt = m.toInt + 1 ∧ 0 < m.toInt := by
  rw [Int32.lt_iff_toInt_lt] at hm
  have e1 : (1 : Int32).toInt = 1 := rfl
  have e2 : (1 : Int64).toInt = 1 := rfl
  have a := c_ladd m.toInt64 1
  rw [c_i2l, e2] at a
  have b1 := m.toInt_lt
  have d1 := (m.toInt64 + (1 : Int64)).le_toInt; have d2 := (m.toInt64 + (1 : Int64)).toInt_lt
  omega
theorem own_m1n {m : Int32} (hm : ¬ m < (1 : Int32)) : m.toInt64 + (1 : Int64) ≠ 0 := fun q => by
  have a := own_m1l hm
  rw [q] at a
  have e : (0 : Int64).toInt = 0 := rfl
  omega
theorem own_tIn {x : Int64} {m t : Int32} (hm : ¬ m < (1 : Int32)) (h : ((x &&& (4294967295 : Int64)) % (m.toInt64 + (1 : Int64))).toInt32 = t) : own_In t m := by
  have a := own_m1l hm
  have hx := own_lnn x
  generalize x &&& (4294967295 : Int64) = X at *
  generalize m.toInt64 + (1 : Int64) = Y at *
  have e : (X % Y).toInt = X.toInt % Y.toInt := by rw [Int64.toInt_mod, Int.tmod_eq_emod_of_nonneg hx]
  have g0 := Int.emod_nonneg X.toInt (show Y.toInt ≠ 0 by omega)
  have g1 := Int.emod_lt_of_pos X.toInt (show 0 < Y.toInt by omega)
  have l := c_l2i (X % Y)
  rw [h, e] at l
  have b1 := t.le_toInt; have b2 := t.toInt_lt; have b3 := m.toInt_lt
  unfold own_In
  generalize X.toInt % Y.toInt = w at *
  omega

theorem own_max1 {p : Int32} (h : (1 : Int32) < p) : ¬ p < (1 : Int32) := by rw [Int32.lt_iff_toInt_lt] at *; omega
theorem own_lmask (x : Int64) : ¬ (x &&& (255 : Int64)).toInt32 < 0 ∧ ¬ (255 : Int32) < (x &&& (255 : Int64)).toInt32 := by
  have e : (x &&& (255 : Int64)).toInt32 = x.toInt32 &&& (255 : Int32) := Int64.toInt32_and x 255
  rw [e]; exact own_mask _
theorem own_lmc (x : Int64) : (x &&& (255 : Int64)).toInt32.toUInt32.toUInt16.toUInt32.toInt32 = (x &&& (255 : Int64)).toInt32 := (own_char (own_lmask x).1 (own_lmask x).2).2
theorem ow_0 {Z : State} {a0 : Array Value} (hw : ∀ d ∈ tables_1, d.before a0 Z = true) : (Jvm.Cond.constant "com/example/kinsmark/kinsmark/evaluation/CategoryResultCredibilityPinLaw" (19 : Nat) (2147483647 : Int32)).before a0 Z = true := hw _ (List.mem_of_getElem? (i := 0) rfl)
theorem ow_1 {Z : State} {a0 : Array Value} (hw : ∀ d ∈ tables_1, d.before a0 Z = true) : (Jvm.Cond.methodLink "com/example/kinsmark/kinsmark/evaluation/CategoryResultCredibilityPinLaw" (20 : Nat) ({ cls := "java/lang/Math", name := "max", desc := "(II)I" } : Jvm.MethodName)).before a0 Z = true := hw _ (List.mem_of_getElem? (i := 1) rfl)
theorem ow_2 {Z : State} {a0 : Array Value} (hw : ∀ d ∈ tables_1, d.before a0 Z = true) : (Jvm.Cond.static ({ cls := "java/lang/Math", name := "max", desc := "(II)I" } : Jvm.MethodName)).before a0 Z = true := hw _ (List.mem_of_getElem? (i := 2) rfl)
theorem ow_3 {Z : State} {a0 : Array Value} (hw : ∀ d ∈ tables_1, d.before a0 Z = true) : (Jvm.Cond.initialized "java/lang/Math").before a0 Z = true := hw _ (List.mem_of_getElem? (i := 3) rfl)
theorem ow_4 {Z : State} {a0 : Array Value} (hw : ∀ d ∈ tables_1, d.before a0 Z = true) : (Jvm.Cond.code ({ cls := "java/lang/Math", name := "max", desc := "(II)I" } : Jvm.MethodName) jdk_29_method_65_code (2 : Nat) (Option.some Jvm.ClassFile.FieldType.int)).before a0 Z = true := hw _ (List.mem_of_getElem? (i := 4) rfl)
theorem ow_5 {Z : State} {a0 : Array Value} (hw : ∀ d ∈ tables_1, d.before a0 Z = true) : (Jvm.Cond.constantLong "com/example/kinsmark/kinsmark/evaluation/CategoryResultCredibilityPinLaw" (26 : Nat) (4294967295 : Int64)).before a0 Z = true := hw _ (List.mem_of_getElem? (i := 5) rfl)
theorem ow_6 {Z : State} {a0 : Array Value} (hw : ∀ d ∈ tables_1, d.before a0 Z = true) : (Jvm.Cond.constantLong "com/example/kinsmark/kinsmark/evaluation/CategoryResultCredibilityPinLaw" (28 : Nat) (255 : Int64)).before a0 Z = true := hw _ (List.mem_of_getElem? (i := 6) rfl)
theorem ow_7 {Z : State} {a0 : Array Value} (hw : ∀ d ∈ tables_1, d.before a0 Z = true) : (Jvm.Cond.methodLink "com/example/kinsmark/kinsmark/evaluation/CategoryResultCredibilityPinLaw" (30 : Nat) ({ cls := "java/lang/String", name := "valueOf", desc := "(C)Ljava/lang/String;" } : Jvm.MethodName)).before a0 Z = true := hw _ (List.mem_of_getElem? (i := 7) rfl)
theorem ow_8 {Z : State} {a0 : Array Value} (hw : ∀ d ∈ tables_1, d.before a0 Z = true) : (Jvm.Cond.static ({ cls := "java/lang/String", name := "valueOf", desc := "(C)Ljava/lang/String;" } : Jvm.MethodName)).before a0 Z = true := hw _ (List.mem_of_getElem? (i := 8) rfl)
theorem ow_9 {Z : State} {a0 : Array Value} (hw : ∀ d ∈ tables_1, d.before a0 Z = true) : (Jvm.Cond.initialized "java/lang/String").before a0 Z = true := hw _ (List.mem_of_getElem? (i := 9) rfl)
theorem ow_10 {Z : State} {a0 : Array Value} (hw : ∀ d ∈ tables_1, d.before a0 Z = true) : (Jvm.Cond.code ({ cls := "java/lang/String", name := "valueOf", desc := "(C)Ljava/lang/String;" } : Jvm.MethodName) jdk_42_method_139_code (1 : Nat) (Option.some (Jvm.ClassFile.FieldType.object "java/lang/String"))).before a0 Z = true := hw _ (List.mem_of_getElem? (i := 10) rfl)
theorem ow_11 {Z : State} {a0 : Array Value} (hw : ∀ d ∈ tables_1, d.before a0 Z = true) : (Jvm.Cond.fieldLink "java/lang/String" (38 : Nat) "java/lang/String" "COMPACT_STRINGS" "Z").before a0 Z = true := hw _ (List.mem_of_getElem? (i := 11) rfl)
theorem ow_12 {Z : State} {a0 : Array Value} (hw : ∀ d ∈ tables_1, d.before a0 Z = true) : (Jvm.Cond.methodLink "java/lang/String" (1015 : Nat) ({ cls := "java/lang/StringLatin1", name := "canEncode", desc := "(C)Z" } : Jvm.MethodName)).before a0 Z = true := hw _ (List.mem_of_getElem? (i := 12) rfl)
theorem ow_13 {Z : State} {a0 : Array Value} (hw : ∀ d ∈ tables_1, d.before a0 Z = true) : (Jvm.Cond.static ({ cls := "java/lang/StringLatin1", name := "canEncode", desc := "(C)Z" } : Jvm.MethodName)).before a0 Z = true := hw _ (List.mem_of_getElem? (i := 13) rfl)
theorem ow_14 {Z : State} {a0 : Array Value} (hw : ∀ d ∈ tables_1, d.before a0 Z = true) : (Jvm.Cond.initialized "java/lang/StringLatin1").before a0 Z = true := hw _ (List.mem_of_getElem? (i := 14) rfl)
theorem ow_15 {Z : State} {a0 : Array Value} (hw : ∀ d ∈ tables_1, d.before a0 Z = true) : (Jvm.Cond.code ({ cls := "java/lang/StringLatin1", name := "canEncode", desc := "(C)Z" } : Jvm.MethodName) jdk_43_method_3_code (1 : Nat) (Option.some Jvm.ClassFile.FieldType.boolean)).before a0 Z = true := hw _ (List.mem_of_getElem? (i := 15) rfl)
theorem ow_16 {Z : State} {a0 : Array Value} (hw : ∀ d ∈ tables_1, d.before a0 Z = true) : (Jvm.Cond.classLink "java/lang/String" (10 : Nat) "java/lang/String").before a0 Z = true := hw _ (List.mem_of_getElem? (i := 16) rfl)
theorem ow_17 {Z : State} {a0 : Array Value} (hw : ∀ d ∈ tables_1, d.before a0 Z = true) : (Jvm.Cond.instantiable "java/lang/String" (4 : Nat)).before a0 Z = true := hw _ (List.mem_of_getElem? (i := 17) rfl)
theorem ow_18 {Z : State} {a0 : Array Value} (hw : ∀ d ∈ tables_1, d.before a0 Z = true) : (Jvm.Cond.methodLink "java/lang/String" (1018 : Nat) ({ cls := "java/lang/StringLatin1", name := "toBytes", desc := "(C)[B" } : Jvm.MethodName)).before a0 Z = true := hw _ (List.mem_of_getElem? (i := 18) rfl)
theorem ow_19 {Z : State} {a0 : Array Value} (hw : ∀ d ∈ tables_1, d.before a0 Z = true) : (Jvm.Cond.static ({ cls := "java/lang/StringLatin1", name := "toBytes", desc := "(C)[B" } : Jvm.MethodName)).before a0 Z = true := hw _ (List.mem_of_getElem? (i := 19) rfl)
theorem ow_20 {Z : State} {a0 : Array Value} (hw : ∀ d ∈ tables_1, d.before a0 Z = true) : (Jvm.Cond.code ({ cls := "java/lang/StringLatin1", name := "toBytes", desc := "(C)[B" } : Jvm.MethodName) jdk_43_method_46_code (1 : Nat) (Option.some (Jvm.ClassFile.FieldType.array Jvm.ClassFile.FieldType.byte))).before a0 Z = true := hw _ (List.mem_of_getElem? (i := 20) rfl)
theorem ow_21 {Z : State} {a0 : Array Value} (hw : ∀ d ∈ tables_1, d.before a0 Z = true) : (Jvm.Cond.arrayClass Jvm.ClassFile.FieldType.byte).before a0 Z = true := hw _ (List.mem_of_getElem? (i := 21) rfl)
theorem ow_22 {Z : State} {a0 : Array Value} (hw : ∀ d ∈ tables_1, d.before a0 Z = true) : (Jvm.Cond.methodLink "java/lang/String" (209 : Nat) ({ cls := "java/lang/String", name := "<init>", desc := "([BB)V" } : Jvm.MethodName)).before a0 Z = true := hw _ (List.mem_of_getElem? (i := 22) rfl)
theorem ow_23 {Z : State} {a0 : Array Value} (hw : ∀ d ∈ tables_1, d.before a0 Z = true) : (Jvm.Cond.instanceMethod ({ cls := "java/lang/String", name := "<init>", desc := "([BB)V" } : Jvm.MethodName)).before a0 Z = true := hw _ (List.mem_of_getElem? (i := 23) rfl)
theorem ow_25 {Z : State} {a0 : Array Value} (hw : ∀ d ∈ tables_1, d.before a0 Z = true) : (Jvm.Cond.code ({ cls := "java/lang/String", name := "<init>", desc := "([BB)V" } : Jvm.MethodName) jdk_42_method_151_code (3 : Nat) (Option.none : Option Jvm.ClassFile.FieldType)).before a0 Z = true := hw _ (List.mem_of_getElem? (i := 25) rfl)
theorem ow_26 {Z : State} {a0 : Array Value} (hw : ∀ d ∈ tables_1, d.before a0 Z = true) : (Jvm.Cond.methodLink "java/lang/String" (1 : Nat) ({ cls := "java/lang/Object", name := "<init>", desc := "()V" } : Jvm.MethodName)).before a0 Z = true := hw _ (List.mem_of_getElem? (i := 26) rfl)
theorem ow_27 {Z : State} {a0 : Array Value} (hw : ∀ d ∈ tables_1, d.before a0 Z = true) : (Jvm.Cond.instanceMethod ({ cls := "java/lang/Object", name := "<init>", desc := "()V" } : Jvm.MethodName)).before a0 Z = true := hw _ (List.mem_of_getElem? (i := 27) rfl)
theorem ow_28 {Z : State} {a0 : Array Value} (hw : ∀ d ∈ tables_1, d.before a0 Z = true) : (Jvm.Cond.code ({ cls := "java/lang/Object", name := "<init>", desc := "()V" } : Jvm.MethodName) object_method_1_code (1 : Nat) (Option.none : Option Jvm.ClassFile.FieldType)).before a0 Z = true := hw _ (List.mem_of_getElem? (i := 28) rfl)
theorem ow_29 {Z : State} {a0 : Array Value} (hw : ∀ d ∈ tables_1, d.before a0 Z = true) : (Jvm.Cond.fieldLink "java/lang/String" (9 : Nat) "java/lang/String" "value" "[B").before a0 Z = true := hw _ (List.mem_of_getElem? (i := 29) rfl)
theorem ow_30 {Z : State} {a0 : Array Value} (hw : ∀ d ∈ tables_1, d.before a0 Z = true) : (Jvm.Cond.laysFinal "java/lang/String" "java/lang/String" "value" "[B").before a0 Z = true := hw _ (List.mem_of_getElem? (i := 30) rfl)
theorem ow_31 {Z : State} {a0 : Array Value} (hw : ∀ d ∈ tables_1, d.before a0 Z = true) : (Jvm.Cond.fieldLink "java/lang/String" (15 : Nat) "java/lang/String" "coder" "B").before a0 Z = true := hw _ (List.mem_of_getElem? (i := 31) rfl)
theorem ow_32 {Z : State} {a0 : Array Value} (hw : ∀ d ∈ tables_1, d.before a0 Z = true) : (Jvm.Cond.laysFinal "java/lang/String" "java/lang/String" "coder" "B").before a0 Z = true := hw _ (List.mem_of_getElem? (i := 32) rfl)
theorem ow_33 {Z : State} {a0 : Array Value} (hw : ∀ d ∈ tables_1, d.before a0 Z = true) : (Jvm.Cond.classLink "com/example/kinsmark/kinsmark/evaluation/CategoryResultCredibilityPinLaw" (36 : Nat) "com/example/kinsmark/kinsmark/evaluation/CategoryResult").before a0 Z = true := hw _ (List.mem_of_getElem? (i := 33) rfl)
theorem ow_34 {Z : State} {a0 : Array Value} (hw : ∀ d ∈ tables_1, d.before a0 Z = true) : (Jvm.Cond.instantiable "com/example/kinsmark/kinsmark/evaluation/CategoryResult" (6 : Nat)).before a0 Z = true := hw _ (List.mem_of_getElem? (i := 34) rfl)
theorem ow_35 {Z : State} {a0 : Array Value} (hw : ∀ d ∈ tables_1, d.before a0 Z = true) : (Jvm.Cond.initialized "com/example/kinsmark/kinsmark/evaluation/CategoryResult").before a0 Z = true := hw _ (List.mem_of_getElem? (i := 35) rfl)
theorem ow_36 {Z : State} {a0 : Array Value} (hw : ∀ d ∈ tables_1, d.before a0 Z = true) : (Jvm.Cond.methodLink "com/example/kinsmark/kinsmark/evaluation/CategoryResultCredibilityPinLaw" (38 : Nat) ({ cls := "com/example/kinsmark/kinsmark/evaluation/CategoryResult", name := "<init>", desc := "(Ljava/lang/String;IIIII)V" } : Jvm.MethodName)).before a0 Z = true := hw _ (List.mem_of_getElem? (i := 36) rfl)
theorem ow_37 {Z : State} {a0 : Array Value} (hw : ∀ d ∈ tables_1, d.before a0 Z = true) : (Jvm.Cond.instanceMethod ({ cls := "com/example/kinsmark/kinsmark/evaluation/CategoryResult", name := "<init>", desc := "(Ljava/lang/String;IIIII)V" } : Jvm.MethodName)).before a0 Z = true := hw _ (List.mem_of_getElem? (i := 37) rfl)
theorem ow_38 {Z : State} {a0 : Array Value} (hw : ∀ d ∈ tables_1, d.before a0 Z = true) : (Jvm.Cond.code ({ cls := "com/example/kinsmark/kinsmark/evaluation/CategoryResult", name := "<init>", desc := "(Ljava/lang/String;IIIII)V" } : Jvm.MethodName) prog_3_method_1_code (7 : Nat) (Option.none : Option Jvm.ClassFile.FieldType)).before a0 Z = true := hw _ (List.mem_of_getElem? (i := 38) rfl)
theorem ow_39 {Z : State} {a0 : Array Value} (hw : ∀ d ∈ tables_1, d.before a0 Z = true) : (Jvm.Cond.methodLink "com/example/kinsmark/kinsmark/evaluation/CategoryResult" (1 : Nat) ({ cls := "java/lang/Record", name := "<init>", desc := "()V" } : Jvm.MethodName)).before a0 Z = true := hw _ (List.mem_of_getElem? (i := 39) rfl)
theorem ow_40 {Z : State} {a0 : Array Value} (hw : ∀ d ∈ tables_1, d.before a0 Z = true) : (Jvm.Cond.instanceMethod ({ cls := "java/lang/Record", name := "<init>", desc := "()V" } : Jvm.MethodName)).before a0 Z = true := hw _ (List.mem_of_getElem? (i := 40) rfl)
theorem ow_42 {Z : State} {a0 : Array Value} (hw : ∀ d ∈ tables_1, d.before a0 Z = true) : (Jvm.Cond.initialized "java/lang/Record").before a0 Z = true := hw _ (List.mem_of_getElem? (i := 42) rfl)
theorem ow_43 {Z : State} {a0 : Array Value} (hw : ∀ d ∈ tables_1, d.before a0 Z = true) : (Jvm.Cond.code ({ cls := "java/lang/Record", name := "<init>", desc := "()V" } : Jvm.MethodName) jdk_30_method_1_code (1 : Nat) (Option.none : Option Jvm.ClassFile.FieldType)).before a0 Z = true := hw _ (List.mem_of_getElem? (i := 43) rfl)
theorem ow_44 {Z : State} {a0 : Array Value} (hw : ∀ d ∈ tables_1, d.before a0 Z = true) : (Jvm.Cond.methodLink "java/lang/Record" (1 : Nat) ({ cls := "java/lang/Object", name := "<init>", desc := "()V" } : Jvm.MethodName)).before a0 Z = true := hw _ (List.mem_of_getElem? (i := 44) rfl)
theorem ow_45 {Z : State} {a0 : Array Value} (hw : ∀ d ∈ tables_1, d.before a0 Z = true) : (Jvm.Cond.fieldLink "com/example/kinsmark/kinsmark/evaluation/CategoryResult" (7 : Nat) "com/example/kinsmark/kinsmark/evaluation/CategoryResult" "category" "Ljava/lang/String;").before a0 Z = true := hw _ (List.mem_of_getElem? (i := 45) rfl)
theorem ow_46 {Z : State} {a0 : Array Value} (hw : ∀ d ∈ tables_1, d.before a0 Z = true) : (Jvm.Cond.laysFinal "com/example/kinsmark/kinsmark/evaluation/CategoryResult" "com/example/kinsmark/kinsmark/evaluation/CategoryResult" "category" "Ljava/lang/String;").before a0 Z = true := hw _ (List.mem_of_getElem? (i := 46) rfl)
theorem ow_47 {Z : State} {a0 : Array Value} (hw : ∀ d ∈ tables_1, d.before a0 Z = true) : (Jvm.Cond.fieldLink "com/example/kinsmark/kinsmark/evaluation/CategoryResult" (13 : Nat) "com/example/kinsmark/kinsmark/evaluation/CategoryResult" "reused" "I").before a0 Z = true := hw _ (List.mem_of_getElem? (i := 47) rfl)
theorem ow_48 {Z : State} {a0 : Array Value} (hw : ∀ d ∈ tables_1, d.before a0 Z = true) : (Jvm.Cond.laysFinal "com/example/kinsmark/kinsmark/evaluation/CategoryResult" "com/example/kinsmark/kinsmark/evaluation/CategoryResult" "reused" "I").before a0 Z = true := hw _ (List.mem_of_getElem? (i := 48) rfl)
theorem ow_49 {Z : State} {a0 : Array Value} (hw : ∀ d ∈ tables_1, d.before a0 Z = true) : (Jvm.Cond.fieldLink "com/example/kinsmark/kinsmark/evaluation/CategoryResult" (17 : Nat) "com/example/kinsmark/kinsmark/evaluation/CategoryResult" "independent" "I").before a0 Z = true := hw _ (List.mem_of_getElem? (i := 49) rfl)
theorem ow_50 {Z : State} {a0 : Array Value} (hw : ∀ d ∈ tables_1, d.before a0 Z = true) : (Jvm.Cond.laysFinal "com/example/kinsmark/kinsmark/evaluation/CategoryResult" "com/example/kinsmark/kinsmark/evaluation/CategoryResult" "independent" "I").before a0 Z = true := hw _ (List.mem_of_getElem? (i := 50) rfl)
theorem ow_51 {Z : State} {a0 : Array Value} (hw : ∀ d ∈ tables_1, d.before a0 Z = true) : (Jvm.Cond.fieldLink "com/example/kinsmark/kinsmark/evaluation/CategoryResult" (20 : Nat) "com/example/kinsmark/kinsmark/evaluation/CategoryResult" "perMille" "I").before a0 Z = true := hw _ (List.mem_of_getElem? (i := 51) rfl)
theorem ow_52 {Z : State} {a0 : Array Value} (hw : ∀ d ∈ tables_1, d.before a0 Z = true) : (Jvm.Cond.laysFinal "com/example/kinsmark/kinsmark/evaluation/CategoryResult" "com/example/kinsmark/kinsmark/evaluation/CategoryResult" "perMille" "I").before a0 Z = true := hw _ (List.mem_of_getElem? (i := 52) rfl)
theorem ow_53 {Z : State} {a0 : Array Value} (hw : ∀ d ∈ tables_1, d.before a0 Z = true) : (Jvm.Cond.fieldLink "com/example/kinsmark/kinsmark/evaluation/CategoryResult" (23 : Nat) "com/example/kinsmark/kinsmark/evaluation/CategoryResult" "reusedSimilar" "I").before a0 Z = true := hw _ (List.mem_of_getElem? (i := 53) rfl)
theorem ow_54 {Z : State} {a0 : Array Value} (hw : ∀ d ∈ tables_1, d.before a0 Z = true) : (Jvm.Cond.laysFinal "com/example/kinsmark/kinsmark/evaluation/CategoryResult" "com/example/kinsmark/kinsmark/evaluation/CategoryResult" "reusedSimilar" "I").before a0 Z = true := hw _ (List.mem_of_getElem? (i := 54) rfl)
theorem ow_55 {Z : State} {a0 : Array Value} (hw : ∀ d ∈ tables_1, d.before a0 Z = true) : (Jvm.Cond.fieldLink "com/example/kinsmark/kinsmark/evaluation/CategoryResult" (26 : Nat) "com/example/kinsmark/kinsmark/evaluation/CategoryResult" "independentNotSimilar" "I").before a0 Z = true := hw _ (List.mem_of_getElem? (i := 55) rfl)
theorem ow_56 {Z : State} {a0 : Array Value} (hw : ∀ d ∈ tables_1, d.before a0 Z = true) : (Jvm.Cond.laysFinal "com/example/kinsmark/kinsmark/evaluation/CategoryResult" "com/example/kinsmark/kinsmark/evaluation/CategoryResult" "independentNotSimilar" "I").before a0 Z = true := hw _ (List.mem_of_getElem? (i := 56) rfl)
theorem ow_57 {Z : State} {a0 : Array Value} (hw : ∀ d ∈ tables_1, d.before a0 Z = true) : (Jvm.Cond.methodLink "com/example/kinsmark/kinsmark/evaluation/CategoryResultCredibilityPinLaw" (41 : Nat) ({ cls := "com/example/kinsmark/kinsmark/evaluation/CategoryResult", name := "credibility", desc := "()D" } : Jvm.MethodName)).before a0 Z = true := hw _ (List.mem_of_getElem? (i := 57) rfl)
theorem ow_58 {Z : State} {a0 : Array Value} (hw : ∀ d ∈ tables_1, d.before a0 Z = true) : (Jvm.Cond.declares ({ cls := "com/example/kinsmark/kinsmark/evaluation/CategoryResult", name := "credibility", desc := "()D" } : Jvm.MethodName)).before a0 Z = true := hw _ (List.mem_of_getElem? (i := 58) rfl)
theorem ow_59 {Z : State} {a0 : Array Value} (hw : ∀ d ∈ tables_1, d.before a0 Z = true) : (Jvm.Cond.instanceMethod ({ cls := "com/example/kinsmark/kinsmark/evaluation/CategoryResult", name := "credibility", desc := "()D" } : Jvm.MethodName)).before a0 Z = true := hw _ (List.mem_of_getElem? (i := 59) rfl)
theorem ow_60 {Z : State} {a0 : Array Value} (hw : ∀ d ∈ tables_1, d.before a0 Z = true) : (Jvm.Cond.selects "com/example/kinsmark/kinsmark/evaluation/CategoryResult" ({ cls := "com/example/kinsmark/kinsmark/evaluation/CategoryResult", name := "credibility", desc := "()D" } : Jvm.MethodName) ({ cls := "com/example/kinsmark/kinsmark/evaluation/CategoryResult", name := "credibility", desc := "()D" } : Jvm.MethodName)).before a0 Z = true := hw _ (List.mem_of_getElem? (i := 60) rfl)
theorem ow_61 {Z : State} {a0 : Array Value} (hw : ∀ d ∈ tables_1, d.before a0 Z = true) : (Jvm.Cond.code ({ cls := "com/example/kinsmark/kinsmark/evaluation/CategoryResult", name := "credibility", desc := "()D" } : Jvm.MethodName) prog_3_method_5_code (1 : Nat) (Option.some Jvm.ClassFile.FieldType.double)).before a0 Z = true := hw _ (List.mem_of_getElem? (i := 61) rfl)
theorem ow_62 {Z : State} {a0 : Array Value} (hw : ∀ d ∈ tables_1, d.before a0 Z = true) : (Jvm.Cond.methodLink "com/example/kinsmark/kinsmark/evaluation/CategoryResultCredibilityPinLaw" (45 : Nat) ({ cls := "com/example/kinsmark/kinsmark/evaluation/CategoryResultCredibilityPinLaw", name := "fixedPoints", desc := "(IID)Z" } : Jvm.MethodName)).before a0 Z = true := hw _ (List.mem_of_getElem? (i := 62) rfl)
theorem ow_63 {Z : State} {a0 : Array Value} (hw : ∀ d ∈ tables_1, d.before a0 Z = true) : (Jvm.Cond.static ({ cls := "com/example/kinsmark/kinsmark/evaluation/CategoryResultCredibilityPinLaw", name := "fixedPoints", desc := "(IID)Z" } : Jvm.MethodName)).before a0 Z = true := hw _ (List.mem_of_getElem? (i := 63) rfl)
theorem ow_64 {Z : State} {a0 : Array Value} (hw : ∀ d ∈ tables_1, d.before a0 Z = true) : (Jvm.Cond.initialized "com/example/kinsmark/kinsmark/evaluation/CategoryResultCredibilityPinLaw").before a0 Z = true := hw _ (List.mem_of_getElem? (i := 64) rfl)
theorem ow_65 {Z : State} {a0 : Array Value} (hw : ∀ d ∈ tables_1, d.before a0 Z = true) : (Jvm.Cond.code ({ cls := "com/example/kinsmark/kinsmark/evaluation/CategoryResultCredibilityPinLaw", name := "fixedPoints", desc := "(IID)Z" } : Jvm.MethodName) method_2_code (5 : Nat) (Option.some Jvm.ClassFile.FieldType.boolean)).before a0 Z = true := hw _ (List.mem_of_getElem? (i := 65) rfl)
theorem ow_66 {Z : State} {a0 : Array Value} (hw : ∀ d ∈ tables_1, d.before a0 Z = true) : (Jvm.Cond.constantLong "com/example/kinsmark/kinsmark/evaluation/CategoryResultCredibilityPinLaw" (7 : Nat) (2 : Int64)).before a0 Z = true := hw _ (List.mem_of_getElem? (i := 66) rfl)
theorem ow_67 {Z : State} {a0 : Array Value} (hw : ∀ d ∈ tables_1, d.before a0 Z = true) : (Jvm.Cond.constantLong "com/example/kinsmark/kinsmark/evaluation/CategoryResultCredibilityPinLaw" (11 : Nat) (4 : Int64)).before a0 Z = true := hw _ (List.mem_of_getElem? (i := 67) rfl)
theorem ow_68 {Z : State} {a0 : Array Value} (hw : ∀ d ∈ tables_1, d.before a0 Z = true) : (Jvm.Cond.constantLong "com/example/kinsmark/kinsmark/evaluation/CategoryResultCredibilityPinLaw" (15 : Nat) (3 : Int64)).before a0 Z = true := hw _ (List.mem_of_getElem? (i := 68) rfl)
theorem ow_69 {Z : State} {a0 : Array Value} (hw : ∀ d ∈ tables_1, d.before a0 Z = true) : (Jvm.Cond.constantDouble "com/example/kinsmark/kinsmark/evaluation/CategoryResultCredibilityPinLaw" (9 : Nat) (4602678819172646912 : UInt64)).before a0 Z = true := hw _ (List.mem_of_getElem? (i := 69) rfl)
theorem ow_70 {Z : State} {a0 : Array Value} (hw : ∀ d ∈ tables_1, d.before a0 Z = true) : (Jvm.Cond.constantDouble "com/example/kinsmark/kinsmark/evaluation/CategoryResultCredibilityPinLaw" (17 : Nat) (4604930618986332160 : UInt64)).before a0 Z = true := hw _ (List.mem_of_getElem? (i := 70) rfl)
theorem ow_71 {Z : State} {a0 : Array Value} (hw : ∀ d ∈ tables_1, d.before a0 Z = true) : (Jvm.Cond.constantDouble "com/example/kinsmark/kinsmark/evaluation/CategoryResultCredibilityPinLaw" (13 : Nat) (4598175219545276416 : UInt64)).before a0 Z = true := hw _ (List.mem_of_getElem? (i := 71) rfl)
theorem od_jdk_43_method_3_0 : decode jdk_43_method_3_code 0 = .ok (.iload_n 0, 1) := by decide +kernel
theorem od_jdk_43_method_3_1 : decode jdk_43_method_3_code 1 = .ok (.sipush 255, 3) := by decide +kernel
theorem od_jdk_43_method_3_4 : decode jdk_43_method_3_code 4 = .ok (.if_icmp .gt 7, 3) := by decide +kernel
theorem od_jdk_43_method_3_7 : decode jdk_43_method_3_code 7 = .ok (.iconst 1, 1) := by decide +kernel
theorem od_jdk_43_method_3_8 : decode jdk_43_method_3_code 8 = .ok (.goto 4, 3) := by decide +kernel
theorem od_jdk_43_method_3_12 : decode jdk_43_method_3_code 12 = .ok (.ireturn, 1) := by decide +kernel
theorem od_jdk_43_method_46_0 : decode jdk_43_method_46_code 0 = .ok (.iconst 1, 1) := by decide +kernel
theorem od_jdk_43_method_46_1 : decode jdk_43_method_46_code 1 = .ok (.newarray .byte, 2) := by decide +kernel
theorem od_jdk_43_method_46_3 : decode jdk_43_method_46_code 3 = .ok (.dup, 1) := by decide +kernel
theorem od_jdk_43_method_46_4 : decode jdk_43_method_46_code 4 = .ok (.iconst 0, 1) := by decide +kernel
theorem od_jdk_43_method_46_5 : decode jdk_43_method_46_code 5 = .ok (.iload_n 0, 1) := by decide +kernel
theorem od_jdk_43_method_46_6 : decode jdk_43_method_46_code 6 = .ok (.i2b, 1) := by decide +kernel
theorem od_jdk_43_method_46_7 : decode jdk_43_method_46_code 7 = .ok (.bastore, 1) := by decide +kernel
theorem od_jdk_43_method_46_8 : decode jdk_43_method_46_code 8 = .ok (.areturn, 1) := by decide +kernel
theorem od_jdk_42_method_151_0 : decode jdk_42_method_151_code 0 = .ok (.aload_n 0, 1) := by decide +kernel
theorem od_jdk_42_method_151_1 : decode jdk_42_method_151_code 1 = .ok (.invokespecial 1, 3) := by decide +kernel
theorem od_jdk_42_method_151_4 : decode jdk_42_method_151_code 4 = .ok (.aload_n 0, 1) := by decide +kernel
theorem od_jdk_42_method_151_5 : decode jdk_42_method_151_code 5 = .ok (.aload_n 1, 1) := by decide +kernel
theorem od_jdk_42_method_151_6 : decode jdk_42_method_151_code 6 = .ok (.putfield 9, 3) := by decide +kernel
theorem od_jdk_42_method_151_9 : decode jdk_42_method_151_code 9 = .ok (.aload_n 0, 1) := by decide +kernel
theorem od_jdk_42_method_151_10 : decode jdk_42_method_151_code 10 = .ok (.iload_n 2, 1) := by decide +kernel
theorem od_jdk_42_method_151_11 : decode jdk_42_method_151_code 11 = .ok (.putfield 15, 3) := by decide +kernel
theorem od_jdk_42_method_151_14 : decode jdk_42_method_151_code 14 = .ok (.return_, 1) := by decide +kernel
theorem od_jdk_42_method_139_0 : decode jdk_42_method_139_code 0 = .ok (.getstatic 38, 3) := by decide +kernel
theorem od_jdk_42_method_139_3 : decode jdk_42_method_139_code 3 = .ok (.ifCond .eq 23, 3) := by decide +kernel
theorem od_jdk_42_method_139_6 : decode jdk_42_method_139_code 6 = .ok (.iload_n 0, 1) := by decide +kernel
theorem od_jdk_42_method_139_7 : decode jdk_42_method_139_code 7 = .ok (.invokestatic 1015, 3) := by decide +kernel
theorem od_jdk_42_method_139_10 : decode jdk_42_method_139_code 10 = .ok (.ifCond .eq 16, 3) := by decide +kernel
theorem od_jdk_42_method_139_13 : decode jdk_42_method_139_code 13 = .ok (.new 10, 3) := by decide +kernel
theorem od_jdk_42_method_139_16 : decode jdk_42_method_139_code 16 = .ok (.dup, 1) := by decide +kernel
theorem od_jdk_42_method_139_17 : decode jdk_42_method_139_code 17 = .ok (.iload_n 0, 1) := by decide +kernel
theorem od_jdk_42_method_139_18 : decode jdk_42_method_139_code 18 = .ok (.invokestatic 1018, 3) := by decide +kernel
theorem od_jdk_42_method_139_21 : decode jdk_42_method_139_code 21 = .ok (.iconst 0, 1) := by decide +kernel
theorem od_jdk_42_method_139_22 : decode jdk_42_method_139_code 22 = .ok (.invokespecial 209, 3) := by decide +kernel
theorem od_jdk_42_method_139_25 : decode jdk_42_method_139_code 25 = .ok (.areturn, 1) := by decide +kernel
theorem od_jdk_30_method_1_0 : decode jdk_30_method_1_code 0 = .ok (.aload_n 0, 1) := by decide +kernel
theorem od_jdk_30_method_1_1 : decode jdk_30_method_1_code 1 = .ok (.invokespecial 1, 3) := by decide +kernel
theorem od_jdk_30_method_1_4 : decode jdk_30_method_1_code 4 = .ok (.return_, 1) := by decide +kernel
theorem od_jdk_29_method_65_0 : decode jdk_29_method_65_code 0 = .ok (.iload_n 0, 1) := by decide +kernel
theorem od_jdk_29_method_65_1 : decode jdk_29_method_65_code 1 = .ok (.iload_n 1, 1) := by decide +kernel
theorem od_jdk_29_method_65_2 : decode jdk_29_method_65_code 2 = .ok (.if_icmp .lt 7, 3) := by decide +kernel
theorem od_jdk_29_method_65_9 : decode jdk_29_method_65_code 9 = .ok (.iload_n 1, 1) := by decide +kernel
theorem od_jdk_29_method_65_10 : decode jdk_29_method_65_code 10 = .ok (.ireturn, 1) := by decide +kernel
theorem od_jdk_29_method_65_5 : decode jdk_29_method_65_code 5 = .ok (.iload_n 0, 1) := by decide +kernel
theorem od_jdk_29_method_65_6 : decode jdk_29_method_65_code 6 = .ok (.goto 4, 3) := by decide +kernel
theorem od_prog_3_method_1_0 : decode prog_3_method_1_code 0 = .ok (.aload_n 0, 1) := by decide +kernel
theorem od_prog_3_method_1_1 : decode prog_3_method_1_code 1 = .ok (.invokespecial 1, 3) := by decide +kernel
theorem od_prog_3_method_1_4 : decode prog_3_method_1_code 4 = .ok (.aload_n 0, 1) := by decide +kernel
theorem od_prog_3_method_1_5 : decode prog_3_method_1_code 5 = .ok (.aload_n 1, 1) := by decide +kernel
theorem od_prog_3_method_1_6 : decode prog_3_method_1_code 6 = .ok (.putfield 7, 3) := by decide +kernel
theorem od_prog_3_method_1_9 : decode prog_3_method_1_code 9 = .ok (.aload_n 0, 1) := by decide +kernel
theorem od_prog_3_method_1_10 : decode prog_3_method_1_code 10 = .ok (.iload_n 2, 1) := by decide +kernel
theorem od_prog_3_method_1_11 : decode prog_3_method_1_code 11 = .ok (.putfield 13, 3) := by decide +kernel
theorem od_prog_3_method_1_14 : decode prog_3_method_1_code 14 = .ok (.aload_n 0, 1) := by decide +kernel
theorem od_prog_3_method_1_15 : decode prog_3_method_1_code 15 = .ok (.iload_n 3, 1) := by decide +kernel
theorem od_prog_3_method_1_16 : decode prog_3_method_1_code 16 = .ok (.putfield 17, 3) := by decide +kernel
theorem od_prog_3_method_1_19 : decode prog_3_method_1_code 19 = .ok (.aload_n 0, 1) := by decide +kernel
theorem od_prog_3_method_1_20 : decode prog_3_method_1_code 20 = .ok (.iload 4, 2) := by decide +kernel
theorem od_prog_3_method_1_22 : decode prog_3_method_1_code 22 = .ok (.putfield 20, 3) := by decide +kernel
theorem od_prog_3_method_1_25 : decode prog_3_method_1_code 25 = .ok (.aload_n 0, 1) := by decide +kernel
theorem od_prog_3_method_1_26 : decode prog_3_method_1_code 26 = .ok (.iload 5, 2) := by decide +kernel
theorem od_prog_3_method_1_28 : decode prog_3_method_1_code 28 = .ok (.putfield 23, 3) := by decide +kernel
theorem od_prog_3_method_1_31 : decode prog_3_method_1_code 31 = .ok (.aload_n 0, 1) := by decide +kernel
theorem od_prog_3_method_1_32 : decode prog_3_method_1_code 32 = .ok (.iload 6, 2) := by decide +kernel
theorem od_prog_3_method_1_34 : decode prog_3_method_1_code 34 = .ok (.putfield 26, 3) := by decide +kernel
theorem od_prog_3_method_1_37 : decode prog_3_method_1_code 37 = .ok (.return_, 1) := by decide +kernel
theorem od_prog_3_method_5_0 : decode prog_3_method_5_code 0 = .ok (.aload_n 0, 1) := by decide +kernel
theorem od_prog_3_method_5_1 : decode prog_3_method_5_code 1 = .ok (.getfield 26, 3) := by decide +kernel
theorem od_prog_3_method_5_4 : decode prog_3_method_5_code 4 = .ok (.i2d, 1) := by decide +kernel
theorem od_prog_3_method_5_5 : decode prog_3_method_5_code 5 = .ok (.aload_n 0, 1) := by decide +kernel
theorem od_prog_3_method_5_6 : decode prog_3_method_5_code 6 = .ok (.getfield 17, 3) := by decide +kernel
theorem od_prog_3_method_5_9 : decode prog_3_method_5_code 9 = .ok (.i2d, 1) := by decide +kernel
theorem od_prog_3_method_5_10 : decode prog_3_method_5_code 10 = .ok (.ddiv, 1) := by decide +kernel
theorem od_prog_3_method_5_11 : decode prog_3_method_5_code 11 = .ok (.dreturn, 1) := by decide +kernel
theorem od_method_2_0 : decode method_2_code 0 = .ok (.dconst 0, 1) := by decide +kernel
theorem od_method_2_1 : decode method_2_code 1 = .ok (.dload_n 2, 1) := by decide +kernel
theorem od_method_2_2 : decode method_2_code 2 = .ok (.dcmp .g, 1) := by decide +kernel
theorem od_method_2_3 : decode method_2_code 3 = .ok (.ifCond .gt 13, 3) := by decide +kernel
theorem od_method_2_6 : decode method_2_code 6 = .ok (.dload_n 2, 1) := by decide +kernel
theorem od_method_2_7 : decode method_2_code 7 = .ok (.dconst 1, 1) := by decide +kernel
theorem od_method_2_8 : decode method_2_code 8 = .ok (.dcmp .g, 1) := by decide +kernel
theorem od_method_2_9 : decode method_2_code 9 = .ok (.ifCond .gt 7, 3) := by decide +kernel
theorem od_method_2_12 : decode method_2_code 12 = .ok (.iconst 1, 1) := by decide +kernel
theorem od_method_2_13 : decode method_2_code 13 = .ok (.goto 4, 3) := by decide +kernel
theorem od_method_2_17 : decode method_2_code 17 = .ok (.istore 4, 2) := by decide +kernel
theorem od_method_2_19 : decode method_2_code 19 = .ok (.iload_n 0, 1) := by decide +kernel
theorem od_method_2_20 : decode method_2_code 20 = .ok (.ifCond .ne 21, 3) := by decide +kernel
theorem od_method_2_41 : decode method_2_code 41 = .ok (.iload_n 0, 1) := by decide +kernel
theorem od_method_2_42 : decode method_2_code 42 = .ok (.iload_n 1, 1) := by decide +kernel
theorem od_method_2_43 : decode method_2_code 43 = .ok (.if_icmp .ne 21, 3) := by decide +kernel
theorem od_method_2_64 : decode method_2_code 64 = .ok (.ldc2_w 7, 3) := by decide +kernel
theorem od_method_2_67 : decode method_2_code 67 = .ok (.iload_n 0, 1) := by decide +kernel
theorem od_method_2_68 : decode method_2_code 68 = .ok (.i2l, 1) := by decide +kernel
theorem od_method_2_69 : decode method_2_code 69 = .ok (.lmul, 1) := by decide +kernel
theorem od_method_2_70 : decode method_2_code 70 = .ok (.iload_n 1, 1) := by decide +kernel
theorem od_method_2_71 : decode method_2_code 71 = .ok (.i2l, 1) := by decide +kernel
theorem od_method_2_72 : decode method_2_code 72 = .ok (.lcmp, 1) := by decide +kernel
theorem od_method_2_73 : decode method_2_code 73 = .ok (.ifCond .ne 23, 3) := by decide +kernel
theorem od_method_2_96 : decode method_2_code 96 = .ok (.ldc2_w 11, 3) := by decide +kernel
theorem od_method_2_99 : decode method_2_code 99 = .ok (.iload_n 0, 1) := by decide +kernel
theorem od_method_2_100 : decode method_2_code 100 = .ok (.i2l, 1) := by decide +kernel
theorem od_method_2_101 : decode method_2_code 101 = .ok (.lmul, 1) := by decide +kernel
theorem od_method_2_102 : decode method_2_code 102 = .ok (.iload_n 1, 1) := by decide +kernel
theorem od_method_2_103 : decode method_2_code 103 = .ok (.i2l, 1) := by decide +kernel
theorem od_method_2_104 : decode method_2_code 104 = .ok (.lcmp, 1) := by decide +kernel
theorem od_method_2_105 : decode method_2_code 105 = .ok (.ifCond .ne 23, 3) := by decide +kernel
theorem od_method_2_128 : decode method_2_code 128 = .ok (.ldc2_w 11, 3) := by decide +kernel
theorem od_method_2_131 : decode method_2_code 131 = .ok (.iload_n 0, 1) := by decide +kernel
theorem od_method_2_132 : decode method_2_code 132 = .ok (.i2l, 1) := by decide +kernel
theorem od_method_2_133 : decode method_2_code 133 = .ok (.lmul, 1) := by decide +kernel
theorem od_method_2_134 : decode method_2_code 134 = .ok (.ldc2_w 15, 3) := by decide +kernel
theorem od_method_2_137 : decode method_2_code 137 = .ok (.iload_n 1, 1) := by decide +kernel
theorem od_method_2_138 : decode method_2_code 138 = .ok (.i2l, 1) := by decide +kernel
theorem od_method_2_139 : decode method_2_code 139 = .ok (.lmul, 1) := by decide +kernel
theorem od_method_2_140 : decode method_2_code 140 = .ok (.lcmp, 1) := by decide +kernel
theorem od_method_2_141 : decode method_2_code 141 = .ok (.ifCond .ne 23, 3) := by decide +kernel
theorem od_method_2_164 : decode method_2_code 164 = .ok (.iload 4, 2) := by decide +kernel
theorem od_method_2_166 : decode method_2_code 166 = .ok (.ireturn, 1) := by decide +kernel
theorem od_method_2_144 : decode method_2_code 144 = .ok (.iload 4, 2) := by decide +kernel
theorem od_method_2_146 : decode method_2_code 146 = .ok (.ifCond .eq 15, 3) := by decide +kernel
theorem od_method_2_149 : decode method_2_code 149 = .ok (.dload_n 2, 1) := by decide +kernel
theorem od_method_2_150 : decode method_2_code 150 = .ok (.ldc2_w 17, 3) := by decide +kernel
theorem od_method_2_153 : decode method_2_code 153 = .ok (.dcmp .l, 1) := by decide +kernel
theorem od_method_2_154 : decode method_2_code 154 = .ok (.ifCond .ne 7, 3) := by decide +kernel
theorem od_method_2_157 : decode method_2_code 157 = .ok (.iconst 1, 1) := by decide +kernel
theorem od_method_2_158 : decode method_2_code 158 = .ok (.goto 4, 3) := by decide +kernel
theorem od_method_2_162 : decode method_2_code 162 = .ok (.istore 4, 2) := by decide +kernel
theorem od_method_2_108 : decode method_2_code 108 = .ok (.iload 4, 2) := by decide +kernel
theorem od_method_2_110 : decode method_2_code 110 = .ok (.ifCond .eq 15, 3) := by decide +kernel
theorem od_method_2_113 : decode method_2_code 113 = .ok (.dload_n 2, 1) := by decide +kernel
theorem od_method_2_114 : decode method_2_code 114 = .ok (.ldc2_w 13, 3) := by decide +kernel
theorem od_method_2_117 : decode method_2_code 117 = .ok (.dcmp .l, 1) := by decide +kernel
theorem od_method_2_118 : decode method_2_code 118 = .ok (.ifCond .ne 7, 3) := by decide +kernel
theorem od_method_2_121 : decode method_2_code 121 = .ok (.iconst 1, 1) := by decide +kernel
theorem od_method_2_122 : decode method_2_code 122 = .ok (.goto 4, 3) := by decide +kernel
theorem od_method_2_126 : decode method_2_code 126 = .ok (.istore 4, 2) := by decide +kernel
theorem od_method_2_76 : decode method_2_code 76 = .ok (.iload 4, 2) := by decide +kernel
theorem od_method_2_78 : decode method_2_code 78 = .ok (.ifCond .eq 15, 3) := by decide +kernel
theorem od_method_2_81 : decode method_2_code 81 = .ok (.dload_n 2, 1) := by decide +kernel
theorem od_method_2_82 : decode method_2_code 82 = .ok (.ldc2_w 9, 3) := by decide +kernel
theorem od_method_2_85 : decode method_2_code 85 = .ok (.dcmp .l, 1) := by decide +kernel
theorem od_method_2_86 : decode method_2_code 86 = .ok (.ifCond .ne 7, 3) := by decide +kernel
theorem od_method_2_89 : decode method_2_code 89 = .ok (.iconst 1, 1) := by decide +kernel
theorem od_method_2_90 : decode method_2_code 90 = .ok (.goto 4, 3) := by decide +kernel
theorem od_method_2_94 : decode method_2_code 94 = .ok (.istore 4, 2) := by decide +kernel
theorem od_method_2_46 : decode method_2_code 46 = .ok (.iload 4, 2) := by decide +kernel
theorem od_method_2_48 : decode method_2_code 48 = .ok (.ifCond .eq 13, 3) := by decide +kernel
theorem od_method_2_51 : decode method_2_code 51 = .ok (.dload_n 2, 1) := by decide +kernel
theorem od_method_2_52 : decode method_2_code 52 = .ok (.dconst 1, 1) := by decide +kernel
theorem od_method_2_53 : decode method_2_code 53 = .ok (.dcmp .l, 1) := by decide +kernel
theorem od_method_2_54 : decode method_2_code 54 = .ok (.ifCond .ne 7, 3) := by decide +kernel
theorem od_method_2_57 : decode method_2_code 57 = .ok (.iconst 1, 1) := by decide +kernel
theorem od_method_2_58 : decode method_2_code 58 = .ok (.goto 4, 3) := by decide +kernel
theorem od_method_2_62 : decode method_2_code 62 = .ok (.istore 4, 2) := by decide +kernel
theorem od_method_2_23 : decode method_2_code 23 = .ok (.iload 4, 2) := by decide +kernel
theorem od_method_2_25 : decode method_2_code 25 = .ok (.ifCond .eq 13, 3) := by decide +kernel
theorem od_method_2_28 : decode method_2_code 28 = .ok (.dload_n 2, 1) := by decide +kernel
theorem od_method_2_29 : decode method_2_code 29 = .ok (.dconst 0, 1) := by decide +kernel
theorem od_method_2_30 : decode method_2_code 30 = .ok (.dcmp .l, 1) := by decide +kernel
theorem od_method_2_31 : decode method_2_code 31 = .ok (.ifCond .ne 7, 3) := by decide +kernel
theorem od_method_2_34 : decode method_2_code 34 = .ok (.iconst 1, 1) := by decide +kernel
theorem od_method_2_35 : decode method_2_code 35 = .ok (.goto 4, 3) := by decide +kernel
theorem od_method_2_39 : decode method_2_code 39 = .ok (.istore 4, 2) := by decide +kernel
theorem opd_0 : parseMethodDescriptor "(C)Z" = some ⟨[.char], some .boolean⟩ := by decide +kernel
theorem opd_1 : parseMethodDescriptor "(C)[B" = some ⟨[.char], some (.array .byte)⟩ := by decide +kernel
theorem opd_2 : parseMethodDescriptor "([BB)V" = some ⟨[(.array .byte), .byte], none⟩ := by decide +kernel
theorem opd_3 : parseMethodDescriptor "()V" = some ⟨[], none⟩ := by decide +kernel
theorem opd_4 : parseMethodDescriptor "(II)I" = some ⟨[.int, .int], some .int⟩ := by decide +kernel
theorem opd_5 : parseMethodDescriptor "(C)Ljava/lang/String;" = some ⟨[.char], some (.object "java/lang/String")⟩ := by decide +kernel
theorem opd_6 : parseMethodDescriptor "(Ljava/lang/String;IIIII)V" = some ⟨[(.object "java/lang/String"), .int, .int, .int, .int, .int], none⟩ := by decide +kernel
theorem opd_7 : parseMethodDescriptor "()D" = some ⟨[], some .double⟩ := by decide +kernel
theorem opd_8 : parseMethodDescriptor "(IID)Z" = some ⟨[.int, .int, .double], some .boolean⟩ := by decide +kernel
theorem ef_rm_canEncode (m : MethodId) (x0 : Int32) : entryFrame m #[(.int x0)] 1 = mkF m 0 #[.val (.int x0)] [] := by first | (simp [entryFrame, mkF, argsToLocals, Value.category]; done) | rfl
set_option maxRecDepth 65536 in
set_option maxHeartbeats 40000000 in
theorem rm_canEncode (l : Launch) (Z : State) (a0 : Array Value) (hw : ∀ d ∈ tables_1, d.before a0 Z = true) (p1 : Int32) (h0 : Heap) (n0 : Nat) (Z0 : n0 ≤ h0.size) (hc1 : ¬ (255 : Int32) < p1) :
    own_Met l Z (⟨"java/lang/StringLatin1", "canEncode", "(C)Z"⟩ : MethodName) jdk_43_method_3_code 1 (some .boolean) ({ frames := 0, cells := 0, slots := 0, locals := 0 } : Room) #[(.int p1)] h0 (fun v h L => v = some (.int (1 : Int32)) ∧ Fr n0 L ∧ h0 = h) := by
  refine own_body (plainFor_of_name (by first | (simp [plainName, overriddenIn]; done) | decide +kernel)) ?_
  intro p e s m below meth c s₁ hx hby hml hown hnm hlk hrt hZ X0 e0
  refine own_enter (ef_rm_canEncode m p1) ?_
  have N0 := Fr.nil n0
  refine own_iloadN X0 hx hby od_jdk_43_method_3_0 (pc' := 1) rfl rfl ?_
  refine own_sipush X0 hx hby od_jdk_43_method_3_1 (pc' := 4) rfl (z := 255) rfl ?_
  refine own_icmpN X0 hx hby od_jdk_43_method_3_4 (pc' := 7) rfl (flt hc1).2.2.1 ?_
  refine own_iconst X0 hx hby od_jdk_43_method_3_7 (pc' := 8) rfl (z := 1) rfl ?_
  refine own_goto X0 hx hby od_jdk_43_method_3_8 (by decide) (pc' := 12) (by decide) ?_
  exact own_retN X0 hx hby hlk hrt (by simp) od_jdk_43_method_3_12 (z' := (1 : Int32)) rfl (by first | exact ⟨rfl, N0, rfl⟩ | (rw [e0]; exact ⟨rfl, N0, rfl⟩)) (by decide) (by decide)
theorem ef_rm_toBytes (m : MethodId) (x0 : Int32) : entryFrame m #[(.int x0)] 1 = mkF m 0 #[.val (.int x0)] [] := by first | (simp [entryFrame, mkF, argsToLocals, Value.category]; done) | rfl
set_option maxRecDepth 65536 in
set_option maxHeartbeats 40000000 in
theorem rm_toBytes (l : Launch) (Z : State) (a0 : Array Value) (hw : ∀ d ∈ tables_1, d.before a0 Z = true) (p1 : Int32) (h0 : Heap) (n0 : Nat) (Z0 : n0 ≤ h0.size) :
    own_Met l Z (⟨"java/lang/StringLatin1", "toBytes", "(C)[B"⟩ : MethodName) jdk_43_method_46_code 1 (some (.array .byte)) ({ frames := 0, cells := 1, slots := 1, locals := 0 } : Room) #[(.int p1)] h0 (fun v h L => ∃ (b : Addr) (kA : ClassId), v = some (.ref b) ∧ n0 ≤ b ∧ Ext h0 h ∧ Fr n0 L ∧ Arv Z h b kA .byte (1 : Int32) [(.int p1.toInt8.toInt32)] (.int (0 : Int32))) := by
  refine own_body (plainFor_of_name (by first | (simp [plainName, overriddenIn]; done) | decide +kernel)) ?_
  intro p e s m below meth c s₁ hx hby hml hown hnm hlk hrt hZ X0 e0
  refine own_enter (ef_rm_toBytes m p1) ?_
  have N0 := Fr.nil n0
  refine own_iconst X0 hx hby od_jdk_43_method_46_0 (pc' := 1) rfl (z := 1) rfl ?_
  refine own_newP (aty := .byte) X0 hx hby hZ (ow_21 hw) e0 od_jdk_43_method_46_1 (pc' := 3) rfl (by decide) (cap := 1) (by decide) (by decide) (by decide) (by decide) ?_
  intro T1 h1 b1 kA1 g1 X1 e1 E1 V_b1
  have le2 : h0.size ≤ b1 := Nat.le_of_eq g1.symm
  have n0_b1 : n0 ≤ b1 := Nat.le_trans Z0 (Nat.le_of_eq g1.symm)
  replace V_b1 : Arv Z h1 b1 kA1 .byte (1 : Int32) [(.int (0 : Int32))] (.int (0 : Int32)) := V_b1.pad (pad_rep [] (.int (0 : Int32)) 1)
  refine own_dup X1 hx hby od_jdk_43_method_46_3 (pc' := 4) rfl rfl ?_
  refine own_iconst X1 hx hby od_jdk_43_method_46_4 (pc' := 5) rfl (z := 0) rfl ?_
  refine own_iloadN X1 hx hby od_jdk_43_method_46_5 (pc' := 6) rfl rfl ?_
  refine own_i2b X1 hx hby od_jdk_43_method_46_6 (pc' := 7) rfl ?_
  refine own_stB X1 hx hby hZ e1 V_b1 ⟨by decide, by decide⟩ 0 rfl (Nat.le_of_ble_eq_true rfl) od_jdk_43_method_46_7 (pc' := 8) rfl ?_
  intro T3 h3 X3 e3 W3 V3_b1
  replace V3_b1 : Arv Z h3 b1 kA1 .byte (1 : Int32) [(.int (nar .byte (p1.toInt8.toInt32)))] (.int (0 : Int32)) := V3_b1
  have Ea4 := own_xw E1 W3 le2
  have N3 := own_fr1 (sl := ((0 : Int32)).toNatClampNeg) N0 n0_b1
  rw [own_narb] at V3_b1
  exact own_retA X3 hx hby hlk hrt rfl rfl od_jdk_43_method_46_8 (by first | exact ⟨b1, kA1, rfl, n0_b1, Ea4, N3, V3_b1⟩ | (rw [e3]; exact ⟨b1, kA1, rfl, n0_b1, Ea4, N3, V3_b1⟩)) (by decide) (by decide)
theorem ef_rm_strBB (m : MethodId) (x0 : Addr) (x1 : Addr) (x2 : Int32) : entryFrame m #[(.ref x0), (.ref x1), (.int x2)] 3 = mkF m 0 #[.val (.ref x0), .val (.ref x1), .val (.int x2)] [] := by first | (simp [entryFrame, mkF, argsToLocals, Value.category]; done) | rfl
set_option maxRecDepth 65536 in
set_option maxHeartbeats 40000000 in
theorem rm_strBB (l : Launch) (Z : State) (a0 : Array Value) (hw : ∀ d ∈ tables_1, d.before a0 Z = true) (a1 a2 : Addr) (h0 : Heap) (n0 : Nat) (Z0 : n0 ≤ h0.size) (n0_a1 : n0 ≤ a1) (A1 : Exa Z h0 a1 "java/lang/String") (F1 : Fld Z h0 a1 "java/lang/String" "value" "[B" .null) (F2 : Fld Z h0 a1 "java/lang/String" "coder" "B" (.int (0 : Int32))) :
    own_Met l Z (⟨"java/lang/String", "<init>", "([BB)V"⟩ : MethodName) jdk_42_method_151_code 3 none ({ frames := 1, cells := 0, slots := 0, locals := 12 } : Room) #[(.ref a1), (.ref a2), (.int (0 : Int32))] h0 (fun v h L => v = none ∧ Fr n0 L ∧ Keep h0 h [a1] ∧ Exa Z h a1 "java/lang/String" ∧ Fld Z h a1 "java/lang/String" "value" "[B" (.ref a2) ∧ Fld Z h a1 "java/lang/String" "coder" "B" (.int (0 : Int32))) := by
  refine own_body (plainFor_of_name (by first | (simp [plainName, overriddenIn]; done) | decide +kernel)) ?_
  intro p e s m below meth c s₁ hx hby hml hown hnm hlk hrt hZ X0 e0
  refine own_enter (ef_rm_strBB m a1 a2 (0 : Int32)) ?_
  have N0 := Fr.nil n0
  have K0 := Keep.refl h0 [a1]
  refine own_aloadN X0 hx hby od_jdk_42_method_151_0 (pc' := 1) rfl rfl rfl ?_
  refine own_initO X0 hx hby hZ hml hown (ow_26 hw) (ow_27 hw) (ow_28 hw) e0 rfl od_jdk_42_method_151_1 (pc' := 4) rfl (by decide) (W := 0) (Nat.le_refl _) (by decide) ?_
  intro T1 X1 e1
  refine own_aloadN X1 hx hby od_jdk_42_method_151_4 (pc' := 5) rfl rfl rfl ?_
  refine own_aloadN X1 hx hby od_jdk_42_method_151_5 (pc' := 6) rfl rfl rfl ?_
  refine own_putF X1 hx hby hZ hown (host := "") (Or.inl (ow_29 hw)) Via.refl e1 F1 A1 (Or.inr ⟨(ow_30 hw), rfl, hnm⟩) (ow_17 hw) (ty := (.array .byte)) (by decide) rfl rfl od_jdk_42_method_151_6 (pc' := 9) rfl ?_
  intro T2 h2 X2 e2 W2 F2_value_a1 A2_a1
  have Fw2_3 := F2.other W2 (Or.inr (slot_ne (Or.inr (ow_32 hw)) (Or.inr (ow_30 hw)) (by decide) (t := .byte) (t' := (.array .byte)) (by decide) (by decide)))
  have K4 := K0.wr W2 (Or.inl (List.mem_of_getElem? (i := 0) rfl))
  have N2 := own_fr1 (sl := Jvm.RoadKit.slotOf Z "java/lang/String" "value" "[B") N0 n0_a1
  refine own_aloadN X2 hx hby od_jdk_42_method_151_9 (pc' := 10) rfl rfl rfl ?_
  refine own_iloadN X2 hx hby od_jdk_42_method_151_10 (pc' := 11) rfl rfl ?_
  refine own_putFN X2 hx hby hZ hown (ow_31 hw) Via.refl e2 Fw2_3 A2_a1 (Or.inr ⟨(ow_32 hw), rfl, hnm⟩) (ow_17 hw) (ty := .byte) (v' := (.int (0 : Int32))) (by decide) rfl rfl od_jdk_42_method_151_11 (pc' := 14) rfl ?_
  intro T5 h5 X5 e5 W5 F5_coder_a1 A5_a1
  have Fw5_6 := F2_value_a1.other W5 (Or.inr (slot_ne (Or.inr (ow_30 hw)) (Or.inr (ow_32 hw)) (by decide) (t := (.array .byte)) (t' := .byte) (by decide) (by decide)))
  have K7 := K4.wr W5 (Or.inl (List.mem_of_getElem? (i := 0) rfl))
  have N5 := own_fr1 (sl := Jvm.RoadKit.slotOf Z "java/lang/String" "coder" "B") N2 n0_a1
  exact own_ret0 X5 hx hby hlk hrt od_jdk_42_method_151_14 (by first | exact ⟨rfl, N5, K7, A5_a1, Fw5_6, F5_coder_a1⟩ | (rw [e5]; exact ⟨rfl, N5, K7, A5_a1, Fw5_6, F5_coder_a1⟩)) (by decide) (by decide)
theorem ef_rm_valueOf (m : MethodId) (x0 : Int32) : entryFrame m #[(.int x0)] 1 = mkF m 0 #[.val (.int x0)] [] := by first | (simp [entryFrame, mkF, argsToLocals, Value.category]; done) | rfl
set_option maxRecDepth 65536 in
set_option maxHeartbeats 40000000 in
theorem rm_valueOf (l : Launch) (Z : State) (a0 : Array Value) (hw : ∀ d ∈ tables_1, d.before a0 Z = true) (p1 G1 : Int32) (h0 : Heap) (n0 : Nat) (Z0 : n0 ≤ h0.size) (S_cs : Sta Z h0 "java/lang/String" "COMPACT_STRINGS" "Z" (.int G1)) (P5 : ¬ (G1 = (0 : Int32))) (hc0 : ¬ p1 < (0 : Int32)) (hc1 : ¬ (255 : Int32) < p1) :
    own_Met l Z (⟨"java/lang/String", "valueOf", "(C)Ljava/lang/String;"⟩ : MethodName) jdk_42_method_139_code 1 (some (.object "java/lang/String")) ({ frames := 2, cells := 2, slots := 5, locals := 27 } : Room) #[(.int p1)] h0 (fun v h L => ∃ r : Addr, v = some (.ref r) ∧ n0 ≤ r ∧ Ext h0 h ∧ Fr n0 L ∧ own_Str Z h r [p1]) := by
  refine own_body (plainFor_of_name (by first | (simp [plainName, overriddenIn]; done) | decide +kernel)) ?_
  intro p e s m below meth c s₁ hx hby hml hown hnm hlk hrt hZ X0 e0
  refine own_enter (ef_rm_valueOf m p1) ?_
  have N0 := Fr.nil n0
  refine own_getS X0 hx hby hZ hown (host := "") (Or.inl (ow_11 hw)) Via.refl e0 S_cs od_jdk_42_method_139_0 (pc' := 3) rfl ?_
  intro T1 X1 e1
  refine own_ifN X1 hx hby od_jdk_42_method_139_3 (pc' := 6) rfl (feq P5).1 ?_
  refine own_iloadN X1 hx hby od_jdk_42_method_139_6 (pc' := 7) rfl rfl ?_
  refine own_callM X1 hx hby hml hZ hown (ow_12 hw) (ow_13 hw) (ow_14 hw) (ow_15 hw) (by decide) (cc := 0) (ss := 0) (rm_canEncode l Z a0 hw p1 h0 n0 Z0 hc1) 0 rfl rfl (by decide) (by decide) rfl (argsL := [(.int p1)]) (rest := []) opd_0 rfl rfl (Nat.le_refl _) od_jdk_42_method_139_7 (pc' := 10) rfl rfl e1 (by decide) (by decide) ?_
  rintro v2 T2 h2 L2 X2 e2 ⟨rfl, Nq2, rfl⟩
  have N2 := N0.app Nq2
  refine own_ifN X2 hx hby od_jdk_42_method_139_10 (pc' := 13) rfl (feq (by decide)).1 ?_
  refine own_newO X2 hx hby hZ hown (ow_16 hw) (ow_17 hw) (ow_9 hw) e2 od_jdk_42_method_139_13 (pc' := 16) rfl (by decide) (by decide) ?_
  intro T3 h3 b3 g3 X3 e3 E3 AX3 D3
  have le4 : h0.size ≤ b3 := Nat.le_of_eq g3.symm
  have n0_b3 : n0 ≤ b3 := Nat.le_trans Z0 (Nat.le_of_eq g3.symm)
  have F_value_b3 : Fld Z h3 b3 "java/lang/String" "value" "[B" .null := D3 (Or.inr (ow_30 hw)) (ty := (.array .byte)) (by decide)
  have F_coder_b3 : Fld Z h3 b3 "java/lang/String" "coder" "B" (.int (0 : Int32)) := D3 (Or.inr (ow_32 hw)) (ty := .byte) (by decide)
  refine own_dup X3 hx hby od_jdk_42_method_139_16 (pc' := 17) rfl rfl ?_
  refine own_iloadN X3 hx hby od_jdk_42_method_139_17 (pc' := 18) rfl rfl ?_
  refine own_callM X3 hx hby hml hZ hown (ow_18 hw) (ow_19 hw) (ow_14 hw) (ow_20 hw) (by decide) (cc := 1) (ss := 1) (rm_toBytes l Z a0 hw p1 h3 n0 (Nat.le_trans Z0 E3.1)) 2 rfl rfl (by decide) (by decide) rfl (argsL := [(.int p1)]) (rest := [(.ref b3), (.ref b3)]) opd_1 rfl rfl (Nat.le_refl _) od_jdk_42_method_139_18 (pc' := 21) rfl rfl e3 (by decide) (by decide) ?_
  rintro v5 T5 h5 L5 X5 e5 ⟨t5, kt5, rfl, nt5, Eq5, Nq5, Vt5⟩
  have N5 := N2.app Nq5
  have Ea6 := own_xt E3 Eq5
  refine own_iconst X5 hx hby od_jdk_42_method_139_21 (pc' := 22) rfl (z := 0) rfl ?_
  refine own_specM X5 hx hby hml hZ hown rfl (ow_22 hw) (ow_23 hw) (ow_9 hw) (ow_25 hw) (by decide) (cc := 0) (ss := 0) (rm_strBB l Z a0 hw b3 t5 h5 n0 (Nat.le_trans Z0 Ea6.1) n0_b3 (AX3.ext Eq5) (F_value_b3.ext Eq5) (F_coder_b3.ext Eq5)) 1 rfl rfl (by decide) (by decide) rfl (argsL := [(.ref t5), (.int (0 : Int32))]) (rest := [(.ref b3)]) opd_2 rfl rfl (Nat.le_refl _) od_jdk_42_method_139_22 (pc' := 25) rfl rfl e5 (by decide) (by decide) ?_
  rintro v7 T7 h7 L7 X7 e7 ⟨rfl, Nq7, Kq7, Aq7, Fv7, Fc7⟩
  have Vt := Vt5.keep Kq7 (ninS (Exa.neArv ((AX3.ext Eq5)) Vt5 (ow_17 hw)).symm nin0)
  have N7 := N5.app Nq7
  have Ea8 := own_xk Ea6 Kq7 (allS le4 all0)
  replace S_cs := S_cs.ext Ea8
  exact own_retA X7 hx hby hlk hrt rfl rfl od_jdk_42_method_139_25 (by first | exact ⟨b3, rfl, n0_b3, Ea8, N7, Aq7, Fc7, (by intro c hc; simp only [List.mem_cons, List.not_mem_nil, or_false] at hc; subst hc; exact ⟨hc0, hc1⟩), t5, kt5, Fv7, Vt⟩ | (rw [e7]; exact ⟨b3, rfl, n0_b3, Ea8, N7, Aq7, Fc7, (by intro c hc; simp only [List.mem_cons, List.not_mem_nil, or_false] at hc; subst hc; exact ⟨hc0, hc1⟩), t5, kt5, Fv7, Vt⟩)) (by decide) (by decide)
theorem ef_rm_rec (m : MethodId) (x0 : Addr) : entryFrame m #[(.ref x0)] 1 = mkF m 0 #[.val (.ref x0)] [] := by first | (simp [entryFrame, mkF, argsToLocals, Value.category]; done) | rfl
set_option maxRecDepth 65536 in
set_option maxHeartbeats 40000000 in
theorem rm_rec (l : Launch) (Z : State) (a0 : Array Value) (hw : ∀ d ∈ tables_1, d.before a0 Z = true) (a1 : Addr) (h0 : Heap) (n0 : Nat) (Z0 : n0 ≤ h0.size) :
    own_Met l Z (⟨"java/lang/Record", "<init>", "()V"⟩ : MethodName) jdk_30_method_1_code 1 none ({ frames := 1, cells := 0, slots := 0, locals := 12 } : Room) #[(.ref a1)] h0 (fun v h L => v = none ∧ Fr n0 L ∧ h0 = h) := by
  refine own_body (plainFor_of_name (by first | (simp [plainName, overriddenIn]; done) | decide +kernel)) ?_
  intro p e s m below meth c s₁ hx hby hml hown hnm hlk hrt hZ X0 e0
  refine own_enter (ef_rm_rec m a1) ?_
  have N0 := Fr.nil n0
  refine own_aloadN X0 hx hby od_jdk_30_method_1_0 (pc' := 1) rfl rfl rfl ?_
  refine own_initO X0 hx hby hZ hml hown (ow_44 hw) (ow_27 hw) (ow_28 hw) e0 rfl od_jdk_30_method_1_1 (pc' := 4) rfl (by decide) (W := 0) (Nat.le_refl _) (by decide) ?_
  intro T1 X1 e1
  exact own_ret0 X1 hx hby hlk hrt od_jdk_30_method_1_4 (by first | exact ⟨rfl, N0, rfl⟩ | (rw [e1]; exact ⟨rfl, N0, rfl⟩)) (by decide) (by decide)
theorem ef_rm_max (m : MethodId) (x0 : Int32) (x1 : Int32) : entryFrame m #[(.int x0), (.int x1)] 2 = mkF m 0 #[.val (.int x0), .val (.int x1)] [] := by first | (simp [entryFrame, mkF, argsToLocals, Value.category]; done) | rfl
set_option maxRecDepth 65536 in
set_option maxHeartbeats 40000000 in
theorem rm_max (l : Launch) (Z : State) (a0 : Array Value) (hw : ∀ d ∈ tables_1, d.before a0 Z = true) (p2 : Int32) (h0 : Heap) (n0 : Nat) (Z0 : n0 ≤ h0.size) :
    own_Met l Z (⟨"java/lang/Math", "max", "(II)I"⟩ : MethodName) jdk_29_method_65_code 2 (some .int) ({ frames := 0, cells := 0, slots := 0, locals := 0 } : Room) #[(.int (1 : Int32)), (.int p2)] h0 (fun v h L => ∃ r : Int32, v = some (.int r) ∧ ¬ (r < (1 : Int32)) ∧ Fr n0 L ∧ h0 = h) := by
  refine own_body (Jvm.Free.JP.mathPlain rfl (by decide +kernel)) ?_
  intro p e s m below meth c s₁ hx hby hml hown hnm hlk hrt hZ X0 e0
  refine own_enter (ef_rm_max m (1 : Int32) p2) ?_
  have N0 := Fr.nil n0
  refine own_iloadN X0 hx hby od_jdk_29_method_65_0 (pc' := 1) rfl rfl ?_
  refine own_iloadN X0 hx hby od_jdk_29_method_65_1 (pc' := 2) rfl rfl ?_
  by_cases hc : (1 : Int32) < p2
  · refine own_icmpY X0 hx hby od_jdk_29_method_65_2 (by decide) (pc' := 9) (by decide) (tlt hc).1 ?_
    refine own_iloadN X0 hx hby od_jdk_29_method_65_9 (pc' := 10) rfl rfl ?_
    exact own_retI X0 hx hby hlk hrt od_jdk_29_method_65_10 (by first | exact ⟨_, rfl, own_max1 hc, N0, rfl⟩ | (rw [e0]; exact ⟨_, rfl, own_max1 hc, N0, rfl⟩)) (by decide) (by decide)
  · refine own_icmpN X0 hx hby od_jdk_29_method_65_2 (pc' := 5) rfl (flt hc).1 ?_
    refine own_iloadN X0 hx hby od_jdk_29_method_65_5 (pc' := 6) rfl rfl ?_
    refine own_goto X0 hx hby od_jdk_29_method_65_6 (by decide) (pc' := 10) (by decide) ?_
    exact own_retI X0 hx hby hlk hrt od_jdk_29_method_65_10 (by first | exact ⟨_, rfl, (by decide), N0, rfl⟩ | (rw [e0]; exact ⟨_, rfl, (by decide), N0, rfl⟩)) (by decide) (by decide)
theorem ef_rm_cr (m : MethodId) (x0 : Addr) (x1 : Addr) (x2 : Int32) (x3 : Int32) (x4 : Int32) (x5 : Int32) (x6 : Int32) : entryFrame m #[(.ref x0), (.ref x1), (.int x2), (.int x3), (.int x4), (.int x5), (.int x6)] 7 = mkF m 0 #[.val (.ref x0), .val (.ref x1), .val (.int x2), .val (.int x3), .val (.int x4), .val (.int x5), .val (.int x6)] [] := by first | (simp [entryFrame, mkF, argsToLocals, Value.category]; done) | rfl
set_option maxRecDepth 65536 in
set_option maxHeartbeats 40000000 in
theorem rm_cr (l : Launch) (Z : State) (a0 : Array Value) (hw : ∀ d ∈ tables_1, d.before a0 Z = true) (a1 o1 : Addr) (x1 x2 x3 x4 x5 : Int32) (h0 : Heap) (n0 : Nat) (Z0 : n0 ≤ h0.size) (n0_a1 : n0 ≤ a1) (A1 : Exa Z h0 a1 "com/example/kinsmark/kinsmark/evaluation/CategoryResult") (F_0 : Fld Z h0 a1 "com/example/kinsmark/kinsmark/evaluation/CategoryResult" "category" "Ljava/lang/String;" .null) (F_1 : Fld Z h0 a1 "com/example/kinsmark/kinsmark/evaluation/CategoryResult" "reused" "I" (.int (0 : Int32))) (F_2 : Fld Z h0 a1 "com/example/kinsmark/kinsmark/evaluation/CategoryResult" "independent" "I" (.int (0 : Int32))) (F_3 : Fld Z h0 a1 "com/example/kinsmark/kinsmark/evaluation/CategoryResult" "perMille" "I" (.int (0 : Int32))) (F_4 : Fld Z h0 a1 "com/example/kinsmark/kinsmark/evaluation/CategoryResult" "reusedSimilar" "I" (.int (0 : Int32))) (F_5 : Fld Z h0 a1 "com/example/kinsmark/kinsmark/evaluation/CategoryResult" "independentNotSimilar" "I" (.int (0 : Int32))) :
    own_Met l Z (⟨"com/example/kinsmark/kinsmark/evaluation/CategoryResult", "<init>", "(Ljava/lang/String;IIIII)V"⟩ : MethodName) prog_3_method_1_code 7 none ({ frames := 2, cells := 0, slots := 0, locals := 24 } : Room) #[(.ref a1), (.ref o1), (.int x1), (.int x2), (.int x3), (.int x4), (.int x5)] h0 (fun v h L => v = none ∧ Fr n0 L ∧ Keep h0 h [a1] ∧ Exa Z h a1 "com/example/kinsmark/kinsmark/evaluation/CategoryResult" ∧ Fld Z h a1 "com/example/kinsmark/kinsmark/evaluation/CategoryResult" "category" "Ljava/lang/String;" (.ref o1) ∧ Fld Z h a1 "com/example/kinsmark/kinsmark/evaluation/CategoryResult" "reused" "I" (.int x1) ∧ Fld Z h a1 "com/example/kinsmark/kinsmark/evaluation/CategoryResult" "independent" "I" (.int x2) ∧ Fld Z h a1 "com/example/kinsmark/kinsmark/evaluation/CategoryResult" "perMille" "I" (.int x3) ∧ Fld Z h a1 "com/example/kinsmark/kinsmark/evaluation/CategoryResult" "reusedSimilar" "I" (.int x4) ∧ Fld Z h a1 "com/example/kinsmark/kinsmark/evaluation/CategoryResult" "independentNotSimilar" "I" (.int x5)) := by
  refine own_body (plainFor_of_name (by first | (simp [plainName, overriddenIn]; done) | decide +kernel)) ?_
  intro p e s m below meth c s₁ hx hby hml hown hnm hlk hrt hZ X0 e0
  refine own_enter (ef_rm_cr m a1 o1 x1 x2 x3 x4 x5) ?_
  have N0 := Fr.nil n0
  have K0 := Keep.refl h0 [a1]
  refine own_aloadN X0 hx hby od_prog_3_method_1_0 (pc' := 1) rfl rfl rfl ?_
  refine own_specM X0 hx hby hml hZ hown rfl (ow_39 hw) (ow_40 hw) (ow_42 hw) (ow_43 hw) (by decide) (cc := 0) (ss := 0) (rm_rec l Z a0 hw a1 h0 n0 Z0) 0 rfl rfl (by decide) (by decide) rfl (argsL := []) (rest := []) opd_3 rfl rfl (Nat.le_refl _) od_prog_3_method_1_1 (pc' := 4) rfl rfl e0 (by decide) (by decide) ?_
  rintro v1 T1 h1 L1 X1 e1 ⟨rfl, Nq1, rfl⟩
  have N1 := N0.app Nq1
  refine own_aloadN X1 hx hby od_prog_3_method_1_4 (pc' := 5) rfl rfl rfl ?_
  refine own_aloadN X1 hx hby od_prog_3_method_1_5 (pc' := 6) rfl rfl rfl ?_
  refine own_putF X1 hx hby hZ hown (host := "") (Or.inl (ow_45 hw)) Via.refl e1 F_0 A1 (Or.inr ⟨(ow_46 hw), rfl, hnm⟩) (ow_34 hw) (ty := (.object "java/lang/String")) (by decide) rfl rfl od_prog_3_method_1_6 (pc' := 9) rfl ?_
  intro T2 h2 X2 e2 W2 F2_category_a1 A2_a1
  have Fw2_3 := F_1.other W2 (Or.inr (slot_ne (Or.inr (ow_48 hw)) (Or.inr (ow_46 hw)) (by decide) (t := .int) (t' := (.object "java/lang/String")) (by decide) (by decide)))
  have Fw2_4 := F_2.other W2 (Or.inr (slot_ne (Or.inr (ow_50 hw)) (Or.inr (ow_46 hw)) (by decide) (t := .int) (t' := (.object "java/lang/String")) (by decide) (by decide)))
  have Fw2_5 := F_3.other W2 (Or.inr (slot_ne (Or.inr (ow_52 hw)) (Or.inr (ow_46 hw)) (by decide) (t := .int) (t' := (.object "java/lang/String")) (by decide) (by decide)))
  have Fw2_6 := F_4.other W2 (Or.inr (slot_ne (Or.inr (ow_54 hw)) (Or.inr (ow_46 hw)) (by decide) (t := .int) (t' := (.object "java/lang/String")) (by decide) (by decide)))
  have Fw2_7 := F_5.other W2 (Or.inr (slot_ne (Or.inr (ow_56 hw)) (Or.inr (ow_46 hw)) (by decide) (t := .int) (t' := (.object "java/lang/String")) (by decide) (by decide)))
  have K8 := K0.wr W2 (Or.inl (List.mem_of_getElem? (i := 0) rfl))
  have N2 := own_fr1 (sl := Jvm.RoadKit.slotOf Z "com/example/kinsmark/kinsmark/evaluation/CategoryResult" "category" "Ljava/lang/String;") N1 n0_a1
  refine own_aloadN X2 hx hby od_prog_3_method_1_9 (pc' := 10) rfl rfl rfl ?_
  refine own_iloadN X2 hx hby od_prog_3_method_1_10 (pc' := 11) rfl rfl ?_
  refine own_putF X2 hx hby hZ hown (host := "") (Or.inl (ow_47 hw)) Via.refl e2 Fw2_3 A2_a1 (Or.inr ⟨(ow_48 hw), rfl, hnm⟩) (ow_34 hw) (ty := .int) (by decide) rfl rfl od_prog_3_method_1_11 (pc' := 14) rfl ?_
  intro T9 h9 X9 e9 W9 F9_reused_a1 A9_a1
  have Fw9_10 := F2_category_a1.other W9 (Or.inr (slot_ne (Or.inr (ow_46 hw)) (Or.inr (ow_48 hw)) (by decide) (t := (.object "java/lang/String")) (t' := .int) (by decide) (by decide)))
  have Fw9_11 := Fw2_4.other W9 (Or.inr (slot_ne (Or.inr (ow_50 hw)) (Or.inr (ow_48 hw)) (by decide) (t := .int) (t' := .int) (by decide) (by decide)))
  have Fw9_12 := Fw2_5.other W9 (Or.inr (slot_ne (Or.inr (ow_52 hw)) (Or.inr (ow_48 hw)) (by decide) (t := .int) (t' := .int) (by decide) (by decide)))
  have Fw9_13 := Fw2_6.other W9 (Or.inr (slot_ne (Or.inr (ow_54 hw)) (Or.inr (ow_48 hw)) (by decide) (t := .int) (t' := .int) (by decide) (by decide)))
  have Fw9_14 := Fw2_7.other W9 (Or.inr (slot_ne (Or.inr (ow_56 hw)) (Or.inr (ow_48 hw)) (by decide) (t := .int) (t' := .int) (by decide) (by decide)))
  have K15 := K8.wr W9 (Or.inl (List.mem_of_getElem? (i := 0) rfl))
  have N9 := own_fr1 (sl := Jvm.RoadKit.slotOf Z "com/example/kinsmark/kinsmark/evaluation/CategoryResult" "reused" "I") N2 n0_a1
  refine own_aloadN X9 hx hby od_prog_3_method_1_14 (pc' := 15) rfl rfl rfl ?_
  refine own_iloadN X9 hx hby od_prog_3_method_1_15 (pc' := 16) rfl rfl ?_
  refine own_putF X9 hx hby hZ hown (host := "") (Or.inl (ow_49 hw)) Via.refl e9 Fw9_11 A9_a1 (Or.inr ⟨(ow_50 hw), rfl, hnm⟩) (ow_34 hw) (ty := .int) (by decide) rfl rfl od_prog_3_method_1_16 (pc' := 19) rfl ?_
  intro T16 h16 X16 e16 W16 F16_independent_a1 A16_a1
  have Fw16_17 := F9_reused_a1.other W16 (Or.inr (slot_ne (Or.inr (ow_48 hw)) (Or.inr (ow_50 hw)) (by decide) (t := .int) (t' := .int) (by decide) (by decide)))
  have Fw16_18 := Fw9_10.other W16 (Or.inr (slot_ne (Or.inr (ow_46 hw)) (Or.inr (ow_50 hw)) (by decide) (t := (.object "java/lang/String")) (t' := .int) (by decide) (by decide)))
  have Fw16_19 := Fw9_12.other W16 (Or.inr (slot_ne (Or.inr (ow_52 hw)) (Or.inr (ow_50 hw)) (by decide) (t := .int) (t' := .int) (by decide) (by decide)))
  have Fw16_20 := Fw9_13.other W16 (Or.inr (slot_ne (Or.inr (ow_54 hw)) (Or.inr (ow_50 hw)) (by decide) (t := .int) (t' := .int) (by decide) (by decide)))
  have Fw16_21 := Fw9_14.other W16 (Or.inr (slot_ne (Or.inr (ow_56 hw)) (Or.inr (ow_50 hw)) (by decide) (t := .int) (t' := .int) (by decide) (by decide)))
  have K22 := K15.wr W16 (Or.inl (List.mem_of_getElem? (i := 0) rfl))
  have N16 := own_fr1 (sl := Jvm.RoadKit.slotOf Z "com/example/kinsmark/kinsmark/evaluation/CategoryResult" "independent" "I") N9 n0_a1
  refine own_aloadN X16 hx hby od_prog_3_method_1_19 (pc' := 20) rfl rfl rfl ?_
  refine own_iload X16 hx hby od_prog_3_method_1_20 (pc' := 22) rfl rfl ?_
  refine own_putF X16 hx hby hZ hown (host := "") (Or.inl (ow_51 hw)) Via.refl e16 Fw16_19 A16_a1 (Or.inr ⟨(ow_52 hw), rfl, hnm⟩) (ow_34 hw) (ty := .int) (by decide) rfl rfl od_prog_3_method_1_22 (pc' := 25) rfl ?_
  intro T23 h23 X23 e23 W23 F23_perMille_a1 A23_a1
  have Fw23_24 := F16_independent_a1.other W23 (Or.inr (slot_ne (Or.inr (ow_50 hw)) (Or.inr (ow_52 hw)) (by decide) (t := .int) (t' := .int) (by decide) (by decide)))
  have Fw23_25 := Fw16_17.other W23 (Or.inr (slot_ne (Or.inr (ow_48 hw)) (Or.inr (ow_52 hw)) (by decide) (t := .int) (t' := .int) (by decide) (by decide)))
  have Fw23_26 := Fw16_18.other W23 (Or.inr (slot_ne (Or.inr (ow_46 hw)) (Or.inr (ow_52 hw)) (by decide) (t := (.object "java/lang/String")) (t' := .int) (by decide) (by decide)))
  have Fw23_27 := Fw16_20.other W23 (Or.inr (slot_ne (Or.inr (ow_54 hw)) (Or.inr (ow_52 hw)) (by decide) (t := .int) (t' := .int) (by decide) (by decide)))
  have Fw23_28 := Fw16_21.other W23 (Or.inr (slot_ne (Or.inr (ow_56 hw)) (Or.inr (ow_52 hw)) (by decide) (t := .int) (t' := .int) (by decide) (by decide)))
  have K29 := K22.wr W23 (Or.inl (List.mem_of_getElem? (i := 0) rfl))
  have N23 := own_fr1 (sl := Jvm.RoadKit.slotOf Z "com/example/kinsmark/kinsmark/evaluation/CategoryResult" "perMille" "I") N16 n0_a1
  refine own_aloadN X23 hx hby od_prog_3_method_1_25 (pc' := 26) rfl rfl rfl ?_
  refine own_iload X23 hx hby od_prog_3_method_1_26 (pc' := 28) rfl rfl ?_
  refine own_putF X23 hx hby hZ hown (host := "") (Or.inl (ow_53 hw)) Via.refl e23 Fw23_27 A23_a1 (Or.inr ⟨(ow_54 hw), rfl, hnm⟩) (ow_34 hw) (ty := .int) (by decide) rfl rfl od_prog_3_method_1_28 (pc' := 31) rfl ?_
  intro T30 h30 X30 e30 W30 F30_reusedSimilar_a1 A30_a1
  have Fw30_31 := F23_perMille_a1.other W30 (Or.inr (slot_ne (Or.inr (ow_52 hw)) (Or.inr (ow_54 hw)) (by decide) (t := .int) (t' := .int) (by decide) (by decide)))
  have Fw30_32 := Fw23_24.other W30 (Or.inr (slot_ne (Or.inr (ow_50 hw)) (Or.inr (ow_54 hw)) (by decide) (t := .int) (t' := .int) (by decide) (by decide)))
  have Fw30_33 := Fw23_25.other W30 (Or.inr (slot_ne (Or.inr (ow_48 hw)) (Or.inr (ow_54 hw)) (by decide) (t := .int) (t' := .int) (by decide) (by decide)))
  have Fw30_34 := Fw23_26.other W30 (Or.inr (slot_ne (Or.inr (ow_46 hw)) (Or.inr (ow_54 hw)) (by decide) (t := (.object "java/lang/String")) (t' := .int) (by decide) (by decide)))
  have Fw30_35 := Fw23_28.other W30 (Or.inr (slot_ne (Or.inr (ow_56 hw)) (Or.inr (ow_54 hw)) (by decide) (t := .int) (t' := .int) (by decide) (by decide)))
  have K36 := K29.wr W30 (Or.inl (List.mem_of_getElem? (i := 0) rfl))
  have N30 := own_fr1 (sl := Jvm.RoadKit.slotOf Z "com/example/kinsmark/kinsmark/evaluation/CategoryResult" "reusedSimilar" "I") N23 n0_a1
  refine own_aloadN X30 hx hby od_prog_3_method_1_31 (pc' := 32) rfl rfl rfl ?_
  refine own_iload X30 hx hby od_prog_3_method_1_32 (pc' := 34) rfl rfl ?_
  refine own_putF X30 hx hby hZ hown (host := "") (Or.inl (ow_55 hw)) Via.refl e30 Fw30_35 A30_a1 (Or.inr ⟨(ow_56 hw), rfl, hnm⟩) (ow_34 hw) (ty := .int) (by decide) rfl rfl od_prog_3_method_1_34 (pc' := 37) rfl ?_
  intro T37 h37 X37 e37 W37 F37_independentNotSimilar_a1 A37_a1
  have Fw37_38 := F30_reusedSimilar_a1.other W37 (Or.inr (slot_ne (Or.inr (ow_54 hw)) (Or.inr (ow_56 hw)) (by decide) (t := .int) (t' := .int) (by decide) (by decide)))
  have Fw37_39 := Fw30_31.other W37 (Or.inr (slot_ne (Or.inr (ow_52 hw)) (Or.inr (ow_56 hw)) (by decide) (t := .int) (t' := .int) (by decide) (by decide)))
  have Fw37_40 := Fw30_32.other W37 (Or.inr (slot_ne (Or.inr (ow_50 hw)) (Or.inr (ow_56 hw)) (by decide) (t := .int) (t' := .int) (by decide) (by decide)))
  have Fw37_41 := Fw30_33.other W37 (Or.inr (slot_ne (Or.inr (ow_48 hw)) (Or.inr (ow_56 hw)) (by decide) (t := .int) (t' := .int) (by decide) (by decide)))
  have Fw37_42 := Fw30_34.other W37 (Or.inr (slot_ne (Or.inr (ow_46 hw)) (Or.inr (ow_56 hw)) (by decide) (t := (.object "java/lang/String")) (t' := .int) (by decide) (by decide)))
  have K43 := K36.wr W37 (Or.inl (List.mem_of_getElem? (i := 0) rfl))
  have N37 := own_fr1 (sl := Jvm.RoadKit.slotOf Z "com/example/kinsmark/kinsmark/evaluation/CategoryResult" "independentNotSimilar" "I") N30 n0_a1
  exact own_ret0 X37 hx hby hlk hrt od_prog_3_method_1_37 (by first | exact ⟨rfl, N37, K43, A37_a1, Fw37_42, Fw37_41, Fw37_40, Fw37_39, Fw37_38, F37_independentNotSimilar_a1⟩ | (rw [e37]; exact ⟨rfl, N37, K43, A37_a1, Fw37_42, Fw37_41, Fw37_40, Fw37_39, Fw37_38, F37_independentNotSimilar_a1⟩)) (by decide) (by decide)
theorem ef_rm_cred (m : MethodId) (x0 : Addr) : entryFrame m #[(.ref x0)] 1 = mkF m 0 #[.val (.ref x0)] [] := by first | (simp [entryFrame, mkF, argsToLocals, Value.category]; done) | rfl
set_option maxRecDepth 65536 in
set_option maxHeartbeats 40000000 in
theorem rm_cred (l : Launch) (Z : State) (a0 : Array Value) (hw : ∀ d ∈ tables_1, d.before a0 Z = true) (a1 : Addr) (t m' : Int32) (h0 : Heap) (n0 : Nat) (Z0 : n0 ≤ h0.size) (I : own_In t m') (F1 : Fld Z h0 a1 "com/example/kinsmark/kinsmark/evaluation/CategoryResult" "independentNotSimilar" "I" (.int t)) (F2 : Fld Z h0 a1 "com/example/kinsmark/kinsmark/evaluation/CategoryResult" "independent" "I" (.int m')) :
    own_Met l Z (⟨"com/example/kinsmark/kinsmark/evaluation/CategoryResult", "credibility", "()D"⟩ : MethodName) prog_3_method_5_code 1 (some .double) ({ frames := 0, cells := 0, slots := 0, locals := 0 } : Room) #[(.ref a1)] h0 (fun v h L => v = some (.double (own_Q t m')) ∧ Fr n0 L ∧ h0 = h) := by
  refine own_body (plainFor_of_name (by first | (simp [plainName, overriddenIn]; done) | decide +kernel)) ?_
  intro p e s m below meth c s₁ hx hby hml hown hnm hlk hrt hZ X0 e0
  refine own_enter (ef_rm_cred m a1) ?_
  have N0 := Fr.nil n0
  refine own_aloadN X0 hx hby od_prog_3_method_5_0 (pc' := 1) rfl rfl rfl ?_
  refine own_getF X0 hx hby hZ hown (host := "") (Or.inl (ow_55 hw)) Via.refl e0 F1 od_prog_3_method_5_1 (pc' := 4) rfl ?_
  intro T1 X1 e1
  refine own_i2d X1 hx hby od_prog_3_method_5_4 (pc' := 5) rfl (i2d_w _) ?_
  refine own_aloadN X1 hx hby od_prog_3_method_5_5 (pc' := 6) rfl rfl rfl ?_
  refine own_getF X1 hx hby hZ hown (host := "") (Or.inl (ow_49 hw)) Via.refl e1 F2 od_prog_3_method_5_6 (pc' := 9) rfl ?_
  intro T2 X2 e2
  refine own_i2d X2 hx hby od_prog_3_method_5_9 (pc' := 10) rfl (i2d_w _) ?_
  refine own_ddiv X2 hx hby od_prog_3_method_5_10 (pc' := 11) rfl (own_Q_nn I) (v := own_Q t m') rfl ?_
  exact own_retD X2 hx hby hlk hrt od_prog_3_method_5_11 (by first | exact ⟨rfl, N0, rfl⟩ | (rw [e2]; exact ⟨rfl, N0, rfl⟩)) (by decide) (by decide)
theorem ef_rm_fix (m : MethodId) (x0 : Int32) (x1 : Int32) (x2 : UInt64) : entryFrame m #[(.int x0), (.int x1), (.double x2)] 5 = mkF m 0 #[.val (.int x0), .val (.int x1), .val (.double x2), .second, .unset] [] := by first | (simp [entryFrame, mkF, argsToLocals, Value.category]; done) | rfl
set_option maxRecDepth 65536 in
set_option maxHeartbeats 40000000 in
theorem rm_fix (l : Launch) (Z : State) (a0 : Array Value) (hw : ∀ d ∈ tables_1, d.before a0 Z = true) (t m' : Int32) (h0 : Heap) (n0 : Nat) (Z0 : n0 ≤ h0.size) (I : own_In t m') :
    own_Met l Z (⟨"com/example/kinsmark/kinsmark/evaluation/CategoryResultCredibilityPinLaw", "fixedPoints", "(IID)Z"⟩ : MethodName) method_2_code 5 (some .boolean) ({ frames := 0, cells := 0, slots := 0, locals := 0 } : Room) #[(.int t), (.int m'), (.double (own_Q t m'))] h0 (fun v h L => v = some (.int (1 : Int32)) ∧ Fr n0 L ∧ h0 = h) := by
  refine own_body (plainFor_of_name (by first | (simp [plainName, overriddenIn]; done) | decide +kernel)) ?_
  intro p e s m below meth c s₁ hx hby hml hown hnm hlk hrt hZ X0 e0
  refine own_enter (ef_rm_fix m t m' (own_Q t m')) ?_
  have N0 := Fr.nil n0
  refine own_dconst0 X0 hx hby od_method_2_0 (pc' := 1) rfl (v := (0 : UInt64)) rfl ?_
  refine own_dloadN X0 hx hby od_method_2_1 (pc' := 2) rfl rfl ?_
  obtain ⟨dv1, hd1, hk1⟩ := own_f0 I
  refine own_dcmp X0 hx hby od_method_2_2 (pc' := 3) rfl (v := dv1) hd1 ?_
  refine own_ifN X0 hx hby od_method_2_3 (pc' := 6) rfl (flt hk1).2.2.1 ?_
  refine own_dloadN X0 hx hby od_method_2_6 (pc' := 7) rfl rfl ?_
  refine own_dconst1 X0 hx hby od_method_2_7 (pc' := 8) rfl (v := (4607182418800017408 : UInt64)) rfl ?_
  obtain ⟨dv2, hd2, hk2⟩ := own_f1 I
  refine own_dcmp X0 hx hby od_method_2_8 (pc' := 9) rfl (v := dv2) hd2 ?_
  refine own_ifN X0 hx hby od_method_2_9 (pc' := 12) rfl (flt hk2).2.2.1 ?_
  refine own_iconst X0 hx hby od_method_2_12 (pc' := 13) rfl (z := 1) rfl ?_
  refine own_goto X0 hx hby od_method_2_13 (by decide) (pc' := 17) (by decide) ?_
  refine own_istore X0 hx hby od_method_2_17 (pc' := 19) rfl (Ls' := #[.val (.int t), .val (.int m'), .val (.double (own_Q t m')), .second, .val (.int (1 : Int32))]) rfl ?_
  refine own_iloadN X0 hx hby od_method_2_19 (pc' := 20) rfl rfl ?_
  refine own_join (α := Unit) (F := fun _ => s₁.setTop (mkF m 41 #[.val (.int t), .val (.int m'), .val (.double (own_Q t m')), .second, .val (.int (1 : Int32))] [])) (P := fun _ => True) ?_ ?_
  · intro _ _
    show own_E p.tables e below _ (s₁.setTop (mkF m 41 #[.val (.int t), .val (.int m'), .val (.double (own_Q t m')), .second, .val (.int (1 : Int32))] []))
    refine own_iloadN X0 hx hby od_method_2_41 (pc' := 42) rfl rfl ?_
    refine own_iloadN X0 hx hby od_method_2_42 (pc' := 43) rfl rfl ?_
    refine own_join (α := Unit) (F := fun _ => s₁.setTop (mkF m 64 #[.val (.int t), .val (.int m'), .val (.double (own_Q t m')), .second, .val (.int (1 : Int32))] [])) (P := fun _ => True) ?_ ?_
    · intro _ _
      show own_E p.tables e below _ (s₁.setTop (mkF m 64 #[.val (.int t), .val (.int m'), .val (.double (own_Q t m')), .second, .val (.int (1 : Int32))] []))
      refine own_ldcJ X0 hx hby hZ hown (ow_66 hw) od_method_2_64 (pc' := 67) rfl ?_
      refine own_iloadN X0 hx hby od_method_2_67 (pc' := 68) rfl rfl ?_
      refine own_i2l X0 hx hby od_method_2_68 (pc' := 69) rfl ?_
      refine own_lmul X0 hx hby od_method_2_69 (pc' := 70) rfl ?_
      refine own_iloadN X0 hx hby od_method_2_70 (pc' := 71) rfl rfl ?_
      refine own_i2l X0 hx hby od_method_2_71 (pc' := 72) rfl ?_
      refine own_lcmp X0 hx hby od_method_2_72 (pc' := 73) rfl ?_
      refine own_join (α := Unit) (F := fun _ => s₁.setTop (mkF m 96 #[.val (.int t), .val (.int m'), .val (.double (own_Q t m')), .second, .val (.int (1 : Int32))] [])) (P := fun _ => True) ?_ ?_
      · intro _ _
        show own_E p.tables e below _ (s₁.setTop (mkF m 96 #[.val (.int t), .val (.int m'), .val (.double (own_Q t m')), .second, .val (.int (1 : Int32))] []))
        refine own_ldcJ X0 hx hby hZ hown (ow_67 hw) od_method_2_96 (pc' := 99) rfl ?_
        refine own_iloadN X0 hx hby od_method_2_99 (pc' := 100) rfl rfl ?_
        refine own_i2l X0 hx hby od_method_2_100 (pc' := 101) rfl ?_
        refine own_lmul X0 hx hby od_method_2_101 (pc' := 102) rfl ?_
        refine own_iloadN X0 hx hby od_method_2_102 (pc' := 103) rfl rfl ?_
        refine own_i2l X0 hx hby od_method_2_103 (pc' := 104) rfl ?_
        refine own_lcmp X0 hx hby od_method_2_104 (pc' := 105) rfl ?_
        refine own_join (α := Unit) (F := fun _ => s₁.setTop (mkF m 128 #[.val (.int t), .val (.int m'), .val (.double (own_Q t m')), .second, .val (.int (1 : Int32))] [])) (P := fun _ => True) ?_ ?_
        · intro _ _
          show own_E p.tables e below _ (s₁.setTop (mkF m 128 #[.val (.int t), .val (.int m'), .val (.double (own_Q t m')), .second, .val (.int (1 : Int32))] []))
          refine own_ldcJ X0 hx hby hZ hown (ow_67 hw) od_method_2_128 (pc' := 131) rfl ?_
          refine own_iloadN X0 hx hby od_method_2_131 (pc' := 132) rfl rfl ?_
          refine own_i2l X0 hx hby od_method_2_132 (pc' := 133) rfl ?_
          refine own_lmul X0 hx hby od_method_2_133 (pc' := 134) rfl ?_
          refine own_ldcJ X0 hx hby hZ hown (ow_68 hw) od_method_2_134 (pc' := 137) rfl ?_
          refine own_iloadN X0 hx hby od_method_2_137 (pc' := 138) rfl rfl ?_
          refine own_i2l X0 hx hby od_method_2_138 (pc' := 139) rfl ?_
          refine own_lmul X0 hx hby od_method_2_139 (pc' := 140) rfl ?_
          refine own_lcmp X0 hx hby od_method_2_140 (pc' := 141) rfl ?_
          refine own_join (α := Unit) (F := fun _ => s₁.setTop (mkF m 164 #[.val (.int t), .val (.int m'), .val (.double (own_Q t m')), .second, .val (.int (1 : Int32))] [])) (P := fun _ => True) ?_ ?_
          · intro _ _
            show own_E p.tables e below _ (s₁.setTop (mkF m 164 #[.val (.int t), .val (.int m'), .val (.double (own_Q t m')), .second, .val (.int (1 : Int32))] []))
            refine own_iload X0 hx hby od_method_2_164 (pc' := 166) rfl rfl ?_
            exact own_retN X0 hx hby hlk hrt (by simp) od_method_2_166 (z' := (1 : Int32)) rfl (by first | exact ⟨rfl, N0, rfl⟩ | (rw [e0]; exact ⟨rfl, N0, rfl⟩)) (by decide) (by decide)
          · intro J7
            by_cases h4_ : (lcmpW ((4 : Int64) * (t.toInt64)) ((3 : Int64) * (m'.toInt64))) = (0 : Int32)
            · refine own_ifN X0 hx hby od_method_2_141 (pc' := 144) rfl (teq h4_).2 ?_
              refine own_iload X0 hx hby od_method_2_144 (pc' := 146) rfl rfl ?_
              refine own_ifN X0 hx hby od_method_2_146 (pc' := 149) rfl (feq (by decide)).1 ?_
              refine own_dloadN X0 hx hby od_method_2_149 (pc' := 150) rfl rfl ?_
              refine own_ldcD X0 hx hby hZ hown (ow_70 hw) od_method_2_150 (pc' := 153) rfl ?_
              refine own_dcmp X0 hx hby od_method_2_153 (pc' := 154) rfl (v := (0 : Int32)) (own_e34 I h4_) ?_
              refine own_ifN X0 hx hby od_method_2_154 (pc' := 157) rfl (teq rfl).2 ?_
              refine own_iconst X0 hx hby od_method_2_157 (pc' := 158) rfl (z := 1) rfl ?_
              refine own_goto X0 hx hby od_method_2_158 (by decide) (pc' := 162) (by decide) ?_
              refine own_istore X0 hx hby od_method_2_162 (pc' := 164) rfl (Ls' := #[.val (.int t), .val (.int m'), .val (.double (own_Q t m')), .second, .val (.int (1 : Int32))]) rfl ?_
              exact J7 () trivial
            · refine own_ifY X0 hx hby od_method_2_141 (by decide) (pc' := 164) (by decide) (feq h4_).2 ?_
              exact J7 () trivial
        · intro J6
          by_cases h3_ : (lcmpW ((4 : Int64) * (t.toInt64)) (m'.toInt64)) = (0 : Int32)
          · refine own_ifN X0 hx hby od_method_2_105 (pc' := 108) rfl (teq h3_).2 ?_
            refine own_iload X0 hx hby od_method_2_108 (pc' := 110) rfl rfl ?_
            refine own_ifN X0 hx hby od_method_2_110 (pc' := 113) rfl (feq (by decide)).1 ?_
            refine own_dloadN X0 hx hby od_method_2_113 (pc' := 114) rfl rfl ?_
            refine own_ldcD X0 hx hby hZ hown (ow_71 hw) od_method_2_114 (pc' := 117) rfl ?_
            refine own_dcmp X0 hx hby od_method_2_117 (pc' := 118) rfl (v := (0 : Int32)) (own_e4 I h3_) ?_
            refine own_ifN X0 hx hby od_method_2_118 (pc' := 121) rfl (teq rfl).2 ?_
            refine own_iconst X0 hx hby od_method_2_121 (pc' := 122) rfl (z := 1) rfl ?_
            refine own_goto X0 hx hby od_method_2_122 (by decide) (pc' := 126) (by decide) ?_
            refine own_istore X0 hx hby od_method_2_126 (pc' := 128) rfl (Ls' := #[.val (.int t), .val (.int m'), .val (.double (own_Q t m')), .second, .val (.int (1 : Int32))]) rfl ?_
            exact J6 () trivial
          · refine own_ifY X0 hx hby od_method_2_105 (by decide) (pc' := 128) (by decide) (feq h3_).2 ?_
            exact J6 () trivial
      · intro J5
        by_cases h2_ : (lcmpW ((2 : Int64) * (t.toInt64)) (m'.toInt64)) = (0 : Int32)
        · refine own_ifN X0 hx hby od_method_2_73 (pc' := 76) rfl (teq h2_).2 ?_
          refine own_iload X0 hx hby od_method_2_76 (pc' := 78) rfl rfl ?_
          refine own_ifN X0 hx hby od_method_2_78 (pc' := 81) rfl (feq (by decide)).1 ?_
          refine own_dloadN X0 hx hby od_method_2_81 (pc' := 82) rfl rfl ?_
          refine own_ldcD X0 hx hby hZ hown (ow_69 hw) od_method_2_82 (pc' := 85) rfl ?_
          refine own_dcmp X0 hx hby od_method_2_85 (pc' := 86) rfl (v := (0 : Int32)) (own_e2 I h2_) ?_
          refine own_ifN X0 hx hby od_method_2_86 (pc' := 89) rfl (teq rfl).2 ?_
          refine own_iconst X0 hx hby od_method_2_89 (pc' := 90) rfl (z := 1) rfl ?_
          refine own_goto X0 hx hby od_method_2_90 (by decide) (pc' := 94) (by decide) ?_
          refine own_istore X0 hx hby od_method_2_94 (pc' := 96) rfl (Ls' := #[.val (.int t), .val (.int m'), .val (.double (own_Q t m')), .second, .val (.int (1 : Int32))]) rfl ?_
          exact J5 () trivial
        · refine own_ifY X0 hx hby od_method_2_73 (by decide) (pc' := 96) (by decide) (feq h2_).2 ?_
          exact J5 () trivial
    · intro J4
      by_cases h1_ : t = m'
      · refine own_icmpN X0 hx hby od_method_2_43 (pc' := 46) rfl (teq h1_).2 ?_
        refine own_iload X0 hx hby od_method_2_46 (pc' := 48) rfl rfl ?_
        refine own_ifN X0 hx hby od_method_2_48 (pc' := 51) rfl (feq (by decide)).1 ?_
        refine own_dloadN X0 hx hby od_method_2_51 (pc' := 52) rfl rfl ?_
        refine own_dconst1 X0 hx hby od_method_2_52 (pc' := 53) rfl (v := (4607182418800017408 : UInt64)) rfl ?_
        refine own_dcmp X0 hx hby od_method_2_53 (pc' := 54) rfl (v := (0 : Int32)) (own_e1 I h1_) ?_
        refine own_ifN X0 hx hby od_method_2_54 (pc' := 57) rfl (teq rfl).2 ?_
        refine own_iconst X0 hx hby od_method_2_57 (pc' := 58) rfl (z := 1) rfl ?_
        refine own_goto X0 hx hby od_method_2_58 (by decide) (pc' := 62) (by decide) ?_
        refine own_istore X0 hx hby od_method_2_62 (pc' := 64) rfl (Ls' := #[.val (.int t), .val (.int m'), .val (.double (own_Q t m')), .second, .val (.int (1 : Int32))]) rfl ?_
        exact J4 () trivial
      · refine own_icmpY X0 hx hby od_method_2_43 (by decide) (pc' := 64) (by decide) (feq h1_).2 ?_
        exact J4 () trivial
  · intro J3
    by_cases h0_ : t = (0 : Int32)
    · refine own_ifN X0 hx hby od_method_2_20 (pc' := 23) rfl (teq h0_).2 ?_
      refine own_iload X0 hx hby od_method_2_23 (pc' := 25) rfl rfl ?_
      refine own_ifN X0 hx hby od_method_2_25 (pc' := 28) rfl (feq (by decide)).1 ?_
      refine own_dloadN X0 hx hby od_method_2_28 (pc' := 29) rfl rfl ?_
      refine own_dconst0 X0 hx hby od_method_2_29 (pc' := 30) rfl (v := (0 : UInt64)) rfl ?_
      refine own_dcmp X0 hx hby od_method_2_30 (pc' := 31) rfl (v := (0 : Int32)) (own_e0 I h0_) ?_
      refine own_ifN X0 hx hby od_method_2_31 (pc' := 34) rfl (teq rfl).2 ?_
      refine own_iconst X0 hx hby od_method_2_34 (pc' := 35) rfl (z := 1) rfl ?_
      refine own_goto X0 hx hby od_method_2_35 (by decide) (pc' := 39) (by decide) ?_
      refine own_istore X0 hx hby od_method_2_39 (pc' := 41) rfl (Ls' := #[.val (.int t), .val (.int m'), .val (.double (own_Q t m')), .second, .val (.int (1 : Int32))]) rfl ?_
      exact J3 () trivial
    · refine own_ifY X0 hx hby od_method_2_20 (by decide) (pc' := 41) (by decide) (feq h0_).2 ?_
      exact J3 () trivial
theorem ef_rm_law (m : MethodId) (x0 : Int32) (x1 : Int32) (x2 : Int32) (x3 : Int32) (x4 : Int32) (x5 : Int64) : entryFrame m #[(.int x0), (.int x1), (.int x2), (.int x3), (.int x4), (.long x5)] maxLocals = mkF m 0 #[.val (.int x0), .val (.int x1), .val (.int x2), .val (.int x3), .val (.int x4), .val (.long x5), .second, .unset, .unset, .unset, .unset, .unset, .unset, .unset, .unset, .unset, .unset, .unset, .unset, .unset, .unset, .unset, .unset, .unset, .unset, .unset, .unset, .unset, .unset, .unset] [] := by first | (simp [entryFrame, mkF, argsToLocals, Value.category, maxLocals]; done) | rfl
set_option maxRecDepth 65536 in
set_option maxHeartbeats 40000000 in
theorem rm_law (l : Launch) (Z : State) (a0 : Array Value) (hw : ∀ d ∈ tables_1, d.before a0 Z = true) (p1 p2 p3 p4 p5 : Int32) (pf : Int64) (G1 : Int32) (h0 : Heap) (n0 : Nat) (Z0 : n0 ≤ h0.size) (S_cs : Sta Z h0 "java/lang/String" "COMPACT_STRINGS" "Z" (.int G1)) (P5 : ¬ (G1 = (0 : Int32))) :
    own_Met l Z x code maxLocals ret room_1 #[(.int p1), (.int p2), (.int p3), (.int p4), (.int p5), (.long pf)] h0 (fun v h L => v = some (.int 1) ∧ Fr n0 L) := by
  refine own_body (plainFor_of_name (by first | (simp [plainName, overriddenIn]; done) | decide +kernel)) ?_
  intro p e s m below meth c s₁ hx hby hml hown hnm hlk hrt hZ X0 e0
  have hml : c.maxLocals = 30 := hml
  refine own_enter (ef_rm_law m p1 p2 p3 p4 p5 pf) ?_
  have N0 := Fr.nil n0
  refine own_iconst X0 hx hby at_0 (pc' := 1) rfl (z := 1) rfl ?_
  refine own_iloadN X0 hx hby at_1 (pc' := 2) rfl rfl ?_
  refine own_ldcI X0 hx hby hZ hown (ow_0 hw) at_2 (pc' := 4) rfl ?_
  refine own_iand X0 hx hby at_4 (pc' := 5) rfl ?_
  refine own_callM X0 hx hby hml hZ hown (ow_1 hw) (ow_2 hw) (ow_3 hw) (ow_4 hw) (by decide) (cc := 0) (ss := 0) (rm_max l Z a0 hw (p1 &&& (2147483647 : Int32)) h0 n0 Z0) 0 rfl rfl (by decide) (by decide) rfl (argsL := [(.int (1 : Int32)), (.int (p1 &&& (2147483647 : Int32)))]) (rest := []) opd_4 rfl rfl (Nat.le_refl _) at_5 (pc' := 8) rfl rfl e0 (by decide) (by decide) ?_
  rintro v1 T1 h1 L1 X1 e1 ⟨m1, rfl, hm1, Nq1, rfl⟩
  have N1 := N0.app Nq1
  refine own_istore X1 hx hby at_8 (pc' := 10) rfl (Ls' := #[.val (.int p1), .val (.int p2), .val (.int p3), .val (.int p4), .val (.int p5), .val (.long pf), .second, .val (.int m1), .unset, .unset, .unset, .unset, .unset, .unset, .unset, .unset, .unset, .unset, .unset, .unset, .unset, .unset, .unset, .unset, .unset, .unset, .unset, .unset, .unset, .unset]) rfl ?_
  refine own_iconst X1 hx hby at_10 (pc' := 11) rfl (z := 1) rfl ?_
  refine own_iloadN X1 hx hby at_11 (pc' := 12) rfl rfl ?_
  refine own_ldcI X1 hx hby hZ hown (ow_0 hw) at_12 (pc' := 14) rfl ?_
  refine own_iand X1 hx hby at_14 (pc' := 15) rfl ?_
  refine own_callM X1 hx hby hml hZ hown (ow_1 hw) (ow_2 hw) (ow_3 hw) (ow_4 hw) (by decide) (cc := 0) (ss := 0) (rm_max l Z a0 hw (p3 &&& (2147483647 : Int32)) h0 n0 Z0) 0 rfl rfl (by decide) (by decide) rfl (argsL := [(.int (1 : Int32)), (.int (p3 &&& (2147483647 : Int32)))]) (rest := []) opd_4 rfl rfl (Nat.le_refl _) at_15 (pc' := 18) rfl rfl e1 (by decide) (by decide) ?_
  rintro v2 T2 h2 L2 X2 e2 ⟨m2, rfl, hm2, Nq2, rfl⟩
  have N2 := N1.app Nq2
  refine own_istore X2 hx hby at_18 (pc' := 20) rfl (Ls' := #[.val (.int p1), .val (.int p2), .val (.int p3), .val (.int p4), .val (.int p5), .val (.long pf), .second, .val (.int m1), .val (.int m2), .unset, .unset, .unset, .unset, .unset, .unset, .unset, .unset, .unset, .unset, .unset, .unset, .unset, .unset, .unset, .unset, .unset, .unset, .unset, .unset, .unset]) rfl ?_
  refine own_iloadN X2 hx hby at_20 (pc' := 21) rfl rfl ?_
  refine own_i2l X2 hx hby at_21 (pc' := 22) rfl ?_
  refine own_ldcJ X2 hx hby hZ hown (ow_5 hw) at_22 (pc' := 25) rfl ?_
  refine own_land X2 hx hby at_25 (pc' := 26) rfl ?_
  refine own_iload X2 hx hby at_26 (pc' := 28) rfl rfl ?_
  refine own_i2l X2 hx hby at_28 (pc' := 29) rfl ?_
  refine own_lconst X2 hx hby at_29 (pc' := 30) rfl (z := 1) rfl ?_
  refine own_ladd X2 hx hby at_30 (pc' := 31) rfl ?_
  refine own_lrem X2 hx hby at_31 (pc' := 32) rfl (own_m1n hm1) ?_
  refine own_l2i X2 hx hby at_32 (pc' := 33) rfl ?_
  generalize hq_t1 : ((((p2.toInt64) &&& (4294967295 : Int64)) % ((m1.toInt64) + (1 : Int64))).toInt32) = t1
  have I1 := own_tIn hm1 hq_t1
  refine own_istore X2 hx hby at_33 (pc' := 35) rfl (Ls' := #[.val (.int p1), .val (.int p2), .val (.int p3), .val (.int p4), .val (.int p5), .val (.long pf), .second, .val (.int m1), .val (.int m2), .val (.int t1), .unset, .unset, .unset, .unset, .unset, .unset, .unset, .unset, .unset, .unset, .unset, .unset, .unset, .unset, .unset, .unset, .unset, .unset, .unset, .unset]) rfl ?_
  refine own_iloadN X2 hx hby at_35 (pc' := 36) rfl rfl ?_
  refine own_i2l X2 hx hby at_36 (pc' := 37) rfl ?_
  refine own_ldcJ X2 hx hby hZ hown (ow_5 hw) at_37 (pc' := 40) rfl ?_
  refine own_land X2 hx hby at_40 (pc' := 41) rfl ?_
  refine own_iload X2 hx hby at_41 (pc' := 43) rfl rfl ?_
  refine own_i2l X2 hx hby at_43 (pc' := 44) rfl ?_
  refine own_lconst X2 hx hby at_44 (pc' := 45) rfl (z := 1) rfl ?_
  refine own_ladd X2 hx hby at_45 (pc' := 46) rfl ?_
  refine own_lrem X2 hx hby at_46 (pc' := 47) rfl (own_m1n hm2) ?_
  refine own_l2i X2 hx hby at_47 (pc' := 48) rfl ?_
  generalize hq_t2 : ((((p4.toInt64) &&& (4294967295 : Int64)) % ((m2.toInt64) + (1 : Int64))).toInt32) = t2
  have I2 := own_tIn hm2 hq_t2
  refine own_istore X2 hx hby at_48 (pc' := 50) rfl (Ls' := #[.val (.int p1), .val (.int p2), .val (.int p3), .val (.int p4), .val (.int p5), .val (.long pf), .second, .val (.int m1), .val (.int m2), .val (.int t1), .val (.int t2), .unset, .unset, .unset, .unset, .unset, .unset, .unset, .unset, .unset, .unset, .unset, .unset, .unset, .unset, .unset, .unset, .unset, .unset, .unset]) rfl ?_
  refine own_iload X2 hx hby at_50 (pc' := 52) rfl rfl ?_
  refine own_i2l X2 hx hby at_52 (pc' := 53) rfl ?_
  refine own_ldcJ X2 hx hby hZ hown (ow_5 hw) at_53 (pc' := 56) rfl ?_
  refine own_land X2 hx hby at_56 (pc' := 57) rfl ?_
  refine own_iload X2 hx hby at_57 (pc' := 59) rfl rfl ?_
  refine own_i2l X2 hx hby at_59 (pc' := 60) rfl ?_
  refine own_lconst X2 hx hby at_60 (pc' := 61) rfl (z := 1) rfl ?_
  refine own_ladd X2 hx hby at_61 (pc' := 62) rfl ?_
  refine own_lrem X2 hx hby at_62 (pc' := 63) rfl (own_m1n hm1) ?_
  refine own_l2i X2 hx hby at_63 (pc' := 64) rfl ?_
  generalize hq_t3 : ((((p5.toInt64) &&& (4294967295 : Int64)) % ((m1.toInt64) + (1 : Int64))).toInt32) = t3
  have I3 := own_tIn hm1 hq_t3
  refine own_istore X2 hx hby at_64 (pc' := 66) rfl (Ls' := #[.val (.int p1), .val (.int p2), .val (.int p3), .val (.int p4), .val (.int p5), .val (.long pf), .second, .val (.int m1), .val (.int m2), .val (.int t1), .val (.int t2), .val (.int t3), .unset, .unset, .unset, .unset, .unset, .unset, .unset, .unset, .unset, .unset, .unset, .unset, .unset, .unset, .unset, .unset, .unset, .unset]) rfl ?_
  refine own_lload X2 hx hby at_66 (pc' := 68) rfl rfl ?_
  refine own_ldcJ X2 hx hby hZ hown (ow_6 hw) at_68 (pc' := 71) rfl ?_
  refine own_land X2 hx hby at_71 (pc' := 72) rfl ?_
  refine own_l2i X2 hx hby at_72 (pc' := 73) rfl ?_
  refine own_i2cE X2 hx hby at_73 (pc' := 74) rfl (own_lmc pf) ?_
  refine own_callM X2 hx hby hml hZ hown (ow_7 hw) (ow_8 hw) (ow_9 hw) (ow_10 hw) (by decide) (cc := 2) (ss := 5) (rm_valueOf l Z a0 hw ((pf &&& (255 : Int64)).toInt32) G1 h0 n0 Z0 S_cs P5 (own_lmask pf).1 (own_lmask pf).2) 0 rfl rfl (by decide) (by decide) rfl (argsL := [(.int ((pf &&& (255 : Int64)).toInt32))]) (rest := []) opd_5 rfl rfl (Nat.le_refl _) at_74 (pc' := 77) rfl rfl e2 (by decide) (by decide) ?_
  rintro v3 T3 h3 L3 X3 e3 ⟨s1, rfl, _, Eq3, Nq3, Str_s1⟩
  have N3 := N2.app Nq3
  replace S_cs := S_cs.ext Eq3
  refine own_astore X3 hx hby at_77 (pc' := 79) rfl rfl (Ls' := #[.val (.int p1), .val (.int p2), .val (.int p3), .val (.int p4), .val (.int p5), .val (.long pf), .second, .val (.int m1), .val (.int m2), .val (.int t1), .val (.int t2), .val (.int t3), .val (.ref s1), .unset, .unset, .unset, .unset, .unset, .unset, .unset, .unset, .unset, .unset, .unset, .unset, .unset, .unset, .unset, .unset, .unset]) rfl ?_
  refine own_lload X3 hx hby at_79 (pc' := 81) rfl rfl ?_
  refine own_l2i X3 hx hby at_81 (pc' := 82) rfl ?_
  refine own_istore X3 hx hby at_82 (pc' := 84) rfl (Ls' := #[.val (.int p1), .val (.int p2), .val (.int p3), .val (.int p4), .val (.int p5), .val (.long pf), .second, .val (.int m1), .val (.int m2), .val (.int t1), .val (.int t2), .val (.int t3), .val (.ref s1), .val (.int (pf.toInt32)), .unset, .unset, .unset, .unset, .unset, .unset, .unset, .unset, .unset, .unset, .unset, .unset, .unset, .unset, .unset, .unset]) rfl ?_
  refine own_lload X3 hx hby at_84 (pc' := 86) rfl rfl ?_
  refine own_bipush X3 hx hby at_86 (pc' := 88) rfl (z := 16) rfl ?_
  refine own_lshr X3 hx hby at_88 (pc' := 89) rfl ?_
  refine own_l2i X3 hx hby at_89 (pc' := 90) rfl ?_
  refine own_istore X3 hx hby at_90 (pc' := 92) rfl (Ls' := #[.val (.int p1), .val (.int p2), .val (.int p3), .val (.int p4), .val (.int p5), .val (.long pf), .second, .val (.int m1), .val (.int m2), .val (.int t1), .val (.int t2), .val (.int t3), .val (.ref s1), .val (.int (pf.toInt32)), .val (.int ((pf >>> ((16 : Int32) &&& 0x3f).toInt64).toInt32)), .unset, .unset, .unset, .unset, .unset, .unset, .unset, .unset, .unset, .unset, .unset, .unset, .unset, .unset, .unset]) rfl ?_
  refine own_lload X3 hx hby at_92 (pc' := 94) rfl rfl ?_
  refine own_bipush X3 hx hby at_94 (pc' := 96) rfl (z := 32) rfl ?_
  refine own_lushr X3 hx hby at_96 (pc' := 97) rfl ?_
  refine own_l2i X3 hx hby at_97 (pc' := 98) rfl ?_
  refine own_istore X3 hx hby at_98 (pc' := 100) rfl (Ls' := #[.val (.int p1), .val (.int p2), .val (.int p3), .val (.int p4), .val (.int p5), .val (.long pf), .second, .val (.int m1), .val (.int m2), .val (.int t1), .val (.int t2), .val (.int t3), .val (.ref s1), .val (.int (pf.toInt32)), .val (.int ((pf >>> ((16 : Int32) &&& 0x3f).toInt64).toInt32)), .val (.int (((pf.toUInt64 >>> ((32 : Int32) &&& 0x3f).toInt64.toUInt64).toInt64).toInt32)), .unset, .unset, .unset, .unset, .unset, .unset, .unset, .unset, .unset, .unset, .unset, .unset, .unset, .unset]) rfl ?_
  refine own_newO X3 hx hby hZ hown (ow_33 hw) (ow_34 hw) (ow_35 hw) e3 at_100 (pc' := 103) rfl (by decide) (by decide) ?_
  intro T4 h4 b4 g4 X4 e4 E4 AX4 D4
  have le5 : h0.size ≤ b4 := Nat.le_trans Eq3.1 (Nat.le_of_eq g4.symm)
  have le6 : h3.size ≤ b4 := Nat.le_of_eq g4.symm
  have n0_b4 : n0 ≤ b4 := Nat.le_trans (Nat.le_trans Z0 Eq3.1) (Nat.le_of_eq g4.symm)
  have Ea7 := own_xt Eq3 E4
  have F_category_b4 : Fld Z h4 b4 "com/example/kinsmark/kinsmark/evaluation/CategoryResult" "category" "Ljava/lang/String;" .null := D4 (Or.inr (ow_46 hw)) (ty := (.object "java/lang/String")) (by decide)
  have F_reused_b4 : Fld Z h4 b4 "com/example/kinsmark/kinsmark/evaluation/CategoryResult" "reused" "I" (.int (0 : Int32)) := D4 (Or.inr (ow_48 hw)) (ty := .int) (by decide)
  have F_independent_b4 : Fld Z h4 b4 "com/example/kinsmark/kinsmark/evaluation/CategoryResult" "independent" "I" (.int (0 : Int32)) := D4 (Or.inr (ow_50 hw)) (ty := .int) (by decide)
  have F_perMille_b4 : Fld Z h4 b4 "com/example/kinsmark/kinsmark/evaluation/CategoryResult" "perMille" "I" (.int (0 : Int32)) := D4 (Or.inr (ow_52 hw)) (ty := .int) (by decide)
  have F_reusedSimilar_b4 : Fld Z h4 b4 "com/example/kinsmark/kinsmark/evaluation/CategoryResult" "reusedSimilar" "I" (.int (0 : Int32)) := D4 (Or.inr (ow_54 hw)) (ty := .int) (by decide)
  have F_independentNotSimilar_b4 : Fld Z h4 b4 "com/example/kinsmark/kinsmark/evaluation/CategoryResult" "independentNotSimilar" "I" (.int (0 : Int32)) := D4 (Or.inr (ow_56 hw)) (ty := .int) (by decide)
  refine own_dup X4 hx hby at_103 (pc' := 104) rfl rfl ?_
  refine own_aload X4 hx hby at_104 (pc' := 106) rfl rfl rfl ?_
  refine own_iload X4 hx hby at_106 (pc' := 108) rfl rfl ?_
  refine own_iload X4 hx hby at_108 (pc' := 110) rfl rfl ?_
  refine own_iload X4 hx hby at_110 (pc' := 112) rfl rfl ?_
  refine own_iload X4 hx hby at_112 (pc' := 114) rfl rfl ?_
  refine own_iload X4 hx hby at_114 (pc' := 116) rfl rfl ?_
  refine own_specM X4 hx hby hml hZ hown rfl (ow_36 hw) (ow_37 hw) (ow_35 hw) (ow_38 hw) (by decide) (cc := 0) (ss := 0) (rm_cr l Z a0 hw b4 s1 (pf.toInt32) m1 ((pf >>> ((16 : Int32) &&& 0x3f).toInt64).toInt32) (((pf.toUInt64 >>> ((32 : Int32) &&& 0x3f).toInt64.toUInt64).toInt64).toInt32) t1 h4 n0 (Nat.le_trans Z0 Ea7.1) n0_b4 AX4 F_category_b4 F_reused_b4 F_independent_b4 F_perMille_b4 F_reusedSimilar_b4 F_independentNotSimilar_b4) 1 rfl rfl (by decide) (by decide) rfl (argsL := [(.ref s1), (.int (pf.toInt32)), (.int m1), (.int ((pf >>> ((16 : Int32) &&& 0x3f).toInt64).toInt32)), (.int (((pf.toUInt64 >>> ((32 : Int32) &&& 0x3f).toInt64.toUInt64).toInt64).toInt32)), (.int t1)]) (rest := [(.ref b4)]) opd_6 rfl rfl (Nat.le_refl _) at_116 (pc' := 119) rfl rfl e4 (by decide) (by decide) ?_
  rintro v8 T8 h8 L8 X8 e8 ⟨rfl, Nq8, Kq8, B1, B1_0, B1_1, B1_2, B1_3, B1_4, B1_5⟩
  have N8 := N3.app Nq8
  have Ea9 := own_xk Ea7 Kq8 (allS le5 all0)
  have Ea10 := own_xk E4 Kq8 (allS le6 all0)
  replace S_cs := S_cs.ext Ea10
  refine own_astore X8 hx hby at_119 (pc' := 121) rfl rfl (Ls' := #[.val (.int p1), .val (.int p2), .val (.int p3), .val (.int p4), .val (.int p5), .val (.long pf), .second, .val (.int m1), .val (.int m2), .val (.int t1), .val (.int t2), .val (.int t3), .val (.ref s1), .val (.int (pf.toInt32)), .val (.int ((pf >>> ((16 : Int32) &&& 0x3f).toInt64).toInt32)), .val (.int (((pf.toUInt64 >>> ((32 : Int32) &&& 0x3f).toInt64.toUInt64).toInt64).toInt32)), .val (.ref b4), .unset, .unset, .unset, .unset, .unset, .unset, .unset, .unset, .unset, .unset, .unset, .unset, .unset]) rfl ?_
  refine own_newO X8 hx hby hZ hown (ow_33 hw) (ow_34 hw) (ow_35 hw) e8 at_121 (pc' := 124) rfl (by decide) (by decide) ?_
  intro T11 h11 b11 g11 X11 e11 E11 AX11 D11
  have le12 : h0.size ≤ b11 := Nat.le_trans Ea9.1 (Nat.le_of_eq g11.symm)
  have le13 : h8.size ≤ b11 := Nat.le_of_eq g11.symm
  have n0_b11 : n0 ≤ b11 := Nat.le_trans (Nat.le_trans Z0 Ea9.1) (Nat.le_of_eq g11.symm)
  have Ea14 := own_xt Ea9 E11
  have F_category_b11 : Fld Z h11 b11 "com/example/kinsmark/kinsmark/evaluation/CategoryResult" "category" "Ljava/lang/String;" .null := D11 (Or.inr (ow_46 hw)) (ty := (.object "java/lang/String")) (by decide)
  have F_reused_b11 : Fld Z h11 b11 "com/example/kinsmark/kinsmark/evaluation/CategoryResult" "reused" "I" (.int (0 : Int32)) := D11 (Or.inr (ow_48 hw)) (ty := .int) (by decide)
  have F_independent_b11 : Fld Z h11 b11 "com/example/kinsmark/kinsmark/evaluation/CategoryResult" "independent" "I" (.int (0 : Int32)) := D11 (Or.inr (ow_50 hw)) (ty := .int) (by decide)
  have F_perMille_b11 : Fld Z h11 b11 "com/example/kinsmark/kinsmark/evaluation/CategoryResult" "perMille" "I" (.int (0 : Int32)) := D11 (Or.inr (ow_52 hw)) (ty := .int) (by decide)
  have F_reusedSimilar_b11 : Fld Z h11 b11 "com/example/kinsmark/kinsmark/evaluation/CategoryResult" "reusedSimilar" "I" (.int (0 : Int32)) := D11 (Or.inr (ow_54 hw)) (ty := .int) (by decide)
  have F_independentNotSimilar_b11 : Fld Z h11 b11 "com/example/kinsmark/kinsmark/evaluation/CategoryResult" "independentNotSimilar" "I" (.int (0 : Int32)) := D11 (Or.inr (ow_56 hw)) (ty := .int) (by decide)
  refine own_dup X11 hx hby at_124 (pc' := 125) rfl rfl ?_
  refine own_aload X11 hx hby at_125 (pc' := 127) rfl rfl rfl ?_
  refine own_iload X11 hx hby at_127 (pc' := 129) rfl rfl ?_
  refine own_iload X11 hx hby at_129 (pc' := 131) rfl rfl ?_
  refine own_iload X11 hx hby at_131 (pc' := 133) rfl rfl ?_
  refine own_iload X11 hx hby at_133 (pc' := 135) rfl rfl ?_
  refine own_iload X11 hx hby at_135 (pc' := 137) rfl rfl ?_
  refine own_specM X11 hx hby hml hZ hown rfl (ow_36 hw) (ow_37 hw) (ow_35 hw) (ow_38 hw) (by decide) (cc := 0) (ss := 0) (rm_cr l Z a0 hw b11 s1 (((pf.toUInt64 >>> ((32 : Int32) &&& 0x3f).toInt64.toUInt64).toInt64).toInt32) m2 (pf.toInt32) ((pf >>> ((16 : Int32) &&& 0x3f).toInt64).toInt32) t2 h11 n0 (Nat.le_trans Z0 Ea14.1) n0_b11 AX11 F_category_b11 F_reused_b11 F_independent_b11 F_perMille_b11 F_reusedSimilar_b11 F_independentNotSimilar_b11) 1 rfl rfl (by decide) (by decide) rfl (argsL := [(.ref s1), (.int (((pf.toUInt64 >>> ((32 : Int32) &&& 0x3f).toInt64.toUInt64).toInt64).toInt32)), (.int m2), (.int (pf.toInt32)), (.int ((pf >>> ((16 : Int32) &&& 0x3f).toInt64).toInt32)), (.int t2)]) (rest := [(.ref b11)]) opd_6 rfl rfl (Nat.le_refl _) at_137 (pc' := 140) rfl rfl e11 (by decide) (by decide) ?_
  rintro v15 T15 h15 L15 X15 e15 ⟨rfl, Nq15, Kq15, B2, B2_0, B2_1, B2_2, B2_3, B2_4, B2_5⟩
  have N15 := N8.app Nq15
  have Ea16 := own_xk Ea14 Kq15 (allS le12 all0)
  have Ea17 := own_xk E11 Kq15 (allS le13 all0)
  replace S_cs := S_cs.ext Ea17
  replace B1 := B1.ext Ea17
  replace B1_2 := B1_2.ext Ea17
  replace B1_5 := B1_5.ext Ea17
  refine own_astore X15 hx hby at_140 (pc' := 142) rfl rfl (Ls' := #[.val (.int p1), .val (.int p2), .val (.int p3), .val (.int p4), .val (.int p5), .val (.long pf), .second, .val (.int m1), .val (.int m2), .val (.int t1), .val (.int t2), .val (.int t3), .val (.ref s1), .val (.int (pf.toInt32)), .val (.int ((pf >>> ((16 : Int32) &&& 0x3f).toInt64).toInt32)), .val (.int (((pf.toUInt64 >>> ((32 : Int32) &&& 0x3f).toInt64.toUInt64).toInt64).toInt32)), .val (.ref b4), .val (.ref b11), .unset, .unset, .unset, .unset, .unset, .unset, .unset, .unset, .unset, .unset, .unset, .unset]) rfl ?_
  refine own_newO X15 hx hby hZ hown (ow_33 hw) (ow_34 hw) (ow_35 hw) e15 at_142 (pc' := 145) rfl (by decide) (by decide) ?_
  intro T18 h18 b18 g18 X18 e18 E18 AX18 D18
  have le19 : h0.size ≤ b18 := Nat.le_trans Ea16.1 (Nat.le_of_eq g18.symm)
  have le20 : h15.size ≤ b18 := Nat.le_of_eq g18.symm
  have n0_b18 : n0 ≤ b18 := Nat.le_trans (Nat.le_trans Z0 Ea16.1) (Nat.le_of_eq g18.symm)
  have Ea21 := own_xt Ea16 E18
  have F_category_b18 : Fld Z h18 b18 "com/example/kinsmark/kinsmark/evaluation/CategoryResult" "category" "Ljava/lang/String;" .null := D18 (Or.inr (ow_46 hw)) (ty := (.object "java/lang/String")) (by decide)
  have F_reused_b18 : Fld Z h18 b18 "com/example/kinsmark/kinsmark/evaluation/CategoryResult" "reused" "I" (.int (0 : Int32)) := D18 (Or.inr (ow_48 hw)) (ty := .int) (by decide)
  have F_independent_b18 : Fld Z h18 b18 "com/example/kinsmark/kinsmark/evaluation/CategoryResult" "independent" "I" (.int (0 : Int32)) := D18 (Or.inr (ow_50 hw)) (ty := .int) (by decide)
  have F_perMille_b18 : Fld Z h18 b18 "com/example/kinsmark/kinsmark/evaluation/CategoryResult" "perMille" "I" (.int (0 : Int32)) := D18 (Or.inr (ow_52 hw)) (ty := .int) (by decide)
  have F_reusedSimilar_b18 : Fld Z h18 b18 "com/example/kinsmark/kinsmark/evaluation/CategoryResult" "reusedSimilar" "I" (.int (0 : Int32)) := D18 (Or.inr (ow_54 hw)) (ty := .int) (by decide)
  have F_independentNotSimilar_b18 : Fld Z h18 b18 "com/example/kinsmark/kinsmark/evaluation/CategoryResult" "independentNotSimilar" "I" (.int (0 : Int32)) := D18 (Or.inr (ow_56 hw)) (ty := .int) (by decide)
  refine own_dup X18 hx hby at_145 (pc' := 146) rfl rfl ?_
  refine own_aload X18 hx hby at_146 (pc' := 148) rfl rfl rfl ?_
  refine own_iload X18 hx hby at_148 (pc' := 150) rfl rfl ?_
  refine own_iload X18 hx hby at_150 (pc' := 152) rfl rfl ?_
  refine own_iload X18 hx hby at_152 (pc' := 154) rfl rfl ?_
  refine own_iload X18 hx hby at_154 (pc' := 156) rfl rfl ?_
  refine own_iload X18 hx hby at_156 (pc' := 158) rfl rfl ?_
  refine own_specM X18 hx hby hml hZ hown rfl (ow_36 hw) (ow_37 hw) (ow_35 hw) (ow_38 hw) (by decide) (cc := 0) (ss := 0) (rm_cr l Z a0 hw b18 s1 ((pf >>> ((16 : Int32) &&& 0x3f).toInt64).toInt32) m1 (((pf.toUInt64 >>> ((32 : Int32) &&& 0x3f).toInt64.toUInt64).toInt64).toInt32) (pf.toInt32) t3 h18 n0 (Nat.le_trans Z0 Ea21.1) n0_b18 AX18 F_category_b18 F_reused_b18 F_independent_b18 F_perMille_b18 F_reusedSimilar_b18 F_independentNotSimilar_b18) 1 rfl rfl (by decide) (by decide) rfl (argsL := [(.ref s1), (.int ((pf >>> ((16 : Int32) &&& 0x3f).toInt64).toInt32)), (.int m1), (.int (((pf.toUInt64 >>> ((32 : Int32) &&& 0x3f).toInt64.toUInt64).toInt64).toInt32)), (.int (pf.toInt32)), (.int t3)]) (rest := [(.ref b18)]) opd_6 rfl rfl (Nat.le_refl _) at_158 (pc' := 161) rfl rfl e18 (by decide) (by decide) ?_
  rintro v22 T22 h22 L22 X22 e22 ⟨rfl, Nq22, Kq22, B3, B3_0, B3_1, B3_2, B3_3, B3_4, B3_5⟩
  have N22 := N15.app Nq22
  have Ea23 := own_xk Ea21 Kq22 (allS le19 all0)
  have Ea24 := own_xk E18 Kq22 (allS le20 all0)
  replace S_cs := S_cs.ext Ea24
  replace B1 := B1.ext Ea24
  replace B1_2 := B1_2.ext Ea24
  replace B1_5 := B1_5.ext Ea24
  replace B2 := B2.ext Ea24
  replace B2_2 := B2_2.ext Ea24
  replace B2_5 := B2_5.ext Ea24
  refine own_astore X22 hx hby at_161 (pc' := 163) rfl rfl (Ls' := #[.val (.int p1), .val (.int p2), .val (.int p3), .val (.int p4), .val (.int p5), .val (.long pf), .second, .val (.int m1), .val (.int m2), .val (.int t1), .val (.int t2), .val (.int t3), .val (.ref s1), .val (.int (pf.toInt32)), .val (.int ((pf >>> ((16 : Int32) &&& 0x3f).toInt64).toInt32)), .val (.int (((pf.toUInt64 >>> ((32 : Int32) &&& 0x3f).toInt64.toUInt64).toInt64).toInt32)), .val (.ref b4), .val (.ref b11), .val (.ref b18), .unset, .unset, .unset, .unset, .unset, .unset, .unset, .unset, .unset, .unset, .unset]) rfl ?_
  refine own_aload X22 hx hby at_163 (pc' := 165) rfl rfl rfl ?_
  refine own_virtM X22 hx hby hml hZ hown (ow_57 hw) (ow_58 hw) (notFace_of_selects (args := #[]) (mvT hZ (ow_60 hw))) (ow_60 hw) (ow_59 hw) (ow_35 hw) (ow_61 hw) (by decide) (cc := 0) (ss := 0) (rm_cred l Z a0 hw b4 t1 m1 h22 n0 (Nat.le_trans Z0 Ea23.1) I1 B1_5 B1_2) 0 rfl rfl (by decide) (by decide) rfl B1 (argsL := []) (rest := []) opd_7 rfl rfl (Nat.le_refl _) at_165 (pc' := 168) rfl rfl e22 (by decide) (by decide) ?_
  rintro v25 T25 h25 L25 X25 e25 ⟨rfl, Nq25, rfl⟩
  have N25 := N22.app Nq25
  refine own_dstore X25 hx hby at_168 (pc' := 170) rfl (Ls' := #[.val (.int p1), .val (.int p2), .val (.int p3), .val (.int p4), .val (.int p5), .val (.long pf), .second, .val (.int m1), .val (.int m2), .val (.int t1), .val (.int t2), .val (.int t3), .val (.ref s1), .val (.int (pf.toInt32)), .val (.int ((pf >>> ((16 : Int32) &&& 0x3f).toInt64).toInt32)), .val (.int (((pf.toUInt64 >>> ((32 : Int32) &&& 0x3f).toInt64.toUInt64).toInt64).toInt32)), .val (.ref b4), .val (.ref b11), .val (.ref b18), .val (.double (own_Q t1 m1)), .second, .unset, .unset, .unset, .unset, .unset, .unset, .unset, .unset, .unset]) rfl ?_
  refine own_aload X25 hx hby at_170 (pc' := 172) rfl rfl rfl ?_
  refine own_virtM X25 hx hby hml hZ hown (ow_57 hw) (ow_58 hw) (notFace_of_selects (args := #[]) (mvT hZ (ow_60 hw))) (ow_60 hw) (ow_59 hw) (ow_35 hw) (ow_61 hw) (by decide) (cc := 0) (ss := 0) (rm_cred l Z a0 hw b11 t2 m2 h22 n0 (Nat.le_trans Z0 Ea23.1) I2 B2_5 B2_2) 0 rfl rfl (by decide) (by decide) rfl B2 (argsL := []) (rest := []) opd_7 rfl rfl (Nat.le_refl _) at_172 (pc' := 175) rfl rfl e25 (by decide) (by decide) ?_
  rintro v26 T26 h26 L26 X26 e26 ⟨rfl, Nq26, rfl⟩
  have N26 := N25.app Nq26
  refine own_dstore X26 hx hby at_175 (pc' := 177) rfl (Ls' := #[.val (.int p1), .val (.int p2), .val (.int p3), .val (.int p4), .val (.int p5), .val (.long pf), .second, .val (.int m1), .val (.int m2), .val (.int t1), .val (.int t2), .val (.int t3), .val (.ref s1), .val (.int (pf.toInt32)), .val (.int ((pf >>> ((16 : Int32) &&& 0x3f).toInt64).toInt32)), .val (.int (((pf.toUInt64 >>> ((32 : Int32) &&& 0x3f).toInt64.toUInt64).toInt64).toInt32)), .val (.ref b4), .val (.ref b11), .val (.ref b18), .val (.double (own_Q t1 m1)), .second, .val (.double (own_Q t2 m2)), .second, .unset, .unset, .unset, .unset, .unset, .unset, .unset]) rfl ?_
  refine own_aload X26 hx hby at_177 (pc' := 179) rfl rfl rfl ?_
  refine own_virtM X26 hx hby hml hZ hown (ow_57 hw) (ow_58 hw) (notFace_of_selects (args := #[]) (mvT hZ (ow_60 hw))) (ow_60 hw) (ow_59 hw) (ow_35 hw) (ow_61 hw) (by decide) (cc := 0) (ss := 0) (rm_cred l Z a0 hw b18 t3 m1 h22 n0 (Nat.le_trans Z0 Ea23.1) I3 B3_5 B3_2) 0 rfl rfl (by decide) (by decide) rfl B3 (argsL := []) (rest := []) opd_7 rfl rfl (Nat.le_refl _) at_179 (pc' := 182) rfl rfl e26 (by decide) (by decide) ?_
  rintro v27 T27 h27 L27 X27 e27 ⟨rfl, Nq27, rfl⟩
  have N27 := N26.app Nq27
  refine own_dstore X27 hx hby at_182 (pc' := 184) rfl (Ls' := #[.val (.int p1), .val (.int p2), .val (.int p3), .val (.int p4), .val (.int p5), .val (.long pf), .second, .val (.int m1), .val (.int m2), .val (.int t1), .val (.int t2), .val (.int t3), .val (.ref s1), .val (.int (pf.toInt32)), .val (.int ((pf >>> ((16 : Int32) &&& 0x3f).toInt64).toInt32)), .val (.int (((pf.toUInt64 >>> ((32 : Int32) &&& 0x3f).toInt64.toUInt64).toInt64).toInt32)), .val (.ref b4), .val (.ref b11), .val (.ref b18), .val (.double (own_Q t1 m1)), .second, .val (.double (own_Q t2 m2)), .second, .val (.double (own_Q t3 m1)), .second, .unset, .unset, .unset, .unset, .unset]) rfl ?_
  refine own_iload X27 hx hby at_184 (pc' := 186) rfl rfl ?_
  refine own_iload X27 hx hby at_186 (pc' := 188) rfl rfl ?_
  refine own_dload X27 hx hby at_188 (pc' := 190) rfl rfl ?_
  refine own_callM X27 hx hby hml hZ hown (ow_62 hw) (ow_63 hw) (ow_64 hw) (ow_65 hw) (by decide) (cc := 0) (ss := 0) (rm_fix l Z a0 hw t1 m1 h22 n0 (Nat.le_trans Z0 Ea23.1) I1) 0 rfl rfl (by decide) (by decide) rfl (argsL := [(.int t1), (.int m1), (.double (own_Q t1 m1))]) (rest := []) opd_8 rfl rfl (Nat.le_refl _) at_190 (pc' := 193) rfl rfl e27 (by decide) (by decide) ?_
  rintro v28 T28 h28 L28 X28 e28 ⟨rfl, Nq28, rfl⟩
  have N28 := N27.app Nq28
  refine own_ifN X28 hx hby at_193 (pc' := 196) rfl (feq (by decide)).1 ?_
  refine own_iload X28 hx hby at_196 (pc' := 198) rfl rfl ?_
  refine own_iload X28 hx hby at_198 (pc' := 200) rfl rfl ?_
  refine own_dload X28 hx hby at_200 (pc' := 202) rfl rfl ?_
  refine own_callM X28 hx hby hml hZ hown (ow_62 hw) (ow_63 hw) (ow_64 hw) (ow_65 hw) (by decide) (cc := 0) (ss := 0) (rm_fix l Z a0 hw t2 m2 h22 n0 (Nat.le_trans Z0 Ea23.1) I2) 0 rfl rfl (by decide) (by decide) rfl (argsL := [(.int t2), (.int m2), (.double (own_Q t2 m2))]) (rest := []) opd_8 rfl rfl (Nat.le_refl _) at_202 (pc' := 205) rfl rfl e28 (by decide) (by decide) ?_
  rintro v29 T29 h29 L29 X29 e29 ⟨rfl, Nq29, rfl⟩
  have N29 := N28.app Nq29
  refine own_ifN X29 hx hby at_205 (pc' := 208) rfl (feq (by decide)).1 ?_
  refine own_iload X29 hx hby at_208 (pc' := 210) rfl rfl ?_
  refine own_iload X29 hx hby at_210 (pc' := 212) rfl rfl ?_
  refine own_dload X29 hx hby at_212 (pc' := 214) rfl rfl ?_
  refine own_callM X29 hx hby hml hZ hown (ow_62 hw) (ow_63 hw) (ow_64 hw) (ow_65 hw) (by decide) (cc := 0) (ss := 0) (rm_fix l Z a0 hw t3 m1 h22 n0 (Nat.le_trans Z0 Ea23.1) I3) 0 rfl rfl (by decide) (by decide) rfl (argsL := [(.int t3), (.int m1), (.double (own_Q t3 m1))]) (rest := []) opd_8 rfl rfl (Nat.le_refl _) at_214 (pc' := 217) rfl rfl e29 (by decide) (by decide) ?_
  rintro v30 T30 h30 L30 X30 e30 ⟨rfl, Nq30, rfl⟩
  have N30 := N29.app Nq30
  refine own_ifN X30 hx hby at_217 (pc' := 220) rfl (feq (by decide)).1 ?_
  refine own_iconst X30 hx hby at_220 (pc' := 221) rfl (z := 1) rfl ?_
  refine own_goto X30 hx hby at_221 (by decide) (pc' := 225) (by decide) ?_
  refine own_istore X30 hx hby at_225 (pc' := 227) rfl (Ls' := #[.val (.int p1), .val (.int p2), .val (.int p3), .val (.int p4), .val (.int p5), .val (.long pf), .second, .val (.int m1), .val (.int m2), .val (.int t1), .val (.int t2), .val (.int t3), .val (.ref s1), .val (.int (pf.toInt32)), .val (.int ((pf >>> ((16 : Int32) &&& 0x3f).toInt64).toInt32)), .val (.int (((pf.toUInt64 >>> ((32 : Int32) &&& 0x3f).toInt64.toUInt64).toInt64).toInt32)), .val (.ref b4), .val (.ref b11), .val (.ref b18), .val (.double (own_Q t1 m1)), .second, .val (.double (own_Q t2 m2)), .second, .val (.double (own_Q t3 m1)), .second, .val (.int (1 : Int32)), .unset, .unset, .unset, .unset]) rfl ?_
  refine own_iload X30 hx hby at_227 (pc' := 229) rfl rfl ?_
  refine own_i2l X30 hx hby at_229 (pc' := 230) rfl ?_
  refine own_iload X30 hx hby at_230 (pc' := 232) rfl rfl ?_
  refine own_i2l X30 hx hby at_232 (pc' := 233) rfl ?_
  refine own_lmul X30 hx hby at_233 (pc' := 234) rfl ?_
  refine own_lstore X30 hx hby at_234 (pc' := 236) rfl (Ls' := #[.val (.int p1), .val (.int p2), .val (.int p3), .val (.int p4), .val (.int p5), .val (.long pf), .second, .val (.int m1), .val (.int m2), .val (.int t1), .val (.int t2), .val (.int t3), .val (.ref s1), .val (.int (pf.toInt32)), .val (.int ((pf >>> ((16 : Int32) &&& 0x3f).toInt64).toInt32)), .val (.int (((pf.toUInt64 >>> ((32 : Int32) &&& 0x3f).toInt64.toUInt64).toInt64).toInt32)), .val (.ref b4), .val (.ref b11), .val (.ref b18), .val (.double (own_Q t1 m1)), .second, .val (.double (own_Q t2 m2)), .second, .val (.double (own_Q t3 m1)), .second, .val (.int (1 : Int32)), .val (.long ((t1.toInt64) * (m2.toInt64))), .second, .unset, .unset]) rfl ?_
  refine own_iload X30 hx hby at_236 (pc' := 238) rfl rfl ?_
  refine own_i2l X30 hx hby at_238 (pc' := 239) rfl ?_
  refine own_iload X30 hx hby at_239 (pc' := 241) rfl rfl ?_
  refine own_i2l X30 hx hby at_241 (pc' := 242) rfl ?_
  refine own_lmul X30 hx hby at_242 (pc' := 243) rfl ?_
  refine own_lstore X30 hx hby at_243 (pc' := 245) rfl (Ls' := #[.val (.int p1), .val (.int p2), .val (.int p3), .val (.int p4), .val (.int p5), .val (.long pf), .second, .val (.int m1), .val (.int m2), .val (.int t1), .val (.int t2), .val (.int t3), .val (.ref s1), .val (.int (pf.toInt32)), .val (.int ((pf >>> ((16 : Int32) &&& 0x3f).toInt64).toInt32)), .val (.int (((pf.toUInt64 >>> ((32 : Int32) &&& 0x3f).toInt64.toUInt64).toInt64).toInt32)), .val (.ref b4), .val (.ref b11), .val (.ref b18), .val (.double (own_Q t1 m1)), .second, .val (.double (own_Q t2 m2)), .second, .val (.double (own_Q t3 m1)), .second, .val (.int (1 : Int32)), .val (.long ((t1.toInt64) * (m2.toInt64))), .second, .val (.long ((t2.toInt64) * (m1.toInt64))), .second]) rfl ?_
  refine own_lload X30 hx hby at_245 (pc' := 247) rfl rfl ?_
  refine own_lload X30 hx hby at_247 (pc' := 249) rfl rfl ?_
  refine own_lcmp X30 hx hby at_249 (pc' := 250) rfl ?_
  refine own_join (α := Unit) (F := fun _ => T30.setTop (mkF m 273 #[.val (.int p1), .val (.int p2), .val (.int p3), .val (.int p4), .val (.int p5), .val (.long pf), .second, .val (.int m1), .val (.int m2), .val (.int t1), .val (.int t2), .val (.int t3), .val (.ref s1), .val (.int (pf.toInt32)), .val (.int ((pf >>> ((16 : Int32) &&& 0x3f).toInt64).toInt32)), .val (.int (((pf.toUInt64 >>> ((32 : Int32) &&& 0x3f).toInt64.toUInt64).toInt64).toInt32)), .val (.ref b4), .val (.ref b11), .val (.ref b18), .val (.double (own_Q t1 m1)), .second, .val (.double (own_Q t2 m2)), .second, .val (.double (own_Q t3 m1)), .second, .val (.int (1 : Int32)), .val (.long ((t1.toInt64) * (m2.toInt64))), .second, .val (.long ((t2.toInt64) * (m1.toInt64))), .second] [])) (P := fun _ => True) ?_ ?_
  · intro _ _
    show own_E p.tables e below _ (T30.setTop (mkF m 273 #[.val (.int p1), .val (.int p2), .val (.int p3), .val (.int p4), .val (.int p5), .val (.long pf), .second, .val (.int m1), .val (.int m2), .val (.int t1), .val (.int t2), .val (.int t3), .val (.ref s1), .val (.int (pf.toInt32)), .val (.int ((pf >>> ((16 : Int32) &&& 0x3f).toInt64).toInt32)), .val (.int (((pf.toUInt64 >>> ((32 : Int32) &&& 0x3f).toInt64.toUInt64).toInt64).toInt32)), .val (.ref b4), .val (.ref b11), .val (.ref b18), .val (.double (own_Q t1 m1)), .second, .val (.double (own_Q t2 m2)), .second, .val (.double (own_Q t3 m1)), .second, .val (.int (1 : Int32)), .val (.long ((t1.toInt64) * (m2.toInt64))), .second, .val (.long ((t2.toInt64) * (m1.toInt64))), .second] []))
    refine own_lload X30 hx hby at_273 (pc' := 275) rfl rfl ?_
    refine own_lload X30 hx hby at_275 (pc' := 277) rfl rfl ?_
    refine own_lcmp X30 hx hby at_277 (pc' := 278) rfl ?_
    refine own_join (α := Unit) (F := fun _ => T30.setTop (mkF m 301 #[.val (.int p1), .val (.int p2), .val (.int p3), .val (.int p4), .val (.int p5), .val (.long pf), .second, .val (.int m1), .val (.int m2), .val (.int t1), .val (.int t2), .val (.int t3), .val (.ref s1), .val (.int (pf.toInt32)), .val (.int ((pf >>> ((16 : Int32) &&& 0x3f).toInt64).toInt32)), .val (.int (((pf.toUInt64 >>> ((32 : Int32) &&& 0x3f).toInt64.toUInt64).toInt64).toInt32)), .val (.ref b4), .val (.ref b11), .val (.ref b18), .val (.double (own_Q t1 m1)), .second, .val (.double (own_Q t2 m2)), .second, .val (.double (own_Q t3 m1)), .second, .val (.int (1 : Int32)), .val (.long ((t1.toInt64) * (m2.toInt64))), .second, .val (.long ((t2.toInt64) * (m1.toInt64))), .second] [])) (P := fun _ => True) ?_ ?_
    · intro _ _
      show own_E p.tables e below _ (T30.setTop (mkF m 301 #[.val (.int p1), .val (.int p2), .val (.int p3), .val (.int p4), .val (.int p5), .val (.long pf), .second, .val (.int m1), .val (.int m2), .val (.int t1), .val (.int t2), .val (.int t3), .val (.ref s1), .val (.int (pf.toInt32)), .val (.int ((pf >>> ((16 : Int32) &&& 0x3f).toInt64).toInt32)), .val (.int (((pf.toUInt64 >>> ((32 : Int32) &&& 0x3f).toInt64.toUInt64).toInt64).toInt32)), .val (.ref b4), .val (.ref b11), .val (.ref b18), .val (.double (own_Q t1 m1)), .second, .val (.double (own_Q t2 m2)), .second, .val (.double (own_Q t3 m1)), .second, .val (.int (1 : Int32)), .val (.long ((t1.toInt64) * (m2.toInt64))), .second, .val (.long ((t2.toInt64) * (m1.toInt64))), .second] []))
      refine own_lload X30 hx hby at_301 (pc' := 303) rfl rfl ?_
      refine own_lload X30 hx hby at_303 (pc' := 305) rfl rfl ?_
      refine own_lcmp X30 hx hby at_305 (pc' := 306) rfl ?_
      refine own_join (α := Unit) (F := fun _ => T30.setTop (mkF m 329 #[.val (.int p1), .val (.int p2), .val (.int p3), .val (.int p4), .val (.int p5), .val (.long pf), .second, .val (.int m1), .val (.int m2), .val (.int t1), .val (.int t2), .val (.int t3), .val (.ref s1), .val (.int (pf.toInt32)), .val (.int ((pf >>> ((16 : Int32) &&& 0x3f).toInt64).toInt32)), .val (.int (((pf.toUInt64 >>> ((32 : Int32) &&& 0x3f).toInt64.toUInt64).toInt64).toInt32)), .val (.ref b4), .val (.ref b11), .val (.ref b18), .val (.double (own_Q t1 m1)), .second, .val (.double (own_Q t2 m2)), .second, .val (.double (own_Q t3 m1)), .second, .val (.int (1 : Int32)), .val (.long ((t1.toInt64) * (m2.toInt64))), .second, .val (.long ((t2.toInt64) * (m1.toInt64))), .second] [])) (P := fun _ => True) ?_ ?_
      · intro _ _
        show own_E p.tables e below _ (T30.setTop (mkF m 329 #[.val (.int p1), .val (.int p2), .val (.int p3), .val (.int p4), .val (.int p5), .val (.long pf), .second, .val (.int m1), .val (.int m2), .val (.int t1), .val (.int t2), .val (.int t3), .val (.ref s1), .val (.int (pf.toInt32)), .val (.int ((pf >>> ((16 : Int32) &&& 0x3f).toInt64).toInt32)), .val (.int (((pf.toUInt64 >>> ((32 : Int32) &&& 0x3f).toInt64.toUInt64).toInt64).toInt32)), .val (.ref b4), .val (.ref b11), .val (.ref b18), .val (.double (own_Q t1 m1)), .second, .val (.double (own_Q t2 m2)), .second, .val (.double (own_Q t3 m1)), .second, .val (.int (1 : Int32)), .val (.long ((t1.toInt64) * (m2.toInt64))), .second, .val (.long ((t2.toInt64) * (m1.toInt64))), .second] []))
        refine own_iload X30 hx hby at_329 (pc' := 331) rfl rfl ?_
        refine own_iload X30 hx hby at_331 (pc' := 333) rfl rfl ?_
        refine own_join (α := Unit) (F := fun _ => T30.setTop (mkF m 356 #[.val (.int p1), .val (.int p2), .val (.int p3), .val (.int p4), .val (.int p5), .val (.long pf), .second, .val (.int m1), .val (.int m2), .val (.int t1), .val (.int t2), .val (.int t3), .val (.ref s1), .val (.int (pf.toInt32)), .val (.int ((pf >>> ((16 : Int32) &&& 0x3f).toInt64).toInt32)), .val (.int (((pf.toUInt64 >>> ((32 : Int32) &&& 0x3f).toInt64.toUInt64).toInt64).toInt32)), .val (.ref b4), .val (.ref b11), .val (.ref b18), .val (.double (own_Q t1 m1)), .second, .val (.double (own_Q t2 m2)), .second, .val (.double (own_Q t3 m1)), .second, .val (.int (1 : Int32)), .val (.long ((t1.toInt64) * (m2.toInt64))), .second, .val (.long ((t2.toInt64) * (m1.toInt64))), .second] [])) (P := fun _ => True) ?_ ?_
        · intro _ _
          show own_E p.tables e below _ (T30.setTop (mkF m 356 #[.val (.int p1), .val (.int p2), .val (.int p3), .val (.int p4), .val (.int p5), .val (.long pf), .second, .val (.int m1), .val (.int m2), .val (.int t1), .val (.int t2), .val (.int t3), .val (.ref s1), .val (.int (pf.toInt32)), .val (.int ((pf >>> ((16 : Int32) &&& 0x3f).toInt64).toInt32)), .val (.int (((pf.toUInt64 >>> ((32 : Int32) &&& 0x3f).toInt64.toUInt64).toInt64).toInt32)), .val (.ref b4), .val (.ref b11), .val (.ref b18), .val (.double (own_Q t1 m1)), .second, .val (.double (own_Q t2 m2)), .second, .val (.double (own_Q t3 m1)), .second, .val (.int (1 : Int32)), .val (.long ((t1.toInt64) * (m2.toInt64))), .second, .val (.long ((t2.toInt64) * (m1.toInt64))), .second] []))
          refine own_iload X30 hx hby at_356 (pc' := 358) rfl rfl ?_
          refine own_iload X30 hx hby at_358 (pc' := 360) rfl rfl ?_
          refine own_join (α := Unit) (F := fun _ => T30.setTop (mkF m 383 #[.val (.int p1), .val (.int p2), .val (.int p3), .val (.int p4), .val (.int p5), .val (.long pf), .second, .val (.int m1), .val (.int m2), .val (.int t1), .val (.int t2), .val (.int t3), .val (.ref s1), .val (.int (pf.toInt32)), .val (.int ((pf >>> ((16 : Int32) &&& 0x3f).toInt64).toInt32)), .val (.int (((pf.toUInt64 >>> ((32 : Int32) &&& 0x3f).toInt64.toUInt64).toInt64).toInt32)), .val (.ref b4), .val (.ref b11), .val (.ref b18), .val (.double (own_Q t1 m1)), .second, .val (.double (own_Q t2 m2)), .second, .val (.double (own_Q t3 m1)), .second, .val (.int (1 : Int32)), .val (.long ((t1.toInt64) * (m2.toInt64))), .second, .val (.long ((t2.toInt64) * (m1.toInt64))), .second] [])) (P := fun _ => True) ?_ ?_
          · intro _ _
            show own_E p.tables e below _ (T30.setTop (mkF m 383 #[.val (.int p1), .val (.int p2), .val (.int p3), .val (.int p4), .val (.int p5), .val (.long pf), .second, .val (.int m1), .val (.int m2), .val (.int t1), .val (.int t2), .val (.int t3), .val (.ref s1), .val (.int (pf.toInt32)), .val (.int ((pf >>> ((16 : Int32) &&& 0x3f).toInt64).toInt32)), .val (.int (((pf.toUInt64 >>> ((32 : Int32) &&& 0x3f).toInt64.toUInt64).toInt64).toInt32)), .val (.ref b4), .val (.ref b11), .val (.ref b18), .val (.double (own_Q t1 m1)), .second, .val (.double (own_Q t2 m2)), .second, .val (.double (own_Q t3 m1)), .second, .val (.int (1 : Int32)), .val (.long ((t1.toInt64) * (m2.toInt64))), .second, .val (.long ((t2.toInt64) * (m1.toInt64))), .second] []))
            refine own_iload X30 hx hby at_383 (pc' := 385) rfl rfl ?_
            refine own_iload X30 hx hby at_385 (pc' := 387) rfl rfl ?_
            refine own_join (α := Unit) (F := fun _ => T30.setTop (mkF m 410 #[.val (.int p1), .val (.int p2), .val (.int p3), .val (.int p4), .val (.int p5), .val (.long pf), .second, .val (.int m1), .val (.int m2), .val (.int t1), .val (.int t2), .val (.int t3), .val (.ref s1), .val (.int (pf.toInt32)), .val (.int ((pf >>> ((16 : Int32) &&& 0x3f).toInt64).toInt32)), .val (.int (((pf.toUInt64 >>> ((32 : Int32) &&& 0x3f).toInt64.toUInt64).toInt64).toInt32)), .val (.ref b4), .val (.ref b11), .val (.ref b18), .val (.double (own_Q t1 m1)), .second, .val (.double (own_Q t2 m2)), .second, .val (.double (own_Q t3 m1)), .second, .val (.int (1 : Int32)), .val (.long ((t1.toInt64) * (m2.toInt64))), .second, .val (.long ((t2.toInt64) * (m1.toInt64))), .second] [])) (P := fun _ => True) ?_ ?_
            · intro _ _
              show own_E p.tables e below _ (T30.setTop (mkF m 410 #[.val (.int p1), .val (.int p2), .val (.int p3), .val (.int p4), .val (.int p5), .val (.long pf), .second, .val (.int m1), .val (.int m2), .val (.int t1), .val (.int t2), .val (.int t3), .val (.ref s1), .val (.int (pf.toInt32)), .val (.int ((pf >>> ((16 : Int32) &&& 0x3f).toInt64).toInt32)), .val (.int (((pf.toUInt64 >>> ((32 : Int32) &&& 0x3f).toInt64.toUInt64).toInt64).toInt32)), .val (.ref b4), .val (.ref b11), .val (.ref b18), .val (.double (own_Q t1 m1)), .second, .val (.double (own_Q t2 m2)), .second, .val (.double (own_Q t3 m1)), .second, .val (.int (1 : Int32)), .val (.long ((t1.toInt64) * (m2.toInt64))), .second, .val (.long ((t2.toInt64) * (m1.toInt64))), .second] []))
              refine own_iload X30 hx hby at_410 (pc' := 412) rfl rfl ?_
              exact own_retN X30 hx hby hlk hrt (by simp) at_412 (z' := (1 : Int32)) rfl ⟨rfl, N30⟩ (by decide) (by decide)
            · intro J36
              by_cases g6_ : t1 = t3
              · refine own_icmpN X30 hx hby at_387 (pc' := 390) rfl (teq g6_).2 ?_
                refine own_iload X30 hx hby at_390 (pc' := 392) rfl rfl ?_
                refine own_ifN X30 hx hby at_392 (pc' := 395) rfl (feq (by decide)).1 ?_
                refine own_dload X30 hx hby at_395 (pc' := 397) rfl rfl ?_
                refine own_dload X30 hx hby at_397 (pc' := 399) rfl rfl ?_
                refine own_dcmp X30 hx hby at_399 (pc' := 400) rfl (v := (0 : Int32)) (own_seq I1 I3 g6_) ?_
                refine own_ifN X30 hx hby at_400 (pc' := 403) rfl (teq rfl).2 ?_
                refine own_iconst X30 hx hby at_403 (pc' := 404) rfl (z := 1) rfl ?_
                refine own_goto X30 hx hby at_404 (by decide) (pc' := 408) (by decide) ?_
                refine own_istore X30 hx hby at_408 (pc' := 410) rfl (Ls' := #[.val (.int p1), .val (.int p2), .val (.int p3), .val (.int p4), .val (.int p5), .val (.long pf), .second, .val (.int m1), .val (.int m2), .val (.int t1), .val (.int t2), .val (.int t3), .val (.ref s1), .val (.int (pf.toInt32)), .val (.int ((pf >>> ((16 : Int32) &&& 0x3f).toInt64).toInt32)), .val (.int (((pf.toUInt64 >>> ((32 : Int32) &&& 0x3f).toInt64.toUInt64).toInt64).toInt32)), .val (.ref b4), .val (.ref b11), .val (.ref b18), .val (.double (own_Q t1 m1)), .second, .val (.double (own_Q t2 m2)), .second, .val (.double (own_Q t3 m1)), .second, .val (.int (1 : Int32)), .val (.long ((t1.toInt64) * (m2.toInt64))), .second, .val (.long ((t2.toInt64) * (m1.toInt64))), .second]) rfl ?_
                exact J36 () trivial
              · refine own_icmpY X30 hx hby at_387 (by decide) (pc' := 410) (by decide) (feq g6_).2 ?_
                exact J36 () trivial
          · intro J35
            by_cases g5_ : t3 < t1
            · refine own_icmpN X30 hx hby at_360 (pc' := 363) rfl (tlt g5_).2.2.2 ?_
              refine own_iload X30 hx hby at_363 (pc' := 365) rfl rfl ?_
              refine own_ifN X30 hx hby at_365 (pc' := 368) rfl (feq (by decide)).1 ?_
              refine own_dload X30 hx hby at_368 (pc' := 370) rfl rfl ?_
              refine own_dload X30 hx hby at_370 (pc' := 372) rfl rfl ?_
              refine own_dcmp X30 hx hby at_372 (pc' := 373) rfl (v := (1 : Int32)) (own_sgt I1 I3 g5_) ?_
              refine own_ifN X30 hx hby at_373 (pc' := 376) rfl (tlt (by decide)).2.2.2 ?_
              refine own_iconst X30 hx hby at_376 (pc' := 377) rfl (z := 1) rfl ?_
              refine own_goto X30 hx hby at_377 (by decide) (pc' := 381) (by decide) ?_
              refine own_istore X30 hx hby at_381 (pc' := 383) rfl (Ls' := #[.val (.int p1), .val (.int p2), .val (.int p3), .val (.int p4), .val (.int p5), .val (.long pf), .second, .val (.int m1), .val (.int m2), .val (.int t1), .val (.int t2), .val (.int t3), .val (.ref s1), .val (.int (pf.toInt32)), .val (.int ((pf >>> ((16 : Int32) &&& 0x3f).toInt64).toInt32)), .val (.int (((pf.toUInt64 >>> ((32 : Int32) &&& 0x3f).toInt64.toUInt64).toInt64).toInt32)), .val (.ref b4), .val (.ref b11), .val (.ref b18), .val (.double (own_Q t1 m1)), .second, .val (.double (own_Q t2 m2)), .second, .val (.double (own_Q t3 m1)), .second, .val (.int (1 : Int32)), .val (.long ((t1.toInt64) * (m2.toInt64))), .second, .val (.long ((t2.toInt64) * (m1.toInt64))), .second]) rfl ?_
              exact J35 () trivial
            · refine own_icmpY X30 hx hby at_360 (by decide) (pc' := 383) (by decide) (flt g5_).2.2.2 ?_
              exact J35 () trivial
        · intro J34
          by_cases g4_ : t1 < t3
          · refine own_icmpN X30 hx hby at_333 (pc' := 336) rfl (tlt g4_).2.1 ?_
            refine own_iload X30 hx hby at_336 (pc' := 338) rfl rfl ?_
            refine own_ifN X30 hx hby at_338 (pc' := 341) rfl (feq (by decide)).1 ?_
            refine own_dload X30 hx hby at_341 (pc' := 343) rfl rfl ?_
            refine own_dload X30 hx hby at_343 (pc' := 345) rfl rfl ?_
            refine own_dcmp X30 hx hby at_345 (pc' := 346) rfl (v := (-1 : Int32)) (own_slt I1 I3 g4_) ?_
            refine own_ifN X30 hx hby at_346 (pc' := 349) rfl (tlt (by decide)).2.1 ?_
            refine own_iconst X30 hx hby at_349 (pc' := 350) rfl (z := 1) rfl ?_
            refine own_goto X30 hx hby at_350 (by decide) (pc' := 354) (by decide) ?_
            refine own_istore X30 hx hby at_354 (pc' := 356) rfl (Ls' := #[.val (.int p1), .val (.int p2), .val (.int p3), .val (.int p4), .val (.int p5), .val (.long pf), .second, .val (.int m1), .val (.int m2), .val (.int t1), .val (.int t2), .val (.int t3), .val (.ref s1), .val (.int (pf.toInt32)), .val (.int ((pf >>> ((16 : Int32) &&& 0x3f).toInt64).toInt32)), .val (.int (((pf.toUInt64 >>> ((32 : Int32) &&& 0x3f).toInt64.toUInt64).toInt64).toInt32)), .val (.ref b4), .val (.ref b11), .val (.ref b18), .val (.double (own_Q t1 m1)), .second, .val (.double (own_Q t2 m2)), .second, .val (.double (own_Q t3 m1)), .second, .val (.int (1 : Int32)), .val (.long ((t1.toInt64) * (m2.toInt64))), .second, .val (.long ((t2.toInt64) * (m1.toInt64))), .second]) rfl ?_
            exact J34 () trivial
          · refine own_icmpY X30 hx hby at_333 (by decide) (pc' := 356) (by decide) (flt g4_).2.1 ?_
            exact J34 () trivial
      · intro J33
        by_cases g3_ : (lcmpW ((t1.toInt64) * (m2.toInt64)) ((t2.toInt64) * (m1.toInt64))) = (0 : Int32)
        · refine own_ifN X30 hx hby at_306 (pc' := 309) rfl (teq g3_).2 ?_
          refine own_iload X30 hx hby at_309 (pc' := 311) rfl rfl ?_
          refine own_ifN X30 hx hby at_311 (pc' := 314) rfl (feq (by decide)).1 ?_
          refine own_dload X30 hx hby at_314 (pc' := 316) rfl rfl ?_
          refine own_dload X30 hx hby at_316 (pc' := 318) rfl rfl ?_
          refine own_dcmp X30 hx hby at_318 (pc' := 319) rfl (v := (0 : Int32)) (own_eq I1 I2 g3_) ?_
          refine own_ifN X30 hx hby at_319 (pc' := 322) rfl (teq rfl).2 ?_
          refine own_iconst X30 hx hby at_322 (pc' := 323) rfl (z := 1) rfl ?_
          refine own_goto X30 hx hby at_323 (by decide) (pc' := 327) (by decide) ?_
          refine own_istore X30 hx hby at_327 (pc' := 329) rfl (Ls' := #[.val (.int p1), .val (.int p2), .val (.int p3), .val (.int p4), .val (.int p5), .val (.long pf), .second, .val (.int m1), .val (.int m2), .val (.int t1), .val (.int t2), .val (.int t3), .val (.ref s1), .val (.int (pf.toInt32)), .val (.int ((pf >>> ((16 : Int32) &&& 0x3f).toInt64).toInt32)), .val (.int (((pf.toUInt64 >>> ((32 : Int32) &&& 0x3f).toInt64.toUInt64).toInt64).toInt32)), .val (.ref b4), .val (.ref b11), .val (.ref b18), .val (.double (own_Q t1 m1)), .second, .val (.double (own_Q t2 m2)), .second, .val (.double (own_Q t3 m1)), .second, .val (.int (1 : Int32)), .val (.long ((t1.toInt64) * (m2.toInt64))), .second, .val (.long ((t2.toInt64) * (m1.toInt64))), .second]) rfl ?_
          exact J33 () trivial
        · refine own_ifY X30 hx hby at_306 (by decide) (pc' := 329) (by decide) (feq g3_).2 ?_
          exact J33 () trivial
    · intro J32
      by_cases g2_ : (0 : Int32) < (lcmpW ((t1.toInt64) * (m2.toInt64)) ((t2.toInt64) * (m1.toInt64)))
      · refine own_ifN X30 hx hby at_278 (pc' := 281) rfl (tlt g2_).2.2.2 ?_
        refine own_iload X30 hx hby at_281 (pc' := 283) rfl rfl ?_
        refine own_ifN X30 hx hby at_283 (pc' := 286) rfl (feq (by decide)).1 ?_
        refine own_dload X30 hx hby at_286 (pc' := 288) rfl rfl ?_
        refine own_dload X30 hx hby at_288 (pc' := 290) rfl rfl ?_
        obtain ⟨dv37, hd37, hk37⟩ := own_gt I1 I2 g2_
        refine own_dcmp X30 hx hby at_290 (pc' := 291) rfl (v := dv37) hd37 ?_
        refine own_ifN X30 hx hby at_291 (pc' := 294) rfl (flt hk37).1 ?_
        refine own_iconst X30 hx hby at_294 (pc' := 295) rfl (z := 1) rfl ?_
        refine own_goto X30 hx hby at_295 (by decide) (pc' := 299) (by decide) ?_
        refine own_istore X30 hx hby at_299 (pc' := 301) rfl (Ls' := #[.val (.int p1), .val (.int p2), .val (.int p3), .val (.int p4), .val (.int p5), .val (.long pf), .second, .val (.int m1), .val (.int m2), .val (.int t1), .val (.int t2), .val (.int t3), .val (.ref s1), .val (.int (pf.toInt32)), .val (.int ((pf >>> ((16 : Int32) &&& 0x3f).toInt64).toInt32)), .val (.int (((pf.toUInt64 >>> ((32 : Int32) &&& 0x3f).toInt64.toUInt64).toInt64).toInt32)), .val (.ref b4), .val (.ref b11), .val (.ref b18), .val (.double (own_Q t1 m1)), .second, .val (.double (own_Q t2 m2)), .second, .val (.double (own_Q t3 m1)), .second, .val (.int (1 : Int32)), .val (.long ((t1.toInt64) * (m2.toInt64))), .second, .val (.long ((t2.toInt64) * (m1.toInt64))), .second]) rfl ?_
        exact J32 () trivial
      · refine own_ifY X30 hx hby at_278 (by decide) (pc' := 301) (by decide) (flt g2_).2.2.2 ?_
        exact J32 () trivial
  · intro J31
    by_cases g1_ : (lcmpW ((t1.toInt64) * (m2.toInt64)) ((t2.toInt64) * (m1.toInt64))) < (0 : Int32)
    · refine own_ifN X30 hx hby at_250 (pc' := 253) rfl (tlt g1_).2.1 ?_
      refine own_iload X30 hx hby at_253 (pc' := 255) rfl rfl ?_
      refine own_ifN X30 hx hby at_255 (pc' := 258) rfl (feq (by decide)).1 ?_
      refine own_dload X30 hx hby at_258 (pc' := 260) rfl rfl ?_
      refine own_dload X30 hx hby at_260 (pc' := 262) rfl rfl ?_
      obtain ⟨dv38, hd38, hk38⟩ := own_lt I1 I2 g1_
      refine own_dcmp X30 hx hby at_262 (pc' := 263) rfl (v := dv38) hd38 ?_
      refine own_ifN X30 hx hby at_263 (pc' := 266) rfl (flt hk38).2.2.1 ?_
      refine own_iconst X30 hx hby at_266 (pc' := 267) rfl (z := 1) rfl ?_
      refine own_goto X30 hx hby at_267 (by decide) (pc' := 271) (by decide) ?_
      refine own_istore X30 hx hby at_271 (pc' := 273) rfl (Ls' := #[.val (.int p1), .val (.int p2), .val (.int p3), .val (.int p4), .val (.int p5), .val (.long pf), .second, .val (.int m1), .val (.int m2), .val (.int t1), .val (.int t2), .val (.int t3), .val (.ref s1), .val (.int (pf.toInt32)), .val (.int ((pf >>> ((16 : Int32) &&& 0x3f).toInt64).toInt32)), .val (.int (((pf.toUInt64 >>> ((32 : Int32) &&& 0x3f).toInt64.toUInt64).toInt64).toInt32)), .val (.ref b4), .val (.ref b11), .val (.ref b18), .val (.double (own_Q t1 m1)), .second, .val (.double (own_Q t2 m2)), .second, .val (.double (own_Q t3 m1)), .second, .val (.int (1 : Int32)), .val (.long ((t1.toInt64) * (m2.toInt64))), .second, .val (.long ((t2.toInt64) * (m1.toInt64))), .second]) rfl ?_
      exact J31 () trivial
    · refine own_ifY X30 hx hby at_250 (by decide) (pc' := 273) (by decide) (flt g1_).2.1 ?_
      exact J31 () trivial
set_option maxRecDepth 65536 in
set_option maxHeartbeats 40000000 in
theorem comes_1 {Post : Tables → Env → Array Value → State → Outcome → State → Prop} (hpost : ∀ tb e args s v u, (limb_1_1.after args s (.returned v) u = true ∧ limb_1_2.after args s (.returned v) u = true ∧ True) → FrameEnd s (.returned v) u (Jvm.fieldLocs frame_1_writes args s ++ Jvm.arrayLocs frame_1_arrays args s ++ Jvm.staticLocs frame_1_statics s) 24 128 → Post tb e args s (.returned v) u) :
    ArmFor flags0 classFile x code maxLocals ret World_1 tables_1 room_1 Calls_1 rest_1 Pre_1 Post := by
  intro l hfl _ _ p e ha hc hk s m args below hf hA hF happ hP
  obtain ⟨hcalls, hrest, hpre⟩ := hP
  obtain ⟨-, -, -, hnamed, -, -, -, hat⟩ := (Spec.applies_iff hf).mp happ
  obtain ⟨hg, hn⟩ := and_e (Cond.before_iff.mp (show (Jvm.Cond.and given_1 narrow_1).before args s = true from hpre))
  obtain ⟨g1, g2⟩ := and_e hg
  obtain ⟨g3, g4⟩ := and_e g2
  obtain ⟨g5, g6⟩ := and_e g4
  obtain ⟨g7, g8⟩ := and_e g6
  obtain ⟨g9, g10⟩ := and_e g8
  obtain ⟨g11, g12⟩ := and_e g10
  obtain ⟨w0, w1, w2, w3, w4, w5, rfl⟩ : ∃ w0 w1 w2 w3 w4 w5 : Value, args = #[w0, w1, w2, w3, w4, w5] := by
    have hs : args.size = 6 := by simpa [Cond.value, given_1] using g1
    obtain ⟨L⟩ := args
    match L, hs with
    | [w0, w1, w2, w3, w4, w5], _ => exact ⟨w0, w1, w2, w3, w4, w5, rfl⟩
  have hw := fun d (hd : d ∈ tables_1) => atoms_spec (ws := Jvm.Cond.code x code maxLocals ret :: tables_1) hat d (List.mem_cons_of_mem _ hd)
  have hfit : Fit s := fun {y c} hc i hi => by
    obtain ⟨ha, rfl⟩ := Array.getElem?_eq_some_iff.mp hc
    have q := List.all_eq_true.mp ((Array.all_eq_true_iff_forall_mem.mp hF) _ (Array.getElem_mem ha)) i (List.mem_range.mpr hi)
    simpa [Array.getElem?_eq_getElem hi] using q
  obtain ⟨hsets, hown0⟩ := atoms_of _ (rest_1_c_eq ▸ (show rest_1_c.before _ s = true from hrest))
  have hr0 := Cond.before_iff.mp hown0
  obtain ⟨i0, ei0⟩ := is_v g3
  obtain rfl : w0 = (.int i0) := Option.some.inj ei0
  obtain ⟨i1, ei1⟩ := is_v g5
  obtain rfl : w1 = (.int i1) := Option.some.inj ei1
  obtain ⟨i2, ei2⟩ := is_v g7
  obtain rfl : w2 = (.int i2) := Option.some.inj ei2
  obtain ⟨i3, ei3⟩ := is_v g9
  obtain rfl : w3 = (.int i3) := Option.some.inj ei3
  obtain ⟨i4, ei4⟩ := is_v g11
  obtain rfl : w4 = (.int i4) := Option.some.inj ei4
  obtain ⟨i5, ei5⟩ := isL_v g12
  obtain rfl : w5 = (.long i5) := Option.some.inj ei5
  obtain ⟨G1, eG1⟩ := is_v (Cond.before_iff.mp (hsets _ (List.mem_of_getElem? (i := 1) rfl)))
  have S_cs := Sta.start eG1 (Or.inl (hsets _ (List.mem_of_getElem? (i := 0) rfl)))
  have P5 : ¬ (G1 = (0 : Int32)) := own_not0 eG1 (hsets _ (List.mem_of_getElem? (i := 2) rfl))
  obtain ⟨n, o, h1, h2, h3, _, L, rfl, ⟨rfl, N⟩, hq⟩ := rm_law l s _ hw i0 i1 i2 i3 i4 i5 G1 s.heap s.heap.size (Nat.le_refl _) S_cs P5 tables_1 p e ha hc hk s m _ below hf ((Spec.applies_iff_loose hf).mp happ).1 ⟨rfl, State.Warmed39.refl s, rfl⟩ trivial
  refine ⟨n, _, h1, h2, h3, hpost _ _ _ _ _ _ ⟨Cond.after_iff.mpr rfl, Cond.after_iff.mpr (eq_i res_at (Term.int_eval (1)) rfl), trivial⟩ ⟨hq.1, hq.2.1, (hq.2.2.sift fun y hy => Or.inr (N y hy)).mono (by decide) (by decide)⟩⟩
theorem main_1_1 : Claimed_1_1 := comes_1 fun _ _ _ _ _ _ h hF => ⟨h.1, hF⟩
theorem main_1_2 : Claimed_1_2 := comes_1 fun _ _ _ _ _ _ h hF => ⟨h.2.1, hF⟩
end Jvm.Pilot.@@N@@
namespace Jvm.Pilot.@@N@@
open Jvm Jvm.ClassFile Sem Op Lib Jvm.Free Jvm.Stand Jvm.Pilot.@@N@@.Jvm.D
/-! MADE BY PROGRAM (witnessworld.py) out of the Statement's table words and the real class files: 19 classes; the members and pool entries that the words name. The judged class is class 1, her method 2. -/
namespace start1
open Jvm.ClassFile
def u (s : String) : CpInfo := .utf8 (stringToUtf16 s)
/-- a pool by its gaps: so many unusable entries, then the entry; so many at the end -/
def gap : Nat → List CpInfo → List CpInfo
  | 0, r => r
  | n + 1, r => .unusable :: gap n r
def poolList (es : List (Nat × CpInfo)) (last : Nat) : List CpInfo := es.foldr (fun e r => gap e.1 (e.2 :: r)) (gap last [])
def pool (es : List (Nat × CpInfo)) (last : Nat) : Array CpInfo := ⟨poolList es last⟩
def fileOf (pool : Array CpInfo) (this : Nat) (attrs : Array Attribute := #[]) (ms : Array MethodInfo := #[]) (fl : Nat := 33) (sup : Nat := 0) (ifs : Array Nat := #[]) (fds : Array FieldInfo := #[]) : ClassFile where
  minorVersion := 0
  majorVersion := 65
  constantPool := pool
  accessFlags := fl
  thisClass := this
  superClass := sup
  interfaces := ifs
  fields := fds
  methods := ms
  attributes := attrs
def plain (name : String) (sup : Option ClassId) : Class where
  name := name
  kind := .ordinary
  loader := none
  accessFlags := 33
  super := sup
  interfaces := #[]
  cf := none
  fields := #[]
  methods := #[]
  instanceTypes := #[]
  staticTypes := #[]
  resolved := #[]
  callSites := []
  init := .initialized
  statics := none
  mirror := none

def pool0 : Array CpInfo := pool [(5, u "<init>"), (0, u "()V"), (1, .class_ 10), (1, u "java/lang/Object")] 113

def k0c0 : Code := { maxStack := 0, maxLocals := 1, code := object_method_1_code, exceptionTable := #[], attributes := #[] }
def k0m0 : Method := { name := "<init>", desc := "()V", sig := { parameters := [], returnType := none }, accessFlags := 1, code := some k0c0 }
/-- java/lang/Object -/
def k0 : Class := { plain "java/lang/Object" none with
  accessFlags := 33
  interfaces := #[]
  cf := some (fileOf pool0 8 #[] #[{ accessFlags := 1, nameIndex := 5, descriptorIndex := 6, attributes := #[] }] 33 0 #[] #[])
  fields := #[]
  methods := #[k0m0]
  instanceTypes := #[]
  staticTypes := #[]
  resolved := Array.replicate 124 none
  statics := none }

def pool1 : Array CpInfo := pool [(2, .class_ 4), (1, u "java/lang/Object"), (0, u "<init>"), (0, u "()V"), (0, .long 2), (1, .double 4602678819172646912), (1, .long 4), (1, .double 4598175219545276416), (1, .long 3), (1, .double 4604930618986332160), (1, .integer 2147483647), (0, .methodref 21 22), (0, .class_ 23), (0, .nameAndType 24 25), (0, u "java/lang/Math"), (0, u "max"), (0, u "(II)I"), (0, .long 4294967295), (1, .long 255), (1, .methodref 31 32), (0, .class_ 33), (0, .nameAndType 34 35), (0, u "java/lang/String"), (0, u "valueOf"), (0, u "(C)Ljava/lang/String;"), (0, .class_ 37), (0, u "com/example/kinsmark/kinsmark/evaluation/CategoryResult"), (0, .methodref 36 39), (0, .nameAndType 5 40), (0, u "(Ljava/lang/String;IIIII)V"), (0, .methodref 36 42), (0, .nameAndType 43 44), (0, u "credibility"), (0, u "()D"), (0, .methodref 46 47), (0, .class_ 48), (0, .nameAndType 49 50), (0, u "com/example/kinsmark/kinsmark/evaluation/CategoryResultCredibilityPinLaw"), (0, u "fixedPoints"), (0, u "(IID)Z"), (3, u "law"), (0, u "(IIIIIJ)Z")] 2

def k1m0 : Method := { name := "<init>", desc := "()V", sig := { parameters := [], returnType := none }, accessFlags := 1, code := none }
def k1c1 : Code := { maxStack := 6, maxLocals := 5, code := method_2_code, exceptionTable := #[], attributes := #[] }
def k1m1 : Method := { name := "fixedPoints", desc := "(IID)Z", sig := { parameters := [.int, .int, .double], returnType := some .boolean }, accessFlags := 10, code := some k1c1 }
def k1c2 : Code := { maxStack := 8, maxLocals := 30, code := code, exceptionTable := #[], attributes := #[] }
def k1m2 : Method := { name := "law", desc := "(IIIIIJ)Z", sig := { parameters := [.int, .int, .int, .int, .int, .long], returnType := some .boolean }, accessFlags := 9, code := some k1c2 }
/-- com/example/kinsmark/kinsmark/evaluation/CategoryResultCredibilityPinLaw -/
def k1 : Class := { plain "com/example/kinsmark/kinsmark/evaluation/CategoryResultCredibilityPinLaw" (some 0) with
  accessFlags := 49
  interfaces := #[]
  cf := some (fileOf pool1 46 #[] #[{ accessFlags := 1, nameIndex := 5, descriptorIndex := 6, attributes := #[] }, { accessFlags := 10, nameIndex := 49, descriptorIndex := 50, attributes := #[] }, { accessFlags := 9, nameIndex := 54, descriptorIndex := 55, attributes := #[] }] 49 2 #[] #[])
  fields := #[]
  methods := #[k1m0, k1m1, k1m2]
  instanceTypes := #[]
  staticTypes := #[]
  resolved := Array.replicate 58 none
  statics := none }

def pool2 : Array CpInfo := pool [(1, .class_ 2), (0, u "java/lang/Math"), (1, .class_ 6), (1, u "java/lang/Object"), (0, u "<init>"), (0, u "()V"), (89, .class_ 100), (1, u "java/lang/Math$RandomNumberGeneratorHolder"), (71, u "negativeZeroFloatBits"), (0, u "J"), (2, u "negativeZeroDoubleBits"), (21, u "max"), (46, u "$assertionsDisabled"), (0, u "Z"), (88, u "(II)I"), (2, u "twoToTheDoubleScaleDown"), (0, u "D"), (4, u "twoToTheDoubleScaleUp"), (9, u "E"), (3, u "PI"), (2, u "TAU"), (2, u "DEGREES_TO_RADIANS"), (0, u "RADIANS_TO_DEGREES")] 94

def k2m0 : Method := { name := "<init>", desc := "()V", sig := { parameters := [], returnType := none }, accessFlags := 2, code := none }
def k2c1 : Code := { maxStack := 2, maxLocals := 2, code := jdk_29_method_65_code, exceptionTable := #[], attributes := #[] }
def k2m1 : Method := { name := "max", desc := "(II)I", sig := { parameters := [.int, .int], returnType := some .int }, accessFlags := 9, code := some k2c1 }
/-- java/lang/Math -/
def k2 : Class := { plain "java/lang/Math" (some 0) with
  accessFlags := 49
  interfaces := #[]
  cf := some (fileOf pool2 1 #[.nestMembers #[98]] #[{ accessFlags := 2, nameIndex := 7, descriptorIndex := 8, attributes := #[] }, { accessFlags := 9, nameIndex := 198, descriptorIndex := 335, attributes := #[] }] 49 4 #[] #[{ accessFlags := 25, nameIndex := 354, descriptorIndex := 339, attributes := #[] }, { accessFlags := 25, nameIndex := 358, descriptorIndex := 339, attributes := #[] }, { accessFlags := 25, nameIndex := 361, descriptorIndex := 339, attributes := #[] }, { accessFlags := 26, nameIndex := 364, descriptorIndex := 339, attributes := #[] }, { accessFlags := 26, nameIndex := 365, descriptorIndex := 339, attributes := #[] }, { accessFlags := 26, nameIndex := 172, descriptorIndex := 173, attributes := #[] }, { accessFlags := 26, nameIndex := 176, descriptorIndex := 173, attributes := #[] }, { accessFlags := 8, nameIndex := 344, descriptorIndex := 339, attributes := #[] }, { accessFlags := 8, nameIndex := 338, descriptorIndex := 339, attributes := #[] }, { accessFlags := 4120, nameIndex := 245, descriptorIndex := 246, attributes := #[] }])
  fields := #[{ name := "E", type := .double, accessFlags := 25, slot := 0, constantValue := 0 }, { name := "PI", type := .double, accessFlags := 25, slot := 1, constantValue := 0 }, { name := "TAU", type := .double, accessFlags := 25, slot := 2, constantValue := 0 }, { name := "DEGREES_TO_RADIANS", type := .double, accessFlags := 26, slot := 3, constantValue := 0 }, { name := "RADIANS_TO_DEGREES", type := .double, accessFlags := 26, slot := 4, constantValue := 0 }, { name := "negativeZeroFloatBits", type := .long, accessFlags := 26, slot := 5, constantValue := 0 }, { name := "negativeZeroDoubleBits", type := .long, accessFlags := 26, slot := 6, constantValue := 0 }, { name := "twoToTheDoubleScaleUp", type := .double, accessFlags := 8, slot := 7, constantValue := 0 }, { name := "twoToTheDoubleScaleDown", type := .double, accessFlags := 8, slot := 8, constantValue := 0 }, { name := "$assertionsDisabled", type := .boolean, accessFlags := 4120, slot := 9, constantValue := 0 }]
  methods := #[k2m0, k2m1]
  instanceTypes := #[]
  staticTypes := #[.double, .double, .double, .double, .double, .long, .long, .double, .double, .boolean]
  resolved := Array.replicate 460 none
  statics := none }

def pool3 : Array CpInfo := pool [(1, .class_ 2), (0, u "java/io/Serializable"), (0, .class_ 4), (0, u "java/lang/Object")] 2

/-- java/io/Serializable -/
def k3 : Class := { plain "java/io/Serializable" (some 0) with
  accessFlags := 1537
  interfaces := #[]
  cf := some (fileOf pool3 1 #[] #[] 1537 3 #[] #[])
  fields := #[]
  methods := #[]
  instanceTypes := #[]
  staticTypes := #[]
  resolved := Array.replicate 7 none
  statics := none }

def pool4 : Array CpInfo := pool [(1, .class_ 2), (0, u "java/lang/Comparable"), (0, .class_ 4), (0, u "java/lang/Object")] 7

/-- java/lang/Comparable -/
def k4 : Class := { plain "java/lang/Comparable" (some 0) with
  accessFlags := 1537
  interfaces := #[]
  cf := some (fileOf pool4 1 #[] #[] 1537 3 #[] #[])
  fields := #[]
  methods := #[]
  instanceTypes := #[]
  staticTypes := #[]
  resolved := Array.replicate 12 none
  statics := none }

def pool5 : Array CpInfo := pool [(2, .class_ 4), (1, u "java/lang/CharSequence"), (42, .class_ 48), (0, u "java/lang/CharSequence$1CodePointIterator"), (10, .class_ 60), (0, u "java/lang/CharSequence$1CharIterator"), (5, .class_ 67), (0, u "java/lang/Object")] 63

/-- java/lang/CharSequence -/
def k5 : Class := { plain "java/lang/CharSequence" (some 0) with
  accessFlags := 1537
  interfaces := #[]
  cf := some (fileOf pool5 2 #[.nestMembers #[47, 59]] #[] 1537 66 #[] #[])
  fields := #[]
  methods := #[]
  instanceTypes := #[]
  staticTypes := #[]
  resolved := Array.replicate 131 none
  statics := none }

def pool6 : Array CpInfo := pool [(1, .class_ 2), (0, u "java/lang/constant/Constable"), (0, .class_ 4), (0, u "java/lang/Object")] 6

/-- java/lang/constant/Constable -/
def k6 : Class := { plain "java/lang/constant/Constable" (some 0) with
  accessFlags := 1537
  interfaces := #[]
  cf := some (fileOf pool6 1 #[] #[] 1537 3 #[] #[])
  fields := #[]
  methods := #[]
  instanceTypes := #[]
  staticTypes := #[]
  resolved := Array.replicate 11 none
  statics := none }

def pool7 : Array CpInfo := pool [(1, .class_ 2), (0, u "java/lang/constant/ConstantDesc"), (0, .class_ 4), (0, u "java/lang/Object")] 32

/-- java/lang/constant/ConstantDesc -/
def k7 : Class := { plain "java/lang/constant/ConstantDesc" (some 0) with
  accessFlags := 1537
  interfaces := #[]
  cf := some (fileOf pool7 1 #[] #[] 1537 3 #[] #[])
  fields := #[]
  methods := #[]
  instanceTypes := #[]
  staticTypes := #[]
  resolved := Array.replicate 37 none
  statics := none }

def pool8 : Array CpInfo := pool [(1, .methodref 2 3), (0, .class_ 4), (0, .nameAndType 5 6), (0, u "java/lang/Object"), (0, u "<init>"), (0, u "()V"), (2, .fieldref 10 11), (0, .class_ 12), (0, .nameAndType 13 14), (0, u "java/lang/String"), (0, u "value"), (0, u "[B"), (0, .fieldref 10 16), (0, .nameAndType 17 18), (0, u "coder"), (0, u "B"), (2, u "hash"), (0, u "I"), (2, u "hashIsZero"), (0, u "Z"), (11, .fieldref 10 39), (0, .nameAndType 40 26), (0, u "COMPACT_STRINGS"), (12, u "toBytes"), (53, .class_ 109), (1, u "java/lang/StringLatin1"), (99, .methodref 10 210), (0, .nameAndType 5 211), (0, u "([BB)V"), (157, u "(C)Z"), (205, .class_ 576), (0, u "java/lang/CharSequence"), (22, u "CASE_INSENSITIVE_ORDER"), (0, u "Ljava/util/Comparator;"), (181, u "valueOf"), (0, u "(C)Ljava/lang/String;"), (231, .methodref 107 1016), (0, .nameAndType 1017 369), (0, u "canEncode"), (0, .methodref 107 1019), (0, .nameAndType 53 1020), (0, u "(C)[B"), (80, u "serialPersistentFields"), (0, u "[Ljava/io/ObjectStreamField;"), (0, .class_ 1104), (0, u "java/lang/String$CaseInsensitiveComparator"), (1, .class_ 1107), (0, u "java/io/Serializable"), (0, .class_ 1109), (0, u "java/lang/Comparable"), (0, .class_ 1111), (0, u "java/lang/constant/Constable"), (0, .class_ 1113), (0, u "java/lang/constant/ConstantDesc"), (2, u "serialVersionUID"), (0, u "J"), (3, u "REPL"), (0, u "C"), (2, u "LATIN1"), (1, u "UTF16")] 323

def k8m0 : Method := { name := "<init>", desc := "()V", sig := { parameters := [], returnType := none }, accessFlags := 1, code := none }
def k8c1 : Code := { maxStack := 4, maxLocals := 1, code := jdk_42_method_139_code, exceptionTable := #[], attributes := #[] }
def k8m1 : Method := { name := "valueOf", desc := "(C)Ljava/lang/String;", sig := { parameters := [.char], returnType := some (.object "java/lang/String") }, accessFlags := 9, code := some k8c1 }
def k8c2 : Code := { maxStack := 2, maxLocals := 3, code := jdk_42_method_151_code, exceptionTable := #[], attributes := #[] }
def k8m2 : Method := { name := "<init>", desc := "([BB)V", sig := { parameters := [(.array .byte), .byte], returnType := none }, accessFlags := 0, code := some k8c2 }
/-- java/lang/String -/
def k8 : Class := { plain "java/lang/String" (some 0) with
  accessFlags := 49
  interfaces := #[3, 4, 5, 6, 7]
  cf := some (fileOf pool8 10 #[.nestMembers #[1103]] #[{ accessFlags := 1, nameIndex := 5, descriptorIndex := 6, attributes := #[] }, { accessFlags := 9, nameIndex := 782, descriptorIndex := 783, attributes := #[] }, { accessFlags := 0, nameIndex := 5, descriptorIndex := 211, attributes := #[] }] 49 2 #[1106, 1108, 575, 1110, 1112] #[{ accessFlags := 18, nameIndex := 13, descriptorIndex := 14, attributes := #[] }, { accessFlags := 18, nameIndex := 17, descriptorIndex := 18, attributes := #[] }, { accessFlags := 2, nameIndex := 21, descriptorIndex := 22, attributes := #[] }, { accessFlags := 2, nameIndex := 25, descriptorIndex := 26, attributes := #[] }, { accessFlags := 26, nameIndex := 1116, descriptorIndex := 1117, attributes := #[] }, { accessFlags := 24, nameIndex := 40, descriptorIndex := 26, attributes := #[] }, { accessFlags := 26, nameIndex := 1101, descriptorIndex := 1102, attributes := #[] }, { accessFlags := 26, nameIndex := 1121, descriptorIndex := 1122, attributes := #[] }, { accessFlags := 25, nameIndex := 599, descriptorIndex := 600, attributes := #[] }, { accessFlags := 24, nameIndex := 1125, descriptorIndex := 18, attributes := #[] }, { accessFlags := 24, nameIndex := 1127, descriptorIndex := 18, attributes := #[] }])
  fields := #[{ name := "value", type := (.array .byte), accessFlags := 18, slot := 0, constantValue := 0 }, { name := "coder", type := .byte, accessFlags := 18, slot := 1, constantValue := 0 }, { name := "hash", type := .int, accessFlags := 2, slot := 2, constantValue := 0 }, { name := "hashIsZero", type := .boolean, accessFlags := 2, slot := 3, constantValue := 0 }, { name := "serialVersionUID", type := .long, accessFlags := 26, slot := 0, constantValue := 0 }, { name := "COMPACT_STRINGS", type := .boolean, accessFlags := 24, slot := 1, constantValue := 0 }, { name := "serialPersistentFields", type := (.array (.object "java/io/ObjectStreamField")), accessFlags := 26, slot := 2, constantValue := 0 }, { name := "REPL", type := .char, accessFlags := 26, slot := 3, constantValue := 0 }, { name := "CASE_INSENSITIVE_ORDER", type := (.object "java/util/Comparator"), accessFlags := 25, slot := 4, constantValue := 0 }, { name := "LATIN1", type := .byte, accessFlags := 24, slot := 5, constantValue := 0 }, { name := "UTF16", type := .byte, accessFlags := 24, slot := 6, constantValue := 0 }]
  methods := #[k8m0, k8m1, k8m2]
  instanceTypes := #[(.array .byte), .byte, .int, .boolean]
  staticTypes := #[.long, .boolean, (.array (.object "java/io/ObjectStreamField")), .char, (.object "java/util/Comparator"), .byte, .byte]
  resolved := Array.replicate 1451 none
  statics := some 0 }

def pool9 : Array CpInfo := pool [(4, .class_ 6), (1, u "java/lang/Object"), (0, u "<init>"), (0, u "()V"), (5, .class_ 16), (1, u "java/lang/StringLatin1"), (73, u "canEncode"), (14, u "(C)Z"), (15, u "$assertionsDisabled"), (0, u "Z"), (98, .class_ 223), (1, u "java/lang/StringLatin1$LinesSpliterator"), (156, u "toBytes"), (1, u "(C)[B"), (7, .class_ 391), (0, u "java/lang/StringLatin1$CharsSpliterator")] 3

def k9m0 : Method := { name := "<init>", desc := "()V", sig := { parameters := [], returnType := none }, accessFlags := 0, code := none }
def k9c1 : Code := { maxStack := 2, maxLocals := 1, code := jdk_43_method_3_code, exceptionTable := #[], attributes := #[] }
def k9m1 : Method := { name := "canEncode", desc := "(C)Z", sig := { parameters := [.char], returnType := some .boolean }, accessFlags := 9, code := some k9c1 }
def k9c2 : Code := { maxStack := 4, maxLocals := 1, code := jdk_43_method_46_code, exceptionTable := #[], attributes := #[] }
def k9m2 : Method := { name := "toBytes", desc := "(C)[B", sig := { parameters := [.char], returnType := some (.array .byte) }, accessFlags := 9, code := some k9c2 }
/-- java/lang/StringLatin1 -/
def k9 : Class := { plain "java/lang/StringLatin1" (some 0) with
  accessFlags := 48
  interfaces := #[]
  cf := some (fileOf pool9 14 #[.nestMembers #[390, 221]] #[{ accessFlags := 0, nameIndex := 7, descriptorIndex := 8, attributes := #[] }, { accessFlags := 9, nameIndex := 90, descriptorIndex := 105, attributes := #[] }, { accessFlags := 9, nameIndex := 380, descriptorIndex := 382, attributes := #[] }] 48 4 #[] #[{ accessFlags := 4120, nameIndex := 121, descriptorIndex := 122, attributes := #[] }])
  fields := #[{ name := "$assertionsDisabled", type := .boolean, accessFlags := 4120, slot := 0, constantValue := 0 }]
  methods := #[k9m0, k9m1, k9m2]
  instanceTypes := #[]
  staticTypes := #[.boolean]
  resolved := Array.replicate 395 none
  statics := none }

def pool10 : Array CpInfo := pool [(1, .methodref 2 3), (0, .class_ 4), (0, .nameAndType 5 6), (0, u "java/lang/Object"), (0, u "<init>"), (0, u "()V"), (0, .class_ 8), (0, u "java/lang/Record")] 13

def k10c0 : Code := { maxStack := 1, maxLocals := 1, code := jdk_30_method_1_code, exceptionTable := #[], attributes := #[] }
def k10m0 : Method := { name := "<init>", desc := "()V", sig := { parameters := [], returnType := none }, accessFlags := 4, code := some k10c0 }
/-- java/lang/Record -/
def k10 : Class := { plain "java/lang/Record" (some 0) with
  accessFlags := 1057
  interfaces := #[]
  cf := some (fileOf pool10 7 #[] #[{ accessFlags := 4, nameIndex := 5, descriptorIndex := 6, attributes := #[] }] 1057 2 #[] #[])
  fields := #[]
  methods := #[k10m0]
  instanceTypes := #[]
  staticTypes := #[]
  resolved := Array.replicate 22 none
  statics := none }

def pool11 : Array CpInfo := pool [(1, .methodref 2 3), (0, .class_ 4), (0, .nameAndType 5 6), (0, u "java/lang/Record"), (0, u "<init>"), (0, u "()V"), (0, .fieldref 8 9), (0, .class_ 10), (0, .nameAndType 11 12), (0, u "com/example/kinsmark/kinsmark/evaluation/CategoryResult"), (0, u "category"), (0, u "Ljava/lang/String;"), (0, .fieldref 8 14), (0, .nameAndType 15 16), (0, u "reused"), (0, u "I"), (0, .fieldref 8 18), (0, .nameAndType 19 16), (0, u "independent"), (0, .fieldref 8 21), (0, .nameAndType 22 16), (0, u "perMille"), (0, .fieldref 8 24), (0, .nameAndType 25 16), (0, u "reusedSimilar"), (0, .fieldref 8 27), (0, .nameAndType 28 16), (0, u "independentNotSimilar"), (11, u "()D"), (37, u "(Ljava/lang/String;IIIII)V"), (8, u "credibility")] 33

def k11c0 : Code := { maxStack := 2, maxLocals := 7, code := prog_3_method_1_code, exceptionTable := #[], attributes := #[] }
def k11m0 : Method := { name := "<init>", desc := "(Ljava/lang/String;IIIII)V", sig := { parameters := [(.object "java/lang/String"), .int, .int, .int, .int, .int], returnType := none }, accessFlags := 1, code := some k11c0 }
def k11c1 : Code := { maxStack := 4, maxLocals := 1, code := prog_3_method_5_code, exceptionTable := #[], attributes := #[] }
def k11m1 : Method := { name := "credibility", desc := "()D", sig := { parameters := [], returnType := some .double }, accessFlags := 1, code := some k11c1 }
/-- com/example/kinsmark/kinsmark/evaluation/CategoryResult -/
def k11 : Class := { plain "com/example/kinsmark/kinsmark/evaluation/CategoryResult" (some 10) with
  accessFlags := 49
  interfaces := #[]
  cf := some (fileOf pool11 8 #[] #[{ accessFlags := 1, nameIndex := 5, descriptorIndex := 78, attributes := #[] }, { accessFlags := 1, nameIndex := 87, descriptorIndex := 40, attributes := #[] }] 49 2 #[] #[{ accessFlags := 18, nameIndex := 11, descriptorIndex := 12, attributes := #[] }, { accessFlags := 18, nameIndex := 15, descriptorIndex := 16, attributes := #[] }, { accessFlags := 18, nameIndex := 19, descriptorIndex := 16, attributes := #[] }, { accessFlags := 18, nameIndex := 22, descriptorIndex := 16, attributes := #[] }, { accessFlags := 18, nameIndex := 25, descriptorIndex := 16, attributes := #[] }, { accessFlags := 18, nameIndex := 28, descriptorIndex := 16, attributes := #[] }])
  fields := #[{ name := "category", type := (.object "java/lang/String"), accessFlags := 18, slot := 0, constantValue := 0 }, { name := "reused", type := .int, accessFlags := 18, slot := 1, constantValue := 0 }, { name := "independent", type := .int, accessFlags := 18, slot := 2, constantValue := 0 }, { name := "perMille", type := .int, accessFlags := 18, slot := 3, constantValue := 0 }, { name := "reusedSimilar", type := .int, accessFlags := 18, slot := 4, constantValue := 0 }, { name := "independentNotSimilar", type := .int, accessFlags := 18, slot := 5, constantValue := 0 }]
  methods := #[k11m0, k11m1]
  instanceTypes := #[(.object "java/lang/String"), .int, .int, .int, .int, .int]
  staticTypes := #[]
  resolved := Array.replicate 121 none
  statics := none }

def pool12 : Array CpInfo := pool [(2, .class_ 4), (1, u "java/lang/Object"), (0, u "<init>"), (0, u "()V"), (17, .class_ 26), (1, u "jdk/internal/util/Preconditions"), (28, .class_ 56), (0, u "jdk/internal/util/Preconditions$4"), (57, .class_ 115), (0, u "jdk/internal/util/Preconditions$1"), (7, u "SIOOBE_FORMATTER"), (0, u "Ljava/util/function/BiFunction;"), (0, .class_ 126), (0, u "jdk/internal/util/Preconditions$2"), (3, u "AIOOBE_FORMATTER"), (0, .class_ 132), (0, u "jdk/internal/util/Preconditions$3"), (3, u "IOOBE_FORMATTER")] 57

def k12m0 : Method := { name := "<init>", desc := "()V", sig := { parameters := [], returnType := none }, accessFlags := 1, code := none }
/-- jdk/internal/util/Preconditions -/
def k12 : Class := { plain "jdk/internal/util/Preconditions" (some 0) with
  accessFlags := 33
  interfaces := #[]
  cf := some (fileOf pool12 24 #[.nestMembers #[55, 131, 125, 114]] #[{ accessFlags := 1, nameIndex := 5, descriptorIndex := 6, attributes := #[] }] 33 2 #[] #[{ accessFlags := 25, nameIndex := 123, descriptorIndex := 124, attributes := #[] }, { accessFlags := 25, nameIndex := 130, descriptorIndex := 124, attributes := #[] }, { accessFlags := 25, nameIndex := 136, descriptorIndex := 124, attributes := #[] }])
  fields := #[{ name := "SIOOBE_FORMATTER", type := (.object "java/util/function/BiFunction"), accessFlags := 25, slot := 0, constantValue := 0 }, { name := "AIOOBE_FORMATTER", type := (.object "java/util/function/BiFunction"), accessFlags := 25, slot := 1, constantValue := 0 }, { name := "IOOBE_FORMATTER", type := (.object "java/util/function/BiFunction"), accessFlags := 25, slot := 2, constantValue := 0 }]
  methods := #[k12m0]
  instanceTypes := #[]
  staticTypes := #[(.object "java/util/function/BiFunction"), (.object "java/util/function/BiFunction"), (.object "java/util/function/BiFunction")]
  resolved := Array.replicate 194 none
  statics := some 1 }

def pool13 : Array CpInfo := pool [(9, u "<init>"), (6, .class_ 18), (1, u "java/lang/Object"), (0, u "()V"), (1, .class_ 23), (1, u "jdk/internal/util/ArraysSupport"), (0, u "LOG2_ARRAY_LONG_INDEX_SCALE"), (0, u "I"), (2, u "U"), (0, u "Ljdk/internal/misc/Unsafe;"), (8, u "BIG_ENDIAN"), (0, u "Z"), (8, u "LOG2_BYTE_BIT_SIZE"), (4, u "LOG2_ARRAY_INT_INDEX_SCALE"), (54, u "JLA"), (0, u "Ljdk/internal/access/JavaLangAccess;"), (11, u "LOG2_ARRAY_BOOLEAN_INDEX_SCALE"), (9, u "LOG2_ARRAY_BYTE_INDEX_SCALE"), (5, u "LOG2_ARRAY_CHAR_INDEX_SCALE"), (5, u "LOG2_ARRAY_SHORT_INDEX_SCALE"), (18, u "LOG2_ARRAY_FLOAT_INDEX_SCALE"), (24, u "LOG2_ARRAY_DOUBLE_INDEX_SCALE"), (89, u "T_BOOLEAN"), (2, u "T_CHAR"), (1, u "T_FLOAT"), (1, u "T_DOUBLE"), (1, u "T_BYTE"), (1, u "T_SHORT"), (1, u "T_INT"), (1, u "T_LONG"), (1, u "SOFT_MAX_ARRAY_LENGTH")] 83

def k13m0 : Method := { name := "<init>", desc := "()V", sig := { parameters := [], returnType := none }, accessFlags := 2, code := none }
/-- jdk/internal/util/ArraysSupport -/
def k13 : Class := { plain "jdk/internal/util/ArraysSupport" (some 0) with
  accessFlags := 33
  interfaces := #[]
  cf := some (fileOf pool13 21 #[] #[{ accessFlags := 2, nameIndex := 9, descriptorIndex := 19, attributes := #[] }] 33 16 #[] #[{ accessFlags := 24, nameIndex := 28, descriptorIndex := 29, attributes := #[] }, { accessFlags := 26, nameIndex := 38, descriptorIndex := 39, attributes := #[] }, { accessFlags := 25, nameIndex := 121, descriptorIndex := 25, attributes := #[] }, { accessFlags := 25, nameIndex := 131, descriptorIndex := 25, attributes := #[] }, { accessFlags := 25, nameIndex := 137, descriptorIndex := 25, attributes := #[] }, { accessFlags := 25, nameIndex := 143, descriptorIndex := 25, attributes := #[] }, { accessFlags := 25, nameIndex := 53, descriptorIndex := 25, attributes := #[] }, { accessFlags := 25, nameIndex := 24, descriptorIndex := 25, attributes := #[] }, { accessFlags := 25, nameIndex := 162, descriptorIndex := 25, attributes := #[] }, { accessFlags := 25, nameIndex := 187, descriptorIndex := 25, attributes := #[] }, { accessFlags := 26, nameIndex := 48, descriptorIndex := 25, attributes := #[] }, { accessFlags := 25, nameIndex := 277, descriptorIndex := 25, attributes := #[] }, { accessFlags := 25, nameIndex := 280, descriptorIndex := 25, attributes := #[] }, { accessFlags := 25, nameIndex := 282, descriptorIndex := 25, attributes := #[] }, { accessFlags := 25, nameIndex := 284, descriptorIndex := 25, attributes := #[] }, { accessFlags := 25, nameIndex := 286, descriptorIndex := 25, attributes := #[] }, { accessFlags := 25, nameIndex := 288, descriptorIndex := 25, attributes := #[] }, { accessFlags := 25, nameIndex := 290, descriptorIndex := 25, attributes := #[] }, { accessFlags := 25, nameIndex := 292, descriptorIndex := 25, attributes := #[] }, { accessFlags := 26, nameIndex := 108, descriptorIndex := 109, attributes := #[] }, { accessFlags := 25, nameIndex := 294, descriptorIndex := 25, attributes := #[] }])
  fields := #[{ name := "U", type := (.object "jdk/internal/misc/Unsafe"), accessFlags := 24, slot := 0, constantValue := 0 }, { name := "BIG_ENDIAN", type := .boolean, accessFlags := 26, slot := 1, constantValue := 0 }, { name := "LOG2_ARRAY_BOOLEAN_INDEX_SCALE", type := .int, accessFlags := 25, slot := 2, constantValue := 0 }, { name := "LOG2_ARRAY_BYTE_INDEX_SCALE", type := .int, accessFlags := 25, slot := 3, constantValue := 0 }, { name := "LOG2_ARRAY_CHAR_INDEX_SCALE", type := .int, accessFlags := 25, slot := 4, constantValue := 0 }, { name := "LOG2_ARRAY_SHORT_INDEX_SCALE", type := .int, accessFlags := 25, slot := 5, constantValue := 0 }, { name := "LOG2_ARRAY_INT_INDEX_SCALE", type := .int, accessFlags := 25, slot := 6, constantValue := 0 }, { name := "LOG2_ARRAY_LONG_INDEX_SCALE", type := .int, accessFlags := 25, slot := 7, constantValue := 0 }, { name := "LOG2_ARRAY_FLOAT_INDEX_SCALE", type := .int, accessFlags := 25, slot := 8, constantValue := 0 }, { name := "LOG2_ARRAY_DOUBLE_INDEX_SCALE", type := .int, accessFlags := 25, slot := 9, constantValue := 0 }, { name := "LOG2_BYTE_BIT_SIZE", type := .int, accessFlags := 26, slot := 10, constantValue := 0 }, { name := "T_BOOLEAN", type := .int, accessFlags := 25, slot := 11, constantValue := 0 }, { name := "T_CHAR", type := .int, accessFlags := 25, slot := 12, constantValue := 0 }, { name := "T_FLOAT", type := .int, accessFlags := 25, slot := 13, constantValue := 0 }, { name := "T_DOUBLE", type := .int, accessFlags := 25, slot := 14, constantValue := 0 }, { name := "T_BYTE", type := .int, accessFlags := 25, slot := 15, constantValue := 0 }, { name := "T_SHORT", type := .int, accessFlags := 25, slot := 16, constantValue := 0 }, { name := "T_INT", type := .int, accessFlags := 25, slot := 17, constantValue := 0 }, { name := "T_LONG", type := .int, accessFlags := 25, slot := 18, constantValue := 0 }, { name := "JLA", type := (.object "jdk/internal/access/JavaLangAccess"), accessFlags := 26, slot := 19, constantValue := 0 }, { name := "SOFT_MAX_ARRAY_LENGTH", type := .int, accessFlags := 25, slot := 20, constantValue := 0 }]
  methods := #[k13m0]
  instanceTypes := #[]
  staticTypes := #[(.object "jdk/internal/misc/Unsafe"), .boolean, .int, .int, .int, .int, .int, .int, .int, .int, .int, .int, .int, .int, .int, .int, .int, .int, .int, (.object "jdk/internal/access/JavaLangAccess"), .int]
  resolved := Array.replicate 378 none
  statics := none }

def pool14 : Array CpInfo := pool [(1, u "java/lang/Cloneable"), (0, .class_ 1), (0, u "java/lang/Object"), (0, .class_ 3)] 3

/-- java/lang/Cloneable -/
def k14 : Class := { plain "java/lang/Cloneable" (some 0) with
  accessFlags := 1537
  interfaces := #[]
  cf := some (fileOf pool14 2 #[] #[] 1537 4 #[] #[])
  fields := #[]
  methods := #[]
  instanceTypes := #[]
  staticTypes := #[]
  resolved := Array.replicate 8 none
  statics := none }

/-- the primitive byte -/
def k15 : Class := { plain "byte" none with kind := .primitive 'B', accessFlags := 0x411 }
/-- [B -/
def k16 : Class := { plain "[B" (some 0) with kind := .array 15 .byte, interfaces := #[14, 3], accessFlags := 1041 }

/-- the primitive int -/
def k17 : Class := { plain "int" none with kind := .primitive 'I', accessFlags := 0x411 }
/-- [I -/
def k18 : Class := { plain "[I" (some 0) with kind := .array 17 .int, interfaces := #[14, 3], accessFlags := 1041 }

def heap : Heap := #[{ cls := 8, slots := #[.long 0, .int 1, .null, .int 0, .null, .int 0, .int 0], vm := .statics 8 },
  { cls := 12, slots := #[.null, .null, .null], vm := .statics 12 }]
def classes : Array Class := #[k0, k1, k2, k3, k4, k5, k6, k7, k8, k9, k10, k11, k12, k13, k14, k15, k16, k17, k18]
def interned : List (Array UInt16 × Addr) := []
def slotsUsed : Nat := 10
def theMethod : MethodId := ⟨1, 2⟩
def args0 : Array Value := #[.int 5, .int 1, .int 2, .int 3, .int 4, .long 5]
def aboutOver (below : List Frame) : State where
  vm := { classes := classes, interned := interned.toArray }
  heap := heap
  slotsUsed := slotsUsed
  threads := #[{ frames := .invoking theMethod args0 :: below }]
def below0 : List Frame := [.native { method := ⟨0, 0⟩, args := #[] }]
def about1 : State := aboutOver below0
def p0 : Program := .bare "" "" ""
def e0 : Env := launch0.env 0 0 0
theorem w_frames : about1.frames = Frame.invoking theMethod args0 :: below0 := rfl
set_option maxRecDepth 65536 in
theorem w_args : argsFit about1.vm theMethod args0 = true := by decide +kernel
set_option maxRecDepth 65536 in
theorem w_heap : heapFits about1 = true := by decide +kernel
set_option maxRecDepth 65536 in
theorem w_runnable : about1.curStatus? = some .runnable := by decide +kernel
set_option maxRecDepth 65536 in
theorem w_alone : about1.alone = true := by decide +kernel
set_option maxRecDepth 65536 in
theorem w_named : about1.methodNamed? x = some theMethod := by decide +kernel
set_option maxRecDepth 65536 in
theorem w_hears : about1.hears theMethod below0 = true := by decide +kernel
set_option maxRecDepth 65536 in
theorem w_ripe : about1.ripe theMethod args0 below0 = true := by decide +kernel
theorem w_running : about1.status = .running := rfl
set_option maxRecDepth 65536 in
theorem w_room : about1.hasRoom e0.platform room_1 = true :=
  launch0.hasRoom_least _ room_1 (by decide +kernel) (by decide +kernel) (by decide +kernel) (by decide +kernel) (by decide +kernel) (by decide +kernel)
theorem allAtoms_all (ts : List Jvm.Cond) (a : Array Jvm.Value) (st : Jvm.State) : (allAtoms ts).before a st = ts.all (fun c => c.before a st) := by
  induction ts with
  | nil => rfl
  | cons c t ih =>
    show (Jvm.Cond.and c (allAtoms t)).before a st = _
    rw [Jvm.Cond.before_and, ih, List.all_cons]
def words1 : List Jvm.Cond := Jvm.Cond.code x code maxLocals ret :: tables_1
/-- a 'code' word, met by the world's own term for the bytes: nothing is compared byte by byte -/
theorem code_word {y : MethodName} {bytes : ByteArray} {mx : Nat} {rt : Option FieldType} {a : Array Value} {s : State} {m : MethodId} {meth : Method} {c : Code} (h1 : s.methodNamed? y = some m) (h2 : s.vm.method? m = some meth) (h3 : meth.code = some c) (h4 : c.code = bytes)
    (h5 : (c.maxLocals == mx && c.exceptionTable.isEmpty && decide (c.maxStack ≤ mostOperands) && decide (meth.sig.returnType = rt) && !meth.locks && decide (parseMethodDescriptor y.desc = some meth.sig)) = true) : (Jvm.Cond.code y bytes mx rt).before a s = true := by
  simp only [Bool.and_eq_true, beq_iff_eq, Bool.not_eq_true', decide_eq_true_eq] at h5
  obtain ⟨⟨⟨⟨⟨g1, g2⟩, g3⟩, g4⟩, g5⟩, g6⟩ := h5
  simp [Cond.before, Cond.holds, Cond.value, h1, h2, h3, h4, g1, g2, g3, g4, g5, g6]
def isCode : Jvm.Cond → Bool
  | .code _ _ _ _ => true
  | _ => false
theorem all_split {L : List Jvm.Cond} {P : Jvm.Cond → Bool} (h1 : L.all (fun c => isCode c || P c) = true) (h2 : ∀ c ∈ L.filter isCode, P c = true) : L.all P = true := by
  refine List.all_eq_true.mpr fun c hc => ?_
  have h := List.all_eq_true.mp h1 c hc
  rcases Bool.eq_false_or_eq_true (isCode c) with hi | hi
  · exact h2 c (List.mem_filter.mpr ⟨hc, hi⟩)
  · simpa [hi] using h
set_option maxRecDepth 65536 in
theorem w_c0 : (Jvm.Cond.code x code maxLocals ret).before args0 about1 = true := code_word (m := ⟨1, 2⟩) (meth := k1m2) (c := k1c2) (by decide +kernel) rfl rfl rfl (by decide +kernel)
set_option maxRecDepth 65536 in
theorem w_c1 : (Jvm.Cond.code ({ cls := "java/lang/Math", name := "max", desc := "(II)I" } : Jvm.MethodName) jdk_29_method_65_code (2 : Nat) (Option.some Jvm.ClassFile.FieldType.int)).before args0 about1 = true := code_word (m := ⟨2, 1⟩) (meth := k2m1) (c := k2c1) (by decide +kernel) rfl rfl rfl (by decide +kernel)
set_option maxRecDepth 65536 in
theorem w_c2 : (Jvm.Cond.code ({ cls := "java/lang/String", name := "valueOf", desc := "(C)Ljava/lang/String;" } : Jvm.MethodName) jdk_42_method_139_code (1 : Nat) (Option.some (Jvm.ClassFile.FieldType.object "java/lang/String"))).before args0 about1 = true := code_word (m := ⟨8, 1⟩) (meth := k8m1) (c := k8c1) (by decide +kernel) rfl rfl rfl (by decide +kernel)
set_option maxRecDepth 65536 in
theorem w_c3 : (Jvm.Cond.code ({ cls := "java/lang/StringLatin1", name := "canEncode", desc := "(C)Z" } : Jvm.MethodName) jdk_43_method_3_code (1 : Nat) (Option.some Jvm.ClassFile.FieldType.boolean)).before args0 about1 = true := code_word (m := ⟨9, 1⟩) (meth := k9m1) (c := k9c1) (by decide +kernel) rfl rfl rfl (by decide +kernel)
set_option maxRecDepth 65536 in
theorem w_c4 : (Jvm.Cond.code ({ cls := "java/lang/StringLatin1", name := "toBytes", desc := "(C)[B" } : Jvm.MethodName) jdk_43_method_46_code (1 : Nat) (Option.some (Jvm.ClassFile.FieldType.array Jvm.ClassFile.FieldType.byte))).before args0 about1 = true := code_word (m := ⟨9, 2⟩) (meth := k9m2) (c := k9c2) (by decide +kernel) rfl rfl rfl (by decide +kernel)
set_option maxRecDepth 65536 in
theorem w_c5 : (Jvm.Cond.code ({ cls := "java/lang/String", name := "<init>", desc := "([BB)V" } : Jvm.MethodName) jdk_42_method_151_code (3 : Nat) (Option.none : Option Jvm.ClassFile.FieldType)).before args0 about1 = true := code_word (m := ⟨8, 2⟩) (meth := k8m2) (c := k8c2) (by decide +kernel) rfl rfl rfl (by decide +kernel)
set_option maxRecDepth 65536 in
theorem w_c6 : (Jvm.Cond.code ({ cls := "java/lang/Object", name := "<init>", desc := "()V" } : Jvm.MethodName) object_method_1_code (1 : Nat) (Option.none : Option Jvm.ClassFile.FieldType)).before args0 about1 = true := code_word (m := ⟨0, 0⟩) (meth := k0m0) (c := k0c0) (by decide +kernel) rfl rfl rfl (by decide +kernel)
set_option maxRecDepth 65536 in
theorem w_c7 : (Jvm.Cond.code ({ cls := "com/example/kinsmark/kinsmark/evaluation/CategoryResult", name := "<init>", desc := "(Ljava/lang/String;IIIII)V" } : Jvm.MethodName) prog_3_method_1_code (7 : Nat) (Option.none : Option Jvm.ClassFile.FieldType)).before args0 about1 = true := code_word (m := ⟨11, 0⟩) (meth := k11m0) (c := k11c0) (by decide +kernel) rfl rfl rfl (by decide +kernel)
set_option maxRecDepth 65536 in
theorem w_c8 : (Jvm.Cond.code ({ cls := "java/lang/Record", name := "<init>", desc := "()V" } : Jvm.MethodName) jdk_30_method_1_code (1 : Nat) (Option.none : Option Jvm.ClassFile.FieldType)).before args0 about1 = true := code_word (m := ⟨10, 0⟩) (meth := k10m0) (c := k10c0) (by decide +kernel) rfl rfl rfl (by decide +kernel)
set_option maxRecDepth 65536 in
theorem w_c9 : (Jvm.Cond.code ({ cls := "com/example/kinsmark/kinsmark/evaluation/CategoryResult", name := "credibility", desc := "()D" } : Jvm.MethodName) prog_3_method_5_code (1 : Nat) (Option.some Jvm.ClassFile.FieldType.double)).before args0 about1 = true := code_word (m := ⟨11, 1⟩) (meth := k11m1) (c := k11c1) (by decide +kernel) rfl rfl rfl (by decide +kernel)
set_option maxRecDepth 65536 in
theorem w_c10 : (Jvm.Cond.code ({ cls := "com/example/kinsmark/kinsmark/evaluation/CategoryResultCredibilityPinLaw", name := "fixedPoints", desc := "(IID)Z" } : Jvm.MethodName) method_2_code (5 : Nat) (Option.some Jvm.ClassFile.FieldType.boolean)).before args0 about1 = true := code_word (m := ⟨1, 1⟩) (meth := k1m1) (c := k1c1) (by decide +kernel) rfl rfl rfl (by decide +kernel)
def codes1 : List Jvm.Cond := [Jvm.Cond.code x code maxLocals ret, Jvm.Cond.code ({ cls := "java/lang/Math", name := "max", desc := "(II)I" } : Jvm.MethodName) jdk_29_method_65_code (2 : Nat) (Option.some Jvm.ClassFile.FieldType.int), Jvm.Cond.code ({ cls := "java/lang/String", name := "valueOf", desc := "(C)Ljava/lang/String;" } : Jvm.MethodName) jdk_42_method_139_code (1 : Nat) (Option.some (Jvm.ClassFile.FieldType.object "java/lang/String")), Jvm.Cond.code ({ cls := "java/lang/StringLatin1", name := "canEncode", desc := "(C)Z" } : Jvm.MethodName) jdk_43_method_3_code (1 : Nat) (Option.some Jvm.ClassFile.FieldType.boolean), Jvm.Cond.code ({ cls := "java/lang/StringLatin1", name := "toBytes", desc := "(C)[B" } : Jvm.MethodName) jdk_43_method_46_code (1 : Nat) (Option.some (Jvm.ClassFile.FieldType.array Jvm.ClassFile.FieldType.byte)), Jvm.Cond.code ({ cls := "java/lang/String", name := "<init>", desc := "([BB)V" } : Jvm.MethodName) jdk_42_method_151_code (3 : Nat) (Option.none : Option Jvm.ClassFile.FieldType), Jvm.Cond.code ({ cls := "java/lang/Object", name := "<init>", desc := "()V" } : Jvm.MethodName) object_method_1_code (1 : Nat) (Option.none : Option Jvm.ClassFile.FieldType), Jvm.Cond.code ({ cls := "com/example/kinsmark/kinsmark/evaluation/CategoryResult", name := "<init>", desc := "(Ljava/lang/String;IIIII)V" } : Jvm.MethodName) prog_3_method_1_code (7 : Nat) (Option.none : Option Jvm.ClassFile.FieldType), Jvm.Cond.code ({ cls := "java/lang/Record", name := "<init>", desc := "()V" } : Jvm.MethodName) jdk_30_method_1_code (1 : Nat) (Option.none : Option Jvm.ClassFile.FieldType), Jvm.Cond.code ({ cls := "com/example/kinsmark/kinsmark/evaluation/CategoryResult", name := "credibility", desc := "()D" } : Jvm.MethodName) prog_3_method_5_code (1 : Nat) (Option.some Jvm.ClassFile.FieldType.double), Jvm.Cond.code ({ cls := "com/example/kinsmark/kinsmark/evaluation/CategoryResultCredibilityPinLaw", name := "fixedPoints", desc := "(IID)Z" } : Jvm.MethodName) method_2_code (5 : Nat) (Option.some Jvm.ClassFile.FieldType.boolean)]
set_option maxRecDepth 65536 in
theorem codes_eq : words1.filter isCode = codes1 := rfl
theorem w_codes : ∀ c ∈ words1.filter isCode, c.before args0 about1 = true := by
  rw [codes_eq]
  intro c hc
  simp only [codes1, List.mem_cons, List.not_mem_nil, or_false] at hc
  rcases hc with rfl | rfl | rfl | rfl | rfl | rfl | rfl | rfl | rfl | rfl | rfl
  · exact w_c0
  · exact w_c1
  · exact w_c2
  · exact w_c3
  · exact w_c4
  · exact w_c5
  · exact w_c6
  · exact w_c7
  · exact w_c8
  · exact w_c9
  · exact w_c10
set_option maxRecDepth 65536 in
theorem w_t1 : (words1.take 24).all (fun c => isCode c || c.before args0 about1) = true := by decide +kernel
set_option maxRecDepth 65536 in
theorem w_t2 : ((words1.drop 24).take 24).all (fun c => isCode c || c.before args0 about1) = true := by decide +kernel
set_option maxRecDepth 65536 in
theorem w_t3 : (((words1.drop 24).drop 24).take 24).all (fun c => isCode c || c.before args0 about1) = true := by decide +kernel
set_option maxRecDepth 65536 in
theorem w_t4 : (((words1.drop 24).drop 24).drop 24).all (fun c => isCode c || c.before args0 about1) = true := by decide +kernel
theorem w_tables : (allAtoms (Jvm.Cond.code x code maxLocals ret :: tables_1)).before args0 about1 = true := by
  rw [allAtoms_all]
  show words1.all (fun c => c.before args0 about1) = true
  refine all_split ?_ w_codes
  rw [← List.take_append_drop 24 words1, List.all_append, w_t1, ← List.take_append_drop 24 (words1.drop 24), List.all_append, w_t2, ← List.take_append_drop 24 ((words1.drop 24).drop 24), List.all_append, w_t3, w_t4]
  rfl
set_option maxRecDepth 65536 in
theorem w_rest : rest_1_c.before args0 about1 = true := by decide +kernel
set_option maxRecDepth 65536 in
theorem w_case : (Jvm.Cond.and given_1 narrow_1).before args0 about1 = true := by decide +kernel
theorem w_applies : (headSpec (Jvm.Cond.code x code maxLocals ret :: tables_1) room_1).applies x e0.platform about1 = true :=
  (Spec.applies_iff w_frames).mpr ⟨w_running, w_runnable, w_alone, w_named, w_hears, w_ripe, w_room, w_tables⟩
theorem atStart : AtStart classFile x code maxLocals ret World_1 tables_1 room_1 Calls_1 rest_1 Pre_1 launch0 p0 e0 about1 theMethod args0 below0 :=
  ⟨lists_1, trivial, launch0.admits_env _ _ _, launch0.least_env, fairChoices_fair.cas, fairChoices_fair.clock, w_frames, w_args, w_heap, w_applies, trivial, w_rest, w_case⟩
end start1
theorem witness_1 : WitnessClaimed_1 := ⟨start1.p0, start1.e0, start1.about1, start1.theMethod, start1.args0, start1.below0, start1.atStart⟩
end Jvm.Pilot.@@N@@

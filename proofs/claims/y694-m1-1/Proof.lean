import JvmDerived
import JvmDerived.Pilot.@@N@@Statement
import JvmDerived.Pilot.@@N@@Code
set_option linter.unusedVariables false
set_option linter.unusedSimpArgs false
namespace Jvm.Pilot.@@N@@
open Jvm Jvm.ClassFile Sem Op Lib Jvm.Free Jvm.Stand Jvm.LawKit Jvm.RoadKit Bundle Jvm.Pilot.@@N@@.Jvm.D
section OwnSteps
variable {p : Program} {l : Launch} {e : Env} {R : Room} {s : State} {m : MethodId} {args : Array Value} {below : List Frame} {meth : Method} {c : Code} {T : State} {locs : List Loc} {cells slots : Nat} {G : State → Outcome → Prop} {B : ByteArray} {pc pc' : Nat} {Ls Ls' : Array Slot} {st : List Value}
/-- from here the run ends as G says -/
def own_E (tb : Tables) (e : Env) (below : List Frame) (G : State → Outcome → Prop) (A : State) : Prop := ∃ s₂ o, Steps tb e below A s₂ ∧ G s₂ o
theorem own_go {tb : Tables} {A A' : State} (h : ∀ t, Steps tb e below A' t → Steps tb e below A t) (k : own_E tb e below G A') : own_E tb e below G A := by
  obtain ⟨s₂, o, h1, h2⟩ := k; exact ⟨s₂, o, h _ h1, h2⟩
theorem own_tr {tb : Tables} {A A' : State} (h : Steps tb e below A A') (k : own_E tb e below G A') : own_E tb e below G A := own_go (fun _ q => h.trans q) k
theorem own_iloadN (X : Stand p l e R s m args below meth c T locs cells slots) (hx : p.tables.exec = Jvm.exec) (hby : c.code = B) {k : Fin 4} {v : Int32} (hd : decode B pc = .ok (.iload_n k, 1)) (hp : pc + 1 = pc') (hl : Ls[k.val]? = some (.val (.int v)))
    (k : own_E p.tables e below G (T.setTop (mkF m pc' Ls (.int v :: st)))) : own_E p.tables e below G (T.setTop (mkF m pc Ls (st))) := by
  subst hp; exact own_go (fun t q => XS.iloadN X.here hx rfl (hb hby hd) hl q) k
theorem own_iload (X : Stand p l e R s m args below meth c T locs cells slots) (hx : p.tables.exec = Jvm.exec) (hby : c.code = B) {k : Nat} {v : Int32} (hd : decode B pc = .ok (.iload k, 2)) (hp : pc + 2 = pc') (hl : Ls[k]? = some (.val (.int v)))
    (k : own_E p.tables e below G (T.setTop (mkF m pc' Ls (.int v :: st)))) : own_E p.tables e below G (T.setTop (mkF m pc Ls (st))) := by
  subst hp; exact own_go (fun t q => XS.iload X.here hx rfl (hb hby hd) hl q) k
theorem own_lloadN (X : Stand p l e R s m args below meth c T locs cells slots) (hx : p.tables.exec = Jvm.exec) (hby : c.code = B) {k : Fin 4} {v : Int64} (hd : decode B pc = .ok (.lload_n k, 1)) (hp : pc + 1 = pc') (hl : Ls[k.val]? = some (.val (.long v)))
    (k : own_E p.tables e below G (T.setTop (mkF m pc' Ls (.long v :: st)))) : own_E p.tables e below G (T.setTop (mkF m pc Ls (st))) := by
  subst hp; exact own_go (fun t q => XS.lloadN X.here hx rfl (hb hby hd) hl q) k
theorem own_lload (X : Stand p l e R s m args below meth c T locs cells slots) (hx : p.tables.exec = Jvm.exec) (hby : c.code = B) {k : Nat} {v : Int64} (hd : decode B pc = .ok (.lload k, 2)) (hp : pc + 2 = pc') (hl : Ls[k]? = some (.val (.long v)))
    (k : own_E p.tables e below G (T.setTop (mkF m pc' Ls (.long v :: st)))) : own_E p.tables e below G (T.setTop (mkF m pc Ls (st))) := by
  subst hp; exact own_go (fun t q => XS.lload X.here hx rfl (hb hby hd) hl q) k
theorem own_aloadN (X : Stand p l e R s m args below meth c T locs cells slots) (hx : p.tables.exec = Jvm.exec) (hby : c.code = B) {k : Fin 4} {v : Value} (hd : decode B pc = .ok (.aload_n k, 1)) (hp : pc + 1 = pc') (hl : Ls[k.val]? = some (.val v)) (hv : v.isRef = true)
    (k : own_E p.tables e below G (T.setTop (mkF m pc' Ls (v :: st)))) : own_E p.tables e below G (T.setTop (mkF m pc Ls (st))) := by
  subst hp; exact own_go (fun t q => XS.aloadN X.here hx rfl (hb hby hd) hl hv q) k
theorem own_aload (X : Stand p l e R s m args below meth c T locs cells slots) (hx : p.tables.exec = Jvm.exec) (hby : c.code = B) {k : Nat} {v : Value} (hd : decode B pc = .ok (.aload k, 2)) (hp : pc + 2 = pc') (hl : Ls[k]? = some (.val v)) (hv : v.isRef = true)
    (k : own_E p.tables e below G (T.setTop (mkF m pc' Ls (v :: st)))) : own_E p.tables e below G (T.setTop (mkF m pc Ls (st))) := by
  subst hp; exact own_go (fun t q => XS.aload X.here hx rfl (hb hby hd) hl hv q) k
theorem own_istoreN (X : Stand p l e R s m args below meth c T locs cells slots) (hx : p.tables.exec = Jvm.exec) (hby : c.code = B) {k : Fin 4} {v : Int32} (hd : decode B pc = .ok (.istore_n k, 1)) (hp : pc + 1 = pc') (hl : storeLocals Ls k.val (.int v) = some Ls')
    (k : own_E p.tables e below G (T.setTop (mkF m pc' Ls' (st)))) : own_E p.tables e below G (T.setTop (mkF m pc Ls (.int v :: st))) := by
  subst hp; exact own_go (fun t q => XS.istoreN X.here hx rfl (hb hby hd) rfl hl q) k
theorem own_istore (X : Stand p l e R s m args below meth c T locs cells slots) (hx : p.tables.exec = Jvm.exec) (hby : c.code = B) {k : Nat} {v : Int32} (hd : decode B pc = .ok (.istore k, 2)) (hp : pc + 2 = pc') (hl : storeLocals Ls k (.int v) = some Ls')
    (k : own_E p.tables e below G (T.setTop (mkF m pc' Ls' (st)))) : own_E p.tables e below G (T.setTop (mkF m pc Ls (.int v :: st))) := by
  subst hp; exact own_go (fun t q => XS.istore X.here hx rfl (hb hby hd) rfl hl q) k
theorem own_lstoreN (X : Stand p l e R s m args below meth c T locs cells slots) (hx : p.tables.exec = Jvm.exec) (hby : c.code = B) {k : Fin 4} {v : Int64} (hd : decode B pc = .ok (.lstore_n k, 1)) (hp : pc + 1 = pc') (hl : storeLocals Ls k.val (.long v) = some Ls')
    (k : own_E p.tables e below G (T.setTop (mkF m pc' Ls' (st)))) : own_E p.tables e below G (T.setTop (mkF m pc Ls (.long v :: st))) := by
  subst hp; exact own_go (fun t q => XS.lstoreN X.here hx rfl (hb hby hd) rfl hl q) k
theorem own_lstore (X : Stand p l e R s m args below meth c T locs cells slots) (hx : p.tables.exec = Jvm.exec) (hby : c.code = B) {k : Nat} {v : Int64} (hd : decode B pc = .ok (.lstore k, 2)) (hp : pc + 2 = pc') (hl : storeLocals Ls k (.long v) = some Ls')
    (k : own_E p.tables e below G (T.setTop (mkF m pc' Ls' (st)))) : own_E p.tables e below G (T.setTop (mkF m pc Ls (.long v :: st))) := by
  subst hp; exact own_go (fun t q => XS.lstore X.here hx rfl (hb hby hd) rfl hl q) k
theorem own_astoreN (X : Stand p l e R s m args below meth c T locs cells slots) (hx : p.tables.exec = Jvm.exec) (hby : c.code = B) {k : Fin 4} {v : Value} (hd : decode B pc = .ok (.astore_n k, 1)) (hp : pc + 1 = pc') (hv : v.isRef = true) (hl : storeLocals Ls k.val v = some Ls')
    (k : own_E p.tables e below G (T.setTop (mkF m pc' Ls' (st)))) : own_E p.tables e below G (T.setTop (mkF m pc Ls (v :: st))) := by
  subst hp; exact own_go (fun t q => XS.astoreN X.here hx rfl (hb hby hd) rfl hv hl q) k
theorem own_astore (X : Stand p l e R s m args below meth c T locs cells slots) (hx : p.tables.exec = Jvm.exec) (hby : c.code = B) {k : Nat} {v : Value} (hd : decode B pc = .ok (.astore k, 2)) (hp : pc + 2 = pc') (hv : v.isRef = true) (hl : storeLocals Ls k v = some Ls')
    (k : own_E p.tables e below G (T.setTop (mkF m pc' Ls' (st)))) : own_E p.tables e below G (T.setTop (mkF m pc Ls (v :: st))) := by
  subst hp; exact own_go (fun t q => XS.astore X.here hx rfl (hb hby hd) rfl hv hl q) k
theorem own_iinc (X : Stand p l e R s m args below meth c T locs cells slots) (hx : p.tables.exec = Jvm.exec) (hby : c.code = B) {k : Nat} {cst : Int} {v z : Int32} (hd : decode B pc = .ok (.iinc k cst, 3)) (hp : pc + 3 = pc') (hl : Ls[k]? = some (.val (.int v))) (hz : Int32.ofInt cst = z) (hl' : storeLocals Ls k (.int (v + z)) = some Ls')
    (k : own_E p.tables e below G (T.setTop (mkF m pc' Ls' (st)))) : own_E p.tables e below G (T.setTop (mkF m pc Ls (st))) := by
  subst hp; exact own_go (fun t q => XS.iinc X.here hx rfl (hb hby hd) hl (hz ▸ hl') q) k
theorem own_iconst (X : Stand p l e R s m args below meth c T locs cells slots) (hx : p.tables.exec = Jvm.exec) (hby : c.code = B) {i : Int} {z : Int32} (hd : decode B pc = .ok (.iconst i, 1)) (hp : pc + 1 = pc') (hz : Int32.ofInt i = z)
    (k : own_E p.tables e below G (T.setTop (mkF m pc' Ls (.int z :: st)))) : own_E p.tables e below G (T.setTop (mkF m pc Ls (st))) := by
  subst hp hz; exact own_go (fun t q => XS.iconst X.here hx rfl (hb hby hd) q) k
theorem own_bipush (X : Stand p l e R s m args below meth c T locs cells slots) (hx : p.tables.exec = Jvm.exec) (hby : c.code = B) {i : Int} {z : Int32} (hd : decode B pc = .ok (.bipush i, 2)) (hp : pc + 2 = pc') (hz : (Int8.ofInt i).toInt32 = z)
    (k : own_E p.tables e below G (T.setTop (mkF m pc' Ls (.int z :: st)))) : own_E p.tables e below G (T.setTop (mkF m pc Ls (st))) := by
  subst hp hz; exact own_go (fun t q => XS.bipush X.here hx rfl (hb hby hd) q) k
theorem own_sipush (X : Stand p l e R s m args below meth c T locs cells slots) (hx : p.tables.exec = Jvm.exec) (hby : c.code = B) {i : Int} {z : Int32} (hd : decode B pc = .ok (.sipush i, 3)) (hp : pc + 3 = pc') (hz : (Int16.ofInt i).toInt32 = z)
    (k : own_E p.tables e below G (T.setTop (mkF m pc' Ls (.int z :: st)))) : own_E p.tables e below G (T.setTop (mkF m pc Ls (st))) := by
  subst hp hz; exact own_go (fun t q => XS.sipush X.here hx rfl (hb hby hd) q) k
theorem own_lconst (X : Stand p l e R s m args below meth c T locs cells slots) (hx : p.tables.exec = Jvm.exec) (hby : c.code = B) {i : Fin 2} {z : Int64} (hd : decode B pc = .ok (.lconst i, 1)) (hp : pc + 1 = pc') (hz : Int64.ofNat i = z)
    (k : own_E p.tables e below G (T.setTop (mkF m pc' Ls (.long z :: st)))) : own_E p.tables e below G (T.setTop (mkF m pc Ls (st))) := by
  subst hp hz; exact own_go (fun t q => XS.lconst X.here hx rfl (hb hby hd) q) k
theorem own_aconst_null (X : Stand p l e R s m args below meth c T locs cells slots) (hx : p.tables.exec = Jvm.exec) (hby : c.code = B)  (hd : decode B pc = .ok (.aconst_null, 1)) (hp : pc + 1 = pc') 
    (k : own_E p.tables e below G (T.setTop (mkF m pc' Ls (.null :: st)))) : own_E p.tables e below G (T.setTop (mkF m pc Ls (st))) := by
  subst hp; exact own_go (fun t q => XS.aconstNull X.here hx rfl (hb hby hd)  q) k
theorem own_iadd (X : Stand p l e R s m args below meth c T locs cells slots) (hx : p.tables.exec = Jvm.exec) (hby : c.code = B) {x y : Int32} (hd : decode B pc = .ok (.iadd, 1)) (hp : pc + 1 = pc') 
    (k : own_E p.tables e below G (T.setTop (mkF m pc' Ls (.int (x + y) :: st)))) : own_E p.tables e below G (T.setTop (mkF m pc Ls (.int y :: .int x :: st))) := by
  subst hp; exact own_go (fun t q => XS.iadd X.here hx rfl (hb hby hd) rfl q) k
theorem own_isub (X : Stand p l e R s m args below meth c T locs cells slots) (hx : p.tables.exec = Jvm.exec) (hby : c.code = B) {x y : Int32} (hd : decode B pc = .ok (.isub, 1)) (hp : pc + 1 = pc') 
    (k : own_E p.tables e below G (T.setTop (mkF m pc' Ls (.int (x - y) :: st)))) : own_E p.tables e below G (T.setTop (mkF m pc Ls (.int y :: .int x :: st))) := by
  subst hp; exact own_go (fun t q => XS.isub X.here hx rfl (hb hby hd) rfl q) k
theorem own_iand (X : Stand p l e R s m args below meth c T locs cells slots) (hx : p.tables.exec = Jvm.exec) (hby : c.code = B) {x y : Int32} (hd : decode B pc = .ok (.iand, 1)) (hp : pc + 1 = pc') 
    (k : own_E p.tables e below G (T.setTop (mkF m pc' Ls (.int (x &&& y) :: st)))) : own_E p.tables e below G (T.setTop (mkF m pc Ls (.int y :: .int x :: st))) := by
  subst hp; exact own_go (fun t q => XS.iand X.here hx rfl (hb hby hd) rfl q) k
theorem own_imul (X : Stand p l e R s m args below meth c T locs cells slots) (hx : p.tables.exec = Jvm.exec) (hby : c.code = B) {x y : Int32} (hd : decode B pc = .ok (.imul, 1)) (hp : pc + 1 = pc') 
    (k : own_E p.tables e below G (T.setTop (mkF m pc' Ls (.int (x * y) :: st)))) : own_E p.tables e below G (T.setTop (mkF m pc Ls (.int y :: .int x :: st))) := by
  subst hp; exact own_go (fun t q => XS.imul X.here hx rfl (hb hby hd) rfl q) k
theorem own_ixor (X : Stand p l e R s m args below meth c T locs cells slots) (hx : p.tables.exec = Jvm.exec) (hby : c.code = B) {x y : Int32} (hd : decode B pc = .ok (.ixor, 1)) (hp : pc + 1 = pc') 
    (k : own_E p.tables e below G (T.setTop (mkF m pc' Ls (.int (x ^^^ y) :: st)))) : own_E p.tables e below G (T.setTop (mkF m pc Ls (.int y :: .int x :: st))) := by
  subst hp; exact own_go (fun t q => XS.ixor X.here hx rfl (hb hby hd) rfl q) k
theorem own_ior (X : Stand p l e R s m args below meth c T locs cells slots) (hx : p.tables.exec = Jvm.exec) (hby : c.code = B) {x y : Int32} (hd : decode B pc = .ok (.ior, 1)) (hp : pc + 1 = pc') 
    (k : own_E p.tables e below G (T.setTop (mkF m pc' Ls (.int (x ||| y) :: st)))) : own_E p.tables e below G (T.setTop (mkF m pc Ls (.int y :: .int x :: st))) := by
  subst hp; exact own_go (fun t q => XS.ior X.here hx rfl (hb hby hd) rfl q) k
theorem own_ishl (X : Stand p l e R s m args below meth c T locs cells slots) (hx : p.tables.exec = Jvm.exec) (hby : c.code = B) {x y : Int32} (hd : decode B pc = .ok (.ishl, 1)) (hp : pc + 1 = pc') 
    (k : own_E p.tables e below G (T.setTop (mkF m pc' Ls (.int (x <<< (y &&& 31)) :: st)))) : own_E p.tables e below G (T.setTop (mkF m pc Ls (.int y :: .int x :: st))) := by
  subst hp; exact own_go (fun t q => XS.ishl X.here hx rfl (hb hby hd) rfl q) k
theorem own_ishr (X : Stand p l e R s m args below meth c T locs cells slots) (hx : p.tables.exec = Jvm.exec) (hby : c.code = B) {x y : Int32} (hd : decode B pc = .ok (.ishr, 1)) (hp : pc + 1 = pc') 
    (k : own_E p.tables e below G (T.setTop (mkF m pc' Ls (.int (x >>> (y &&& 31)) :: st)))) : own_E p.tables e below G (T.setTop (mkF m pc Ls (.int y :: .int x :: st))) := by
  subst hp; exact own_go (fun t q => XS.ishr X.here hx rfl (hb hby hd) rfl q) k
theorem own_iushr (X : Stand p l e R s m args below meth c T locs cells slots) (hx : p.tables.exec = Jvm.exec) (hby : c.code = B) {x y : Int32} (hd : decode B pc = .ok (.iushr, 1)) (hp : pc + 1 = pc') 
    (k : own_E p.tables e below G (T.setTop (mkF m pc' Ls (.int ((x.toUInt32 >>> (y &&& 31).toUInt32).toInt32) :: st)))) : own_E p.tables e below G (T.setTop (mkF m pc Ls (.int y :: .int x :: st))) := by
  subst hp; exact own_go (fun t q => XS.iushr X.here hx rfl (hb hby hd) rfl q) k
theorem own_ladd (X : Stand p l e R s m args below meth c T locs cells slots) (hx : p.tables.exec = Jvm.exec) (hby : c.code = B) {x y : Int64} (hd : decode B pc = .ok (.ladd, 1)) (hp : pc + 1 = pc') 
    (k : own_E p.tables e below G (T.setTop (mkF m pc' Ls (.long (x + y) :: st)))) : own_E p.tables e below G (T.setTop (mkF m pc Ls (.long y :: .long x :: st))) := by
  subst hp; exact own_go (fun t q => XS.ladd X.here hx rfl (hb hby hd) rfl q) k
theorem own_lsub (X : Stand p l e R s m args below meth c T locs cells slots) (hx : p.tables.exec = Jvm.exec) (hby : c.code = B) {x y : Int64} (hd : decode B pc = .ok (.lsub, 1)) (hp : pc + 1 = pc') 
    (k : own_E p.tables e below G (T.setTop (mkF m pc' Ls (.long (x - y) :: st)))) : own_E p.tables e below G (T.setTop (mkF m pc Ls (.long y :: .long x :: st))) := by
  subst hp; exact own_go (fun t q => XS.lsub X.here hx rfl (hb hby hd) rfl q) k
theorem own_lmul (X : Stand p l e R s m args below meth c T locs cells slots) (hx : p.tables.exec = Jvm.exec) (hby : c.code = B) {x y : Int64} (hd : decode B pc = .ok (.lmul, 1)) (hp : pc + 1 = pc') 
    (k : own_E p.tables e below G (T.setTop (mkF m pc' Ls (.long (x * y) :: st)))) : own_E p.tables e below G (T.setTop (mkF m pc Ls (.long y :: .long x :: st))) := by
  subst hp; exact own_go (fun t q => XS.lmul X.here hx rfl (hb hby hd) rfl q) k
theorem own_land (X : Stand p l e R s m args below meth c T locs cells slots) (hx : p.tables.exec = Jvm.exec) (hby : c.code = B) {x y : Int64} (hd : decode B pc = .ok (.land, 1)) (hp : pc + 1 = pc') 
    (k : own_E p.tables e below G (T.setTop (mkF m pc' Ls (.long (x &&& y) :: st)))) : own_E p.tables e below G (T.setTop (mkF m pc Ls (.long y :: .long x :: st))) := by
  subst hp; exact own_go (fun t q => XS.land X.here hx rfl (hb hby hd) rfl q) k
theorem own_lor (X : Stand p l e R s m args below meth c T locs cells slots) (hx : p.tables.exec = Jvm.exec) (hby : c.code = B) {x y : Int64} (hd : decode B pc = .ok (.lor, 1)) (hp : pc + 1 = pc') 
    (k : own_E p.tables e below G (T.setTop (mkF m pc' Ls (.long (x ||| y) :: st)))) : own_E p.tables e below G (T.setTop (mkF m pc Ls (.long y :: .long x :: st))) := by
  subst hp; exact own_go (fun t q => XS.lor X.here hx rfl (hb hby hd) rfl q) k
theorem own_lxor (X : Stand p l e R s m args below meth c T locs cells slots) (hx : p.tables.exec = Jvm.exec) (hby : c.code = B) {x y : Int64} (hd : decode B pc = .ok (.lxor, 1)) (hp : pc + 1 = pc') 
    (k : own_E p.tables e below G (T.setTop (mkF m pc' Ls (.long (x ^^^ y) :: st)))) : own_E p.tables e below G (T.setTop (mkF m pc Ls (.long y :: .long x :: st))) := by
  subst hp; exact own_go (fun t q => XS.lxor X.here hx rfl (hb hby hd) rfl q) k
theorem own_lshl (X : Stand p l e R s m args below meth c T locs cells slots) (hx : p.tables.exec = Jvm.exec) (hby : c.code = B) {x : Int64} {y : Int32} (hd : decode B pc = .ok (.lshl, 1)) (hp : pc + 1 = pc')
    (k : own_E p.tables e below G (T.setTop (mkF m pc' Ls (.long (x <<< (y &&& 0x3f).toInt64) :: st)))) : own_E p.tables e below G (T.setTop (mkF m pc Ls (.int y :: .long x :: st))) := by
  subst hp; exact own_go (fun t q => by
    jvm_step X.here [X.here.top, hx, hb hby hd]
    first | exact q | simpa [Int32.toInt64_and] using q) k
theorem own_lshr (X : Stand p l e R s m args below meth c T locs cells slots) (hx : p.tables.exec = Jvm.exec) (hby : c.code = B) {x : Int64} {y : Int32} (hd : decode B pc = .ok (.lshr, 1)) (hp : pc + 1 = pc')
    (k : own_E p.tables e below G (T.setTop (mkF m pc' Ls (.long (x >>> (y &&& 0x3f).toInt64) :: st)))) : own_E p.tables e below G (T.setTop (mkF m pc Ls (.int y :: .long x :: st))) := by
  subst hp; exact own_go (fun t q => by
    jvm_step X.here [X.here.top, hx, hb hby hd]
    first | exact q | simpa [Int32.toInt64_and] using q) k
theorem own_lushr (X : Stand p l e R s m args below meth c T locs cells slots) (hx : p.tables.exec = Jvm.exec) (hby : c.code = B) {x : Int64} {y : Int32} (hd : decode B pc = .ok (.lushr, 1)) (hp : pc + 1 = pc')
    (k : own_E p.tables e below G (T.setTop (mkF m pc' Ls (.long ((x.toUInt64 >>> (y &&& 0x3f).toInt64.toUInt64).toInt64) :: st)))) : own_E p.tables e below G (T.setTop (mkF m pc Ls (.int y :: .long x :: st))) := by
  subst hp; exact own_go (fun t q => by
    jvm_step X.here [X.here.top, hx, hb hby hd]
    first | exact q | simpa [Int32.toInt64_and] using q) k
theorem own_idiv (X : Stand p l e R s m args below meth c T locs cells slots) (hx : p.tables.exec = Jvm.exec) (hby : c.code = B) {x y : Int32} (hd : decode B pc = .ok (.idiv, 1)) (hp : pc + 1 = pc') (hy : y ≠ 0)
    (k : own_E p.tables e below G (T.setTop (mkF m pc' Ls (.int (x / y) :: st)))) : own_E p.tables e below G (T.setTop (mkF m pc Ls (.int y :: .int x :: st))) := by
  subst hp; exact own_go (fun t q => XS.idiv X.here hx rfl (hb hby hd) rfl hy q) k
theorem own_irem (X : Stand p l e R s m args below meth c T locs cells slots) (hx : p.tables.exec = Jvm.exec) (hby : c.code = B) {x y : Int32} (hd : decode B pc = .ok (.irem, 1)) (hp : pc + 1 = pc') (hy : y ≠ 0)
    (k : own_E p.tables e below G (T.setTop (mkF m pc' Ls (.int (x % y) :: st)))) : own_E p.tables e below G (T.setTop (mkF m pc Ls (.int y :: .int x :: st))) := by
  subst hp; exact own_go (fun t q => iremM X hx rfl (hb hby hd) rfl hy q) k
theorem own_lrem (X : Stand p l e R s m args below meth c T locs cells slots) (hx : p.tables.exec = Jvm.exec) (hby : c.code = B) {x y : Int64} (hd : decode B pc = .ok (.lrem, 1)) (hp : pc + 1 = pc') (hy : y ≠ 0)
    (k : own_E p.tables e below G (T.setTop (mkF m pc' Ls (.long (x % y) :: st)))) : own_E p.tables e below G (T.setTop (mkF m pc Ls (.long y :: .long x :: st))) := by
  subst hp; exact own_go (fun t q => XS.lrem X.here hx rfl (hb hby hd) rfl hy (by rw [lrem_mod]; exact q)) k
theorem own_ineg (X : Stand p l e R s m args below meth c T locs cells slots) (hx : p.tables.exec = Jvm.exec) (hby : c.code = B) {x : Int32} (hd : decode B pc = .ok (.ineg, 1)) (hp : pc + 1 = pc') 
    (k : own_E p.tables e below G (T.setTop (mkF m pc' Ls (.int (-x) :: st)))) : own_E p.tables e below G (T.setTop (mkF m pc Ls (.int x :: st))) := by
  subst hp; exact own_go (fun t q => XS.ineg X.here hx rfl (hb hby hd) rfl q) k
theorem own_lneg (X : Stand p l e R s m args below meth c T locs cells slots) (hx : p.tables.exec = Jvm.exec) (hby : c.code = B) {x : Int64} (hd : decode B pc = .ok (.lneg, 1)) (hp : pc + 1 = pc') 
    (k : own_E p.tables e below G (T.setTop (mkF m pc' Ls (.long (-x) :: st)))) : own_E p.tables e below G (T.setTop (mkF m pc Ls (.long x :: st))) := by
  subst hp; exact own_go (fun t q => XS.lneg X.here hx rfl (hb hby hd) rfl q) k
theorem own_i2l (X : Stand p l e R s m args below meth c T locs cells slots) (hx : p.tables.exec = Jvm.exec) (hby : c.code = B) {x : Int32} (hd : decode B pc = .ok (.i2l, 1)) (hp : pc + 1 = pc') 
    (k : own_E p.tables e below G (T.setTop (mkF m pc' Ls (.long (x.toInt64) :: st)))) : own_E p.tables e below G (T.setTop (mkF m pc Ls (.int x :: st))) := by
  subst hp; exact own_go (fun t q => XS.i2l X.here hx rfl (hb hby hd) rfl q) k
theorem own_l2i (X : Stand p l e R s m args below meth c T locs cells slots) (hx : p.tables.exec = Jvm.exec) (hby : c.code = B) {x : Int64} (hd : decode B pc = .ok (.l2i, 1)) (hp : pc + 1 = pc') 
    (k : own_E p.tables e below G (T.setTop (mkF m pc' Ls (.int (x.toInt32) :: st)))) : own_E p.tables e below G (T.setTop (mkF m pc Ls (.long x :: st))) := by
  subst hp; exact own_go (fun t q => XS.l2i X.here hx rfl (hb hby hd) rfl q) k
theorem own_i2b (X : Stand p l e R s m args below meth c T locs cells slots) (hx : p.tables.exec = Jvm.exec) (hby : c.code = B) {x : Int32} (hd : decode B pc = .ok (.i2b, 1)) (hp : pc + 1 = pc') 
    (k : own_E p.tables e below G (T.setTop (mkF m pc' Ls (.int (x.toInt8.toInt32) :: st)))) : own_E p.tables e below G (T.setTop (mkF m pc Ls (.int x :: st))) := by
  subst hp; exact own_go (fun t q => XS.i2b X.here hx rfl (hb hby hd) rfl q) k
theorem own_i2c (X : Stand p l e R s m args below meth c T locs cells slots) (hx : p.tables.exec = Jvm.exec) (hby : c.code = B) {x : Int32} (hd : decode B pc = .ok (.i2c, 1)) (hp : pc + 1 = pc') 
    (k : own_E p.tables e below G (T.setTop (mkF m pc' Ls (.int (x.toUInt32.toUInt16.toUInt32.toInt32) :: st)))) : own_E p.tables e below G (T.setTop (mkF m pc Ls (.int x :: st))) := by
  subst hp; exact own_go (fun t q => XS.i2c X.here hx rfl (hb hby hd) rfl q) k
theorem own_i2s (X : Stand p l e R s m args below meth c T locs cells slots) (hx : p.tables.exec = Jvm.exec) (hby : c.code = B) {x : Int32} (hd : decode B pc = .ok (.i2s, 1)) (hp : pc + 1 = pc') 
    (k : own_E p.tables e below G (T.setTop (mkF m pc' Ls (.int (x.toInt16.toInt32) :: st)))) : own_E p.tables e below G (T.setTop (mkF m pc Ls (.int x :: st))) := by
  subst hp; exact own_go (fun t q => XS.i2s X.here hx rfl (hb hby hd) rfl q) k
theorem own_i2cE (X : Stand p l e R s m args below meth c T locs cells slots) (hx : p.tables.exec = Jvm.exec) (hby : c.code = B) {x v : Int32} (hd : decode B pc = .ok (.i2c, 1)) (hp : pc + 1 = pc') (hv : x.toUInt32.toUInt16.toUInt32.toInt32 = v)
    (k : own_E p.tables e below G (T.setTop (mkF m pc' Ls (.int v :: st)))) : own_E p.tables e below G (T.setTop (mkF m pc Ls (.int x :: st))) := by
  subst hv; exact own_i2c X hx hby hd hp k
theorem own_lcmp (X : Stand p l e R s m args below meth c T locs cells slots) (hx : p.tables.exec = Jvm.exec) (hby : c.code = B) {x y : Int64} (hd : decode B pc = .ok (.lcmp, 1)) (hp : pc + 1 = pc')
    (k : own_E p.tables e below G (T.setTop (mkF m pc' Ls (.int (lcmpW x y) :: st)))) : own_E p.tables e below G (T.setTop (mkF m pc Ls (.long y :: .long x :: st))) := by
  subst hp; exact own_go (fun t q => XS.lcmp X.here hx rfl (hb hby hd) rfl q) k
theorem own_dup (X : Stand p l e R s m args below meth c T locs cells slots) (hx : p.tables.exec = Jvm.exec) (hby : c.code = B) {v : Value} (hd : decode B pc = .ok (.dup, 1)) (hp : pc + 1 = pc') (hc : v.category = 1)
    (k : own_E p.tables e below G (T.setTop (mkF m pc' Ls (v :: v :: st)))) : own_E p.tables e below G (T.setTop (mkF m pc Ls (v :: st))) := by
  subst hp; exact own_go (fun t q => XS.dup X.here hx rfl (hb hby hd) rfl hc q) k
theorem own_pop (X : Stand p l e R s m args below meth c T locs cells slots) (hx : p.tables.exec = Jvm.exec) (hby : c.code = B) {v : Value} (hd : decode B pc = .ok (.pop, 1)) (hp : pc + 1 = pc') (hc : v.category = 1)
    (k : own_E p.tables e below G (T.setTop (mkF m pc' Ls (st)))) : own_E p.tables e below G (T.setTop (mkF m pc Ls (v :: st))) := by
  subst hp; exact own_go (fun t q => XS.pop X.here hx rfl (hb hby hd) rfl hc q) k
theorem own_dup_x1 (X : Stand p l e R s m args below meth c T locs cells slots) (hx : p.tables.exec = Jvm.exec) (hby : c.code = B) {v w : Value} (hd : decode B pc = .ok (.dup_x1, 1)) (hp : pc + 1 = pc') (hc : v.category = 1) (hc' : w.category = 1)
    (k : own_E p.tables e below G (T.setTop (mkF m pc' Ls (v :: w :: v :: st)))) : own_E p.tables e below G (T.setTop (mkF m pc Ls (v :: w :: st))) := by
  subst hp; exact own_go (fun t q => XS.dupX1 X.here hx rfl (hb hby hd) rfl hc hc' q) k
theorem own_dup2 (X : Stand p l e R s m args below meth c T locs cells slots) (hx : p.tables.exec = Jvm.exec) (hby : c.code = B) {v w : Value} (hd : decode B pc = .ok (.dup2, 1)) (hp : pc + 1 = pc') (hc : v.category = 1) (hc' : w.category = 1)
    (k : own_E p.tables e below G (T.setTop (mkF m pc' Ls (v :: w :: v :: w :: st)))) : own_E p.tables e below G (T.setTop (mkF m pc Ls (v :: w :: st))) := by
  subst hp; exact own_go (fun t q => by
    jvm_step X.here [X.here.top, hx, hb hby hd, hc, hc']
    exact q) k
theorem own_goto (X : Stand p l e R s m args below meth c T locs cells slots) (hx : p.tables.exec = Jvm.exec) (hby : c.code = B) {o : Int} (hd : decode B pc = .ok (.goto o, 3)) (ho : 0 ≤ (pc : Int) + o) (hp : ((pc : Int) + o).toNat = pc')
    (k : own_E p.tables e below G (T.setTop (mkF m pc' Ls (st)))) : own_E p.tables e below G (T.setTop (mkF m pc Ls (st))) := own_go (fun t q => XS.goto X.here hx rfl rfl (hb hby hd) ho hp q) k
theorem own_ifY (X : Stand p l e R s m args below meth c T locs cells slots) (hx : p.tables.exec = Jvm.exec) (hby : c.code = B) {cd : ClassFile.Cond} {x : Int32} {o : Int} (hd : decode B pc = .ok (.ifCond cd o, 3)) (ho : 0 ≤ (pc : Int) + o) (hp : ((pc : Int) + o).toNat = pc') (hc : if_icmp.holds cd x 0 = true)
    (k : own_E p.tables e below G (T.setTop (mkF m pc' Ls (st)))) : own_E p.tables e below G (T.setTop (mkF m pc Ls (.int x :: st))) := own_go (fun t q => XS.ifYes X.here hx rfl rfl (hb hby hd) rfl ((if0 _ _).trans hc) ho hp q) k
theorem own_ifN (X : Stand p l e R s m args below meth c T locs cells slots) (hx : p.tables.exec = Jvm.exec) (hby : c.code = B) {cd : ClassFile.Cond} {x : Int32} {o : Int} (hd : decode B pc = .ok (.ifCond cd o, 3)) (hp : pc + 3 = pc') (hc : if_icmp.holds cd x 0 = false)
    (k : own_E p.tables e below G (T.setTop (mkF m pc' Ls (st)))) : own_E p.tables e below G (T.setTop (mkF m pc Ls (.int x :: st))) := by
  subst hp; exact own_go (fun t q => XS.ifNo X.here hx rfl (hb hby hd) rfl ((if0 _ _).trans hc) q) k
theorem own_icmpY (X : Stand p l e R s m args below meth c T locs cells slots) (hx : p.tables.exec = Jvm.exec) (hby : c.code = B) {cd : ClassFile.Cond} {x y : Int32} {o : Int} (hd : decode B pc = .ok (.if_icmp cd o, 3)) (ho : 0 ≤ (pc : Int) + o) (hp : ((pc : Int) + o).toNat = pc') (hc : if_icmp.holds cd x y = true)
    (k : own_E p.tables e below G (T.setTop (mkF m pc' Ls (st)))) : own_E p.tables e below G (T.setTop (mkF m pc Ls (.int y :: .int x :: st))) := own_go (fun t q => XS.icmpYes X.here hx rfl rfl (hb hby hd) rfl hc ho hp q) k
theorem own_icmpN (X : Stand p l e R s m args below meth c T locs cells slots) (hx : p.tables.exec = Jvm.exec) (hby : c.code = B) {cd : ClassFile.Cond} {x y : Int32} {o : Int} (hd : decode B pc = .ok (.if_icmp cd o, 3)) (hp : pc + 3 = pc') (hc : if_icmp.holds cd x y = false)
    (k : own_E p.tables e below G (T.setTop (mkF m pc' Ls (st)))) : own_E p.tables e below G (T.setTop (mkF m pc Ls (.int y :: .int x :: st))) := by
  subst hp; exact own_go (fun t q => XS.icmpNo X.here hx rfl (hb hby hd) rfl hc q) k
theorem own_ifnullY (X : Stand p l e R s m args below meth c T locs cells slots) (hx : p.tables.exec = Jvm.exec) (hby : c.code = B)  {o : Int} (hd : decode B pc = .ok (.ifnull o, 3)) (ho : 0 ≤ (pc : Int) + o) (hp : ((pc : Int) + o).toNat = pc')
    (k : own_E p.tables e below G (T.setTop (mkF m pc' Ls (st)))) : own_E p.tables e below G (T.setTop (mkF m pc Ls (.null :: st))) := own_go (fun t q => XS.ifnullYes X.here hx rfl rfl (hb hby hd) rfl ho hp q) k
theorem own_ifnonnullY (X : Stand p l e R s m args below meth c T locs cells slots) (hx : p.tables.exec = Jvm.exec) (hby : c.code = B) {b : Addr} {o : Int} (hd : decode B pc = .ok (.ifnonnull o, 3)) (ho : 0 ≤ (pc : Int) + o) (hp : ((pc : Int) + o).toNat = pc')
    (k : own_E p.tables e below G (T.setTop (mkF m pc' Ls (st)))) : own_E p.tables e below G (T.setTop (mkF m pc Ls (.ref b :: st))) := own_go (fun t q => XS.ifnonnullYes X.here hx rfl rfl (hb hby hd) rfl ho hp q) k
theorem own_ifnullN (X : Stand p l e R s m args below meth c T locs cells slots) (hx : p.tables.exec = Jvm.exec) (hby : c.code = B) {b : Addr} {o : Int} (hd : decode B pc = .ok (.ifnull o, 3)) (hp : pc + 3 = pc')
    (k : own_E p.tables e below G (T.setTop (mkF m pc' Ls (st)))) : own_E p.tables e below G (T.setTop (mkF m pc Ls (.ref b :: st))) := by
  subst hp; exact own_go (fun t q => XS.ifnullNo X.here hx rfl (hb hby hd) rfl q) k
theorem own_ifnonnullN (X : Stand p l e R s m args below meth c T locs cells slots) (hx : p.tables.exec = Jvm.exec) (hby : c.code = B)  {o : Int} (hd : decode B pc = .ok (.ifnonnull o, 3)) (hp : pc + 3 = pc')
    (k : own_E p.tables e below G (T.setTop (mkF m pc' Ls (st)))) : own_E p.tables e below G (T.setTop (mkF m pc Ls (.null :: st))) := by
  subst hp; exact own_go (fun t q => XS.ifnonnullNo X.here hx rfl (hb hby hd) rfl q) k
theorem own_acmp (X : Stand p l e R s m args below meth c T locs cells slots) (hx : p.tables.exec = Jvm.exec) (hby : c.code = B) {cd : ClassFile.ACond} {x y : Value} {o : Int} {same : Bool} (hd : decode B pc = .ok (.if_acmp cd o, 3)) (h1 : x.isRef = true) (h2 : y.isRef = true) (hq : decide (x = y) = same) (ho : 0 ≤ (pc : Int) + o) (hp : pc' = if acV cd same = true then ((pc : Int) + o).toNat else pc + 3)
    (k : own_E p.tables e below G (T.setTop (mkF m pc' Ls (st)))) : own_E p.tables e below G (T.setTop (mkF m pc Ls (y :: x :: st))) := own_go (fun t q => Jvm.RoadKit.acmp (g := mkF m pc Ls (y :: x :: st)) X hx rfl h1 h2 rfl (hb hby hd) rfl hq ho hp q) k
/-- what a body owes at its end -/
def own_End (s : State) (below : List Frame) (Q : Option Value → Heap → List Loc → Prop) (C S : Nat) (s₂ : State) (o : Outcome) : Prop := s₂.status = .running ∧ Ended s₂ below o ∧ ∃ v L, o = .returned v ∧ Q v s₂.heap L ∧ FrameEnd s o s₂ L C S
theorem own_ret (X : Stand p l e R s m args below meth c T locs cells slots) {Q : Option Value → Heap → List Loc → Prop} {C S : Nat} {v : Option Value} (hv : meth.sig.returnType = none → v = none) (hlocks : meth.locks = false)
    (hst : ∀ fs : List Frame, (∀ (f : JFrame) (acts : List Action), f.method = m → f.locked = none → f.entered = [] → (doReturn e (T.setTop f) acts v).1 = T.setFrames fs) → Steps p.tables e below (T.setTop (mkF m pc Ls st)) (T.setFrames fs))
    (hq : Q v T.heap locs) (hc : cells ≤ C) (hs : slots ≤ S) : own_E p.tables e below (own_End s below Q C S) (T.setTop (mkF m pc Ls st)) := by
  obtain ⟨fs, hr, hrun, hended, hW, hsame⟩ := X.leave hv hlocks
  exact ⟨_, _, hst fs hr, hrun, hended, v, locs, rfl, hq, ⟨_, rfl⟩, hW, hsame.mono hc hs⟩
theorem own_retN (X : Stand p l e R s m args below meth c T locs cells slots) (hx : p.tables.exec = Jvm.exec) (hby : c.code = B) {Q : Option Value → Heap → List Loc → Prop} {C S : Nat} {t : FieldType} {z z' : Int32} (hlocks : meth.locks = false) (hret : meth.sig.returnType = some t) (ht : t = .boolean ∨ t = .byte ∨ t = .char ∨ t = .short)
    (hd : decode B pc = .ok (.ireturn, 1)) (hz : nar t z = z') (hq : Q (some (.int z')) T.heap locs) (hc : cells ≤ C) (hs : slots ≤ S) : own_E p.tables e below (own_End s below Q C S) (T.setTop (mkF m pc Ls (.int z :: st))) :=
  own_ret X (fun h => by rw [hret] at h; cases h) hlocks (fun fs hl => retN X hx (t := t) hret ht (hb hby hd) (by rw [hz]; exact hl)) hq hc hs
theorem own_retI (X : Stand p l e R s m args below meth c T locs cells slots) (hx : p.tables.exec = Jvm.exec) (hby : c.code = B) {Q : Option Value → Heap → List Loc → Prop} {C S : Nat} {z : Int32} (hlocks : meth.locks = false) (hret : meth.sig.returnType = some .int)
    (hd : decode B pc = .ok (.ireturn, 1)) (hq : Q (some (.int z)) T.heap locs) (hc : cells ≤ C) (hs : slots ≤ S) : own_E p.tables e below (own_End s below Q C S) (T.setTop (mkF m pc Ls (.int z :: st))) :=
  own_ret X (fun h => by rw [hret] at h; cases h) hlocks (fun fs hl => retOut X hx hret rfl (Or.inl ⟨rfl, Or.inl rfl, _, rfl⟩) (hb hby hd) hl) hq hc hs
theorem own_retL (X : Stand p l e R s m args below meth c T locs cells slots) (hx : p.tables.exec = Jvm.exec) (hby : c.code = B) {Q : Option Value → Heap → List Loc → Prop} {C S : Nat} {z : Int64} (hlocks : meth.locks = false) (hret : meth.sig.returnType = some .long)
    (hd : decode B pc = .ok (.lreturn, 1)) (hq : Q (some (.long z)) T.heap locs) (hc : cells ≤ C) (hs : slots ≤ S) : own_E p.tables e below (own_End s below Q C S) (T.setTop (mkF m pc Ls (.long z :: st))) :=
  own_ret X (fun h => by rw [hret] at h; cases h) hlocks (fun fs hl => retOut X hx hret rfl (Or.inr (Or.inl ⟨rfl, rfl, _, rfl⟩)) (hb hby hd) hl) hq hc hs
theorem own_retD (X : Stand p l e R s m args below meth c T locs cells slots) (hx : p.tables.exec = Jvm.exec) (hby : c.code = B) {Q : Option Value → Heap → List Loc → Prop} {C S : Nat} {z : UInt64} (hlocks : meth.locks = false) (hret : meth.sig.returnType = some .double)
    (hd : decode B pc = .ok (.dreturn, 1)) (hq : Q (some (.double z)) T.heap locs) (hc : cells ≤ C) (hs : slots ≤ S) : own_E p.tables e below (own_End s below Q C S) (T.setTop (mkF m pc Ls (.double z :: st))) :=
  own_ret X (fun h => by rw [hret] at h; cases h) hlocks (fun fs hl => retOut X hx hret rfl (Or.inr (Or.inr (Or.inl ⟨rfl, rfl, _, rfl⟩))) (hb hby hd) hl) hq hc hs
theorem own_retA (X : Stand p l e R s m args below meth c T locs cells slots) (hx : p.tables.exec = Jvm.exec) (hby : c.code = B) {Q : Option Value → Heap → List Loc → Prop} {C S : Nat} {t : FieldType} {v : Value} (hlocks : meth.locks = false) (hret : meth.sig.returnType = some t) (ht : t.isReference = true) (hv : v.isRef = true)
    (hd : decode B pc = .ok (.areturn, 1)) (hq : Q (some v) T.heap locs) (hc : cells ≤ C) (hs : slots ≤ S) : own_E p.tables e below (own_End s below Q C S) (T.setTop (mkF m pc Ls (v :: st))) :=
  own_ret X (fun h => by rw [hret] at h; cases h) hlocks (fun fs hl => retOut X hx hret (by cases t <;> first | (cases ht; done) | (rcases ref_cases hv with rfl | ⟨_, rfl⟩ <;> rfl)) (Or.inr (Or.inr (Or.inr (Or.inr ⟨rfl, ht, hv⟩)))) (hb hby hd) hl) hq hc hs
theorem own_ret0 (X : Stand p l e R s m args below meth c T locs cells slots) (hx : p.tables.exec = Jvm.exec) (hby : c.code = B) {Q : Option Value → Heap → List Loc → Prop} {C S : Nat} (hlocks : meth.locks = false) (hret : meth.sig.returnType = none)
    (hd : decode B pc = .ok (.return_, 1)) (hq : Q none T.heap locs) (hc : cells ≤ C) (hs : slots ≤ S) : own_E p.tables e below (own_End s below Q C S) (T.setTop (mkF m pc Ls [])) :=
  own_ret X (fun _ => rfl) hlocks (fun fs hl => X.returnOut hx hret (hb hby hd) hl) hq hc hs
theorem own_callS (X : Stand p l e R s m args below meth c T locs cells slots) (hx : p.tables.exec = Jvm.exec) (hby : c.code = B) {Z : State} {a0 : Array Value} {h : Heap} {own : String} {index nl : Nat} {as' : Array Value} {W cc ss : Nat} {Q : Option Value → Heap → List Loc → Prop} {y : MethodName} {bytes : ByteArray} {maxL : Nat} {ret : Option FieldType} (hml : c.maxLocals = nl) (hZ : Z.Warmed39 s.vm) (hown : s.vm.findClass own = some m.cls)
    (w1 : (Cond.methodLink own index y).before a0 Z = true) (w2 : (Cond.static y).before a0 Z = true) (w3 : (Cond.initialized y.cls).before a0 Z = true) (w4 : (Cond.code y bytes maxL ret).before a0 Z = true) (hy : y.cls ≠ "java/lang/invoke/MethodHandle" ∧ y.cls ≠ "java/lang/invoke/VarHandle")
    (hK : Back l R p e below s args y 3 W (fun P a => a = as' ∧ P.U.heap = h ∧ P.cells + cc ≤ R.cells ∧ P.slots + ss ≤ R.slots) (fun P _ v B => ∃ L, Q v B.U.heap L ∧ B.locs = P.locs ++ L ∧ B.cells = P.cells + cc ∧ B.slots = P.slots + ss)) (hsz : Ls.size = nl) {argsL rest : List Value} {ps : List FieldType} {r : Option FieldType} (hpd : parseMethodDescriptor y.desc = some ⟨ps, r⟩) (hlen : argsL.length = ps.length) (hst : st = argsL.reverse ++ rest) (hW : (rest.map fun v => v.category).sum ≤ W)
    (hd : decode B pc = .ok (.invokestatic index, 3)) (hp : pc + 3 = pc') (hargs : argsL.toArray = as') (eT : T.heap = h) (hc : cells + cc ≤ R.cells) (hs : slots + ss ≤ R.slots)
    (k : ∀ (v : Option Value) (T' : State) (h' : Heap) (L : List Loc), Stand p l e R s m args below meth c T' (locs ++ L) (cells + cc) (slots + ss) → T'.heap = h' → Q v h' L → own_E p.tables e below G (T'.setTop (mkF m pc' Ls (v.toList ++ rest)))) : own_E p.tables e below G (T.setTop (mkF m pc Ls st)) := by
  subst hp
  obtain ⟨v, vm₁, ⟨T', L', k', n'⟩, -, X', ⟨L, hQ, q1, q2, q3⟩, stp⟩ := Jvm.LawKit.callS X hx hown (mvT hZ w1) (mvT hZ w2) (mvT hZ w3) (mvT hZ w4) hy hK (g := mkF m pc Ls st) rfl (by rw [hml]; exact hsz) (argsL := argsL) (rest := rest) (lenOf hpd hlen) hst (by show 2 * 0 + _ ≤ _; rw [Nat.mul_zero, Nat.zero_add]; exact hW) (hb hby hd) (fun _ _ => ⟨hargs, eT, hc, hs⟩)
  dsimp only at X' hQ q1 q2 q3 stp
  subst q1 q2 q3
  exact own_go stp (k v T' _ L X' rfl hQ)
theorem own_spec (X : Stand p l e R s m args below meth c T locs cells slots) (hx : p.tables.exec = Jvm.exec) (hby : c.code = B) {Z : State} {a0 : Array Value} {h : Heap} {own : String} {index nl : Nat} {as' : Array Value} {W cc ss : Nat} {Q : Option Value → Heap → List Loc → Prop} {y : MethodName} {bytes : ByteArray} {maxL : Nat} (hml : c.maxLocals = nl) (hZ : Z.Warmed39 s.vm) (hown : s.vm.findClass own = some m.cls) (hy1 : y.name = "<init>")
    (w1 : (Cond.methodLink own index y).before a0 Z = true) (w2 : (Cond.instanceMethod y).before a0 Z = true) (w4 : (Cond.code y bytes maxL none).before a0 Z = true) (hy : y.cls ≠ "java/lang/invoke/MethodHandle" ∧ y.cls ≠ "java/lang/invoke/VarHandle")
    (hK : Back l R p e below s args y 3 W (fun P a => a = as' ∧ P.U.heap = h ∧ P.cells + cc ≤ R.cells ∧ P.slots + ss ≤ R.slots) (fun P _ v B => ∃ L, Q v B.U.heap L ∧ B.locs = P.locs ++ L ∧ B.cells = P.cells + cc ∧ B.slots = P.slots + ss)) (hsz : Ls.size = nl) {a : Addr} {argsL rest : List Value} {ps : List FieldType} {r : Option FieldType} (hpd : parseMethodDescriptor y.desc = some ⟨ps, r⟩) (hlen : argsL.length = ps.length) (hst : st = argsL.reverse ++ .ref a :: rest) (hW : (rest.map fun v => v.category).sum ≤ W)
    (hd : decode B pc = .ok (.invokespecial index, 3)) (hp : pc + 3 = pc') (hargs : (.ref a :: argsL).toArray = as') (eT : T.heap = h) (hc : cells + cc ≤ R.cells) (hs : slots + ss ≤ R.slots)
    (k : ∀ (v : Option Value) (T' : State) (h' : Heap) (L : List Loc), Stand p l e R s m args below meth c T' (locs ++ L) (cells + cc) (slots + ss) → T'.heap = h' → Q v h' L → own_E p.tables e below G (T'.setTop (mkF m pc' Ls (v.toList ++ rest)))) : own_E p.tables e below G (T.setTop (mkF m pc Ls st)) := by
  subst hp
  obtain ⟨v, vm₁, ⟨T', L', k', n'⟩, -, X', ⟨L, hQ, q1, q2, q3⟩, stp⟩ := X.specialBack hx hy1 hown (mvT hZ w1) (mvT hZ w2) (mvT hZ w4) hy hK (g := mkF m pc Ls st) rfl (by rw [hml]; exact hsz) (Steps.refl _) (a := a) (argsL := argsL) (rest := rest) (lenOf hpd hlen) hst (by show 2 * 0 + _ ≤ _; rw [Nat.mul_zero, Nat.zero_add]; exact hW) (hb hby hd) (fun _ _ => ⟨hargs, eT, hc, hs⟩)
  dsimp only at X' hQ q1 q2 q3 stp
  subst q1 q2 q3
  exact own_tr stp (k v T' _ L X' rfl hQ)
theorem own_virt (X : Stand p l e R s m args below meth c T locs cells slots) (hx : p.tables.exec = Jvm.exec) (hby : c.code = B) {Z : State} {a0 : Array Value} {h : Heap} {own : String} {index nl : Nat} {as' : Array Value} {W cc ss : Nat} {Q : Option Value → Heap → List Loc → Prop} {C : String} {y z : MethodName} (hml : c.maxLocals = nl) (hZ : Z.Warmed39 s.vm) (hown : s.vm.findClass own = some m.cls)
    (w1 : (Cond.methodLink own index y).before a0 Z = true) (w2 : (Cond.declares y).before a0 Z = true) (hnf : NotFace s y) (w3 : (Cond.selects C y z).before a0 Z = true) (w4 : (Cond.instanceMethod z).before a0 Z = true) (hy : y.cls ≠ "java/lang/invoke/MethodHandle" ∧ y.cls ≠ "java/lang/invoke/VarHandle")
    (hK : Back l R p e below s args z 3 W (fun P a => a = as' ∧ P.U.heap = h ∧ P.cells + cc ≤ R.cells ∧ P.slots + ss ≤ R.slots) (fun P _ v B => ∃ L, Q v B.U.heap L ∧ B.locs = P.locs ++ L ∧ B.cells = P.cells + cc ∧ B.slots = P.slots + ss)) (hsz : Ls.size = nl) {a : Addr} (hE : Exa Z h a C) {argsL rest : List Value} {ps : List FieldType} {r : Option FieldType} (hpd : parseMethodDescriptor y.desc = some ⟨ps, r⟩) (hlen : argsL.length = ps.length) (hst : st = argsL.reverse ++ .ref a :: rest) (hW : (rest.map fun v => v.category).sum ≤ W)
    (hd : decode B pc = .ok (.invokevirtual index, 3)) (hp : pc + 3 = pc') (hargs : (.ref a :: argsL).toArray = as') (eT : T.heap = h) (hc : cells + cc ≤ R.cells) (hs : slots + ss ≤ R.slots)
    (k : ∀ (v : Option Value) (T' : State) (h' : Heap) (L : List Loc), Stand p l e R s m args below meth c T' (locs ++ L) (cells + cc) (slots + ss) → T'.heap = h' → Q v h' L → own_E p.tables e below G (T'.setTop (mkF m pc' Ls (v.toList ++ rest)))) : own_E p.tables e below G (T.setTop (mkF m pc Ls st)) := by
  subst hp
  obtain ⟨cq, kq, qa, qb, qc⟩ := isOf hZ eT hE
  obtain ⟨v, vm₁, ⟨T', L', k', n'⟩, -, X', ⟨L, hQ, q1, q2, q3⟩, stp⟩ := X.virtualBack hx hown (mvT hZ w1) (mvT hZ w2) hnf (mvT hZ w3) (mvT hZ w4) hy hK qa qc (g := mkF m pc Ls st) rfl (by rw [hml]; exact hsz) (Steps.refl _) (argsL := argsL) (rest := rest) (lenOf hpd hlen) hst (by show 2 * 0 + _ ≤ _; rw [Nat.mul_zero, Nat.zero_add]; exact hW) (hb hby hd) (fun _ _ => ⟨hargs, eT, hc, hs⟩)
  dsimp only at X' hQ q1 q2 q3 stp
  subst q1 q2 q3
  exact own_tr stp (k v T' _ L X' rfl hQ)
theorem own_priv (X : Stand p l e R s m args below meth c T locs cells slots) (hx : p.tables.exec = Jvm.exec) (hby : c.code = B) {Z : State} {a0 : Array Value} {h : Heap} {own : String} {index nl : Nat} {as' : Array Value} {W cc ss : Nat} {Q : Option Value → Heap → List Loc → Prop} {y : MethodName} {bytes : ByteArray} {maxL : Nat} {ret : Option FieldType} (hml : c.maxLocals = nl) (hZ : Z.Warmed39 s.vm) (hown : s.vm.findClass own = some m.cls)
    (w1 : (Cond.methodLink own index y).before a0 Z = true) (w2 : (Cond.instanceMethod y).before a0 Z = true) (w3 : (Cond.selects y.cls y y).before a0 Z = true) (w5 : (Cond.privateMethod y).before a0 Z = true) (w4 : (Cond.code y bytes maxL ret).before a0 Z = true) (hy : y.cls ≠ "java/lang/invoke/MethodHandle" ∧ y.cls ≠ "java/lang/invoke/VarHandle")
    (hK : Back l R p e below s args y 3 W (fun P a => a = as' ∧ P.U.heap = h ∧ P.cells + cc ≤ R.cells ∧ P.slots + ss ≤ R.slots) (fun P _ v B => ∃ L, Q v B.U.heap L ∧ B.locs = P.locs ++ L ∧ B.cells = P.cells + cc ∧ B.slots = P.slots + ss)) (hsz : Ls.size = nl) {a : Addr} {C : String} (hE : Exa Z h a C) {argsL rest : List Value} {ps : List FieldType} {r : Option FieldType} (hpd : parseMethodDescriptor y.desc = some ⟨ps, r⟩) (hlen : argsL.length = ps.length) (hst : st = argsL.reverse ++ .ref a :: rest) (hW : (rest.map fun v => v.category).sum ≤ W)
    (hd : decode B pc = .ok (.invokevirtual index, 3)) (hp : pc + 3 = pc') (hargs : (.ref a :: argsL).toArray = as') (eT : T.heap = h) (hc : cells + cc ≤ R.cells) (hs : slots + ss ≤ R.slots)
    (k : ∀ (v : Option Value) (T' : State) (h' : Heap) (L : List Loc), Stand p l e R s m args below meth c T' (locs ++ L) (cells + cc) (slots + ss) → T'.heap = h' → Q v h' L → own_E p.tables e below G (T'.setTop (mkF m pc' Ls (v.toList ++ rest)))) : own_E p.tables e below G (T.setTop (mkF m pc Ls st)) := by
  subst hp
  obtain ⟨cq, qa, qb⟩ := hE.cell
  obtain ⟨v, vm₁, ⟨T', L', k', n'⟩, -, X', ⟨L, hQ, q1, q2, q3⟩, stp⟩ := X.privateBack hx hown (mvT hZ w1) (mvT hZ w2) (mvT hZ w3) (Cond.privateMethod_at (mvP hZ w5 (args := #[]))) (mvT hZ w4) hy hK (g := mkF m pc Ls st) rfl (by rw [hml]; exact hsz) (Steps.refl _) (a := a) (by rw [eT]; exact qa) qb (argsL := argsL) (rest := rest) (lenOf hpd hlen) hst (by show 2 * 0 + _ ≤ _; rw [Nat.mul_zero, Nat.zero_add]; exact hW) (hb hby hd) (fun _ _ => ⟨hargs, eT, hc, hs⟩)
  dsimp only at X' hQ q1 q2 q3 stp
  subst q1 q2 q3
  exact own_tr stp (k v T' _ L X' rfl hQ)
theorem own_intf (X : Stand p l e R s m args below meth c T locs cells slots) (hx : p.tables.exec = Jvm.exec) (hby : c.code = B) {Z : State} {a0 : Array Value} {h : Heap} {own : String} {index nl : Nat} {as' : Array Value} {W cc ss : Nat} {Q : Option Value → Heap → List Loc → Prop} {C : String} {y z : MethodName} {cnt : Nat} (hml : c.maxLocals = nl) (hZ : Z.Warmed39 s.vm) (hown : s.vm.findClass own = some m.cls)
    (w1 : (Cond.methodLink own index y).before args s = true) (w2 : (Cond.declares y).before args s = true) (w5 : (Cond.interfaceMethod y.cls y.cls y.name y.desc).before args s = true) (w3 : (Cond.selects C y z).before args s = true) (w4 : (Cond.instanceMethod z).before args s = true) (w6 : (Cond.publicMethod z).before args s = true) (w7 : (Cond.unhidden C y.name y.desc).before args s = true) (w8 : (Cond.castable C y.cls).before args s = true) (hy : y.cls ≠ "java/lang/invoke/MethodHandle" ∧ y.cls ≠ "java/lang/invoke/VarHandle")
    (hK : Back l R p e below s args z 5 W (fun P a => a = as' ∧ P.U.heap = h ∧ P.cells + cc ≤ R.cells ∧ P.slots + ss ≤ R.slots) (fun P _ v B => ∃ L, Q v B.U.heap L ∧ B.locs = P.locs ++ L ∧ B.cells = P.cells + cc ∧ B.slots = P.slots + ss)) (hsz : Ls.size = nl) {a : Addr} (hE : Exa Z h a C) {argsL rest : List Value} {ps : List FieldType} {r : Option FieldType} (hpd : parseMethodDescriptor y.desc = some ⟨ps, r⟩) (hlen : argsL.length = ps.length) (hst : st = argsL.reverse ++ .ref a :: rest) (hW : (rest.map fun v => v.category).sum ≤ W)
    (hd : decode B pc = .ok (.invokeinterface index cnt, 5)) (hp : pc + 5 = pc') (hargs : (.ref a :: argsL).toArray = as') (eT : T.heap = h) (hc : cells + cc ≤ R.cells) (hs : slots + ss ≤ R.slots)
    (k : ∀ (v : Option Value) (T' : State) (h' : Heap) (L : List Loc), Stand p l e R s m args below meth c T' (locs ++ L) (cells + cc) (slots + ss) → T'.heap = h' → Q v h' L → own_E p.tables e below G (T'.setTop (mkF m pc' Ls (v.toList ++ rest)))) : own_E p.tables e below G (T.setTop (mkF m pc Ls st)) := by
  subst hp
  obtain ⟨cq, kq, qa, qb, qc⟩ := isOf hZ eT hE
  obtain ⟨v, vm₁, ⟨T', L', k', n'⟩, -, X', ⟨L, hQ, q1, q2, q3⟩, stp⟩ := X.interfaceBack hx hown w1 w2 w5 w3 w4 w6 w7 w8 hy hK qa qb qc (g := mkF m pc Ls st) rfl (by rw [hml]; exact hsz) (Steps.refl _) (argsL := argsL) (rest := rest) (lenOf hpd hlen) hst (by show 2 * 0 + _ ≤ _; rw [Nat.mul_zero, Nat.zero_add]; exact hW) (hb hby hd) (fun _ _ => ⟨hargs, eT, hc, hs⟩)
  dsimp only at X' hQ q1 q2 q3 stp
  subst q1 q2 q3
  exact own_tr stp (k v T' _ L X' rfl hQ)
end OwnSteps

section OwnHeap
variable {p : Program} {l : Launch} {e : Env} {R : Room} {s : State} {m : MethodId} {args : Array Value} {below : List Frame} {meth : Method} {c : Code} {T : State} {locs : List Loc} {cells slots : Nat} {G : State → Outcome → Prop} {B : ByteArray} {pc pc' : Nat} {Ls Ls' : Array Slot} {st : List Value} {Z : State} {a0 : Array Value} {h h' h'' : Heap}
theorem own_xr : Ext h h := ⟨Nat.le_refl _, fun _ _ q => q⟩
theorem own_xt (E : Ext h h') (E' : Ext h' h'') : Ext h h'' := ⟨Nat.le_trans E.1 E'.1, fun a c q => E'.2 a c (E.2 a c q)⟩
theorem own_xk {ws : List Addr} (E : Ext h h') (K : Keep h' h'' ws) (q : ∀ x ∈ ws, h.size ≤ x) : Ext h h'' := ⟨Nat.le_trans E.1 K.1, fun a c r => K.2.1 a c (E.2 a c r) fun z => absurd (Array.getElem?_eq_some_iff.mp r).1 (Nat.not_lt.mpr (q a z))⟩
theorem own_xw {a : Addr} {sl : Nat} {v : Value} (E : Ext h h') (W : Wr h' h'' a sl v) (q : h.size ≤ a) : Ext h h'' := own_xk E (Keep.of_wr W) (allS q all0)
theorem own_kx {ws : List Addr} (E : Ext h h') : Keep h h' ws := (Keep.refl h ws).ext E
theorem own_fr1 {k : Nat} {L : List Loc} (N : Fr k L) {a : Addr} {sl : Nat} (q : k ≤ a) : Fr k (L ++ [⟨a, sl⟩]) := N.app fun y hy => by cases List.mem_singleton.mp hy; exact q
/-- a body's contract: called with these arguments over the heap h0 it returns as Q says -/
def own_Met (l : Launch) (Z : State) (x : MethodName) (bytes : ByteArray) (maxL : Nat) (ret : Option FieldType) (rm : Room) (as' : Array Value) (h0 : Heap) (Q : Option Value → Heap → List Loc → Prop) : Prop :=
  ∀ ws : List Jvm.Cond, MetFree l x (head1 (Jvm.Cond.code x bytes maxL ret :: ws) rm) (fun a U => a = as' ∧ Z.Warmed39 U.vm ∧ U.heap = h0) (fun _ _ _ _ _ => True) (fun _ U o U' => ∃ v L, o = .returned v ∧ Q v U'.heap L ∧ FrameEnd U o U' L rm.cells rm.slots)
theorem own_body {x : MethodName} {bytes : ByteArray} {maxL : Nat} {ret : Option FieldType} {rm : Room} {as' : Array Value} {h0 : Heap} {Q : Option Value → Heap → List Loc → Prop} (hpl : plainFor x = true)
    (body : ∀ (p : Program) (e : Env) (s : State) (m : MethodId) (below : List Frame) (meth : Method) (c : Code) (s₁ : State), p.tables.exec = Jvm.exec → c.code = bytes → c.maxLocals = maxL → s.vm.findClass x.cls = some m.cls → meth.name = x.name → meth.locks = false → meth.sig.returnType = ret → Z.Warmed39 s.vm → Stand p l e rm s m as' below meth c s₁ [] 0 0 → s₁.heap = h0 →
      own_E p.tables e below (own_End s below Q rm.cells rm.slots) (s₁.setTop (entryFrame m as' maxL))) : own_Met l Z x bytes maxL ret rm as' h0 Q := by
  intro ws
  refine MetFree.of_bodySF hpl hisR ?_
  intro p e s m args below meth c s₁ Bd hml0 hP hK
  obtain ⟨rfl, hZ, hh⟩ := hP
  obtain ⟨s₂, o, q1, q2, q3, q4⟩ := body p e s m below meth c s₁ Bd.exec Bd.bytes hml0 (findClass_of_methodNamed Bd.named) (name_of_methodNamed Bd.named Bd.method).1 (BodyLoose.notSynchronized Bd) Bd.returns hZ (Stand.of_body Bd) (by rw [← hh, Bd.state]; rfl)
  exact ⟨s₂, o, q1, q2, q3, q4⟩
theorem own_back {y : MethodName} {bytes : ByteArray} {maxL : Nat} {ret : Option FieldType} {rm : Room} {len W : Nat} {as' : Array Value} {Q : Option Value → Heap → List Loc → Prop} (hM : own_Met l Z y bytes maxL ret rm as' h Q)
    (hZ : Z.Warmed39 s.vm) (wc : (Jvm.Cond.code y bytes maxL ret).before a0 Z = true) (wz : (Jvm.Cond.initialized y.cls).before a0 Z = true) (hf : rm.frames + 1 ≤ R.frames) (hl : W + (maxL + 11) + rm.locals ≤ R.locals) :
    Back l R p e below s args y len W (fun A a => a = as' ∧ A.U.heap = h ∧ A.cells + rm.cells ≤ R.cells ∧ A.slots + rm.slots ≤ R.slots)
      (fun A _ v B => ∃ L, Q v B.U.heap L ∧ B.locs = A.locs ++ L ∧ B.cells = A.cells + rm.cells ∧ B.slots = A.slots + rm.slots) := backOf (hM []) hZ wc wz hf hl
theorem own_enter {m : MethodId} {A : Array Value} {ml : Nat} {Ls : Array Slot} (ef : entryFrame m A ml = mkF m 0 Ls []) (k : own_E p.tables e below G (T.setTop (mkF m 0 Ls []))) : own_E p.tables e below G (T.setTop (entryFrame m A ml)) := own_go (fun _ q => castTop ef q) k
theorem own_callM (X : Stand p l e R s m args below meth c T locs cells slots) (hx : p.tables.exec = Jvm.exec) (hby : c.code = B) {own : String} {index nl : Nat} {as' : Array Value} {cc ss maxL : Nat} {bytes : ByteArray} {ret : Option FieldType} {rm : Room} {Q : Option Value → Heap → List Loc → Prop} {y : MethodName} (hml : c.maxLocals = nl) (hZ : Z.Warmed39 s.vm) (hown : s.vm.findClass own = some m.cls) (w1 : (Jvm.Cond.methodLink own index y).before a0 Z = true) (w2 : (Jvm.Cond.static y).before a0 Z = true) (w3 : (Jvm.Cond.initialized y.cls).before a0 Z = true) (w4 : (Jvm.Cond.code y bytes maxL ret).before a0 Z = true) (hy : y.cls ≠ "java/lang/invoke/MethodHandle" ∧ y.cls ≠ "java/lang/invoke/VarHandle")
    (hM : own_Met l Z y bytes maxL ret rm as' h Q) (W : Nat) (hcc : rm.cells = cc) (hss : rm.slots = ss) (hf : rm.frames + 1 ≤ R.frames) (hl : W + (maxL + 11) + rm.locals ≤ R.locals) (hsz : Ls.size = nl) {argsL rest : List Value} {ps : List FieldType} {r : Option FieldType} (hpd : parseMethodDescriptor y.desc = some ⟨ps, r⟩) (hlen : argsL.length = ps.length) (hst : st = argsL.reverse ++ rest) (hW : (rest.map fun v => v.category).sum ≤ W) (hd : decode B pc = .ok (.invokestatic index, 3)) (hp : pc + 3 = pc') (hargs : argsL.toArray = as') (eT : T.heap = h) (hc : cells + cc ≤ R.cells) (hs : slots + ss ≤ R.slots)
    (k : ∀ (v : Option Value) (T' : State) (h' : Heap) (L : List Loc), Stand p l e R s m args below meth c T' (locs ++ L) (cells + cc) (slots + ss) → T'.heap = h' → Q v h' L → own_E p.tables e below G (T'.setTop (mkF m pc' Ls (v.toList ++ rest)))) : own_E p.tables e below G (T.setTop (mkF m pc Ls st)) := by
  subst hcc hss
  exact own_callS X hx hby hml hZ hown w1 w2 w3 w4 hy (own_back hM hZ w4 w3 hf hl) hsz hpd hlen hst hW hd hp hargs eT hc hs k
theorem own_specM (X : Stand p l e R s m args below meth c T locs cells slots) (hx : p.tables.exec = Jvm.exec) (hby : c.code = B) {own : String} {index nl : Nat} {as' : Array Value} {cc ss maxL : Nat} {bytes : ByteArray} {rm : Room} {Q : Option Value → Heap → List Loc → Prop} {y : MethodName} (hml : c.maxLocals = nl) (hZ : Z.Warmed39 s.vm) (hown : s.vm.findClass own = some m.cls) (hy1 : y.name = "<init>") (w1 : (Jvm.Cond.methodLink own index y).before a0 Z = true) (w2 : (Jvm.Cond.instanceMethod y).before a0 Z = true) (w3 : (Jvm.Cond.initialized y.cls).before a0 Z = true) (w4 : (Jvm.Cond.code y bytes maxL none).before a0 Z = true) (hy : y.cls ≠ "java/lang/invoke/MethodHandle" ∧ y.cls ≠ "java/lang/invoke/VarHandle")
    (hM : own_Met l Z y bytes maxL none rm as' h Q) (W : Nat) (hcc : rm.cells = cc) (hss : rm.slots = ss) (hf : rm.frames + 1 ≤ R.frames) (hl : W + (maxL + 11) + rm.locals ≤ R.locals) (hsz : Ls.size = nl) {a : Addr} {argsL rest : List Value} {ps : List FieldType} {r : Option FieldType} (hpd : parseMethodDescriptor y.desc = some ⟨ps, r⟩) (hlen : argsL.length = ps.length) (hst : st = argsL.reverse ++ .ref a :: rest) (hW : (rest.map fun v => v.category).sum ≤ W) (hd : decode B pc = .ok (.invokespecial index, 3)) (hp : pc + 3 = pc') (hargs : (.ref a :: argsL).toArray = as') (eT : T.heap = h) (hc : cells + cc ≤ R.cells) (hs : slots + ss ≤ R.slots)
    (k : ∀ (v : Option Value) (T' : State) (h' : Heap) (L : List Loc), Stand p l e R s m args below meth c T' (locs ++ L) (cells + cc) (slots + ss) → T'.heap = h' → Q v h' L → own_E p.tables e below G (T'.setTop (mkF m pc' Ls (v.toList ++ rest)))) : own_E p.tables e below G (T.setTop (mkF m pc Ls st)) := by
  subst hcc hss
  exact own_spec X hx hby hml hZ hown hy1 w1 w2 w4 hy (own_back hM hZ w4 w3 hf hl) hsz hpd hlen hst hW hd hp hargs eT hc hs k
theorem own_virtM (X : Stand p l e R s m args below meth c T locs cells slots) (hx : p.tables.exec = Jvm.exec) (hby : c.code = B) {own : String} {index nl : Nat} {as' : Array Value} {cc ss maxL : Nat} {bytes : ByteArray} {ret : Option FieldType} {rm : Room} {Q : Option Value → Heap → List Loc → Prop} {C : String} {y z : MethodName} (hml : c.maxLocals = nl) (hZ : Z.Warmed39 s.vm) (hown : s.vm.findClass own = some m.cls) (w1 : (Jvm.Cond.methodLink own index y).before a0 Z = true) (w2 : (Jvm.Cond.declares y).before a0 Z = true) (hnf : NotFace s y) (w5 : (Jvm.Cond.selects C y z).before a0 Z = true) (w6 : (Jvm.Cond.instanceMethod z).before a0 Z = true) (w3 : (Jvm.Cond.initialized z.cls).before a0 Z = true) (w4 : (Jvm.Cond.code z bytes maxL ret).before a0 Z = true) (hy : y.cls ≠ "java/lang/invoke/MethodHandle" ∧ y.cls ≠ "java/lang/invoke/VarHandle")
    (hM : own_Met l Z z bytes maxL ret rm as' h Q) (W : Nat) (hcc : rm.cells = cc) (hss : rm.slots = ss) (hf : rm.frames + 1 ≤ R.frames) (hl : W + (maxL + 11) + rm.locals ≤ R.locals) (hsz : Ls.size = nl) {a : Addr} (hE : Exa Z h a C) {argsL rest : List Value} {ps : List FieldType} {r : Option FieldType} (hpd : parseMethodDescriptor y.desc = some ⟨ps, r⟩) (hlen : argsL.length = ps.length) (hst : st = argsL.reverse ++ .ref a :: rest) (hW : (rest.map fun v => v.category).sum ≤ W) (hd : decode B pc = .ok (.invokevirtual index, 3)) (hp : pc + 3 = pc') (hargs : (.ref a :: argsL).toArray = as') (eT : T.heap = h) (hc : cells + cc ≤ R.cells) (hs : slots + ss ≤ R.slots)
    (k : ∀ (v : Option Value) (T' : State) (h' : Heap) (L : List Loc), Stand p l e R s m args below meth c T' (locs ++ L) (cells + cc) (slots + ss) → T'.heap = h' → Q v h' L → own_E p.tables e below G (T'.setTop (mkF m pc' Ls (v.toList ++ rest)))) : own_E p.tables e below G (T.setTop (mkF m pc Ls st)) := by
  subst hcc hss
  exact own_virt X hx hby hml hZ hown w1 w2 hnf w5 w6 hy (own_back hM hZ w4 w3 hf hl) hsz hE hpd hlen hst hW hd hp hargs eT hc hs k
theorem own_privM (X : Stand p l e R s m args below meth c T locs cells slots) (hx : p.tables.exec = Jvm.exec) (hby : c.code = B) {own : String} {index nl : Nat} {as' : Array Value} {cc ss maxL : Nat} {bytes : ByteArray} {ret : Option FieldType} {rm : Room} {Q : Option Value → Heap → List Loc → Prop} {C : String} {y : MethodName} (hml : c.maxLocals = nl) (hZ : Z.Warmed39 s.vm) (hown : s.vm.findClass own = some m.cls) (w1 : (Jvm.Cond.methodLink own index y).before a0 Z = true) (w6 : (Jvm.Cond.instanceMethod y).before a0 Z = true) (w5 : (Jvm.Cond.selects y.cls y y).before a0 Z = true) (w7 : (Jvm.Cond.privateMethod y).before a0 Z = true) (w3 : (Jvm.Cond.initialized y.cls).before a0 Z = true) (w4 : (Jvm.Cond.code y bytes maxL ret).before a0 Z = true) (hy : y.cls ≠ "java/lang/invoke/MethodHandle" ∧ y.cls ≠ "java/lang/invoke/VarHandle")
    (hM : own_Met l Z y bytes maxL ret rm as' h Q) (W : Nat) (hcc : rm.cells = cc) (hss : rm.slots = ss) (hf : rm.frames + 1 ≤ R.frames) (hl : W + (maxL + 11) + rm.locals ≤ R.locals) (hsz : Ls.size = nl) {a : Addr} (hE : Exa Z h a C) {argsL rest : List Value} {ps : List FieldType} {r : Option FieldType} (hpd : parseMethodDescriptor y.desc = some ⟨ps, r⟩) (hlen : argsL.length = ps.length) (hst : st = argsL.reverse ++ .ref a :: rest) (hW : (rest.map fun v => v.category).sum ≤ W) (hd : decode B pc = .ok (.invokevirtual index, 3)) (hp : pc + 3 = pc') (hargs : (.ref a :: argsL).toArray = as') (eT : T.heap = h) (hc : cells + cc ≤ R.cells) (hs : slots + ss ≤ R.slots)
    (k : ∀ (v : Option Value) (T' : State) (h' : Heap) (L : List Loc), Stand p l e R s m args below meth c T' (locs ++ L) (cells + cc) (slots + ss) → T'.heap = h' → Q v h' L → own_E p.tables e below G (T'.setTop (mkF m pc' Ls (v.toList ++ rest)))) : own_E p.tables e below G (T.setTop (mkF m pc Ls st)) := by
  subst hcc hss
  exact own_priv X hx hby hml hZ hown w1 w6 w5 w7 w4 hy (own_back hM hZ w4 w3 hf hl) hsz hE hpd hlen hst hW hd hp hargs eT hc hs k
theorem own_intfM (X : Stand p l e R s m args below meth c T locs cells slots) (hx : p.tables.exec = Jvm.exec) (hby : c.code = B) {own : String} {index nl : Nat} {as' : Array Value} {cc ss maxL : Nat} {bytes : ByteArray} {ret : Option FieldType} {rm : Room} {Q : Option Value → Heap → List Loc → Prop} {C : String} {y z : MethodName} {cnt : Nat} (hml : c.maxLocals = nl) (hZ : Z.Warmed39 s.vm) (hown : s.vm.findClass own = some m.cls) (w1 : (Jvm.Cond.methodLink own index y).before args s = true) (w2 : (Jvm.Cond.declares y).before args s = true) (w5 : (Jvm.Cond.interfaceMethod y.cls y.cls y.name y.desc).before args s = true) (w6 : (Jvm.Cond.selects C y z).before args s = true) (w7 : (Jvm.Cond.instanceMethod z).before args s = true) (w8 : (Jvm.Cond.publicMethod z).before args s = true) (w9 : (Jvm.Cond.unhidden C y.name y.desc).before args s = true) (w10 : (Jvm.Cond.castable C y.cls).before args s = true) (w3 : (Jvm.Cond.initialized z.cls).before a0 Z = true) (w4 : (Jvm.Cond.code z bytes maxL ret).before a0 Z = true) (hy : y.cls ≠ "java/lang/invoke/MethodHandle" ∧ y.cls ≠ "java/lang/invoke/VarHandle")
    (hM : own_Met l Z z bytes maxL ret rm as' h Q) (W : Nat) (hcc : rm.cells = cc) (hss : rm.slots = ss) (hf : rm.frames + 1 ≤ R.frames) (hl : W + (maxL + 11) + rm.locals ≤ R.locals) (hsz : Ls.size = nl) {a : Addr} (hE : Exa Z h a C) {argsL rest : List Value} {ps : List FieldType} {r : Option FieldType} (hpd : parseMethodDescriptor y.desc = some ⟨ps, r⟩) (hlen : argsL.length = ps.length) (hst : st = argsL.reverse ++ .ref a :: rest) (hW : (rest.map fun v => v.category).sum ≤ W) (hd : decode B pc = .ok (.invokeinterface index cnt, 5)) (hp : pc + 5 = pc') (hargs : (.ref a :: argsL).toArray = as') (eT : T.heap = h) (hc : cells + cc ≤ R.cells) (hs : slots + ss ≤ R.slots)
    (k : ∀ (v : Option Value) (T' : State) (h' : Heap) (L : List Loc), Stand p l e R s m args below meth c T' (locs ++ L) (cells + cc) (slots + ss) → T'.heap = h' → Q v h' L → own_E p.tables e below G (T'.setTop (mkF m pc' Ls (v.toList ++ rest)))) : own_E p.tables e below G (T.setTop (mkF m pc Ls st)) := by
  subst hcc hss
  exact own_intf (a0 := a0) X hx hby hml hZ hown w1 w2 w5 w6 w7 w8 w9 w10 hy (own_back hM hZ w4 w3 hf hl) hsz hE hpd hlen hst hW hd hp hargs eT hc hs k
theorem own_newO (X : Stand p l e R s m args below meth c T locs cells slots) (hx : p.tables.exec = Jvm.exec) (hby : c.code = B) (hZ : Z.Warmed39 s.vm) {own C : String} {index n : Nat} (hown : s.vm.findClass own = some m.cls) (w : (Jvm.Cond.classLink own index C).before a0 Z = true) (wi : (Jvm.Cond.instantiable C n).before a0 Z = true) (wz : (Jvm.Cond.initialized C).before a0 Z = true) (eT : T.heap = h)
    (hd : decode B pc = .ok (.new index, 3)) (hp : pc + 3 = pc') (hc : cells + 1 ≤ R.cells) (hl : slots + n ≤ R.slots)
    (k : ∀ (T' : State) (h' : Heap) (b : Addr), b = h.size → Stand p l e R s m args below meth c T' locs (cells + 1) (slots + n) → T'.heap = h' → Ext h h' → Exa Z h' b C → (∀ {O nm d : String} {ty : FieldType}, Laid Z a0 C O nm d → parseFieldDescriptor d = some ty → Fld Z h' b O nm d (defaultValue ty)) → own_E p.tables e below G (T'.setTop (mkF m pc' Ls (.ref b :: st)))) : own_E p.tables e below G (T.setTop (mkF m pc Ls (st))) := by
  subst hp
  obtain ⟨T', h', X', e', E', A', D', -, stp⟩ := newO X hx hZ hown w wi wz eT (g := mkF m pc Ls st) rfl (hb hby hd) hc hl
  exact own_go stp (k T' h' _ rfl X' e' E' A' D')
theorem own_newP (X : Stand p l e R s m args below meth c T locs cells slots) (hx : p.tables.exec = Jvm.exec) (hby : c.code = B) (hZ : Z.Warmed39 s.vm) {aty : ArrayType} (w : (Jvm.Cond.arrayClass (newarray.typeOf aty)).before a0 Z = true) (eT : T.heap = h) {n : Int32} {cap : Nat} (hd : decode B pc = .ok (.newarray aty, 2)) (hp : pc + 2 = pc') (hn : ¬ n < 0) (hcap : n.toNatClampNeg ≤ cap) (hbig : cap * 8 ≤ 536870912) (hc : cells + 1 ≤ R.cells) (hl : slots + cap ≤ R.slots)
    (k : ∀ (T' : State) (h' : Heap) (b : Addr) (kA : ClassId), b = h.size → Stand p l e R s m args below meth c T' locs (cells + 1) (slots + cap) → T'.heap = h' → Ext h h' → Arv Z h' b kA (newarray.typeOf aty) n [] (defaultValue (newarray.typeOf aty)) → own_E p.tables e below G (T'.setTop (mkF m pc' Ls (.ref b :: st)))) : own_E p.tables e below G (T.setTop (mkF m pc Ls (.int n :: st))) := by
  subst hp
  obtain ⟨T', h', kA, X', e', E', A', stp⟩ := newP X hx hZ w eT (g := mkF m pc Ls (.int n :: st)) rfl (hb hby hd) rfl hn hcap hbig hc hl
  exact own_go stp (k T' h' _ kA rfl X' e' E' (Arv.new A' hn))
theorem own_newR (X : Stand p l e R s m args below meth c T locs cells slots) (hx : p.tables.exec = Jvm.exec) (hby : c.code = B) (hZ : Z.Warmed39 s.vm) {own C : String} {index : Nat} (hown : s.vm.findClass own = some m.cls) (w1 : (Jvm.Cond.classLink own index C).before a0 Z = true) (w2 : (Jvm.Cond.arrayOver (.object C)).before a0 Z = true) (eT : T.heap = h) {n : Int32} {cap : Nat} (hd : decode B pc = .ok (.anewarray index, 3)) (hp : pc + 3 = pc') (hn : ¬ n < 0) (hcap : n.toNatClampNeg ≤ cap) (hbig : cap * 8 ≤ 536870912) (hc : cells + 1 ≤ R.cells) (hl : slots + cap ≤ R.slots)
    (k : ∀ (T' : State) (h' : Heap) (b : Addr) (kA : ClassId), b = h.size → Stand p l e R s m args below meth c T' locs (cells + 1) (slots + cap) → T'.heap = h' → Ext h h' → Arv Z h' b kA (.object C) n [] .null → Ovr Z kA C → own_E p.tables e below G (T'.setTop (mkF m pc' Ls (.ref b :: st)))) : own_E p.tables e below G (T.setTop (mkF m pc Ls (.int n :: st))) := by
  subst hp
  obtain ⟨T', h', kA, X', e', E', A', O', stp⟩ := newR X hx hZ hown w1 w2 eT (g := mkF m pc Ls (.int n :: st)) rfl (hb hby hd) rfl hn hcap hbig hc hl
  exact own_go stp (k T' h' _ kA rfl X' e' E' (Arv.new A' hn) O')
theorem own_getF (X : Stand p l e R s m args below meth c T locs cells slots) (hx : p.tables.exec = Jvm.exec) (hby : c.code = B) (hZ : Z.Warmed39 s.vm) {own R0 O n d host : String} {index : Nat} (hown : s.vm.findClass own = some m.cls) (w : (Jvm.Cond.fieldLink own index R0 n d).before a0 Z = true ∨ (Jvm.Cond.fieldLinkNest own index R0 n d host).before a0 Z = true) (via : Via Z R0 O n d) (eT : T.heap = h) {a : Addr} {v : Value} (F : Fld Z h a O n d v) (hd : decode B pc = .ok (.getfield index, 3)) (hp : pc + 3 = pc')
    (k : ∀ T' : State, Stand p l e R s m args below meth c T' locs cells slots → T'.heap = h → own_E p.tables e below G (T'.setTop (mkF m pc' Ls (v :: st)))) : own_E p.tables e below G (T.setTop (mkF m pc Ls (.ref a :: st))) := by
  subst hp
  obtain ⟨T', X', e', stp⟩ := getF X hx hZ hown w via eT F (g := mkF m pc Ls (.ref a :: st)) rfl rfl (hb hby hd)
  exact own_go stp (k T' X' e')
theorem own_getS (X : Stand p l e R s m args below meth c T locs cells slots) (hx : p.tables.exec = Jvm.exec) (hby : c.code = B) (hZ : Z.Warmed39 s.vm) {own R0 O n d host : String} {index : Nat} (hown : s.vm.findClass own = some m.cls) (w : (Jvm.Cond.fieldLink own index R0 n d).before a0 Z = true ∨ (Jvm.Cond.fieldLinkNest own index R0 n d host).before a0 Z = true) (via : Via Z R0 O n d) (eT : T.heap = h) {v : Value} (F : Sta Z h O n d v) (hd : decode B pc = .ok (.getstatic index, 3)) (hp : pc + 3 = pc')
    (k : ∀ T' : State, Stand p l e R s m args below meth c T' locs cells slots → T'.heap = h → own_E p.tables e below G (T'.setTop (mkF m pc' Ls (v :: st)))) : own_E p.tables e below G (T.setTop (mkF m pc Ls (st))) := by
  subst hp
  obtain ⟨T', X', e', stp⟩ := getS2 X hx hZ hown w via eT F (g := mkF m pc Ls st) rfl (hb hby hd)
  exact own_go stp (k T' X' e')
theorem own_putF (X : Stand p l e R s m args below meth c T locs cells slots) (hx : p.tables.exec = Jvm.exec) (hby : c.code = B) (hZ : Z.Warmed39 s.vm) {own R0 O n d host C : String} {index kk : Nat} {ty : FieldType} (hown : s.vm.findClass own = some m.cls) (w : (Jvm.Cond.fieldLink own index R0 n d).before a0 Z = true ∨ (Jvm.Cond.fieldLinkNest own index R0 n d host).before a0 Z = true) (via : Via Z R0 O n d) (eT : T.heap = h) {a : Addr} {v old : Value} (F : Fld Z h a O n d old) (A : Exa Z h a C)
    (L : (Jvm.Cond.lays C O n d).before a0 Z = true ∨ ((Jvm.Cond.laysFinal C O n d).before a0 Z = true ∧ own = O ∧ meth.name = "<init>")) (wi : (Jvm.Cond.instantiable C kk).before a0 Z = true) (hty : parseFieldDescriptor d = some ty) (hn : narrow ty v = v) (hf : fits ty v = true) (hd : decode B pc = .ok (.putfield index, 3)) (hp : pc + 3 = pc')
    (k : ∀ (T' : State) (h' : Heap), Stand p l e R s m args below meth c T' (locs ++ [⟨a, Jvm.RoadKit.slotOf Z O n d⟩]) cells slots → T'.heap = h' → Wr h h' a (Jvm.RoadKit.slotOf Z O n d) v → Fld Z h' a O n d v → Exa Z h' a C → own_E p.tables e below G (T'.setTop (mkF m pc' Ls (st)))) : own_E p.tables e below G (T.setTop (mkF m pc Ls (v :: .ref a :: st))) := by
  subst hp
  obtain ⟨T', h', X', e', W', stp⟩ := putF X hx hZ hown w via eT F A L wi hty hn hf (g := mkF m pc Ls (v :: .ref a :: st)) rfl rfl (hb hby hd)
  exact own_go stp (k T' h' X' e' W' (F.same W') (A.wr W'))
theorem own_putFN (X : Stand p l e R s m args below meth c T locs cells slots) (hx : p.tables.exec = Jvm.exec) (hby : c.code = B) (hZ : Z.Warmed39 s.vm) {own R0 O n d C : String} {index kk : Nat} {ty : FieldType} (hown : s.vm.findClass own = some m.cls) (w : (Jvm.Cond.fieldLink own index R0 n d).before a0 Z = true) (via : Via Z R0 O n d) (eT : T.heap = h) {a : Addr} {v v' old : Value} (F : Fld Z h a O n d old) (A : Exa Z h a C)
    (L : (Jvm.Cond.lays C O n d).before a0 Z = true ∨ ((Jvm.Cond.laysFinal C O n d).before a0 Z = true ∧ own = O ∧ meth.name = "<init>")) (wi : (Jvm.Cond.instantiable C kk).before a0 Z = true) (hty : parseFieldDescriptor d = some ty) (hn : narrow ty v = v') (hf : fits ty v' = true) (hd : decode B pc = .ok (.putfield index, 3)) (hp : pc + 3 = pc')
    (k : ∀ (T' : State) (h' : Heap), Stand p l e R s m args below meth c T' (locs ++ [⟨a, Jvm.RoadKit.slotOf Z O n d⟩]) cells slots → T'.heap = h' → Wr h h' a (Jvm.RoadKit.slotOf Z O n d) v' → Fld Z h' a O n d v' → Exa Z h' a C → own_E p.tables e below G (T'.setTop (mkF m pc' Ls (st)))) : own_E p.tables e below G (T.setTop (mkF m pc Ls (v :: .ref a :: st))) := by
  subst hp
  obtain ⟨T', h', X', e', W', stp⟩ := putFN X hx hZ hown w via eT F A L wi hty hn hf (g := mkF m pc Ls (v :: .ref a :: st)) rfl rfl (hb hby hd)
  exact own_go stp (k T' h' X' e' W' (F.same W') (A.wr W'))
theorem own_initO (X : Stand p l e R s m args below meth c T locs cells slots) (hx : p.tables.exec = Jvm.exec) (hby : c.code = B) (hZ : Z.Warmed39 s.vm) {own : String} {idx nl W : Nat} (hml : c.maxLocals = nl) (hown : s.vm.findClass own = some m.cls) (w1 : (Jvm.Cond.methodLink own idx Lib.objectInit).before a0 Z = true) (w2 : (Jvm.Cond.instanceMethod Lib.objectInit).before a0 Z = true) (w3 : (Jvm.Cond.code Lib.objectInit ⟨#[0xb1]⟩ 1 none).before a0 Z = true) (eT : T.heap = h) (hsz : Ls.size = nl) {a : Addr} (hd : decode B pc = .ok (.invokespecial idx, 3)) (hp : pc + 3 = pc') (hf : 1 ≤ R.frames) (hW : (st.map fun v => v.category).sum ≤ W) (hl : W + 12 ≤ R.locals)
    (k : ∀ T' : State, Stand p l e R s m args below meth c T' locs cells slots → T'.heap = h → own_E p.tables e below G (T'.setTop (mkF m pc' Ls (st)))) : own_E p.tables e below G (T.setTop (mkF m pc Ls (.ref a :: st))) := by
  subst hp
  obtain ⟨T', X', e', stp⟩ := initO X hx hZ hown w1 w2 w3 eT (g := mkF m pc Ls (.ref a :: st)) rfl (by rw [hml]; exact hsz) rfl (hb hby hd) hf (W := W) (by show 2 * 0 + _ ≤ _; rw [Nat.mul_zero, Nat.zero_add]; exact hW) hl
  exact own_go stp (k T' X' e')
theorem own_ialoadV (X : Stand p l e R s m args below meth c T locs cells slots) (hx : p.tables.exec = Jvm.exec) (hby : c.code = B) (hZ : Z.Warmed39 s.vm) (eT : T.heap = h) {a : Addr} {kA : ClassId} {z j : Int32} {vs : List Value} {dv v : Value} (A : Arv Z h a kA .int z vs dv) (hj : ¬ j < 0 ∧ j < z) (hv : vs.getD j.toNatClampNeg dv = v) (hd : decode B pc = .ok (.iaload, 1)) (hp : pc + 1 = pc')
    (k : own_E p.tables e below G (T.setTop (mkF m pc' Ls (v :: st)))) : own_E p.tables e below G (T.setTop (mkF m pc Ls (.int j :: .ref a :: st))) := by
  subst hp
  obtain ⟨cl, Ar, -, S, -, H, -⟩ := A
  exact own_go (fun t q => X.iaload hx (by rw [eT]; exact Ar.1) (State.isArrayOf_alike hZ.alike Ar.2.1) Ar.2.2 (inb_of S hj) (H.at (inb_of S hj) hv) (g := mkF m pc Ls (.int j :: .ref a :: st)) rfl rfl (hb hby hd) t q) k
theorem own_laloadV (X : Stand p l e R s m args below meth c T locs cells slots) (hx : p.tables.exec = Jvm.exec) (hby : c.code = B) (hZ : Z.Warmed39 s.vm) (eT : T.heap = h) {a : Addr} {kA : ClassId} {z j : Int32} {vs : List Value} {dv v : Value} (A : Arv Z h a kA .long z vs dv) (hj : ¬ j < 0 ∧ j < z) (hv : vs.getD j.toNatClampNeg dv = v) (hd : decode B pc = .ok (.laload, 1)) (hp : pc + 1 = pc')
    (k : own_E p.tables e below G (T.setTop (mkF m pc' Ls (v :: st)))) : own_E p.tables e below G (T.setTop (mkF m pc Ls (.int j :: .ref a :: st))) := by
  subst hp
  obtain ⟨cl, Ar, -, S, -, H, -⟩ := A
  exact own_go (fun t q => X.laload hx (by rw [eT]; exact Ar.1) (State.isArrayOf_alike hZ.alike Ar.2.1) Ar.2.2 (inb_of S hj) (H.at (inb_of S hj) hv) (g := mkF m pc Ls (.int j :: .ref a :: st)) rfl rfl (hb hby hd) t q) k
theorem own_caloadV (X : Stand p l e R s m args below meth c T locs cells slots) (hx : p.tables.exec = Jvm.exec) (hby : c.code = B) (hZ : Z.Warmed39 s.vm) (eT : T.heap = h) {a : Addr} {kA : ClassId} {z j : Int32} {vs : List Value} {dv v : Value} (A : Arv Z h a kA .char z vs dv) (hj : ¬ j < 0 ∧ j < z) (hv : vs.getD j.toNatClampNeg dv = v) (hd : decode B pc = .ok (.caload, 1)) (hp : pc + 1 = pc')
    (k : own_E p.tables e below G (T.setTop (mkF m pc' Ls (v :: st)))) : own_E p.tables e below G (T.setTop (mkF m pc Ls (.int j :: .ref a :: st))) := by
  subst hp
  obtain ⟨cl, Ar, -, S, -, H, -⟩ := A
  exact own_go (fun t q => X.caload hx (by rw [eT]; exact Ar.1) (State.isArrayOf_alike hZ.alike Ar.2.1) Ar.2.2 (inb_of S hj) (H.at (inb_of S hj) hv) (g := mkF m pc Ls (.int j :: .ref a :: st)) rfl rfl (hb hby hd) t q) k
theorem own_baloadV (X : Stand p l e R s m args below meth c T locs cells slots) (hx : p.tables.exec = Jvm.exec) (hby : c.code = B) (hZ : Z.Warmed39 s.vm) (eT : T.heap = h) {a : Addr} {kA : ClassId} {z j : Int32} {vs : List Value} {dv v : Value} (A : Arv Z h a kA .byte z vs dv) (hj : ¬ j < 0 ∧ j < z) (hv : vs.getD j.toNatClampNeg dv = v) (hd : decode B pc = .ok (.baload, 1)) (hp : pc + 1 = pc')
    (k : own_E p.tables e below G (T.setTop (mkF m pc' Ls (v :: st)))) : own_E p.tables e below G (T.setTop (mkF m pc Ls (.int j :: .ref a :: st))) := by
  subst hp
  obtain ⟨cl, Ar, -, S, -, H, -⟩ := A
  exact own_go (fun t q => X.baloadBytes hx (by rw [eT]; exact Ar.1) (State.isArrayOf_alike hZ.alike Ar.2.1) Ar.2.2 (inb_of S hj) (H.at (inb_of S hj) hv) (g := mkF m pc Ls (.int j :: .ref a :: st)) rfl rfl (hb hby hd) t q) k
theorem own_daloadV (X : Stand p l e R s m args below meth c T locs cells slots) (hx : p.tables.exec = Jvm.exec) (hby : c.code = B) (hZ : Z.Warmed39 s.vm) (eT : T.heap = h) {a : Addr} {kA : ClassId} {z j : Int32} {vs : List Value} {dv v : Value} (A : Arv Z h a kA .double z vs dv) (hj : ¬ j < 0 ∧ j < z) (hv : vs.getD j.toNatClampNeg dv = v) (hd : decode B pc = .ok (.daload, 1)) (hp : pc + 1 = pc')
    (k : own_E p.tables e below G (T.setTop (mkF m pc' Ls (v :: st)))) : own_E p.tables e below G (T.setTop (mkF m pc Ls (.int j :: .ref a :: st))) := by
  subst hp
  obtain ⟨cl, Ar, -, S, -, H, -⟩ := A
  exact own_go (fun t q => X.daload hx (by rw [eT]; exact Ar.1) (State.isArrayOf_alike hZ.alike Ar.2.1) Ar.2.2 (inb_of S hj) (H.at (inb_of S hj) hv) (g := mkF m pc Ls (.int j :: .ref a :: st)) rfl rfl (hb hby hd) t q) k
theorem own_aaloadV (X : Stand p l e R s m args below meth c T locs cells slots) (hx : p.tables.exec = Jvm.exec) (hby : c.code = B) (hZ : Z.Warmed39 s.vm) (eT : T.heap = h) {a : Addr} {kA : ClassId} {ty : FieldType} {z j : Int32} {vs : List Value} {dv v : Value} (A : Arv Z h a kA ty z vs dv) (hty : ty.isReference = true) (hj : ¬ j < 0 ∧ j < z) (hv : vs.getD j.toNatClampNeg dv = v) (hd : decode B pc = .ok (.aaload, 1)) (hp : pc + 1 = pc')
    (k : own_E p.tables e below G (T.setTop (mkF m pc' Ls (v :: st)))) : own_E p.tables e below G (T.setTop (mkF m pc Ls (.int j :: .ref a :: st))) := by
  subst hp
  obtain ⟨cl, Ar, -, S, -, H, -⟩ := A
  exact own_go (fun t q => X.aaload hx (by rw [eT]; exact Ar.1) (State.isArrayOf_alike hZ.alike Ar.2.1) hty Ar.2.2 (inb_of S hj) (H.at (inb_of S hj) hv) (g := mkF m pc Ls (.int j :: .ref a :: st)) rfl rfl (hb hby hd) t q) k
theorem own_alenV (X : Stand p l e R s m args below meth c T locs cells slots) (hx : p.tables.exec = Jvm.exec) (hby : c.code = B) (hZ : Z.Warmed39 s.vm) (eT : T.heap = h) {a : Addr} {kA : ClassId} {ty : FieldType} {z : Int32} {vs : List Value} {dv : Value} (A : Arv Z h a kA ty z vs dv) (hd : decode B pc = .ok (.arraylength, 1)) (hp : pc + 1 = pc')
    (k : own_E p.tables e below G (T.setTop (mkF m pc' Ls (.int z :: st)))) : own_E p.tables e below G (T.setTop (mkF m pc Ls (.ref a :: st))) := by
  subst hp
  obtain ⟨cl, Ar, -, S, N, -, -⟩ := A
  refine own_go (fun t q => X.arraylength hx (by rw [eT]; exact Ar.1) (State.isArrayOf_alike hZ.alike Ar.2.1) (g := mkF m pc Ls (.ref a :: st)) rfl rfl (hb hby hd) t ?_) k
  rw [len_of S N]; exact q
theorem own_stI (X : Stand p l e R s m args below meth c T locs cells slots) (hx : p.tables.exec = Jvm.exec) (hby : c.code = B) (hZ : Z.Warmed39 s.vm) (eT : T.heap = h) {a : Addr} {kA : ClassId} {z j : Int32} {vs : List Value} {dv : Value} {x : Int32} (A : Arv Z h a kA .int z vs dv) (hj : ¬ j < 0 ∧ j < z) (i : Nat) (hi : j.toNatClampNeg = i) (hlen : i < vs.length) (hd : decode B pc = .ok (.iastore, 1)) (hp : pc + 1 = pc')
    (k : ∀ (T' : State) (h' : Heap), Stand p l e R s m args below meth c T' (locs ++ [⟨a, j.toNatClampNeg⟩]) cells slots → T'.heap = h' → Wr h h' a j.toNatClampNeg (.int x) → Arv Z h' a kA .int z (vs.set i (.int x)) dv → own_E p.tables e below G (T'.setTop (mkF m pc' Ls (st)))) : own_E p.tables e below G (T.setTop (mkF m pc Ls (.int x :: .int j :: .ref a :: st))) := by
  subst hp
  obtain ⟨cl, Ar, q, S, N, H, F⟩ := A
  obtain ⟨T', h', X', e', W', stp⟩ := stI X hx hZ eT Ar (j := j) (inb_of S hj) (g := mkF m pc Ls (.int x :: .int j :: .ref a :: st)) rfl rfl (hb hby hd)
  exact own_go stp (k T' h' X' e' W' (Arv.set Ar q S N H F rfl W' i hi hlen))
theorem own_stJ (X : Stand p l e R s m args below meth c T locs cells slots) (hx : p.tables.exec = Jvm.exec) (hby : c.code = B) (hZ : Z.Warmed39 s.vm) (eT : T.heap = h) {a : Addr} {kA : ClassId} {z j : Int32} {vs : List Value} {dv : Value} {x : Int64} (A : Arv Z h a kA .long z vs dv) (hj : ¬ j < 0 ∧ j < z) (i : Nat) (hi : j.toNatClampNeg = i) (hlen : i < vs.length) (hd : decode B pc = .ok (.lastore, 1)) (hp : pc + 1 = pc')
    (k : ∀ (T' : State) (h' : Heap), Stand p l e R s m args below meth c T' (locs ++ [⟨a, j.toNatClampNeg⟩]) cells slots → T'.heap = h' → Wr h h' a j.toNatClampNeg (.long x) → Arv Z h' a kA .long z (vs.set i (.long x)) dv → own_E p.tables e below G (T'.setTop (mkF m pc' Ls (st)))) : own_E p.tables e below G (T.setTop (mkF m pc Ls (.long x :: .int j :: .ref a :: st))) := by
  subst hp
  obtain ⟨cl, Ar, q, S, N, H, F⟩ := A
  obtain ⟨T', h', X', e', W', stp⟩ := stJ X hx hZ eT Ar (j := j) (inb_of S hj) (g := mkF m pc Ls (.long x :: .int j :: .ref a :: st)) rfl rfl (hb hby hd)
  exact own_go stp (k T' h' X' e' W' (Arv.set Ar q S N H F rfl W' i hi hlen))
theorem own_stC (X : Stand p l e R s m args below meth c T locs cells slots) (hx : p.tables.exec = Jvm.exec) (hby : c.code = B) (hZ : Z.Warmed39 s.vm) (eT : T.heap = h) {a : Addr} {kA : ClassId} {z j : Int32} {vs : List Value} {dv : Value} {x : Int32} (A : Arv Z h a kA .char z vs dv) (hj : ¬ j < 0 ∧ j < z) (i : Nat) (hi : j.toNatClampNeg = i) (hlen : i < vs.length) (hd : decode B pc = .ok (.castore, 1)) (hp : pc + 1 = pc')
    (k : ∀ (T' : State) (h' : Heap), Stand p l e R s m args below meth c T' (locs ++ [⟨a, j.toNatClampNeg⟩]) cells slots → T'.heap = h' → Wr h h' a j.toNatClampNeg (.int (nar .char x)) → Arv Z h' a kA .char z (vs.set i (.int (nar .char x))) dv → own_E p.tables e below G (T'.setTop (mkF m pc' Ls (st)))) : own_E p.tables e below G (T.setTop (mkF m pc Ls (.int x :: .int j :: .ref a :: st))) := by
  subst hp
  obtain ⟨cl, Ar, q, S, N, H, F⟩ := A
  obtain ⟨T', h', X', e', W', stp⟩ := stC X hx hZ eT Ar (j := j) (inb_of S hj) (g := mkF m pc Ls (.int x :: .int j :: .ref a :: st)) rfl rfl (hb hby hd)
  exact own_go stp (k T' h' X' e' W' (Arv.set Ar q S N H F (fits_nar_char _) W' i hi hlen))
theorem own_stB (X : Stand p l e R s m args below meth c T locs cells slots) (hx : p.tables.exec = Jvm.exec) (hby : c.code = B) (hZ : Z.Warmed39 s.vm) (eT : T.heap = h) {a : Addr} {kA : ClassId} {z j : Int32} {vs : List Value} {dv : Value} {x : Int32} (A : Arv Z h a kA .byte z vs dv) (hj : ¬ j < 0 ∧ j < z) (i : Nat) (hi : j.toNatClampNeg = i) (hlen : i < vs.length) (hd : decode B pc = .ok (.bastore, 1)) (hp : pc + 1 = pc')
    (k : ∀ (T' : State) (h' : Heap), Stand p l e R s m args below meth c T' (locs ++ [⟨a, j.toNatClampNeg⟩]) cells slots → T'.heap = h' → Wr h h' a j.toNatClampNeg (.int (nar .byte x)) → Arv Z h' a kA .byte z (vs.set i (.int (nar .byte x))) dv → own_E p.tables e below G (T'.setTop (mkF m pc' Ls (st)))) : own_E p.tables e below G (T.setTop (mkF m pc Ls (.int x :: .int j :: .ref a :: st))) := by
  subst hp
  obtain ⟨cl, Ar, q, S, N, H, F⟩ := A
  obtain ⟨T', h', X', e', W', stp⟩ := stB X hx hZ eT Ar (j := j) (inb_of S hj) (g := mkF m pc Ls (.int x :: .int j :: .ref a :: st)) rfl rfl (hb hby hd)
  exact own_go stp (k T' h' X' e' W' (Arv.set Ar q S N H F (fits_nar_byte _) W' i hi hlen))
theorem own_stZ (X : Stand p l e R s m args below meth c T locs cells slots) (hx : p.tables.exec = Jvm.exec) (hby : c.code = B) (hZ : Z.Warmed39 s.vm) (eT : T.heap = h) {a : Addr} {kA : ClassId} {z j : Int32} {vs : List Value} {dv : Value} {x : Int32} (A : Arv Z h a kA .boolean z vs dv) (hj : ¬ j < 0 ∧ j < z) (i : Nat) (hi : j.toNatClampNeg = i) (hlen : i < vs.length) (hd : decode B pc = .ok (.bastore, 1)) (hp : pc + 1 = pc')
    (k : ∀ (T' : State) (h' : Heap), Stand p l e R s m args below meth c T' (locs ++ [⟨a, j.toNatClampNeg⟩]) cells slots → T'.heap = h' → Wr h h' a j.toNatClampNeg (.int (nar .boolean x)) → Arv Z h' a kA .boolean z (vs.set i (.int (nar .boolean x))) dv → own_E p.tables e below G (T'.setTop (mkF m pc' Ls (st)))) : own_E p.tables e below G (T.setTop (mkF m pc Ls (.int x :: .int j :: .ref a :: st))) := by
  subst hp
  obtain ⟨cl, Ar, q, S, N, H, F⟩ := A
  obtain ⟨T', h', X', e', W', stp⟩ := stZ X hx hZ eT Ar (j := j) (inb_of S hj) (g := mkF m pc Ls (.int x :: .int j :: .ref a :: st)) rfl rfl (hb hby hd)
  exact own_go stp (k T' h' X' e' W' (Arv.set Ar q S N H F (fits_nar_bool _) W' i hi hlen))
theorem own_stD (X : Stand p l e R s m args below meth c T locs cells slots) (hx : p.tables.exec = Jvm.exec) (hby : c.code = B) (hZ : Z.Warmed39 s.vm) (eT : T.heap = h) {a : Addr} {kA : ClassId} {z j : Int32} {vs : List Value} {dv : Value} {x : UInt64} (A : Arv Z h a kA .double z vs dv) (hj : ¬ j < 0 ∧ j < z) (i : Nat) (hi : j.toNatClampNeg = i) (hlen : i < vs.length) (hd : decode B pc = .ok (.dastore, 1)) (hp : pc + 1 = pc')
    (k : ∀ (T' : State) (h' : Heap), Stand p l e R s m args below meth c T' (locs ++ [⟨a, j.toNatClampNeg⟩]) cells slots → T'.heap = h' → Wr h h' a j.toNatClampNeg (.double x) → Arv Z h' a kA .double z (vs.set i (.double x)) dv → own_E p.tables e below G (T'.setTop (mkF m pc' Ls (st)))) : own_E p.tables e below G (T.setTop (mkF m pc Ls (.double x :: .int j :: .ref a :: st))) := by
  subst hp
  obtain ⟨cl, Ar, q, S, N, H, F⟩ := A
  obtain ⟨T', h', X', e', W', stp⟩ := stD X hx hZ eT Ar (j := j) (inb_of S hj) (g := mkF m pc Ls (.double x :: .int j :: .ref a :: st)) rfl rfl (hb hby hd)
  exact own_go stp (k T' h' X' e' W' (Arv.set Ar q S N H F rfl W' i hi hlen))
theorem own_stR (X : Stand p l e R s m args below meth c T locs cells slots) (hx : p.tables.exec = Jvm.exec) (hby : c.code = B) (hZ : Z.Warmed39 s.vm) (eT : T.heap = h) {a : Addr} {kA : ClassId} {ty : FieldType} {z j : Int32} {vs : List Value} {dv v : Value} (A : Arv Z h a kA ty z vs dv) (hty : ty.isReference = true) (hv : v.isRef = true) (F : Sto Z h a v) (hj : ¬ j < 0 ∧ j < z) (i : Nat) (hi : j.toNatClampNeg = i) (hlen : i < vs.length) (hd : decode B pc = .ok (.aastore, 1)) (hp : pc + 1 = pc')
    (k : ∀ (T' : State) (h' : Heap), Stand p l e R s m args below meth c T' (locs ++ [⟨a, j.toNatClampNeg⟩]) cells slots → T'.heap = h' → Wr h h' a j.toNatClampNeg v → Arv Z h' a kA ty z (vs.set i v) dv → own_E p.tables e below G (T'.setTop (mkF m pc' Ls (st)))) : own_E p.tables e below G (T.setTop (mkF m pc Ls (v :: .int j :: .ref a :: st))) := by
  subst hp
  obtain ⟨cl, Ar, q, S, N, H, F'⟩ := A
  obtain ⟨T', h', X', e', W', stp⟩ := stR X hx hZ eT Ar (j := j) (inb_of S hj) hty F (g := mkF m pc Ls (v :: .int j :: .ref a :: st)) rfl rfl (hb hby hd)
  exact own_go stp (k T' h' X' e' W' (Arv.set Ar q S N H F' (by cases ty <;> first | (cases hty; done) | (rcases ref_cases hv with rfl | ⟨_, rfl⟩ <;> rfl)) W' i hi hlen))
theorem own_sto {a y : Addr} {kA : ClassId} {ty : FieldType} {z : Int32} {vs : List Value} {dv : Value} {C : String} (A : Arv Z h a kA ty z vs dv) (O : Ovr Z kA C) (I : Ins Z h y C true) : Sto Z h a (.ref y) := by
  obtain ⟨cl, Ar, q, -⟩ := A; exact Sto.ofV Ar q O I
theorem own_ldcI (X : Stand p l e R s m args below meth c T locs cells slots) (hx : p.tables.exec = Jvm.exec) (hby : c.code = B) (hZ : Z.Warmed39 s.vm) {own : String} {index : Nat} {v : Int32} (hown : s.vm.findClass own = some m.cls) (w : (Jvm.Cond.constant own index v).before a0 Z = true) (hd : decode B pc = .ok (.ldc index, 2)) (hp : pc + 2 = pc')
    (k : own_E p.tables e below G (T.setTop (mkF m pc' Ls (.int v :: st)))) : own_E p.tables e below G (T.setTop (mkF m pc Ls (st))) := by
  subst hp; exact own_go (fun t q => X.ldcInt hx hown (mvT hZ w) (g := mkF m pc Ls st) rfl (hb hby hd) t q) k
theorem own_ldcJ (X : Stand p l e R s m args below meth c T locs cells slots) (hx : p.tables.exec = Jvm.exec) (hby : c.code = B) (hZ : Z.Warmed39 s.vm) {own : String} {index : Nat} {v : Int64} (hown : s.vm.findClass own = some m.cls) (w : (Jvm.Cond.constantLong own index v).before a0 Z = true) (hd : decode B pc = .ok (.ldc2_w index, 3)) (hp : pc + 3 = pc')
    (k : own_E p.tables e below G (T.setTop (mkF m pc' Ls (.long v :: st)))) : own_E p.tables e below G (T.setTop (mkF m pc Ls (st))) := by
  subst hp; exact own_go (fun t q => X.ldc2Long hx hown (mvT hZ w) (g := mkF m pc Ls st) rfl (hb hby hd) t q) k
theorem own_ldcD (X : Stand p l e R s m args below meth c T locs cells slots) (hx : p.tables.exec = Jvm.exec) (hby : c.code = B) (hZ : Z.Warmed39 s.vm) {own : String} {index : Nat} {v : UInt64} (hown : s.vm.findClass own = some m.cls) (w : (Jvm.Cond.constantDouble own index v).before a0 Z = true) (hd : decode B pc = .ok (.ldc2_w index, 3)) (hp : pc + 3 = pc')
    (k : own_E p.tables e below G (T.setTop (mkF m pc' Ls (.double v :: st)))) : own_E p.tables e below G (T.setTop (mkF m pc Ls (st))) := by
  subst hp; exact own_go (fun t q => X.ldc2DoubleC hx hown (mvT hZ w) (g := mkF m pc Ls st) rfl (hb hby hd) t q) k
theorem own_cast (X : Stand p l e R s m args below meth c T locs cells slots) (hx : p.tables.exec = Jvm.exec) (hby : c.code = B) (hZ : Z.Warmed39 s.vm) {own K : String} {index : Nat} (hown : s.vm.findClass own = some m.cls) (w : (Jvm.Cond.classLink own index K).before a0 Z = true) (eT : T.heap = h) {a : Addr} (F : Ins Z h a K true) (hd : decode B pc = .ok (.checkcast index, 3)) (hp : pc + 3 = pc')
    (k : ∀ T' : State, Stand p l e R s m args below meth c T' locs cells slots → T'.heap = h → own_E p.tables e below G (T'.setTop (mkF m pc' Ls (.ref a :: st)))) : own_E p.tables e below G (T.setTop (mkF m pc Ls (.ref a :: st))) := by
  subst hp
  obtain ⟨T', X', e', stp⟩ := castY X hx hZ hown w eT F (g := mkF m pc Ls (.ref a :: st)) rfl rfl (hb hby hd)
  exact own_go stp (k T' X' e')
theorem own_instY (X : Stand p l e R s m args below meth c T locs cells slots) (hx : p.tables.exec = Jvm.exec) (hby : c.code = B) (hZ : Z.Warmed39 s.vm) {own K : String} {index : Nat} (hown : s.vm.findClass own = some m.cls) (w : (Jvm.Cond.classLink own index K).before a0 Z = true) (eT : T.heap = h) {a : Addr} (F : Ins Z h a K true) (hd : decode B pc = .ok (.instanceof index, 3)) (hp : pc + 3 = pc')
    (k : ∀ T' : State, Stand p l e R s m args below meth c T' locs cells slots → T'.heap = h → own_E p.tables e below G (T'.setTop (mkF m pc' Ls (.int 1 :: st)))) : own_E p.tables e below G (T.setTop (mkF m pc Ls (.ref a :: st))) := by
  subst hp
  obtain ⟨T', X', e', stp⟩ := instY X hx hZ hown w eT F (g := mkF m pc Ls (.ref a :: st)) rfl rfl (hb hby hd)
  exact own_go stp (k T' X' e')
theorem own_dloadN (X : Stand p l e R s m args below meth c T locs cells slots) (hx : p.tables.exec = Jvm.exec) (hby : c.code = B) {k : Fin 4} {v : UInt64} (hd : decode B pc = .ok (.dload_n k, 1)) (hp : pc + 1 = pc') (hl : Ls[k.val]? = some (.val (.double v)))
    (k : own_E p.tables e below G (T.setTop (mkF m pc' Ls (.double v :: st)))) : own_E p.tables e below G (T.setTop (mkF m pc Ls (st))) := by
  subst hp; exact own_go (fun t q => XS.dloadN X.here hx rfl (hb hby hd) hl q) k
theorem own_dload (X : Stand p l e R s m args below meth c T locs cells slots) (hx : p.tables.exec = Jvm.exec) (hby : c.code = B) {k : Nat} {v : UInt64} (hd : decode B pc = .ok (.dload k, 2)) (hp : pc + 2 = pc') (hl : Ls[k]? = some (.val (.double v)))
    (k : own_E p.tables e below G (T.setTop (mkF m pc' Ls (.double v :: st)))) : own_E p.tables e below G (T.setTop (mkF m pc Ls (st))) := by
  subst hp; exact own_go (fun t q => XS.dload X.here hx rfl (hb hby hd) hl q) k
theorem own_dstoreN (X : Stand p l e R s m args below meth c T locs cells slots) (hx : p.tables.exec = Jvm.exec) (hby : c.code = B) {k : Fin 4} {v : UInt64} (hd : decode B pc = .ok (.dstore_n k, 1)) (hp : pc + 1 = pc') (hl : storeLocals Ls k.val (.double v) = some Ls')
    (k : own_E p.tables e below G (T.setTop (mkF m pc' Ls' (st)))) : own_E p.tables e below G (T.setTop (mkF m pc Ls (.double v :: st))) := by
  subst hp; exact own_go (fun t q => XS.dstoreN X.here hx rfl (hb hby hd) rfl hl q) k
theorem own_dstore (X : Stand p l e R s m args below meth c T locs cells slots) (hx : p.tables.exec = Jvm.exec) (hby : c.code = B) {k : Nat} {v : UInt64} (hd : decode B pc = .ok (.dstore k, 2)) (hp : pc + 2 = pc') (hl : storeLocals Ls k (.double v) = some Ls')
    (k : own_E p.tables e below G (T.setTop (mkF m pc' Ls' (st)))) : own_E p.tables e below G (T.setTop (mkF m pc Ls (.double v :: st))) := by
  subst hp; exact own_go (fun t q => XS.dstore X.here hx rfl (hb hby hd) rfl hl q) k
theorem own_dconst0 (X : Stand p l e R s m args below meth c T locs cells slots) (hx : p.tables.exec = Jvm.exec) (hby : c.code = B) {v : UInt64} (hd : decode B pc = .ok (.dconst 0, 1)) (hp : pc + 1 = pc') (hv : FP.dconst0 = v)
    (k : own_E p.tables e below G (T.setTop (mkF m pc' Ls (.double v :: st)))) : own_E p.tables e below G (T.setTop (mkF m pc Ls (st))) := by
  subst hp; exact own_go (fun t q => XS.dconst0 X.here hx rfl (hb hby hd) hv q) k
theorem own_dconst1 (X : Stand p l e R s m args below meth c T locs cells slots) (hx : p.tables.exec = Jvm.exec) (hby : c.code = B) {v : UInt64} (hd : decode B pc = .ok (.dconst 1, 1)) (hp : pc + 1 = pc') (hv : FP.dconst1 = v)
    (k : own_E p.tables e below G (T.setTop (mkF m pc' Ls (.double v :: st)))) : own_E p.tables e below G (T.setTop (mkF m pc Ls (st))) := by
  subst hp; exact own_go (fun t q => XS.dconst1 X.here hx rfl (hb hby hd) hv q) k
theorem own_i2d (X : Stand p l e R s m args below meth c T locs cells slots) (hx : p.tables.exec = Jvm.exec) (hby : c.code = B) {x : Int32} {v : UInt64} (hd : decode B pc = .ok (.i2d, 1)) (hp : pc + 1 = pc') (hv : FP.i2d x = v)
    (k : own_E p.tables e below G (T.setTop (mkF m pc' Ls (.double v :: st)))) : own_E p.tables e below G (T.setTop (mkF m pc Ls (.int x :: st))) := by
  subst hp; exact own_go (fun t q => XS.i2dS X.here hx rfl (hb hby hd) rfl hv q) k
theorem own_l2d (X : Stand p l e R s m args below meth c T locs cells slots) (hx : p.tables.exec = Jvm.exec) (hby : c.code = B) {x : Int64} {v : UInt64} (hd : decode B pc = .ok (.l2d, 1)) (hp : pc + 1 = pc') (hv : FP.l2d x = v)
    (k : own_E p.tables e below G (T.setTop (mkF m pc' Ls (.double v :: st)))) : own_E p.tables e below G (T.setTop (mkF m pc Ls (.long x :: st))) := by
  subst hp; exact own_go (fun t q => XS.l2dS X.here hx rfl (hb hby hd) rfl hv q) k
theorem own_dadd (X : Stand p l e R s m args below meth c T locs cells slots) (hx : p.tables.exec = Jvm.exec) (hby : c.code = B) {x y v : UInt64} (hd : decode B pc = .ok (.dadd, 1)) (hp : pc + 1 = pc') (hn : Jvm.Free.Fl.NoNaN64 (FP.dadd x y)) (hv : FP.dadd x y = v)
    (k : own_E p.tables e below G (T.setTop (mkF m pc' Ls (.double v :: st)))) : own_E p.tables e below G (T.setTop (mkF m pc Ls (.double y :: .double x :: st))) := by
  subst hp; exact own_go (fun t q => XS.daddS X.here hx rfl (hb hby hd) rfl hn hv q) k
theorem own_dsub (X : Stand p l e R s m args below meth c T locs cells slots) (hx : p.tables.exec = Jvm.exec) (hby : c.code = B) {x y v : UInt64} (hd : decode B pc = .ok (.dsub, 1)) (hp : pc + 1 = pc') (hn : Jvm.Free.Fl.NoNaN64 (FP.dsub x y)) (hv : FP.dsub x y = v)
    (k : own_E p.tables e below G (T.setTop (mkF m pc' Ls (.double v :: st)))) : own_E p.tables e below G (T.setTop (mkF m pc Ls (.double y :: .double x :: st))) := by
  subst hp; exact own_go (fun t q => XS.dsubS X.here hx rfl (hb hby hd) rfl hn hv q) k
theorem own_dmul (X : Stand p l e R s m args below meth c T locs cells slots) (hx : p.tables.exec = Jvm.exec) (hby : c.code = B) {x y v : UInt64} (hd : decode B pc = .ok (.dmul, 1)) (hp : pc + 1 = pc') (hn : Jvm.Free.Fl.NoNaN64 (FP.dmul x y)) (hv : FP.dmul x y = v)
    (k : own_E p.tables e below G (T.setTop (mkF m pc' Ls (.double v :: st)))) : own_E p.tables e below G (T.setTop (mkF m pc Ls (.double y :: .double x :: st))) := by
  subst hp; exact own_go (fun t q => XS.dmulS X.here hx rfl (hb hby hd) rfl hn hv q) k
theorem own_ddiv (X : Stand p l e R s m args below meth c T locs cells slots) (hx : p.tables.exec = Jvm.exec) (hby : c.code = B) {x y v : UInt64} (hd : decode B pc = .ok (.ddiv, 1)) (hp : pc + 1 = pc') (hn : Jvm.Free.Fl.NoNaN64 (FP.ddiv x y)) (hv : FP.ddiv x y = v)
    (k : own_E p.tables e below G (T.setTop (mkF m pc' Ls (.double v :: st)))) : own_E p.tables e below G (T.setTop (mkF m pc Ls (.double y :: .double x :: st))) := by
  subst hp; exact own_go (fun t q => XS.ddivS X.here hx rfl (hb hby hd) rfl hn hv q) k
theorem own_dcmp (X : Stand p l e R s m args below meth c T locs cells slots) (hx : p.tables.exec = Jvm.exec) (hby : c.code = B) {o : CmpOp} {x y : UInt64} {v : Int32} (hd : decode B pc = .ok (.dcmp o, 1)) (hp : pc + 1 = pc') (hv : cmpValue (FP.dcmp x y) o = v)
    (k : own_E p.tables e below G (T.setTop (mkF m pc' Ls (.int v :: st)))) : own_E p.tables e below G (T.setTop (mkF m pc Ls (.double y :: .double x :: st))) := by
  subst hp; exact own_go (fun t q => XS.dcmpS X.here hx rfl (hb hby hd) rfl hv q) k
theorem own_join {tb : Tables} {α : Type} {F : α → State} {P : α → Prop} {A : State} (rest : ∀ z, P z → own_E tb e below G (F z)) (br : (∀ z, P z → own_E tb e below G (F z)) → own_E tb e below G A) : own_E tb e below G A := br rest
/-- an array of arrays, each place filled -/
def own_Grid (Z : State) (h : Heap) (a : Addr) (n : Int32) : Prop := ∃ (kA : ClassId) (ty : FieldType) (xs : List Addr), Arv Z h a kA ty n (xs.map Value.ref) .null ∧ ty.isReference = true ∧ xs.length = n.toNatClampNeg
theorem own_Grid.ext {a : Addr} {n : Int32} (G : own_Grid Z h a n) (E : Ext h h') : own_Grid Z h' a n := by
  obtain ⟨kA, ty, xs, A, r⟩ := G; exact ⟨kA, ty, xs, A.ext E, r⟩
theorem own_grid (X : Stand p l e R s m args below meth c T locs cells slots) (hx : p.tables.exec = Jvm.exec) (hby : c.code = B) (hZ : Z.Warmed39 s.vm) {own C ad : String} {ty : FieldType} {index : Nat} (hown : s.vm.findClass own = some m.cls) (hC : (FieldType.array ty).toString = C) (had : "[" ++ C = ad)
    (w1 : (Jvm.Cond.classLink own index ad).before a0 Z = true) (w2 : (Jvm.Cond.arrayOver (.array ty)).before a0 Z = true) (w3 : (Jvm.Cond.arrayClass ty).before a0 Z = true) (eT : T.heap = h) (hd : decode B pc = .ok (.multianewarray index 2, 4)) (hp : pc + 4 = pc') {n : Int32}
    (hn : ¬ n < 0) {CC SS : Nat} (hN : n.toNatClampNeg ≤ SS) (hdf : fits ty (defaultValue ty) = true) (hdd : (defaultValue ty).isDefault = true) (hb1 : SS ≤ 1000) (hCC : 1 + SS ≤ CC) (hc : cells + CC ≤ R.cells) (hl : slots + SS ≤ R.slots)
    (k : ∀ (T' : State) (h' : Heap) (b : Addr), b = h.size → Stand p l e R s m args below meth c T' locs (cells + CC) (slots + SS) → T'.heap = h' → Ext h h' → own_Grid Z h' b n → own_E p.tables e below G (T'.setTop (mkF m pc' Ls (.ref b :: st)))) : own_E p.tables e below G (T.setTop (mkF m pc Ls (.int 0 :: .int n :: st))) := by
  subst hp
  obtain ⟨T', h', cA, comp, X', e', E', V', -, -, -, stp⟩ := gridM X hx hZ hown hC had w1 w2 w3 eT (g := mkF m pc Ls (.int 0 :: .int n :: st)) rfl (hb hby hd) rfl hn (by decide) rfl rfl (cap := 0) (by decide) (by decide) (by omega) hdf hdd (by omega) (by omega)
  exact own_go stp (k T' h' _ rfl (X'.mono (by omega) (by omega)) e' E' ⟨cA, _, _, V', rfl, by simp⟩)
theorem own_aaloadG (X : Stand p l e R s m args below meth c T locs cells slots) (hx : p.tables.exec = Jvm.exec) (hby : c.code = B) (hZ : Z.Warmed39 s.vm) (eT : T.heap = h) {a : Addr} {n j : Int32} (A : own_Grid Z h a n) (hj : ¬ j < 0 ∧ j < n) (hd : decode B pc = .ok (.aaload, 1)) (hp : pc + 1 = pc')
    (k : ∀ x : Addr, own_E p.tables e below G (T.setTop (mkF m pc' Ls (.ref x :: st)))) : own_E p.tables e below G (T.setTop (mkF m pc Ls (.int j :: .ref a :: st))) := by
  obtain ⟨kA, ty, xs, A, ht, hlen⟩ := A
  have hlt : j.toNatClampNeg < xs.length := by
    have h1 := hj.1; have h2 := hj.2
    simp only [Int32.lt_iff_toInt_lt, Int32.reduceToInt] at h1 h2
    rw [hlen]; simp only [Int32.toNatClampNeg]; omega
  exact own_aaloadV X hx hby hZ eT A ht hj (v := .ref xs[j.toNatClampNeg]) (by simp [List.getD_eq_getElem?_getD, hlt]) hd hp (k _)
end OwnHeap

section OwnUp
variable {p : Program} {l : Launch} {e : Env} {R : Room} {s : State} {m : MethodId} {args : Array Value} {below : List Frame} {meth : Method} {c : Code} {T : State} {locs : List Loc} {cells slots : Nat} {G : State → Outcome → Prop} {B : ByteArray} {pc pc' : Nat} {Ls Ls' : Array Slot} {st : List Value} {Z : State} {a0 : Array Value} {h h' h'' : Heap}
theorem own_upM (X : Stand p l e R s m args below meth c T locs cells slots) (hx : p.tables.exec = Jvm.exec) (hby : c.code = B) {own : String} {index nl : Nat} {as' : Array Value} {cc ss maxL : Nat} {bytes : ByteArray} {ret : Option FieldType} {rm : Room} {Q : Option Value → Heap → List Loc → Prop} {C owner : String} {y z : MethodName} (hml : c.maxLocals = nl) (hZ : Z.Warmed39 s.vm) (hown : s.vm.findClass own = some m.cls) (w1 : (Jvm.Cond.methodLink own index y).before args s = true) (w8 : (Jvm.Cond.sameMethod y.cls owner y.name y.desc).before args s = true) (w2 : (Jvm.Cond.declares ⟨owner, y.name, y.desc⟩).before args s = true) (hy : owner ≠ "java/lang/invoke/MethodHandle" ∧ owner ≠ "java/lang/invoke/VarHandle") (w5 : (Jvm.Cond.selects C y z).before args s = true) (w6 : (Jvm.Cond.instanceMethod z).before args s = true) (w3 : (Jvm.Cond.initialized z.cls).before a0 Z = true) (w4 : (Jvm.Cond.code z bytes maxL ret).before a0 Z = true)
    (hM : own_Met l Z z bytes maxL ret rm as' h Q) (W : Nat) (hcc : rm.cells = cc) (hss : rm.slots = ss) (hf : rm.frames + 1 ≤ R.frames) (hl : W + (maxL + 11) + rm.locals ≤ R.locals) (hsz : Ls.size = nl) {a : Addr} (hE : Exa Z h a C) {argsL rest : List Value} {ps : List FieldType} {r : Option FieldType} (hpd : parseMethodDescriptor y.desc = some ⟨ps, r⟩) (hlen : argsL.length = ps.length) (hst : st = argsL.reverse ++ .ref a :: rest) (hW : (rest.map fun v => v.category).sum ≤ W) (hd : decode B pc = .ok (.invokevirtual index, 3)) (hp : pc + 3 = pc') (hargs : (.ref a :: argsL).toArray = as') (eT : T.heap = h) (hc : cells + cc ≤ R.cells) (hs : slots + ss ≤ R.slots)
    (k : ∀ (v : Option Value) (T' : State) (h' : Heap) (L : List Loc), Stand p l e R s m args below meth c T' (locs ++ L) (cells + cc) (slots + ss) → T'.heap = h' → Q v h' L → own_E p.tables e below G (T'.setTop (mkF m pc' Ls (v.toList ++ rest)))) : own_E p.tables e below G (T.setTop (mkF m pc Ls st)) := by
  subst hcc hss hp
  obtain ⟨cq, kq, qa, qb, qc⟩ := isOf hZ eT hE
  obtain ⟨v, vm₁, ⟨T', L', k', n'⟩, -, X', ⟨L, hQ, q1, q2, q3⟩, stp⟩ := X.virtualBackUp hx hown w1 w8 w2 hy w5 w6 (own_back hM hZ w4 w3 hf hl) qa qc (g := mkF m pc Ls st) rfl (by rw [hml]; exact hsz) (Steps.refl _) (argsL := argsL) (rest := rest) (lenOf hpd hlen) hst (by show 2 * 0 + _ ≤ _; rw [Nat.mul_zero, Nat.zero_add]; exact hW) (hb hby hd) (fun _ _ => ⟨hargs, eT, hc, hs⟩)
  dsimp only at X' hQ q1 q2 q3 stp
  subst q1 q2 q3
  exact own_tr stp (k v T' _ L X' rfl hQ)
end OwnUp

section OwnFive
variable {p : Program} {l : Launch} {e : Env} {R : Room} {s : State} {m : MethodId} {args : Array Value} {below : List Frame} {meth : Method} {c : Code} {T : State} {locs : List Loc} {cells slots : Nat} {G : State → Outcome → Prop} {B : ByteArray} {pc pc' : Nat} {Ls Ls' : Array Slot} {st : List Value} {Z : State} {a0 : Array Value} {h h' h'' : Heap}
theorem own_lswitch (X : Stand p l e R s m args below meth c T locs cells slots) (hx : p.tables.exec = Jvm.exec) (hby : c.code = B) {x : Int32} {d : Int} {ps : Array (Int × Int)} {len : Nat} {a off : Int} (hd : decode B pc = .ok (.lookupswitch d ps, len)) (hsorted : (ps.toList.zip (ps.toList.drop 1)).all (fun (a, next) => a.1 < next.1) = true) (hfind : ps.find? (·.1 == x.toInt) = some (a, off)) (hoff : 0 ≤ (pc : Int) + off) (hp : ((pc : Int) + off).toNat = pc')
    (k : own_E p.tables e below G (T.setTop (mkF m pc' Ls (st)))) : own_E p.tables e below G (T.setTop (mkF m pc Ls (.int x :: st))) := by
  subst hp; exact own_go (fun t q => X.lookupswitchHit hx (g := mkF m pc Ls (.int x :: st)) rfl rfl (hb hby hd) hsorted hfind hoff t q) k
theorem own_superM (X : Stand p l e R s m args below meth c T locs cells slots) (hx : p.tables.exec = Jvm.exec) (hby : c.code = B) {own : String} {index nl : Nat} {as' : Array Value} {cc ss maxL : Nat} {bytes : ByteArray} {ret : Option FieldType} {rm : Room} {Q : Option Value → Heap → List Loc → Prop} {K : String} {y : MethodName} (hml : c.maxLocals = nl) (hZ : Z.Warmed39 s.vm) (hown : s.vm.findClass own = some m.cls) (w1 : (Jvm.Cond.methodLink own index y).before a0 Z = true) (w2 : (Jvm.Cond.sameMethod y.cls y.cls y.name y.desc).before a0 Z = true) (w5 : (Jvm.Cond.instanceMethod y).before a0 Z = true) (w6 : (Jvm.Cond.superclass own y.cls).before a0 Z = true) (hn : y.name ≠ "<init>") (w3 : (Jvm.Cond.initialized y.cls).before a0 Z = true) (w4 : (Jvm.Cond.code y bytes maxL ret).before a0 Z = true)
    (hM : own_Met l Z y bytes maxL ret rm as' h Q) (W : Nat) (hcc : rm.cells = cc) (hss : rm.slots = ss) (hf : rm.frames + 1 ≤ R.frames) (hl : W + (maxL + 11) + rm.locals ≤ R.locals) (hsz : Ls.size = nl) {a : Addr} (hE : Ins Z h a K true) {argsL rest : List Value} {ps : List FieldType} {r : Option FieldType} (hpd : parseMethodDescriptor y.desc = some ⟨ps, r⟩) (hlen : argsL.length = ps.length) (hst : st = argsL.reverse ++ .ref a :: rest) (hW : (rest.map fun v => v.category).sum ≤ W) (hd : decode B pc = .ok (.invokespecial index, 3)) (hp : pc + 3 = pc') (hargs : (.ref a :: argsL).toArray = as') (eT : T.heap = h) (hc : cells + cc ≤ R.cells) (hs : slots + ss ≤ R.slots)
    (k : ∀ (v : Option Value) (T' : State) (h' : Heap) (L : List Loc), Stand p l e R s m args below meth c T' (locs ++ L) (cells + cc) (slots + ss) → T'.heap = h' → Q v h' L → own_E p.tables e below G (T'.setTop (mkF m pc' Ls (v.toList ++ rest)))) : own_E p.tables e below G (T.setTop (mkF m pc Ls st)) := by
  subst hcc hss hp
  obtain ⟨v, vm₁, ⟨T', L', k', n'⟩, -, X', ⟨L, hQ, q1, q2, q3⟩, stp⟩ := superBack X hx hZ hown w1 w2 w5 w6 hn (own_back hM hZ w4 w3 hf hl) eT hE (g := mkF m pc Ls st) rfl (by rw [hml]; exact hsz) w4 (argsL := argsL) (rest := rest) (lenOf hpd hlen) hst (by show 2 * 0 + _ ≤ _; rw [Nat.mul_zero, Nat.zero_add]; exact hW) (hb hby hd) (fun _ _ => ⟨hargs, eT, hc, hs⟩)
  dsimp only at X' hQ q1 q2 q3 stp
  subst q1 q2 q3
  exact own_tr stp (k v T' _ L X' rfl hQ)
theorem own_cp (X : Stand p l e R s m args below meth c T locs cells slots) (hx : p.tables.exec = Jvm.exec) (hby : c.code = B) (hZ : Z.Warmed39 s.vm) {own : String} {index nl : Nat} (hml : c.maxLocals = nl) (hown : s.vm.findClass own = some m.cls) (w1 : (Jvm.Cond.methodLink own index Jvm.Stand.acN).before a0 Z = true) (w2 : (Jvm.Cond.native Jvm.Stand.acN).before a0 Z = true) (w3 : (Jvm.Cond.static Jvm.Stand.acN).before a0 Z = true) (w4 : (Jvm.Cond.initialized "java/lang/System").before a0 Z = true) (eT : T.heap = h)
    {a b : Addr} {k k' : ClassId} {ty : FieldType} {z z' sp dp nn : Int32} {vs vd us : List Value} {dv dd : Value} (A : Arv Z h a k ty z vs dv) (D : Arv Z h b k' ty z' vd dd) (hty : refKind ty = false) (h1 : ¬ sp < 0) (h2 : ¬ dp < 0) (h3 : ¬ nn < 0) (h4 : sp.toNatClampNeg + nn.toNatClampNeg ≤ z.toNatClampNeg) (h5 : dp.toNatClampNeg + nn.toNatClampNeg ≤ z'.toNatClampNeg)
    (hus : us = (List.range nn.toNatClampNeg).map fun i => vs.getD (sp.toNatClampNeg + i) dv) (hl : dp.toNatClampNeg + nn.toNatClampNeg ≤ vd.length) {n0 : Nat} (N : Fr n0 locs) (ge : n0 ≤ b) (hsz : Ls.size = nl) (hd : decode B pc = .ok (.invokestatic index, 3)) (hp : pc + 3 = pc') (hf : 1 ≤ R.frames) {W : Nat} (hW : (st.map fun v => v.category).sum ≤ W) (hlo : W + (nativeFrameWords "java/lang/System" "arraycopy" 5 + 11) ≤ R.locals)
    (k : ∀ (T' : State) (h' : Heap) (L : List Loc), Stand p l e R s m args below meth c T' L cells slots → T'.heap = h' → Fr n0 L → Keep h h' [b] → Arv Z h' b k' ty z' (vd.take dp.toNatClampNeg ++ us ++ vd.drop (dp.toNatClampNeg + nn.toNatClampNeg)) dd → own_E p.tables e below G (T'.setTop (mkF m pc' Ls (st)))) : own_E p.tables e below G (T.setTop (mkF m pc Ls (.int nn :: .int dp :: .ref b :: .int sp :: .ref a :: st))) := by
  subst hp
  obtain ⟨T', h', L, X', e', N', K', A', stp⟩ := cpA X hx hZ hown w1 w2 w3 w4 eT A D (Or.inl ⟨rfl, hty⟩) h1 h2 h3 h4 h5 hus hl N ge (g := mkF m pc Ls (.int nn :: .int dp :: .ref b :: .int sp :: .ref a :: st)) rfl (by rw [hml]; exact hsz) rfl (hb hby hd) hf (by show 2 * 0 + _ ≤ _; rw [Nat.mul_zero, Nat.zero_add]; exact hW) hlo
  exact own_go stp (k T' h' L X' e' N' K' A')
theorem own_clone (X : Stand p l e R s m args below meth c T locs cells slots) (hx : p.tables.exec = Jvm.exec) (hby : c.code = B) (hZ : Z.Warmed39 s.vm) {own ad : String} {index nl : Nat} (hml : c.maxLocals = nl) (hown : s.vm.findClass own = some m.cls) (w1 : (Jvm.Cond.methodLink own index ⟨ad, "clone", "()Ljava/lang/Object;"⟩).before a0 Z = true) (w2 : (Jvm.Cond.sameMethod ad "java/lang/Object" "clone" "()Ljava/lang/Object;").before a0 Z = true) (w3 : (Jvm.Cond.native ⟨"java/lang/Object", "clone", "()Ljava/lang/Object;"⟩).before a0 Z = true) (w4 : (Jvm.Cond.instanceMethod ⟨"java/lang/Object", "clone", "()Ljava/lang/Object;"⟩).before a0 Z = true) (w5 : (Jvm.Cond.selects ad ⟨ad, "clone", "()Ljava/lang/Object;"⟩ ⟨"java/lang/Object", "clone", "()Ljava/lang/Object;"⟩).before a0 Z = true) (w6 : (Jvm.Cond.castable ad "java/lang/Cloneable").before a0 Z = true) (eT : T.heap = h)
    {a : Addr} {kA : ClassId} {ty : FieldType} {z : Int32} {vs : List Value} {dv : Value} (F : Arv Z h a kA ty z vs dv) (Ea : Exa Z h a ad) (hsz : Ls.size = nl) (hd : decode B pc = .ok (.invokevirtual index, 3)) (hp : pc + 3 = pc') (hf : 1 ≤ R.frames) {W cap : Nat} (hW : (st.map fun v => v.category).sum ≤ W) (hl : W + 14 ≤ R.locals) (hcap : z.toNatClampNeg ≤ cap) (hc : cells + 1 ≤ R.cells) (hsl : slots + cap ≤ R.slots)
    (k : ∀ (T' : State) (h' : Heap) (b : Addr), b = h.size → Stand p l e R s m args below meth c T' locs (cells + 1) (slots + cap) → T'.heap = h' → Ext h h' → Arv Z h' b kA ty z vs dv → Exa Z h' b ad → own_E p.tables e below G (T'.setTop (mkF m pc' Ls (.ref b :: st)))) : own_E p.tables e below G (T.setTop (mkF m pc Ls (.ref a :: st))) := by
  subst hp
  obtain ⟨cl, A, q1, S, q3, H, Gf⟩ := F
  have FC : FitC Z cl := fitC_of A fun i hi v hv => by rw [H i hi] at hv; cases hv; exact Gf i hi
  obtain ⟨T', h', X', e', ex, A', E', stp⟩ := cloneA X hx hZ hown w1 w2 w3 w4 w5 w6 eT A Ea FC (g := mkF m pc Ls (.ref a :: st)) rfl (by rw [hml]; exact hsz) rfl (hb hby hd) hf (by show 2 * 0 + _ ≤ _; rw [Nat.mul_zero, Nat.zero_add]; exact hW) hl (by rw [S]; exact hcap) hc hsl
  exact own_go stp (k T' h' h.size rfl X' e' ex ⟨cloneOf cl, A', q1, S, q3, H, Gf⟩ E')
theorem own_newPE (X : Stand p l e R s m args below meth c T locs cells slots) (hx : p.tables.exec = Jvm.exec) (hby : c.code = B) (hZ : Z.Warmed39 s.vm) {aty : ArrayType} (w : (Jvm.Cond.arrayClass (newarray.typeOf aty)).before a0 Z = true) (eT : T.heap = h) {n : Int32} {cap : Nat} (hd : decode B pc = .ok (.newarray aty, 2)) (hp : pc + 2 = pc') (hn : ¬ n < 0) (hcap : n.toNatClampNeg ≤ cap) (hbig : cap * 8 ≤ 536870912) (hc : cells + 1 ≤ R.cells) (hl : slots + cap ≤ R.slots) {ad : String} (had : "[" ++ (newarray.typeOf aty).toString = ad)
    (k : ∀ (T' : State) (h' : Heap) (b : Addr) (kA : ClassId), b = h.size → Stand p l e R s m args below meth c T' locs (cells + 1) (slots + cap) → T'.heap = h' → Ext h h' → Arv Z h' b kA (newarray.typeOf aty) n [] (defaultValue (newarray.typeOf aty)) → Exa Z h' b ad → own_E p.tables e below G (T'.setTop (mkF m pc' Ls (.ref b :: st)))) : own_E p.tables e below G (T.setTop (mkF m pc Ls (.int n :: st))) := by
  subst hp
  obtain ⟨T', h', kA, X', e', ex, A', E', stp⟩ := newPE X hx hZ w eT (g := mkF m pc Ls (.int n :: st)) rfl (hb hby hd) rfl hn hcap hbig hc hl had
  exact own_go stp (k T' h' h.size kA rfl X' e' ex (Arv.new A' hn) E')
theorem own_nfs {C : String} {y z : MethodName} {s : State} {args : Array Value} (wz : (Jvm.Cond.selects C z z).before args s = true) (hc : z.cls = y.cls) : NotFace s y := fun r0 h0 => by
  obtain ⟨c2, r2, m2, q1, q2, q3, q4, kP, hkP, hkPi⟩ := Cond.selects_spec wz
  have nf : NotFace s z := notFace_of_selects wz
  obtain ⟨kr, hkr, hni⟩ := nf _ q3
  have e2 := findClass_of_methodNamed q3
  rw [hc] at e2
  have e3 : r0.cls = _ := Option.some.inj ((findClass_of_methodNamed h0).symm.trans e2)
  rw [← e3] at hkr
  exact ⟨kr, hkr, hni⟩
theorem own_decl {y : MethodName} {bytes : ByteArray} {maxL : Nat} {ret : Option FieldType} (w1 : (Jvm.Cond.instanceMethod y).before a0 Z = true) (w2 : (Jvm.Cond.code y bytes maxL ret).before a0 Z = true) : (Jvm.Cond.declares y).before a0 Z = true := by
  obtain ⟨mk, methM, hnamed, hmethM, hstM, habM⟩ := Cond.instanceMethod_spec w1
  obtain ⟨m2, cM, q1, -, -, -, -, -, -, hsig⟩ := Cond.code_spec hnamed w2
  cases hmethM.symm.trans q1
  simp [Cond.before, Cond.holds, Cond.value, hnamed, hmethM, hstM, hsig]
theorem own_same {C : String} {y z : MethodName} (w : (Jvm.Cond.declares y).before a0 Z = true) (wz : (Jvm.Cond.selects C z z).before a0 Z = true) (hc : z.cls = y.cls) (hy : y.cls ≠ "java/lang/invoke/MethodHandle" ∧ y.cls ≠ "java/lang/invoke/VarHandle") : (Jvm.Cond.sameMethod y.cls y.cls y.name y.desc).before a0 Z = true := by
  obtain ⟨r0, r, hn, hrm, -, -⟩ := Cond.declares_spec w
  have hf := State.methodFound?_of_named hn hy
  obtain ⟨c2, r2, m2, q1, q2, q3, q4, kP, hkP, hkPi⟩ := Cond.selects_spec wz
  have e1 := findClass_of_methodNamed hn
  have nf : NotFace Z z := notFace_of_selects wz
  obtain ⟨kr, hkr, hni⟩ := nf _ q3
  have e2 := findClass_of_methodNamed q3
  rw [hc] at e2
  have e3 : r0.cls = _ := Option.some.inj (e1.symm.trans e2)
  rw [← e3] at hkr
  have hn' : Z.methodNamed? ⟨y.cls, y.name, y.desc⟩ = some r0 := hn
  simp [Cond.before, Cond.holds, Cond.value, e1, hf, hn', hkr, hni]
end OwnFive

section OwnSix
variable {p : Program} {l : Launch} {e : Env} {R : Room} {s : State} {m : MethodId} {args : Array Value} {below : List Frame} {meth : Method} {c : Code} {T : State} {locs : List Loc} {cells slots : Nat} {G : State → Outcome → Prop} {B : ByteArray} {pc pc' : Nat} {Ls Ls' : Array Slot} {st : List Value} {Z : State} {a0 : Array Value} {h h' h'' : Heap}
def own_D (Z : State) (h : Heap) (a : Addr) (n : Int32) (xs : List Value) : Prop := ∃ kA, Arv Z h a kA .double n xs (.double (0 : UInt64)) ∧ Exa Z h a "[D"
def own_DD (Z : State) (h : Heap) (a : Addr) (n : Int32) (xs : List Value) : Prop := ∃ kA, Arv Z h a kA (.array .double) n xs .null ∧ OvrA Z kA .double "[D"
def own_IA (Z : State) (h : Heap) (a : Addr) (n : Int32) (xs : List Value) : Prop := ∃ kA, Arv Z h a kA .int n xs (.int (0 : Int32))
def own_ZA (Z : State) (h : Heap) (a : Addr) (n : Int32) (xs : List Value) : Prop := ∃ kA, Arv Z h a kA .boolean n xs (.int (0 : Int32))
theorem own_nl {a b n : Nat} (h : a < n) (g : b = n) : a ≠ b := by omega
theorem own_nl1 {a b n : Nat} (h : a < n) (g : b = n + 1) : a ≠ b := by omega
theorem own_nl2 {a b n : Nat} (h : a < n) (g : b = n + 2) : a ≠ b := by omega
theorem own_g0 {b n : Nat} (g : b = n) : n ≤ b := by omega
theorem own_g1 {b n : Nat} (g : b = n + 1) : n ≤ b := by omega
theorem own_g2 {b n : Nat} (g : b = n + 2) : n ≤ b := by omega
theorem own_g01 {a b n : Nat} (g : a = n) (g' : b = n + 1) : a ≠ b := by omega
theorem own_g02 {a b n : Nat} (g : a = n) (g' : b = n + 2) : a ≠ b := by omega
theorem own_g12 {a b n : Nat} (g : a = n + 1) (g' : b = n + 2) : a ≠ b := by omega
theorem own_ni0 {a : Addr} : a ∉ ([] : List Addr) := by simp
theorem own_niS {a w : Addr} {ws : List Addr} (h : a ≠ w) (t : a ∉ ws) : a ∉ w :: ws := by simp [h, t]
theorem own_D.ext {a : Addr} {n : Int32} {xs : List Value} (F : own_D Z h a n xs) (E : Ext h h') : own_D Z h' a n xs := by obtain ⟨k, A, E1⟩ := F; exact ⟨k, A.ext E, E1.ext E⟩
theorem own_D.other {a b : Addr} {sl : Nat} {v : Value} {n : Int32} {xs : List Value} (F : own_D Z h b n xs) (W : Wr h h' a sl v) (q : b ≠ a) : own_D Z h' b n xs := by obtain ⟨k, A, E1⟩ := F; exact ⟨k, A.other W q, E1.wr W⟩
theorem own_D.keep {a : Addr} {ws : List Addr} {n : Int32} {xs : List Value} (F : own_D Z h a n xs) (K : Keep h h' ws) (q : a ∉ ws) : own_D Z h' a n xs := by obtain ⟨k, A, E1⟩ := F; exact ⟨k, A.keep K q, E1.keep K⟩
theorem own_D.lt {a : Addr} {n : Int32} {xs : List Value} (F : own_D Z h a n xs) : a < h.size := by obtain ⟨k, A, E1⟩ := F; exact A.lt
theorem own_DD.ext {a : Addr} {n : Int32} {xs : List Value} (F : own_DD Z h a n xs) (E : Ext h h') : own_DD Z h' a n xs := by obtain ⟨k, A, E1⟩ := F; exact ⟨k, A.ext E, E1⟩
theorem own_DD.other {a b : Addr} {sl : Nat} {v : Value} {n : Int32} {xs : List Value} (F : own_DD Z h b n xs) (W : Wr h h' a sl v) (q : b ≠ a) : own_DD Z h' b n xs := by obtain ⟨k, A, E1⟩ := F; exact ⟨k, A.other W q, E1⟩
theorem own_DD.keep {a : Addr} {ws : List Addr} {n : Int32} {xs : List Value} (F : own_DD Z h a n xs) (K : Keep h h' ws) (q : a ∉ ws) : own_DD Z h' a n xs := by obtain ⟨k, A, E1⟩ := F; exact ⟨k, A.keep K q, E1⟩
theorem own_DD.lt {a : Addr} {n : Int32} {xs : List Value} (F : own_DD Z h a n xs) : a < h.size := by obtain ⟨k, A, E1⟩ := F; exact A.lt
theorem own_IA.ext {a : Addr} {n : Int32} {xs : List Value} (F : own_IA Z h a n xs) (E : Ext h h') : own_IA Z h' a n xs := by obtain ⟨k, A⟩ := F; exact ⟨k, A.ext E⟩
theorem own_IA.other {a b : Addr} {sl : Nat} {v : Value} {n : Int32} {xs : List Value} (F : own_IA Z h b n xs) (W : Wr h h' a sl v) (q : b ≠ a) : own_IA Z h' b n xs := by obtain ⟨k, A⟩ := F; exact ⟨k, A.other W q⟩
theorem own_IA.keep {a : Addr} {ws : List Addr} {n : Int32} {xs : List Value} (F : own_IA Z h a n xs) (K : Keep h h' ws) (q : a ∉ ws) : own_IA Z h' a n xs := by obtain ⟨k, A⟩ := F; exact ⟨k, A.keep K q⟩
theorem own_IA.lt {a : Addr} {n : Int32} {xs : List Value} (F : own_IA Z h a n xs) : a < h.size := by obtain ⟨k, A⟩ := F; exact A.lt
theorem own_ZA.ext {a : Addr} {n : Int32} {xs : List Value} (F : own_ZA Z h a n xs) (E : Ext h h') : own_ZA Z h' a n xs := by obtain ⟨k, A⟩ := F; exact ⟨k, A.ext E⟩
theorem own_ZA.other {a b : Addr} {sl : Nat} {v : Value} {n : Int32} {xs : List Value} (F : own_ZA Z h b n xs) (W : Wr h h' a sl v) (q : b ≠ a) : own_ZA Z h' b n xs := by obtain ⟨k, A⟩ := F; exact ⟨k, A.other W q⟩
theorem own_ZA.keep {a : Addr} {ws : List Addr} {n : Int32} {xs : List Value} (F : own_ZA Z h a n xs) (K : Keep h h' ws) (q : a ∉ ws) : own_ZA Z h' a n xs := by obtain ⟨k, A⟩ := F; exact ⟨k, A.keep K q⟩
theorem own_ZA.lt {a : Addr} {n : Int32} {xs : List Value} (F : own_ZA Z h a n xs) : a < h.size := by obtain ⟨k, A⟩ := F; exact A.lt
theorem own_D.exa {a : Addr} {n : Int32} {xs : List Value} (F : own_D Z h a n xs) : Exa Z h a "[D" := F.choose_spec.2
theorem own_newD (X : Stand p l e R s m args below meth c T locs cells slots) (hx : p.tables.exec = Jvm.exec) (hby : c.code = B) (hZ : Z.Warmed39 s.vm) (w : (Jvm.Cond.arrayClass .double).before a0 Z = true) (eT : T.heap = h) {n : Int32} {cap : Nat} {vs : List Value} (hd : decode B pc = .ok (.newarray .double, 2)) (hp : pc + 2 = pc') (hn : ¬ n < 0) (hcap : n.toNatClampNeg ≤ cap) (hbig : cap * 8 ≤ 536870912) (hc : cells + 1 ≤ R.cells) (hl : slots + cap ≤ R.slots) (hvs : List.replicate cap (.double (0 : UInt64)) = vs)
    (k : ∀ (T' : State) (h' : Heap) (b : Addr), b = h.size → Stand p l e R s m args below meth c T' locs (cells + 1) (slots + cap) → T'.heap = h' → Ext h h' → own_D Z h' b n vs → own_E p.tables e below G (T'.setTop (mkF m pc' Ls (.ref b :: st)))) : own_E p.tables e below G (T.setTop (mkF m pc Ls (.int n :: st))) := by
  subst hvs
  refine own_newPE (aty := .double) X hx hby hZ w eT hd hp hn hcap hbig hc hl (ad := "[" ++ (newarray.typeOf .double).toString) rfl ?_
  intro T' h' b kA g X' e' E' V A
  exact k T' h' b g X' e' E' ⟨kA, V.pad (pad_rep [] (.double (0 : UInt64)) cap), A⟩
theorem own_newIA (X : Stand p l e R s m args below meth c T locs cells slots) (hx : p.tables.exec = Jvm.exec) (hby : c.code = B) (hZ : Z.Warmed39 s.vm) (w : (Jvm.Cond.arrayClass .int).before a0 Z = true) (eT : T.heap = h) {n : Int32} {cap : Nat} {vs : List Value} (hd : decode B pc = .ok (.newarray .int, 2)) (hp : pc + 2 = pc') (hn : ¬ n < 0) (hcap : n.toNatClampNeg ≤ cap) (hbig : cap * 8 ≤ 536870912) (hc : cells + 1 ≤ R.cells) (hl : slots + cap ≤ R.slots) (hvs : List.replicate cap (.int (0 : Int32)) = vs)
    (k : ∀ (T' : State) (h' : Heap) (b : Addr), b = h.size → Stand p l e R s m args below meth c T' locs (cells + 1) (slots + cap) → T'.heap = h' → Ext h h' → own_IA Z h' b n vs → own_E p.tables e below G (T'.setTop (mkF m pc' Ls (.ref b :: st)))) : own_E p.tables e below G (T.setTop (mkF m pc Ls (.int n :: st))) := by
  subst hvs
  refine own_newPE (aty := .int) X hx hby hZ w eT hd hp hn hcap hbig hc hl (ad := "[" ++ (newarray.typeOf .int).toString) rfl ?_
  intro T' h' b kA g X' e' E' V A
  exact k T' h' b g X' e' E' ⟨kA, V.pad (pad_rep [] (.int (0 : Int32)) cap)⟩
theorem own_newZA (X : Stand p l e R s m args below meth c T locs cells slots) (hx : p.tables.exec = Jvm.exec) (hby : c.code = B) (hZ : Z.Warmed39 s.vm) (w : (Jvm.Cond.arrayClass .boolean).before a0 Z = true) (eT : T.heap = h) {n : Int32} {cap : Nat} {vs : List Value} (hd : decode B pc = .ok (.newarray .boolean, 2)) (hp : pc + 2 = pc') (hn : ¬ n < 0) (hcap : n.toNatClampNeg ≤ cap) (hbig : cap * 8 ≤ 536870912) (hc : cells + 1 ≤ R.cells) (hl : slots + cap ≤ R.slots) (hvs : List.replicate cap (.int (0 : Int32)) = vs)
    (k : ∀ (T' : State) (h' : Heap) (b : Addr), b = h.size → Stand p l e R s m args below meth c T' locs (cells + 1) (slots + cap) → T'.heap = h' → Ext h h' → own_ZA Z h' b n vs → own_E p.tables e below G (T'.setTop (mkF m pc' Ls (.ref b :: st)))) : own_E p.tables e below G (T.setTop (mkF m pc Ls (.int n :: st))) := by
  subst hvs
  refine own_newPE (aty := .boolean) X hx hby hZ w eT hd hp hn hcap hbig hc hl (ad := "[" ++ (newarray.typeOf .boolean).toString) rfl ?_
  intro T' h' b kA g X' e' E' V A
  exact k T' h' b g X' e' E' ⟨kA, V.pad (pad_rep [] (.int (0 : Int32)) cap)⟩
theorem own_newDD (X : Stand p l e R s m args below meth c T locs cells slots) (hx : p.tables.exec = Jvm.exec) (hby : c.code = B) (hZ : Z.Warmed39 s.vm) {own : String} {index : Nat} (hown : s.vm.findClass own = some m.cls) (w1 : (Jvm.Cond.classLink own index "[D").before a0 Z = true) (w2 : (Jvm.Cond.arrayOver (.array .double)).before a0 Z = true) (eT : T.heap = h) {n : Int32} {cap : Nat} {vs : List Value} (hd : decode B pc = .ok (.anewarray index, 3)) (hp : pc + 3 = pc') (hn : ¬ n < 0) (hcap : n.toNatClampNeg ≤ cap) (hbig : cap * 8 ≤ 536870912) (hc : cells + 1 ≤ R.cells) (hl : slots + cap ≤ R.slots) (hvs : List.replicate cap .null = vs)
    (k : ∀ (T' : State) (h' : Heap) (b : Addr), b = h.size → Stand p l e R s m args below meth c T' locs (cells + 1) (slots + cap) → T'.heap = h' → Ext h h' → own_DD Z h' b n vs → own_E p.tables e below G (T'.setTop (mkF m pc' Ls (.ref b :: st)))) : own_E p.tables e below G (T.setTop (mkF m pc Ls (.int n :: st))) := by
  subst hvs hp
  obtain ⟨T', h', cA, X', e', E', A', -, O', stp⟩ := newRA X hx hZ hown (C := "[D") rfl w1 w2 eT (g := mkF m pc Ls (.int n :: st)) rfl (hb hby hd) rfl hn hcap hbig hc hl rfl
  exact own_go stp (k T' h' _ rfl X' e' E' ⟨cA, (Arv.new A' hn).pad (pad_rep [] .null cap), O'⟩)
theorem own_gridD (X : Stand p l e R s m args below meth c T locs cells slots) (hx : p.tables.exec = Jvm.exec) (hby : c.code = B) (hZ : Z.Warmed39 s.vm) {own : String} {index : Nat} (hown : s.vm.findClass own = some m.cls) (w1 : (Jvm.Cond.classLink own index "[[D").before a0 Z = true) (w2 : (Jvm.Cond.arrayOver (.array .double)).before a0 Z = true) (w3 : (Jvm.Cond.arrayClass .double).before a0 Z = true) (eT : T.heap = h) (hd : decode B pc = .ok (.multianewarray index 2, 4)) (hp : pc + 4 = pc') (hc : cells + 3 ≤ R.cells) (hl : slots + 6 ≤ R.slots)
    (k : ∀ (T' : State) (h' : Heap) (b x y : Addr), b = h.size → x = h.size + 1 → y = h.size + 2 → Stand p l e R s m args below meth c T' locs (cells + 3) (slots + 6) → T'.heap = h' → Ext h h' → own_DD Z h' b 2 [.ref x, .ref y] → own_D Z h' x 2 [.double (0 : UInt64), .double (0 : UInt64)] → own_D Z h' y 2 [.double (0 : UInt64), .double (0 : UInt64)] → own_E p.tables e below G (T'.setTop (mkF m pc' Ls (.ref b :: st)))) : own_E p.tables e below G (T.setTop (mkF m pc Ls (.int 2 :: .int 2 :: st))) := by
  subst hp
  obtain ⟨T', h', cA, comp, X', e', E', V', O', -, hI, stp⟩ := gridM X hx hZ hown (C := "[D") (ad := "[[D") rfl rfl w1 w2 w3 eT (g := mkF m pc Ls (.int 2 :: .int 2 :: st)) rfl (hb hby hd) rfl (by decide) (by decide) (N := 2) rfl (xs := [h.size + 1, h.size + 2]) rfl (cap := 2) (by decide) (by decide) (by decide) rfl rfl hc hl
  have I1 := hI 0 _ rfl
  have I2 := hI 1 _ rfl
  exact own_go stp (k T' h' _ _ _ rfl rfl rfl X' e' E' ⟨cA, V', O'⟩ ⟨comp, (Arv.new I1.1 (by decide)).pad (pad_rep [] (.double (0 : UInt64)) 2), I1.2⟩ ⟨comp, (Arv.new I2.1 (by decide)).pad (pad_rep [] (.double (0 : UInt64)) 2), I2.2⟩)
theorem own_cloneD (X : Stand p l e R s m args below meth c T locs cells slots) (hx : p.tables.exec = Jvm.exec) (hby : c.code = B) (hZ : Z.Warmed39 s.vm) {own : String} {index nl : Nat} (hml : c.maxLocals = nl) (hown : s.vm.findClass own = some m.cls) (w1 : (Jvm.Cond.methodLink own index ⟨"[D", "clone", "()Ljava/lang/Object;"⟩).before a0 Z = true) (w2 : (Jvm.Cond.sameMethod "[D" "java/lang/Object" "clone" "()Ljava/lang/Object;").before a0 Z = true) (w3 : (Jvm.Cond.native ⟨"java/lang/Object", "clone", "()Ljava/lang/Object;"⟩).before a0 Z = true) (w4 : (Jvm.Cond.instanceMethod ⟨"java/lang/Object", "clone", "()Ljava/lang/Object;"⟩).before a0 Z = true) (w5 : (Jvm.Cond.selects "[D" ⟨"[D", "clone", "()Ljava/lang/Object;"⟩ ⟨"java/lang/Object", "clone", "()Ljava/lang/Object;"⟩).before a0 Z = true) (w6 : (Jvm.Cond.castable "[D" "java/lang/Cloneable").before a0 Z = true) (eT : T.heap = h)
    {a : Addr} {n : Int32} {vs : List Value} (F : own_D Z h a n vs) (hsz : Ls.size = nl) (hd : decode B pc = .ok (.invokevirtual index, 3)) (hp : pc + 3 = pc') (hf : 1 ≤ R.frames) {W cap : Nat} (hW : (st.map fun v => v.category).sum ≤ W) (hl : W + 14 ≤ R.locals) (hcap : n.toNatClampNeg ≤ cap) (hc : cells + 1 ≤ R.cells) (hsl : slots + cap ≤ R.slots)
    (k : ∀ (T' : State) (h' : Heap) (b : Addr), b = h.size → Stand p l e R s m args below meth c T' locs (cells + 1) (slots + cap) → T'.heap = h' → Ext h h' → own_D Z h' b n vs → own_E p.tables e below G (T'.setTop (mkF m pc' Ls (.ref b :: st)))) : own_E p.tables e below G (T.setTop (mkF m pc Ls (.ref a :: st))) := by
  obtain ⟨kA, A, Ex⟩ := F
  exact own_clone X hx hby hZ hml hown w1 w2 w3 w4 w5 w6 eT A Ex hsz hd hp hf hW hl hcap hc hsl fun T' h' b g X' e' E' V A => k T' h' b g X' e' E' ⟨kA, V, A⟩
theorem own_cpD (X : Stand p l e R s m args below meth c T locs cells slots) (hx : p.tables.exec = Jvm.exec) (hby : c.code = B) (hZ : Z.Warmed39 s.vm) {own : String} {index nl : Nat} (hml : c.maxLocals = nl) (hown : s.vm.findClass own = some m.cls) (w1 : (Jvm.Cond.methodLink own index Jvm.Stand.acN).before a0 Z = true) (w2 : (Jvm.Cond.native Jvm.Stand.acN).before a0 Z = true) (w3 : (Jvm.Cond.static Jvm.Stand.acN).before a0 Z = true) (w4 : (Jvm.Cond.initialized "java/lang/System").before a0 Z = true) (eT : T.heap = h)
    {a b : Addr} {z z' sp dp nn : Int32} {vs vd us ws : List Value} (A : own_D Z h a z vs) (D : own_D Z h b z' vd) (h1 : ¬ sp < 0) (h2 : ¬ dp < 0) (h3 : ¬ nn < 0) (h4 : sp.toNatClampNeg + nn.toNatClampNeg ≤ z.toNatClampNeg) (h5 : dp.toNatClampNeg + nn.toNatClampNeg ≤ z'.toNatClampNeg)
    (hus : us = (List.range nn.toNatClampNeg).map fun i => vs.getD (sp.toNatClampNeg + i) (.double (0 : UInt64))) (hl : dp.toNatClampNeg + nn.toNatClampNeg ≤ vd.length) (hws : vd.take dp.toNatClampNeg ++ us ++ vd.drop (dp.toNatClampNeg + nn.toNatClampNeg) = ws) {n0 : Nat} (N : Fr n0 locs) (ge : n0 ≤ b) (hsz : Ls.size = nl) (hd : decode B pc = .ok (.invokestatic index, 3)) (hp : pc + 3 = pc') (hf : 1 ≤ R.frames) {W : Nat} (hW : (st.map fun v => v.category).sum ≤ W) (hlo : W + (nativeFrameWords "java/lang/System" "arraycopy" 5 + 11) ≤ R.locals)
    (k : ∀ (T' : State) (h' : Heap) (L : List Loc), Stand p l e R s m args below meth c T' L cells slots → T'.heap = h' → Fr n0 L → Keep h h' [b] → own_D Z h' b z' ws → own_E p.tables e below G (T'.setTop (mkF m pc' Ls (st)))) : own_E p.tables e below G (T.setTop (mkF m pc Ls (.int nn :: .int dp :: .ref b :: .int sp :: .ref a :: st))) := by
  subst hws
  obtain ⟨k1, A1, -⟩ := A
  obtain ⟨k2, A2, E2⟩ := D
  exact own_cp X hx hby hZ hml hown w1 w2 w3 w4 eT A1 A2 rfl h1 h2 h3 h4 h5 hus hl N ge hsz hd hp hf hW hlo fun T' h' L X' e' N' K' V' => k T' h' L X' e' N' K' ⟨k2, V', E2.keep K'⟩
theorem own_daD (X : Stand p l e R s m args below meth c T locs cells slots) (hx : p.tables.exec = Jvm.exec) (hby : c.code = B) (hZ : Z.Warmed39 s.vm) (eT : T.heap = h) {a : Addr} {n j : Int32} {xs : List Value} {v : UInt64} (F : own_D Z h a n xs) (hj : ¬ j < 0 ∧ j < n) (hv : xs.getD j.toNatClampNeg (.double (0 : UInt64)) = .double v) (hd : decode B pc = .ok (.daload, 1)) (hp : pc + 1 = pc')
    (k : own_E p.tables e below G (T.setTop (mkF m pc' Ls (.double v :: st)))) : own_E p.tables e below G (T.setTop (mkF m pc Ls (.int j :: .ref a :: st))) := by
  obtain ⟨kA, A, -⟩ := F; exact own_daloadV X hx hby hZ eT A hj hv hd hp k
theorem own_iaI (X : Stand p l e R s m args below meth c T locs cells slots) (hx : p.tables.exec = Jvm.exec) (hby : c.code = B) (hZ : Z.Warmed39 s.vm) (eT : T.heap = h) {a : Addr} {n j v : Int32} {xs : List Value} (F : own_IA Z h a n xs) (hj : ¬ j < 0 ∧ j < n) (hv : xs.getD j.toNatClampNeg (.int (0 : Int32)) = .int v) (hd : decode B pc = .ok (.iaload, 1)) (hp : pc + 1 = pc')
    (k : own_E p.tables e below G (T.setTop (mkF m pc' Ls (.int v :: st)))) : own_E p.tables e below G (T.setTop (mkF m pc Ls (.int j :: .ref a :: st))) := by
  obtain ⟨kA, A⟩ := F; exact own_ialoadV X hx hby hZ eT A hj hv hd hp k
theorem own_baZ (X : Stand p l e R s m args below meth c T locs cells slots) (hx : p.tables.exec = Jvm.exec) (hby : c.code = B) (hZ : Z.Warmed39 s.vm) (eT : T.heap = h) {a : Addr} {n j v : Int32} {xs : List Value} (F : own_ZA Z h a n xs) (hj : ¬ j < 0 ∧ j < n) (hv : xs.getD j.toNatClampNeg (.int (0 : Int32)) = .int v) (hd : decode B pc = .ok (.baload, 1)) (hp : pc + 1 = pc')
    (k : own_E p.tables e below G (T.setTop (mkF m pc' Ls (.int v :: st)))) : own_E p.tables e below G (T.setTop (mkF m pc Ls (.int j :: .ref a :: st))) := by
  subst hp
  obtain ⟨kA, cl, Ar, -, S, -, H, -⟩ := F
  exact own_go (fun t q => X.baloadBooleans hx (by rw [eT]; exact Ar.1) (State.isArrayOf_alike hZ.alike Ar.2.1) Ar.2.2 (inb_of S hj) (H.at (inb_of S hj) hv) (g := mkF m pc Ls (.int j :: .ref a :: st)) rfl rfl (hb hby hd) t q) k
theorem own_aaD (X : Stand p l e R s m args below meth c T locs cells slots) (hx : p.tables.exec = Jvm.exec) (hby : c.code = B) (hZ : Z.Warmed39 s.vm) (eT : T.heap = h) {a : Addr} {n j : Int32} {xs : List Value} {v : Value} (F : own_DD Z h a n xs) (hj : ¬ j < 0 ∧ j < n) (hv : xs.getD j.toNatClampNeg .null = v) (hd : decode B pc = .ok (.aaload, 1)) (hp : pc + 1 = pc')
    (k : own_E p.tables e below G (T.setTop (mkF m pc' Ls (v :: st)))) : own_E p.tables e below G (T.setTop (mkF m pc Ls (.int j :: .ref a :: st))) := by
  obtain ⟨kA, A, -⟩ := F; exact own_aaloadV X hx hby hZ eT A rfl hj hv hd hp k
theorem own_alD (X : Stand p l e R s m args below meth c T locs cells slots) (hx : p.tables.exec = Jvm.exec) (hby : c.code = B) (hZ : Z.Warmed39 s.vm) (eT : T.heap = h) {a : Addr} {n : Int32} {xs : List Value} (F : own_D Z h a n xs) (hd : decode B pc = .ok (.arraylength, 1)) (hp : pc + 1 = pc')
    (k : own_E p.tables e below G (T.setTop (mkF m pc' Ls (.int n :: st)))) : own_E p.tables e below G (T.setTop (mkF m pc Ls (.ref a :: st))) := by
  obtain ⟨kA, A, -⟩ := F; exact own_alenV X hx hby hZ eT A hd hp k
theorem own_alDD (X : Stand p l e R s m args below meth c T locs cells slots) (hx : p.tables.exec = Jvm.exec) (hby : c.code = B) (hZ : Z.Warmed39 s.vm) (eT : T.heap = h) {a : Addr} {n : Int32} {xs : List Value} (F : own_DD Z h a n xs) (hd : decode B pc = .ok (.arraylength, 1)) (hp : pc + 1 = pc')
    (k : own_E p.tables e below G (T.setTop (mkF m pc' Ls (.int n :: st)))) : own_E p.tables e below G (T.setTop (mkF m pc Ls (.ref a :: st))) := by
  obtain ⟨kA, A, -⟩ := F; exact own_alenV X hx hby hZ eT A hd hp k
theorem own_alIA (X : Stand p l e R s m args below meth c T locs cells slots) (hx : p.tables.exec = Jvm.exec) (hby : c.code = B) (hZ : Z.Warmed39 s.vm) (eT : T.heap = h) {a : Addr} {n : Int32} {xs : List Value} (F : own_IA Z h a n xs) (hd : decode B pc = .ok (.arraylength, 1)) (hp : pc + 1 = pc')
    (k : own_E p.tables e below G (T.setTop (mkF m pc' Ls (.int n :: st)))) : own_E p.tables e below G (T.setTop (mkF m pc Ls (.ref a :: st))) := by
  obtain ⟨kA, A⟩ := F; exact own_alenV X hx hby hZ eT A hd hp k
theorem own_alZA (X : Stand p l e R s m args below meth c T locs cells slots) (hx : p.tables.exec = Jvm.exec) (hby : c.code = B) (hZ : Z.Warmed39 s.vm) (eT : T.heap = h) {a : Addr} {n : Int32} {xs : List Value} (F : own_ZA Z h a n xs) (hd : decode B pc = .ok (.arraylength, 1)) (hp : pc + 1 = pc')
    (k : own_E p.tables e below G (T.setTop (mkF m pc' Ls (.int n :: st)))) : own_E p.tables e below G (T.setTop (mkF m pc Ls (.ref a :: st))) := by
  obtain ⟨kA, A⟩ := F; exact own_alenV X hx hby hZ eT A hd hp k
theorem own_dsD (X : Stand p l e R s m args below meth c T locs cells slots) (hx : p.tables.exec = Jvm.exec) (hby : c.code = B) (hZ : Z.Warmed39 s.vm) (eT : T.heap = h) {a : Addr} {n j : Int32} {xs ys : List Value} {x : UInt64} (F : own_D Z h a n xs) (hj : ¬ j < 0 ∧ j < n) (i : Nat) (hi : j.toNatClampNeg = i) (hlen : i < xs.length) (hys : xs.set i (.double x) = ys) (hd : decode B pc = .ok (.dastore, 1)) (hp : pc + 1 = pc')
    (k : ∀ (T' : State) (h' : Heap), Stand p l e R s m args below meth c T' (locs ++ [⟨a, j.toNatClampNeg⟩]) cells slots → T'.heap = h' → Wr h h' a j.toNatClampNeg (.double x) → own_D Z h' a n ys → own_E p.tables e below G (T'.setTop (mkF m pc' Ls (st)))) : own_E p.tables e below G (T.setTop (mkF m pc Ls (.double x :: .int j :: .ref a :: st))) := by
  subst hys
  obtain ⟨kA, A, E1⟩ := F; exact own_stD X hx hby hZ eT A hj i hi hlen hd hp fun T' h' X' e' W' V' => k T' h' X' e' W' ⟨kA, V', E1.wr W'⟩
theorem own_isI (X : Stand p l e R s m args below meth c T locs cells slots) (hx : p.tables.exec = Jvm.exec) (hby : c.code = B) (hZ : Z.Warmed39 s.vm) (eT : T.heap = h) {a : Addr} {n j : Int32} {xs ys : List Value} {x : Int32} (F : own_IA Z h a n xs) (hj : ¬ j < 0 ∧ j < n) (i : Nat) (hi : j.toNatClampNeg = i) (hlen : i < xs.length) (hys : xs.set i (.int x) = ys) (hd : decode B pc = .ok (.iastore, 1)) (hp : pc + 1 = pc')
    (k : ∀ (T' : State) (h' : Heap), Stand p l e R s m args below meth c T' (locs ++ [⟨a, j.toNatClampNeg⟩]) cells slots → T'.heap = h' → Wr h h' a j.toNatClampNeg (.int x) → own_IA Z h' a n ys → own_E p.tables e below G (T'.setTop (mkF m pc' Ls (st)))) : own_E p.tables e below G (T.setTop (mkF m pc Ls (.int x :: .int j :: .ref a :: st))) := by
  subst hys
  obtain ⟨kA, A⟩ := F; exact own_stI X hx hby hZ eT A hj i hi hlen hd hp fun T' h' X' e' W' V' => k T' h' X' e' W' ⟨kA, V'⟩
theorem own_bsZ (X : Stand p l e R s m args below meth c T locs cells slots) (hx : p.tables.exec = Jvm.exec) (hby : c.code = B) (hZ : Z.Warmed39 s.vm) (eT : T.heap = h) {a : Addr} {n j : Int32} {xs ys : List Value} {x : Int32} (F : own_ZA Z h a n xs) (hj : ¬ j < 0 ∧ j < n) (i : Nat) (hi : j.toNatClampNeg = i) (hlen : i < xs.length) (hys : xs.set i (.int (nar .boolean x)) = ys) (hd : decode B pc = .ok (.bastore, 1)) (hp : pc + 1 = pc')
    (k : ∀ (T' : State) (h' : Heap), Stand p l e R s m args below meth c T' (locs ++ [⟨a, j.toNatClampNeg⟩]) cells slots → T'.heap = h' → Wr h h' a j.toNatClampNeg (.int (nar .boolean x)) → own_ZA Z h' a n ys → own_E p.tables e below G (T'.setTop (mkF m pc' Ls (st)))) : own_E p.tables e below G (T.setTop (mkF m pc Ls (.int x :: .int j :: .ref a :: st))) := by
  subst hys
  obtain ⟨kA, A⟩ := F; exact own_stZ X hx hby hZ eT A hj i hi hlen hd hp fun T' h' X' e' W' V' => k T' h' X' e' W' ⟨kA, V'⟩
theorem own_asD (X : Stand p l e R s m args below meth c T locs cells slots) (hx : p.tables.exec = Jvm.exec) (hby : c.code = B) (hZ : Z.Warmed39 s.vm) (eT : T.heap = h) {a y : Addr} {n j : Int32} {xs ys : List Value} (F : own_DD Z h a n xs) (Ey : Exa Z h y "[D") (hj : ¬ j < 0 ∧ j < n) (i : Nat) (hi : j.toNatClampNeg = i) (hlen : i < xs.length) (hys : xs.set i (.ref y) = ys) (hd : decode B pc = .ok (.aastore, 1)) (hp : pc + 1 = pc')
    (k : ∀ (T' : State) (h' : Heap), Stand p l e R s m args below meth c T' (locs ++ [⟨a, j.toNatClampNeg⟩]) cells slots → T'.heap = h' → Wr h h' a j.toNatClampNeg (.ref y) → own_DD Z h' a n ys → own_E p.tables e below G (T'.setTop (mkF m pc' Ls (st)))) : own_E p.tables e below G (T.setTop (mkF m pc Ls (.ref y :: .int j :: .ref a :: st))) := by
  subst hys
  obtain ⟨kA, A, O⟩ := F
  have S : Sto Z h a (.ref y) := by obtain ⟨cl, Ar, q, -⟩ := A; exact Sto.ofVA Ar q O (Ins.self Ey)
  exact own_stR X hx hby hZ eT A rfl rfl S hj i hi hlen hd hp fun T' h' X' e' W' V' => k T' h' X' e' W' ⟨kA, V', O⟩
theorem own_absD (X : Stand p l e R s m args below meth c T locs cells slots) (hx : p.tables.exec = Jvm.exec) (hby : c.code = B) (hZ : Z.Warmed39 s.vm) {own : String} {index nl : Nat} (hml : c.maxLocals = nl) (hown : s.vm.findClass own = some m.cls) (w1 : (Jvm.Cond.methodLink own index Jvm.Free.NT.mathAbs64N).before a0 Z = true) (w2 : (Jvm.Cond.static Jvm.Free.NT.mathAbs64N).before a0 Z = true) (w3 : (Jvm.Cond.initialized "java/lang/Math").before a0 Z = true) {by0 : ByteArray} {ml : Nat} (w4 : (Jvm.Cond.code Jvm.Free.NT.mathAbs64N by0 ml (some .double)).before a0 Z = true) (eT : T.heap = h) {x v : UInt64} (hn : Jvm.Free.Fl.NoNaN64 x) (hv : x &&& 0x7fffffffffffffff = v) (hsz : Ls.size = nl) (hd : decode B pc = .ok (.invokestatic index, 3)) (hp : pc + 3 = pc') {W : Nat} (hW : (st.map fun v => v.category).sum ≤ W) (hf : 1 ≤ R.frames) (hl : W + (ml + 11) ≤ R.locals) (hc : cells ≤ R.cells) (hs : slots ≤ R.slots)
    (k : ∀ T' : State, Stand p l e R s m args below meth c T' locs cells slots → T'.heap = h → own_E p.tables e below G (T'.setTop (mkF m pc' Ls (.double v :: st)))) : own_E p.tables e below G (T.setTop (mkF m pc Ls (.double x :: st))) := by
  subst hp
  obtain ⟨T', X', e', stp⟩ := natS X hx hZ hown w1 w2 w3 w4 (by decide) eT (W := W) (F := fun a => a = #[.double x]) (val := .double (x &&& 0x7fffffffffffffff)) (val' := .double v) (fun hcode => (Jvm.Free.NT.Abs64.pays hcode (mvT hZ w2) hf hl).mono (fun A a q => ⟨x, q.2.2, hn⟩) (fun A a v B q r => ⟨r.2 x ⟨q.2.2, hn⟩, r.1⟩)) (g := mkF m pc Ls (.double x :: st)) rfl (by rw [hml]; exact hsz) (argsL := [.double x]) (rest := st) (lenOf Jvm.Free.NT.mathAbs64_desc rfl) rfl (by show 2 * 0 + _ ≤ _; rw [Nat.mul_zero, Nat.zero_add]; exact hW) (hb hby hd) hc hs rfl (by rw [hv])
  exact own_go stp (k T' X' e')
theorem own_maxD (X : Stand p l e R s m args below meth c T locs cells slots) (hx : p.tables.exec = Jvm.exec) (hby : c.code = B) (hZ : Z.Warmed39 s.vm) {own : String} {index nl : Nat} (hml : c.maxLocals = nl) (hown : s.vm.findClass own = some m.cls) (w1 : (Jvm.Cond.methodLink own index Jvm.Free.NT.mathMax64N).before a0 Z = true) (w2 : (Jvm.Cond.static Jvm.Free.NT.mathMax64N).before a0 Z = true) (w3 : (Jvm.Cond.initialized "java/lang/Math").before a0 Z = true) {by0 : ByteArray} {ml : Nat} (w4 : (Jvm.Cond.code Jvm.Free.NT.mathMax64N by0 ml (some .double)).before a0 Z = true) (eT : T.heap = h) {x y v : UInt64} (hn : Jvm.Free.Fl.NoNaN64 x) (hn' : Jvm.Free.Fl.NoNaN64 y) (hv : Jvm.Native.java_lang_Math.nans.pick64 true x y = v) (hsz : Ls.size = nl) (hd : decode B pc = .ok (.invokestatic index, 3)) (hp : pc + 3 = pc') {W : Nat} (hW : (st.map fun v => v.category).sum ≤ W) (hf : 1 ≤ R.frames) (hl : W + (ml + 11) ≤ R.locals) (hc : cells ≤ R.cells) (hs : slots ≤ R.slots)
    (k : ∀ T' : State, Stand p l e R s m args below meth c T' locs cells slots → T'.heap = h → own_E p.tables e below G (T'.setTop (mkF m pc' Ls (.double v :: st)))) : own_E p.tables e below G (T.setTop (mkF m pc Ls (.double y :: .double x :: st))) := by
  subst hp
  have n1 := Jvm.Free.Fl.noNaN64_no.mp hn
  have n2 := Jvm.Free.Fl.noNaN64_no.mp hn'
  obtain ⟨T', X', e', stp⟩ := natS X hx hZ hown w1 w2 w3 w4 (by decide) eT (W := W) (F := fun a => a = #[.double x, .double y]) (val := .double (Jvm.Native.java_lang_Math.nans.pick64 true x y)) (val' := .double v) (fun hcode => (Jvm.Free.NT.Max64.pays hcode (mvT hZ w2) hf hl).mono (fun A a q => ⟨(x, y), q.2.2, n1, n2⟩) (fun A a v B q r => ⟨r.2 (x, y) ⟨q.2.2, n1, n2⟩, r.1⟩)) (g := mkF m pc Ls (.double y :: .double x :: st)) rfl (by rw [hml]; exact hsz) (argsL := [.double x, .double y]) (rest := st) (lenOf Jvm.Free.NT.mathMax64_desc rfl) rfl (by show 2 * 0 + _ ≤ _; rw [Nat.mul_zero, Nat.zero_add]; exact hW) (hb hby hd) hc hs rfl (by rw [hv])
  exact own_go stp (k T' X' e')
theorem own_iaddE (X : Stand p l e R s m args below meth c T locs cells slots) (hx : p.tables.exec = Jvm.exec) (hby : c.code = B) {x y v : Int32} (hd : decode B pc = .ok (.iadd, 1)) (hp : pc + 1 = pc') (hv : x + y = v)
    (k : own_E p.tables e below G (T.setTop (mkF m pc' Ls (.int v :: st)))) : own_E p.tables e below G (T.setTop (mkF m pc Ls (.int y :: .int x :: st))) := by subst hv; exact own_iadd X hx hby hd hp k
theorem own_isubE (X : Stand p l e R s m args below meth c T locs cells slots) (hx : p.tables.exec = Jvm.exec) (hby : c.code = B) {x y v : Int32} (hd : decode B pc = .ok (.isub, 1)) (hp : pc + 1 = pc') (hv : x - y = v)
    (k : own_E p.tables e below G (T.setTop (mkF m pc' Ls (.int v :: st)))) : own_E p.tables e below G (T.setTop (mkF m pc Ls (.int y :: .int x :: st))) := by subst hv; exact own_isub X hx hby hd hp k
theorem own_selP {C : String} {y z : MethodName} (wi : (Jvm.Cond.instanceMethod y).before a0 Z = true) (wp : (Jvm.Cond.privateMethod y).before a0 Z = true) (wz : (Jvm.Cond.selects C z z).before a0 Z = true) (hc : z.cls = y.cls) (hy : y.cls ≠ "java/lang/invoke/MethodHandle" ∧ y.cls ≠ "java/lang/invoke/VarHandle") : (Jvm.Cond.selects y.cls y y).before a0 Z = true := by
  obtain ⟨c2, r2, m2, -, -, q3, -, kP, hkP, hkPi⟩ := Cond.selects_spec wz
  have e2 := findClass_of_methodNamed q3
  rw [hc] at e2
  exact selects_self_of_private e2 hkP hkPi (Cond.privateMethod_at wp) wi hy
end OwnSix

theorem own_pow (a b c : Nat) (h : c = a + b) : (2 : Nat) ^ c = 2 ^ a * 2 ^ b := by rw [h, Nat.pow_add]
theorem own_p1074 : (2 : Nat) ^ 1074 = 2 ^ 40 * 2 ^ 1034 := own_pow 40 1034 1074 rfl
open Jvm.FP.Core (Fmt Datum b64 roundRatio zmag zval sgn val64 inUnits good_b64 Good) in
theorem own_l2dX {a : Int64} (h0 : 0 ≤ a.toInt) (h1 : a.toInt < 9007199254740992) : ∃ c q, val64 (FP.l2d a) = .fin false c q ∧ b64.qmin ≤ q ∧ c * 2 ^ (q + 1074).toNat = a.toInt.toNat * 2 ^ 1074 := by
  have e1 : val64 (FP.l2d a) = Jvm.FP.Core.round b64 (Jvm.FP.Core.ofInt a.toInt) := Jvm.FP.Core.val64_l2d a
  have e2 : Jvm.FP.Core.ofInt a.toInt = .fin false a.toInt.toNat 0 := by
    unfold Jvm.FP.Core.ofInt
    rw [show decide (a.toInt < 0) = false from decide_eq_false (by omega), show a.toInt.natAbs = a.toInt.toNat from by omega]
  have hq : b64.qmin = -1074 := Jvm.FP.Core.qmin_b64
  obtain ⟨c, q, r1, r2⟩ := Jvm.FP.Core.round_exact good_b64 false (c := a.toInt.toNat) (q := 0) (by show _ < 2 ^ 53; omega) (by rw [hq]; decide) (by decide)
  refine ⟨c, q, by rw [e1, e2, r1], ?_, ?_⟩
  · have hf := Jvm.FP.Core.round_fits good_b64 (.fin false a.toInt.toNat 0)
    rw [r1] at hf
    exact hf.2.1
  · unfold inUnits at r2
    rw [hq] at r2
    simpa using r2
open Jvm.FP.Core (Fmt Datum b64 roundRatio zmag zval sgn val64 inUnits good_b64 Good) in
theorem own_div {t m : Int64} (h0 : 0 ≤ t.toInt) (h1 : t.toInt < 9007199254740992) (h2 : 0 < m.toInt) (h3 : m.toInt < 9007199254740992) : val64 (FP.ddiv (FP.l2d t) (FP.l2d m)) = roundRatio b64 false t.toInt.toNat m.toInt.toNat 0 := by
  obtain ⟨c, q, v1, q1, k1⟩ := own_l2dX h0 h1
  obtain ⟨d, r, v2, q2, k2⟩ := own_l2dX (Int.le_of_lt h2) h3
  have hq : b64.qmin = -1074 := Jvm.FP.Core.qmin_b64
  rw [hq] at q1 q2
  have hd : d ≠ 0 := by
    rintro rfl
    rw [Nat.zero_mul] at k2
    have p := Nat.two_pow_pos 1074
    have : 0 < m.toInt.toNat * 2 ^ 1074 := Nat.mul_pos (by omega) p
    omega
  have e1 : val64 (FP.ddiv (FP.l2d t) (FP.l2d m)) = Jvm.FP.Core.quotient b64 (val64 (FP.l2d t)) (val64 (FP.l2d m)) := Jvm.FP.Core.val64_ddiv _ _
  rw [e1, v1, v2]
  show (if d = 0 then (if c = 0 then Datum.nan else Datum.inf (false != false)) else roundRatio b64 (false != false) c d (q - r)) = _
  rw [if_neg hd]
  show roundRatio b64 false c d (q - r) = _
  refine Jvm.FP.Core.roundRatio_congr (Nat.pos_of_ne_zero hd) (by omega) ?_
  generalize t.toInt.toNat = T at *
  generalize m.toInt.toNat = M at *
  have p := Nat.two_pow_pos 1074
  generalize 2 ^ 1074 = P at *
  have k3 : c * M * 2 ^ (q + 1074).toNat = T * d * 2 ^ (r + 1074).toNat := by
    refine Nat.eq_of_mul_eq_mul_right p ?_
    calc c * M * 2 ^ (q + 1074).toNat * P = (c * 2 ^ (q + 1074).toNat) * (M * P) := by ac_rfl
      _ = (T * P) * (d * 2 ^ (r + 1074).toNat) := by rw [k1, k2]
      _ = T * d * 2 ^ (r + 1074).toNat * P := by ac_rfl
  rcases Int.le_total r q with h | h
  · rw [show (q + 1074).toNat = (q - r - 0).toNat + (r + 1074).toNat by omega, Nat.pow_add, ← Nat.mul_assoc] at k3
    rw [show (0 - (q - r)).toNat = 0 by omega, Nat.pow_zero, Nat.mul_one]
    exact Nat.eq_of_mul_eq_mul_right (Nat.two_pow_pos _) k3
  · rw [show (r + 1074).toNat = (0 - (q - r)).toNat + (q + 1074).toNat by omega, Nat.pow_add, ← Nat.mul_assoc] at k3
    rw [show (q - r - 0).toNat = 0 by omega, Nat.pow_zero, Nat.mul_one]
    exact Nat.eq_of_mul_eq_mul_right (Nat.two_pow_pos _) k3
/-- the quotient's magnitude, in units of the least double -/
def own_z (t m : Nat) : Nat := Jvm.FP.Core.zmag Jvm.FP.Core.b64 (Jvm.FP.Core.roundRatio Jvm.FP.Core.b64 false t m 0)
open Jvm.FP.Core (Fmt Datum b64 roundRatio zmag zval sgn val64 inUnits good_b64 Good) in
theorem own_z_le {t m : Nat} {V : Datum} (hm : 0 < m) (hV : Jvm.FP.Core.fits b64 V) (hn : V ≠ .nan) (h : t * 2 ^ 1074 ≤ zmag b64 V * m) : own_z t m ≤ zmag b64 V := by
  refine Jvm.FP.Core.zmag_roundRatio_le good_b64 (e0 := b64.qmin) hm hV hn (Int.le_refl _) (by decide) ?_
  rw [show (b64.qmin - b64.qmin).toNat = 0 by omega, Nat.pow_zero, Nat.mul_one]
  unfold inUnits
  rw [Jvm.FP.Core.qmin_b64]
  exact h
open Jvm.FP.Core (Fmt Datum b64 roundRatio zmag zval sgn val64 inUnits good_b64 Good) in
theorem own_z_ge {t m : Nat} {V : Datum} (hm : 0 < m) (hV : Jvm.FP.Core.fits b64 V) (h : zmag b64 V * m ≤ t * 2 ^ 1074) : zmag b64 V ≤ own_z t m := by
  refine Jvm.FP.Core.zmag_roundRatio_ge good_b64 (e0 := b64.qmin) hm hV (Int.le_refl _) (by decide) ?_
  rw [show (b64.qmin - b64.qmin).toNat = 0 by omega, Nat.pow_zero, Nat.mul_one]
  unfold inUnits
  rw [Jvm.FP.Core.qmin_b64]
  exact h
open Jvm.FP.Core (Fmt Datum b64 roundRatio zmag zval sgn val64 inUnits good_b64 Good) in
theorem own_z_fin {t m : Nat} (hm : 0 < m) (h : t ≤ m) : ∃ c q, roundRatio b64 false t m 0 = .fin false c q := by
  rcases Jvm.FP.Core.roundRatio_cases b64 false t m 0 with q | q
  · exact q
  · exfalso
    have h1 : own_z t m ≤ zmag b64 (.fin false (2 ^ 52) (-52)) := own_z_le hm ⟨by decide, by decide, by decide, Or.inr (by decide)⟩ (by decide) (by
      have e : zmag b64 (.fin false (2 ^ 52) (-52)) = 2 ^ 1074 := by decide +kernel
      rw [e, Nat.mul_comm (2 ^ 1074)]; exact Nat.mul_le_mul_right _ h)
    unfold own_z at h1
    rw [q] at h1
    revert h1
    decide +kernel
open Jvm.FP.Core (Fmt Datum b64 roundRatio zmag zval sgn val64 inUnits good_b64 Good) in
/-- rounding keeps the order -/
theorem own_z_mono {t m t' m' : Nat} (hm : 0 < m) (hm' : 0 < m') (h1 : t ≤ m) (h1' : t' ≤ m') (h : t * m' ≤ t' * m) : own_z t m ≤ own_z t' m' := by
  refine Nat.le_of_not_lt fun hlt => ?_
  obtain ⟨c, q, e1⟩ := own_z_fin hm h1
  obtain ⟨c', q', e2⟩ := own_z_fin hm' h1'
  have f1 := Jvm.FP.Core.roundRatio_fits good_b64 false t hm 0
  have f2 := Jvm.FP.Core.roundRatio_fits good_b64 false t' hm' 0
  by_cases he : t * m' = t' * m
  · have := Jvm.FP.Core.roundRatio_congr (f := b64) (s := false) (e := 0) (e' := 0) hm hm' (by simpa using he)
    unfold own_z at hlt
    rw [this] at hlt
    exact Nat.lt_irrefl _ hlt
  · have a1 : ¬ t * 2 ^ 1074 ≤ own_z t' m' * m := fun g => Nat.lt_irrefl _ (Nat.lt_of_le_of_lt (own_z_le hm f2 (Jvm.FP.Core.roundRatio_ne_nan _ _ _ _ _) g) hlt)
    have a2 : ¬ own_z t m * m' ≤ t' * 2 ^ 1074 := fun g => Nat.lt_irrefl _ (Nat.lt_of_lt_of_le hlt (own_z_ge hm' f1 g))
    rw [e1] at f1
    rw [e2] at f2
    have d1 := Jvm.FP.Core.roundRatio_nearest good_b64 hm e1 f2.1 f2.2.1 (e0 := b64.qmin) (Int.le_refl _) (by decide)
    have d2 := Jvm.FP.Core.roundRatio_nearest good_b64 hm' e2 f1.1 f1.2.1 (e0 := b64.qmin) (Int.le_refl _) (by decide)
    have z1 : inUnits c q b64.qmin = own_z t m := by unfold own_z; rw [e1]; rfl
    have z2 : inUnits c' q' b64.qmin = own_z t' m' := by unfold own_z; rw [e2]; rfl
    unfold Jvm.FP.Core.distance at d1 d2
    rw [z1, z2] at d1 d2
    have u1 : inUnits t 0 b64.qmin = t * 2 ^ 1074 := by unfold inUnits; rw [Jvm.FP.Core.qmin_b64]; rfl
    have u2 : inUnits t' 0 b64.qmin = t' * 2 ^ 1074 := by unfold inUnits; rw [Jvm.FP.Core.qmin_b64]; rfl
    rw [u1] at d1
    rw [u2] at d2
    have hp := Nat.two_pow_pos 1074
    generalize 2 ^ 1074 = P at *
    generalize own_z t m = x at *
    generalize own_z t' m' = y at *
    rw [← Int.natCast_mul, ← Int.natCast_mul] at d1 d2
    have s1 : x * m + y * m ≤ 2 * (t * P) := by
      have : y * m < x * m := Nat.mul_lt_mul_of_pos_right hlt hm
      omega
    have s2 : 2 * (t' * P) ≤ x * m' + y * m' := by
      have : y * m' < x * m' := Nat.mul_lt_mul_of_pos_right hlt hm'
      omega
    have w1 := Nat.mul_le_mul_right m' s1
    have w2 := Nat.mul_le_mul_right m s2
    have w3 : t * m' < t' * m := Nat.lt_of_le_of_ne h he
    have w4 := Nat.mul_lt_mul_of_pos_right w3 hp
    have v1 : (x * m + y * m) * m' = (x * m' + y * m') * m := by rw [Nat.add_mul, Nat.add_mul, Nat.mul_right_comm x m m', Nat.mul_right_comm y m m']
    have v2 : 2 * (t * P) * m' = 2 * (t * m' * P) := by ac_rfl
    have v3 : 2 * (t' * P) * m = 2 * (t' * m * P) := by ac_rfl
    rw [v1, v2] at w1
    rw [v3] at w2
    omega
open Jvm.FP.Core (Fmt Datum b64 roundRatio zmag zval sgn val64 inUnits good_b64 Good) in
/-- two quotients of one divisor under 2^31 fall apart -/
theorem own_z_strict {t t' m : Nat} (hm : 0 < m) (hb : m < 2147483648) (h : t < t') (h' : t' ≤ m) : own_z t m < own_z t' m := by
  have key : ∀ k : Nat, k ≤ 2 ^ 40 → ∃ V, Jvm.FP.Core.fits b64 V ∧ V ≠ .nan ∧ zmag b64 V = k * 2 ^ 1034 := by
    intro k hk
    obtain ⟨c, q, r1, r2⟩ := Jvm.FP.Core.round_exact good_b64 false (c := k) (q := -40) (Nat.lt_of_le_of_lt hk (by decide)) (by rw [Jvm.FP.Core.qmin_b64]; decide) (by decide)
    have hf := Jvm.FP.Core.round_fits good_b64 (.fin false k (-40))
    rw [r1] at hf
    refine ⟨_, hf, by simp, ?_⟩
    show inUnits c q b64.qmin = _
    rw [r2]
    unfold inUnits
    rw [Jvm.FP.Core.qmin_b64]
    rfl
  have ea : (t * 2 ^ 40 / m) * m ≤ t * 2 ^ 40 := Nat.div_mul_le_self _ _
  have eb : t * 2 ^ 40 < (t * 2 ^ 40 / m + 1) * m := by
    rw [Nat.add_mul, Nat.one_mul, Nat.mul_comm (t * 2 ^ 40 / m)]; have := Nat.div_add_mod (t * 2 ^ 40) m; have := Nat.mod_lt (t * 2 ^ 40) hm; omega
  have ec : (t' * 2 ^ 40 / m) * m ≤ t' * 2 ^ 40 := Nat.div_mul_le_self _ _
  have g : t * 2 ^ 40 / m + 1 + 1 ≤ t' * 2 ^ 40 / m := by
    refine (Nat.le_div_iff_mul_le hm).mpr ?_
    rw [Nat.add_mul, Nat.add_mul, Nat.one_mul]
    have : (t + 1) * 2 ^ 40 ≤ t' * 2 ^ 40 := Nat.mul_le_mul_right _ h
    rw [Nat.add_mul, Nat.one_mul] at this
    omega
  have top : t' * 2 ^ 40 / m ≤ 2 ^ 40 := by
    refine Nat.div_le_of_le_mul ?_
    exact Nat.mul_le_mul_right _ h'
  obtain ⟨V, v1, v2, v3⟩ := key (t * 2 ^ 40 / m + 1) (by omega)
  obtain ⟨W, w1, w2, w3⟩ := key (t' * 2 ^ 40 / m) top
  have hs : ∀ n : Nat, n * 2 ^ 1074 = n * 2 ^ 40 * 2 ^ 1034 := fun n => (congrArg (n * ·) own_p1074).trans (Nat.mul_assoc n _ _).symm
  have p := Nat.two_pow_pos 1034
  have l1 : own_z t m ≤ zmag b64 V := own_z_le hm v1 v2 (by
    rw [v3, hs, Nat.mul_right_comm (t * 2 ^ 40 / m + 1) (2 ^ 1034) m]; exact Nat.mul_le_mul_right _ (Nat.le_of_lt eb))
  have l2 : zmag b64 W ≤ own_z t' m := own_z_ge hm w1 (by
    rw [w3, hs, Nat.mul_right_comm (t' * 2 ^ 40 / m) (2 ^ 1034) m]; exact Nat.mul_le_mul_right _ ec)
  have l3 : zmag b64 V < zmag b64 W := by
    rw [v3, w3]; exact Nat.mul_lt_mul_of_pos_right (by omega) p
  omega
open Jvm.FP.Core (Fmt Datum b64 roundRatio zmag zval sgn val64 inUnits good_b64 Good) in
/-- a quotient that is a double -/
theorem own_z_at {t m : Nat} {V : Datum} (hm : 0 < m) (hV : Jvm.FP.Core.fits b64 V) (hn : V ≠ .nan) (h : t * 2 ^ 1074 = zmag b64 V * m) : own_z t m = zmag b64 V := Nat.le_antisymm (own_z_le hm hV hn (Nat.le_of_eq h)) (own_z_ge hm hV (Nat.le_of_eq h.symm))
open Jvm.FP.Core (Fmt Datum b64 roundRatio zmag zval sgn val64 inUnits good_b64 Good) in
/-- the order of two doubles that are no NaN and not below zero -/
theorem own_dcmp_z {x y : UInt64} {A B : Nat} (hx : val64 x ≠ .nan) (hy : val64 y ≠ .nan) (sx : zval b64 (val64 x) = (A : Int)) (sy : zval b64 (val64 y) = (B : Int)) : FP.dcmp x y = some (compare (A : Int) (B : Int)) := by
  have := Jvm.FP.Core.order_zval good_b64 (Jvm.FP.Core.val64_fits x) (Jvm.FP.Core.val64_fits y) hx hy
  rw [sx, sy] at this
  exact this

/-! doubles of BindingMix -/
def own_op (x v : UInt64) : Prop := Jvm.Free.Fl.NoNaN64 x ∧ x = v
def own_cg (x y : UInt64) (o : CmpOp) : Prop := ∃ z : Int32, cmpValue (FP.dcmp x y) o = z ∧ (0 : Int32) < z
def own_cl (x y : UInt64) (o : CmpOp) : Prop := ∃ z : Int32, cmpValue (FP.dcmp x y) o = z ∧ z < (0 : Int32)
def own_cng (x y : UInt64) (o : CmpOp) : Prop := ∃ z : Int32, cmpValue (FP.dcmp x y) o = z ∧ ¬ (0 : Int32) < z
def own_cnl (x y : UInt64) (o : CmpOp) : Prop := ∃ z : Int32, cmpValue (FP.dcmp x y) o = z ∧ ¬ z < (0 : Int32)
def own_cnz (x y : UInt64) (o : CmpOp) : Prop := ∃ z : Int32, cmpValue (FP.dcmp x y) o = z ∧ ¬ z = (0 : Int32)
theorem own_opF {x v : UInt64} (e : x = v) (h : Jvm.Free.Fl.Fin64 v) : own_op x v := ⟨e ▸ h.noNaN, e⟩
theorem own_opM {K : Nat} {x : UInt64} (h : Jvm.Free.Fl.Mag64 K x) (hK : K ≤ 2047) : own_op x x := ⟨(h.fin hK).noNaN, rfl⟩
theorem own_fmax {x : UInt64} (h : Jvm.Free.Fl.Fin64 x) : ∃ z : Int32, cmpValue (FP.dcmp (x &&& 0x7fffffffffffffff) (9218868437227405311 : UInt64)) .g = z ∧ ¬ (0 : Int32) < z := by
  have q := (Jvm.FP.Core.le_max (Jvm.Free.Fl.noNaN64_no.mp h.noNaN)).mpr (Jvm.Free.Fl.fin64_core.mp h)
  have q' : FP.dcmp (x &&& 0x7fffffffffffffff) (9218868437227405311 : UInt64) = some .lt ∨ FP.dcmp (x &&& 0x7fffffffffffffff) (9218868437227405311 : UInt64) = some .eq := q
  refine ⟨_, rfl, ?_⟩
  rcases q' with q | q <;> rw [q] <;> decide
/-- the elimination of a system of two, the pivot on top -/
def own_S2 (A00 A01 A10 A11 B0 B1 x0 x1 : UInt64) : Prop := ∃ f p0 a10 p1 a11 pb b1 q s0 : UInt64, own_op (FP.ddiv A10 A00) f ∧ own_op (FP.dmul f A00) p0 ∧ own_op (FP.dsub A10 p0) a10 ∧ own_op (FP.dmul f A01) p1 ∧ own_op (FP.dsub A11 p1) a11 ∧ own_op (FP.dmul f B0) pb ∧ own_op (FP.dsub B1 pb) b1 ∧ own_op (FP.ddiv b1 a11) x1 ∧ own_op (FP.dmul A01 x1) q ∧ own_op (FP.dsub B0 q) s0 ∧ own_op (FP.ddiv s0 A00) x0 ∧ own_cnz A00 (0 : UInt64) .l ∧ own_cnz a11 (0 : UInt64) .l ∧ Jvm.Free.Fl.Fin64 x1 ∧ Jvm.Free.Fl.Fin64 x0
def own_Sol2 (m00 m01 m10 m11 r0 r1 x0 x1 : UInt64) : Prop := Jvm.Free.Fl.NoNaN64 m00 ∧ Jvm.Free.Fl.NoNaN64 m10 ∧
  ((own_cng (m10 &&& 0x7fffffffffffffff) (m00 &&& 0x7fffffffffffffff) .l ∧ own_S2 m00 m01 m10 m11 r0 r1 x0 x1) ∨ (own_cg (m10 &&& 0x7fffffffffffffff) (m00 &&& 0x7fffffffffffffff) .l ∧ own_S2 m10 m11 m00 m01 r1 r0 x0 x1))
theorem own_S2.fin {A00 A01 A10 A11 B0 B1 x0 x1 : UInt64} (S : own_S2 A00 A01 A10 A11 B0 B1 x0 x1) : Jvm.Free.Fl.Fin64 x0 ∧ Jvm.Free.Fl.Fin64 x1 := by
  obtain ⟨f, p0, a10, p1, a11, pb, b1, q, s0, -, -, -, -, -, -, -, -, -, -, -, -, -, h1, h0⟩ := S; exact ⟨h0, h1⟩
theorem own_Sol2.fin {m00 m01 m10 m11 r0 r1 x0 x1 : UInt64} (S : own_Sol2 m00 m01 m10 m11 r0 r1 x0 x1) : Jvm.Free.Fl.Fin64 x0 ∧ Jvm.Free.Fl.Fin64 x1 := by
  obtain ⟨-, -, ⟨-, S⟩ | ⟨-, S⟩⟩ := S <;> exact S.fin
/-! the same, reckoned -/
def own_nb (x : UInt64) : Bool := decide (x &&& 0x7fffffffffffffff ≤ 0x7ff0000000000000)
def own_fb (x : UInt64) : Bool := decide (x &&& 0x7fffffffffffffff < 0x7ff0000000000000)
theorem own_nb_s {x : UInt64} (h : own_nb x = true) : Jvm.Free.Fl.NoNaN64 x := of_decide_eq_true h
theorem own_fb_s {x : UInt64} (h : own_fb x = true) : Jvm.Free.Fl.Fin64 x := of_decide_eq_true h
theorem own_nb_o {x : UInt64} (h : own_nb x = true) : own_op x x := ⟨of_decide_eq_true h, rfl⟩
def own_force {α : Type} (n : Nat) (k : Nat → α) : α := Nat.rec (motive := fun _ => α) (k 0) (fun m _ => k (m + 1)) n
theorem own_force_e {α : Type} (n : Nat) (k : Nat → α) : own_force n k = k n := by cases n <;> rfl
/-- x, reckoned before it is used -/
def own_fv {α : Type} (x : UInt64) (k : UInt64 → α) : α := own_force x.toNat fun n => k (UInt64.ofNat n)
theorem own_fv_e {α : Type} (x : UInt64) (k : UInt64 → α) : own_fv x k = k x := by unfold own_fv; rw [own_force_e]; simp
def own_s2b (A00 A01 A10 A11 B0 B1 : UInt64) : Option (UInt64 × UInt64) :=
  own_fv (FP.ddiv A10 A00) fun f => own_fv (FP.dmul f A00) fun p0 => own_fv (FP.dsub A10 p0) fun a10 => own_fv (FP.dmul f A01) fun p1 => own_fv (FP.dsub A11 p1) fun a11 => own_fv (FP.dmul f B0) fun pb => own_fv (FP.dsub B1 pb) fun b1 => own_fv (FP.ddiv b1 a11) fun x1 => own_fv (FP.dmul A01 x1) fun q => own_fv (FP.dsub B0 q) fun s0 => own_fv (FP.ddiv s0 A00) fun x0 =>
  if own_nb f && own_nb p0 && own_nb a10 && own_nb p1 && own_nb a11 && own_nb pb && own_nb b1 && own_nb x1 && own_nb q && own_nb s0 && own_nb x0 && decide (¬ cmpValue (FP.dcmp A00 (0 : UInt64)) .l = (0 : Int32)) && decide (¬ cmpValue (FP.dcmp a11 (0 : UInt64)) .l = (0 : Int32)) && own_fb x1 && own_fb x0 then some (x0, x1) else none
theorem own_s2b_s {A00 A01 A10 A11 B0 B1 x0 x1 : UInt64} (h : own_s2b A00 A01 A10 A11 B0 B1 = some (x0, x1)) : own_S2 A00 A01 A10 A11 B0 B1 x0 x1 := by
  simp only [own_s2b, own_fv_e] at h
  split at h
  · rename_i q
    simp only [Bool.and_eq_true] at q
    obtain ⟨⟨⟨⟨⟨⟨⟨⟨⟨⟨⟨⟨⟨⟨q1, q2⟩, q3⟩, q4⟩, q5⟩, q6⟩, q7⟩, q8⟩, q9⟩, q10⟩, q11⟩, q12⟩, q13⟩, q14⟩, q15⟩ := q
    cases h
    exact ⟨_, _, _, _, _, _, _, _, _, own_nb_o q1, own_nb_o q2, own_nb_o q3, own_nb_o q4, own_nb_o q5, own_nb_o q6, own_nb_o q7, own_nb_o q8, own_nb_o q9, own_nb_o q10, own_nb_o q11, ⟨_, rfl, of_decide_eq_true q12⟩, ⟨_, rfl, of_decide_eq_true q13⟩, own_fb_s q14, own_fb_s q15⟩
  · cases h
def own_solb (m00 m01 m10 m11 r0 r1 : UInt64) : Option (UInt64 × UInt64) :=
  if own_nb m00 && own_nb m10 then
    if decide ((0 : Int32) < cmpValue (FP.dcmp (m10 &&& 0x7fffffffffffffff) (m00 &&& 0x7fffffffffffffff)) .l) then own_s2b m10 m11 m00 m01 r1 r0 else own_s2b m00 m01 m10 m11 r0 r1
  else none
theorem own_solb_s {m00 m01 m10 m11 r0 r1 x0 x1 : UInt64} (h : own_solb m00 m01 m10 m11 r0 r1 = some (x0, x1)) : own_Sol2 m00 m01 m10 m11 r0 r1 x0 x1 := by
  simp only [own_solb] at h
  split at h
  · rename_i q
    simp only [Bool.and_eq_true] at q
    split at h
    · rename_i q2
      exact ⟨own_nb_s q.1, own_nb_s q.2, Or.inr ⟨⟨_, rfl, of_decide_eq_true q2⟩, own_s2b_s h⟩⟩
    · rename_i q2
      exact ⟨own_nb_s q.1, own_nb_s q.2, Or.inl ⟨⟨_, rfl, fun r => q2 (decide_eq_true r)⟩, own_s2b_s h⟩⟩
  · cases h
/-- a small whole double -/
def own_k (i : Nat) : UInt64 := FP.l2d (Int64.ofInt (i : Int))
def own_TOL : UInt64 := 4427486594234968593
/-- the ratio test, reckoned; lv: the second column leaves -/
def own_ratio (L0 L1 D0 D1 : UInt64) (lv : Bool) : Bool :=
  own_fv (Jvm.Native.java_lang_Math.nans.pick64 true (0 : UInt64) L0) fun m0 => own_fv (FP.ddiv m0 D0) fun st0 =>
  decide ((0 : Int32) < cmpValue (FP.dcmp D0 (4427486594234968593 : UInt64)) .l) && own_nb st0 && decide (cmpValue (FP.dcmp st0 (9218868437227405312 : UInt64)) .g < (0 : Int32)) &&
    (if lv then own_fv (Jvm.Native.java_lang_Math.nans.pick64 true (0 : UInt64) L1) fun m1 => own_fv (FP.ddiv m1 D1) fun st1 => decide ((0 : Int32) < cmpValue (FP.dcmp D1 (4427486594234968593 : UInt64)) .l) && own_nb st1 && decide (cmpValue (FP.dcmp st1 st0) .g < (0 : Int32)) else decide (¬ (0 : Int32) < cmpValue (FP.dcmp D1 (4427486594234968593 : UInt64)) .l))
def own_Rat0 (L0 L1 D0 D1 : UInt64) : Prop := ∃ m0 st0 : UInt64, own_cg D0 (4427486594234968593 : UInt64) .l ∧ Jvm.Native.java_lang_Math.nans.pick64 true (0 : UInt64) L0 = m0 ∧ own_op (FP.ddiv m0 D0) st0 ∧ own_cl st0 (9218868437227405312 : UInt64) .g ∧ own_cng D1 (4427486594234968593 : UInt64) .l
def own_Rat1 (L0 L1 D0 D1 : UInt64) : Prop := ∃ m0 st0 m1 st1 : UInt64, own_cg D0 (4427486594234968593 : UInt64) .l ∧ Jvm.Native.java_lang_Math.nans.pick64 true (0 : UInt64) L0 = m0 ∧ own_op (FP.ddiv m0 D0) st0 ∧ own_cl st0 (9218868437227405312 : UInt64) .g ∧ own_cg D1 (4427486594234968593 : UInt64) .l ∧ Jvm.Native.java_lang_Math.nans.pick64 true (0 : UInt64) L1 = m1 ∧ own_op (FP.ddiv m1 D1) st1 ∧ own_cl st1 st0 .g
theorem own_ratio0 {L0 L1 D0 D1 : UInt64} (h : own_ratio L0 L1 D0 D1 false = true) : own_Rat0 L0 L1 D0 D1 := by
  simp only [own_ratio, own_fv_e, Bool.and_eq_true, Bool.false_eq_true, if_false] at h
  obtain ⟨⟨⟨h1, h2⟩, h3⟩, h4⟩ := h
  exact ⟨_, _, ⟨_, rfl, of_decide_eq_true h1⟩, rfl, own_nb_o h2, ⟨_, rfl, of_decide_eq_true h3⟩, ⟨_, rfl, of_decide_eq_true h4⟩⟩
theorem own_ratio1 {L0 L1 D0 D1 : UInt64} (h : own_ratio L0 L1 D0 D1 true = true) : own_Rat1 L0 L1 D0 D1 := by
  simp only [own_ratio, own_fv_e, Bool.and_eq_true, if_true] at h
  obtain ⟨⟨⟨h1, h2⟩, h3⟩, ⟨h4, h5⟩, h6⟩ := h
  exact ⟨_, _, _, _, ⟨_, rfl, of_decide_eq_true h1⟩, rfl, own_nb_o h2, ⟨_, rfl, of_decide_eq_true h3⟩, ⟨_, rfl, of_decide_eq_true h4⟩, rfl, own_nb_o h5, ⟨_, rfl, of_decide_eq_true h6⟩⟩
def own_chk (c l : UInt64) (lv : Bool) : Bool :=
  match own_solb 4607182418800017408 0 c 4607182418800017408 4607182418800017408 c, own_solb 4607182418800017408 0 c 4607182418800017408 4607182418800017408 l with
  | some (L0, L1), some (D0, D1) => own_ratio L0 L1 D0 D1 lv
  | _, _ => false
theorem own_chk_s {c l : UInt64} {lv : Bool} (h : own_chk c l lv = true) : ∃ L0 L1 D0 D1 : UInt64, own_Sol2 (4607182418800017408 : UInt64) (0 : UInt64) c (4607182418800017408 : UInt64) (4607182418800017408 : UInt64) c L0 L1 ∧ own_Sol2 (4607182418800017408 : UInt64) (0 : UInt64) c (4607182418800017408 : UInt64) (4607182418800017408 : UInt64) l D0 D1 ∧ own_ratio L0 L1 D0 D1 lv = true := by
  unfold own_chk at h
  split at h
  · rename_i h1 h2
    exact ⟨_, _, _, _, own_solb_s h1, own_solb_s h2, h⟩
  · cases h
def own_chkc (i : Nat) : Bool := own_fv (own_k i) fun c => (List.range 128).all fun j => own_fv (own_k j) fun l => own_chk c l (decide (i < j))
theorem own_ck0 : (List.range 8).all (fun i => own_chkc (0 + i)) = true := by decide +kernel
theorem own_ck1 : (List.range 8).all (fun i => own_chkc (8 + i)) = true := by decide +kernel
theorem own_ck2 : (List.range 8).all (fun i => own_chkc (16 + i)) = true := by decide +kernel
theorem own_ck3 : (List.range 8).all (fun i => own_chkc (24 + i)) = true := by decide +kernel
theorem own_ck4 : (List.range 8).all (fun i => own_chkc (32 + i)) = true := by decide +kernel
theorem own_ck5 : (List.range 8).all (fun i => own_chkc (40 + i)) = true := by decide +kernel
theorem own_ck6 : (List.range 8).all (fun i => own_chkc (48 + i)) = true := by decide +kernel
theorem own_ck7 : (List.range 8).all (fun i => own_chkc (56 + i)) = true := by decide +kernel
theorem own_all0 (i : Fin 64) (j : Fin 128) : own_chk (own_k i.val) (own_k j.val) (decide (i.val < j.val)) = true := by
  have key : own_chkc i.val = true := by
    have hi := i.isLt
    have pick : ∀ b : Nat, (List.range 8).all (fun k => own_chkc (b + k)) = true → b ≤ i.val → i.val < b + 8 → own_chkc i.val = true := fun b h h1 h2 => by
      have := List.all_eq_true.mp h (i.val - b) (List.mem_range.mpr (by omega))
      rw [show b + (i.val - b) = i.val by omega] at this; exact this
    have : i.val < 8 ∨ (8 ≤ i.val ∧ i.val < 16) ∨ (16 ≤ i.val ∧ i.val < 24) ∨ (24 ≤ i.val ∧ i.val < 32) ∨ (32 ≤ i.val ∧ i.val < 40) ∨ (40 ≤ i.val ∧ i.val < 48) ∨ (48 ≤ i.val ∧ i.val < 56) ∨ (56 ≤ i.val ∧ i.val < 64) := by omega
    rcases this with q | q | q | q | q | q | q | q
    · exact pick 0 own_ck0 (by omega) (by omega)
    · exact pick 8 own_ck1 (by omega) (by omega)
    · exact pick 16 own_ck2 (by omega) (by omega)
    · exact pick 24 own_ck3 (by omega) (by omega)
    · exact pick 32 own_ck4 (by omega) (by omega)
    · exact pick 40 own_ck5 (by omega) (by omega)
    · exact pick 48 own_ck6 (by omega) (by omega)
    · exact pick 56 own_ck7 (by omega) (by omega)
  unfold own_chkc at key
  rw [own_fv_e] at key
  have := List.all_eq_true.mp key j.val (List.mem_range.mpr j.isLt)
  rw [own_fv_e] at this; exact this
theorem own_init2 : ∀ i : Fin 128, own_solb (4607182418800017408 : UInt64) (own_k i.val) (0 : UInt64) (4607182418800017408 : UInt64) (13830554455654793216 : UInt64) (0 : UInt64) = some (13830554455654793216, 0) := by decide +kernel
theorem own_z3 : ∀ i : Fin 128, own_nb (own_k i.val) = true ∧ own_nb (FP.dmul (0 : UInt64) (own_k i.val)) = true ∧ FP.dmul (0 : UInt64) (own_k i.val) = 0 ∧ own_nb (FP.dmul (own_k i.val) (0 : UInt64)) = true ∧ FP.dmul (own_k i.val) (0 : UInt64) = 0 := by decide +kernel
theorem own_lcmp0' {x y : Int64} (h : lcmpW x y = 0) : x.toInt = y.toInt := by
  obtain ⟨a, b, c⟩ := c_lcmp x y
  rw [h] at a b c
  have e : (0 : Int32).toInt = 0 := rfl
  rw [e] at a c
  omega
theorem own_zv_pos (t m : Nat) : Jvm.FP.Core.zval Jvm.FP.Core.b64 (Jvm.FP.Core.roundRatio Jvm.FP.Core.b64 false t m 0) = (Jvm.FP.Core.zmag Jvm.FP.Core.b64 (Jvm.FP.Core.roundRatio Jvm.FP.Core.b64 false t m 0) : Int) := by
  unfold Jvm.FP.Core.zval
  rw [Jvm.FP.Core.sgn_roundRatio]
  rfl
/-! the duals after the binding, its value being unknown -/
theorem own_one : (4607182418800017408 : UInt64) = FP.l2d 1 := by decide +kernel
theorem own_mone : (13830554455654793216 : UInt64) = FP.l2d (-1) := by decide +kernel
theorem own_zero : (0 : UInt64) = FP.l2d 0 := by decide +kernel
def own_V (V : Int64) : Prop := 0 ≤ V.toInt ∧ V.toInt < 2147483648
theorem own_kInt {i : Nat} (h : i < 128) : (Int64.ofInt (i : Int)).toInt = i := by
  rw [Int64.toInt_ofInt]; simp only [Int.bmod_def, show (Int64.size : Nat) = 18446744073709551616 from rfl]; omega
theorem own_B53 {a : Int64} (h0 : -2147483649 < a.toInt) (h1 : a.toInt < 2147483649) : B53 a := ⟨by omega, by omega⟩
theorem own_d1 {x : UInt64} (h : Jvm.Free.Fl.NoNaN64 x) : FP.ddiv x (4607182418800017408 : UInt64) = x := Jvm.FP.Core.ddiv_one (Jvm.Free.Fl.val64_no.mp h)
theorem own_1m {x : UInt64} (h : Jvm.Free.Fl.NoNaN64 x) : FP.dmul (4607182418800017408 : UInt64) x = x := Jvm.FP.Core.one_dmul (Jvm.Free.Fl.noNaN64_no.mp h)
theorem own_zv {V : Int64} (h : own_V V) : FP.dmul (0 : UInt64) (FP.l2d V) = 0 := by
  have b0 : B53 0 := ⟨by decide, by decide⟩
  have := dmul_z (a := 0) (b := V) b0 (own_B53 (by have := h.1; omega) (by have := h.2; omega)) (Or.inl rfl)
  rw [← own_zero] at this
  rw [this]
  have hv : decide (V.toInt < 0) = false := decide_eq_false (by have := h.1; omega)
  rw [hv]; rfl
theorem own_vs0 {V : Int64} (h : own_V V) : FP.dsub (FP.l2d V) (0 : UInt64) = FP.l2d V := by
  have b0 : B53 0 := ⟨by decide, by decide⟩
  have := dsub_w (a := V) (b := 0) (own_B53 (by have := h.1; omega) (by have := h.2; omega)) b0
  rw [← own_zero] at this
  rw [this]; congr 1; simp
theorem own_lfin (V : Int64) : Jvm.Free.Fl.Fin64 (FP.l2d V) := Jvm.Free.Fl.l2d_fin V
theorem own_cngk (x y : UInt64) (o : CmpOp) (h : ¬ (0 : Int32) < cmpValue (FP.dcmp x y) o) : own_cng x y o := ⟨_, rfl, h⟩
theorem own_duals0 {V : Int64} {j : Nat} (h : own_V V) (hj : j < 128) : own_Sol2 (4607182418800017408 : UInt64) (own_k j) (0 : UInt64) (4607182418800017408 : UInt64) (FP.l2d V) (0 : UInt64) (FP.l2d V) (0 : UInt64) := by
  have z := own_z3 ⟨j, hj⟩
  refine ⟨own_nb_s (by decide +kernel), own_nb_s (by decide +kernel), Or.inl ⟨⟨_, rfl, by decide +kernel⟩, (0 : UInt64), (0 : UInt64), (0 : UInt64), (0 : UInt64), (4607182418800017408 : UInt64), (0 : UInt64), (0 : UInt64), (0 : UInt64), FP.l2d V, ?_⟩⟩
  refine ⟨own_opF (by decide +kernel) (own_fb_s (by decide +kernel)), own_opF (by decide +kernel) (own_fb_s (by decide +kernel)), own_opF (by decide +kernel) (own_fb_s (by decide +kernel)), own_opF z.2.2.1 (own_fb_s (by decide +kernel)), own_opF (by decide +kernel) (own_fb_s (by decide +kernel)), own_opF (own_zv h) (own_fb_s (by decide +kernel)), own_opF (by decide +kernel) (own_fb_s (by decide +kernel)), own_opF (by decide +kernel) (own_fb_s (by decide +kernel)), own_opF z.2.2.2.2 (own_fb_s (by decide +kernel)), own_opF (own_vs0 h) (own_lfin V), own_opF (own_d1 (own_lfin V).noNaN) (own_lfin V), ⟨_, rfl, by decide +kernel⟩, ⟨_, rfl, by decide +kernel⟩, own_fb_s (by decide +kernel), own_lfin V⟩
def own_Y1 (V : Int64) (i j : Nat) : UInt64 := FP.ddiv (FP.l2d (V + 1)) (FP.l2d (Int64.ofInt (j : Int) - Int64.ofInt (i : Int)))
def own_Y0 (V : Int64) (i j : Nat) : UInt64 := FP.dsub (13830554455654793216 : UInt64) (FP.dmul (own_k i) (own_Y1 V i j))
theorem own_V1 {V : Int64} (h : own_V V) : (V + 1).toInt = V.toInt + 1 := by
  rw [Int64.toInt_add]; simp only [Int.bmod_def, Int64.reduceToInt]; have := h.1; have := h.2; omega
theorem own_ji {i j : Nat} (hi : i < 64) (hj : j < 128) : (Int64.ofInt (j : Int) - Int64.ofInt (i : Int)).toInt = (j : Int) - i := by
  rw [Int64.toInt_sub, own_kInt hj, own_kInt (by omega)]; simp only [Int.bmod_def]; omega
theorem own_vp1 {V : Int64} (h : own_V V) : FP.dadd (FP.l2d V) (4607182418800017408 : UInt64) = FP.l2d (V + 1) := by
  have b0 : B53 1 := ⟨by decide, by decide⟩
  have := dadd_w (a := V) (b := 1) (own_B53 (by have := h.1; omega) (by have := h.2; omega)) b0
  rw [← own_one] at this; exact this
theorem own_vm1 {V : Int64} (h : own_V V) : FP.dsub (FP.l2d V) (13830554455654793216 : UInt64) = FP.l2d (V + 1) := by
  have b0 : B53 (-1) := ⟨by decide, by decide⟩
  have := dsub_w (a := V) (b := -1) (own_B53 (by have := h.1; omega) (by have := h.2; omega)) b0
  rw [← own_mone] at this; rw [this]; congr 1; rw [Int64.sub_eq_add_neg]; rfl
theorem own_lc {i j : Nat} (hi : i < 64) (hj : j < 128) : FP.dsub (own_k j) (own_k i) = FP.l2d (Int64.ofInt (j : Int) - Int64.ofInt (i : Int)) :=
  dsub_w (own_B53 (by rw [own_kInt hj]; omega) (by rw [own_kInt hj]; omega)) (own_B53 (by rw [own_kInt (by omega)]; omega) (by rw [own_kInt (by omega)]; omega))
theorem own_jn {i j : Nat} (hi : i < 64) (hj : j < 128) (h : i < j) : Int64.ofInt (j : Int) - Int64.ofInt (i : Int) ≠ 0 := fun q => by
  have e := own_ji hi hj
  rw [q] at e
  have : (0 : Int64).toInt = 0 := by decide
  omega
theorem own_Y1m {V : Int64} {i j : Nat} (hi : i < 64) (hj : j < 128) (h : i < j) : Jvm.Free.Fl.Mag64 1089 (own_Y1 V i j) := by
  have q := ddiv_mag (K := 1088) (L := 1023) (Jvm.Free.Fl.l2d_mag (V + 1)) (l2d_big (own_jn hi hj h)) (by decide) (by decide)
  exact q.mono (by decide)
theorem own_qm {V : Int64} {i j : Nat} (hi : i < 64) (hj : j < 128) (h : i < j) : Jvm.Free.Fl.Mag64 1155 (FP.dmul (own_k i) (own_Y1 V i j)) := by
  have q := Jvm.Free.Fl.dmul_mag (Ka := 1088) (Kb := 1089) (Jvm.Free.Fl.l2d_mag (Int64.ofInt (i : Int))) (own_Y1m (V := V) hi hj h) (by decide) (by decide)
  exact q.mono (by decide)
theorem own_Y0m {V : Int64} {i j : Nat} (hi : i < 64) (hj : j < 128) (h : i < j) : Jvm.Free.Fl.Mag64 1157 (own_Y0 V i j) := by
  have m1 : Jvm.Free.Fl.Mag64 1155 (13830554455654793216 : UInt64) := Jvm.Free.Fl.Mag64.mono (K := 1088) (by rw [own_mone]; exact Jvm.Free.Fl.l2d_mag _) (by decide)
  exact Jvm.Free.Fl.dsub_mag (K := 1155) m1 (own_qm (V := V) hi hj h) (by decide)
theorem own_duals1 {V : Int64} {i j : Nat} (hV : own_V V) (hi : i < 64) (hj : j < 128) (h : i < j) : own_Sol2 (4607182418800017408 : UInt64) (own_k i) (4607182418800017408 : UInt64) (own_k j) (13830554455654793216 : UInt64) (FP.l2d V) (own_Y0 V i j) (own_Y1 V i j) := by
  have f1 := (own_Y1m (V := V) hi hj h).fin (by decide)
  have f0 := (own_Y0m (V := V) hi hj h).fin (by decide)
  refine ⟨own_nb_s (by decide +kernel), own_nb_s (by decide +kernel), Or.inl ⟨⟨_, rfl, by decide +kernel⟩, (4607182418800017408 : UInt64), (4607182418800017408 : UInt64), (0 : UInt64), own_k i, FP.l2d (Int64.ofInt (j : Int) - Int64.ofInt (i : Int)), (13830554455654793216 : UInt64), FP.l2d (V + 1), FP.dmul (own_k i) (own_Y1 V i j), own_Y0 V i j, ?_⟩⟩
  refine ⟨own_opF (by decide +kernel) (own_fb_s (by decide +kernel)), own_opF (by decide +kernel) (own_fb_s (by decide +kernel)), own_opF (by decide +kernel) (own_fb_s (by decide +kernel)), own_opF (own_1m (own_lfin _).noNaN) (own_lfin _), own_opF (own_lc hi hj) (own_lfin _), own_opF (by decide +kernel) (own_fb_s (by decide +kernel)), own_opF (own_vm1 hV) (own_lfin _), own_opF rfl f1, own_opM (own_qm hi hj h) (by decide), own_opF rfl f0, own_opF (own_d1 f0.noNaN) f0, ⟨_, rfl, by decide +kernel⟩, ⟨_, rfl, ?_⟩, f1, f0⟩
  have b0 : B53 0 := ⟨by decide, by decide⟩
  rw [own_zero, dcmpV_w (own_B53 (by rw [own_ji hi hj]; omega) (by rw [own_ji hi hj]; omega)) b0]
  intro q
  exact own_jn hi hj h (Int64.toInt_inj.mp (own_lcmp0' q))
open Jvm.FP.Core (Fmt Datum b64 roundRatio zmag zval sgn val64 inUnits good_b64 Good) in
theorem own_Y1z {V : Int64} {i j : Nat} (hV : own_V V) (hi : i < 64) (hj : j < 128) (h : i < j) : ∃ k : Nat, 0 < k ∧ zval b64 (val64 (own_Y1 V i j)) = (k : Int) ∧ val64 (own_Y1 V i j) ≠ .nan := by
  have e := own_V1 hV
  have e2 := own_ji hi hj
  have v0 := hV.1
  have v1 := hV.2
  have d := own_div (t := V + 1) (m := Int64.ofInt (j : Int) - Int64.ofInt (i : Int)) (by omega) (by omega) (by omega) (by omega)
  have d' : val64 (own_Y1 V i j) = roundRatio b64 false (V + 1).toInt.toNat (Int64.ofInt (j : Int) - Int64.ofInt (i : Int)).toInt.toNat 0 := d
  have m1 : (Int64.ofInt (j : Int) - Int64.ofInt (i : Int)).toInt.toNat ≤ 128 := by omega
  have m0 : 0 < (Int64.ofInt (j : Int) - Int64.ofInt (i : Int)).toInt.toNat := by omega
  have t1 : 1 ≤ (V + 1).toInt.toNat := by omega
  generalize (V + 1).toInt.toNat = t at *
  generalize (Int64.ofInt (j : Int) - Int64.ofInt (i : Int)).toInt.toNat = mm at *
  have zk : zmag b64 (.fin false (2 ^ 52) (-59)) = 2 ^ 1067 := by decide +kernel
  have p1 : (2 : Nat) ^ 1074 = 2 ^ 1067 * 128 := (own_pow 1067 7 1074 rfl).trans (congrArg (2 ^ 1067 * ·) (show (2 : Nat) ^ 7 = 128 from rfl))
  have g := own_z_ge (t := t) (m := mm) (V := .fin false (2 ^ 52) (-59)) m0 ⟨by decide, by decide, by decide, Or.inr (by decide)⟩ (by
    rw [zk, p1]
    calc 2 ^ 1067 * mm ≤ 2 ^ 1067 * 128 := Nat.mul_le_mul_left _ m1
      _ = 1 * (2 ^ 1067 * 128) := (Nat.one_mul _).symm
      _ ≤ t * (2 ^ 1067 * 128) := Nat.mul_le_mul_right _ t1)
  rw [zk] at g
  refine ⟨own_z t mm, Nat.lt_of_lt_of_le (Nat.two_pow_pos 1067) g, ?_, ?_⟩
  · rw [d']
    unfold own_z
    exact own_zv_pos t mm
  · rw [d']; exact Jvm.FP.Core.roundRatio_ne_nan _ _ _ _ _
theorem own_Y1pos {V : Int64} {i j : Nat} (hV : own_V V) (hi : i < 64) (hj : j < 128) (h : i < j) : FP.dcmp (0 : UInt64) (own_Y1 V i j) = some .lt ∧ FP.dcmp (own_Y1 V i j) (13650858631089744401 : UInt64) = some .gt := by
  obtain ⟨k, k0, z, n⟩ := own_Y1z hV hi hj h
  constructor
  · have := Jvm.FP.Core.order_zval Jvm.FP.Core.good_b64 (Jvm.FP.Core.val64_fits (0 : UInt64)) (Jvm.FP.Core.val64_fits (own_Y1 V i j)) (by decide +kernel) n
    rw [z, show Jvm.FP.Core.zval Jvm.FP.Core.b64 (Jvm.FP.Core.val64 0) = 0 from by decide +kernel] at this
    refine Eq.trans this ?_
    rw [Jvm.FP.Core.compare_ite, if_pos (by omega)]
  · have := Jvm.FP.Core.order_zval Jvm.FP.Core.good_b64 (Jvm.FP.Core.val64_fits (own_Y1 V i j)) (Jvm.FP.Core.val64_fits (13650858631089744401 : UInt64)) n (by decide +kernel)
    rw [z] at this
    refine Eq.trans this ?_
    have hn : Jvm.FP.Core.zval Jvm.FP.Core.b64 (Jvm.FP.Core.val64 13650858631089744401) < 0 := by decide +kernel
    rw [Jvm.FP.Core.compare_ite, if_neg (by omega), if_neg (by omega)]
theorem own_Y1max {V : Int64} {i j : Nat} (hV : own_V V) (hi : i < 64) (hj : j < 128) (h : i < j) : Jvm.Native.java_lang_Math.nans.pick64 true (0 : UInt64) (own_Y1 V i j) = own_Y1 V i j := by
  unfold Jvm.Native.java_lang_Math.nans.pick64
  rw [(own_Y1pos hV hi hj h).1]; rfl
theorem own_Y1neg {V : Int64} {i j : Nat} (hV : own_V V) (hi : i < 64) (hj : j < 128) (h : i < j) : own_cnl (own_Y1 V i j) (13650858631089744401 : UInt64) .g := ⟨_, rfl, by rw [(own_Y1pos hV hi hj h).2]; decide⟩

theorem own_andL (x k : Int32) (hk : ¬ k < 0) : 0 ≤ (x &&& k).toInt ∧ (x &&& k).toInt ≤ k.toInt := by
  have hk' : 0 ≤ k.toInt := by rw [Int32.lt_iff_toInt_lt] at hk; have e0 : (0 : Int32).toInt = 0 := by decide
                               omega
  obtain ⟨n, hn⟩ := Int.eq_ofNat_of_zero_le hk'
  have kb : k.toBitVec.msb = false := by rw [BitVec.msb_eq_false_iff_two_mul_lt]; have := Int32.toInt_lt k; rw [← Int32.toInt_toBitVec, BitVec.toInt_eq_toNat_cond] at hk'; have := k.toBitVec.isLt; split at hk' <;> omega
  have e1 : k.toInt = k.toBitVec.toNat := by rw [← Int32.toInt_toBitVec]; exact BitVec.toInt_eq_toNat_of_msb kb
  have m2 : (x.toBitVec &&& k.toBitVec).msb = false := by rw [BitVec.msb_and, kb, Bool.and_false]
  have e2 : (x &&& k).toInt = (x.toBitVec &&& k.toBitVec).toNat := by rw [← Int32.toInt_toBitVec, Int32.toBitVec_and]; exact BitVec.toInt_eq_toNat_of_msb m2
  rw [e1, e2, BitVec.toNat_and]
  exact ⟨by omega, Int.ofNat_le.mpr Nat.and_le_right⟩
theorem own_k64 {i : Nat} (h : i < 128) : (Int64.ofInt (i : Int)).toInt = i := own_kInt h
theorem own_c63 {x : Int32} {v : UInt64} (h : FP.l2d (x &&& (63 : Int32)).toInt64 = v) : ∃ i : Nat, i < 64 ∧ v = own_k i := by
  obtain ⟨q, r⟩ := own_andL x 63 (by decide)
  refine ⟨(x &&& (63 : Int32)).toInt.toNat, by have e : (63 : Int32).toInt = 63 := by decide
                                               omega, ?_⟩
  rw [← h]; unfold own_k; congr 1
  apply Int64.toInt_inj.mp
  rw [c_i2l, own_k64 (by have e : (63 : Int32).toInt = 63 := by decide
                         omega)]
  have e : (63 : Int32).toInt = 63 := by decide
  omega
theorem own_c127 {x : Int32} {v : UInt64} (h : FP.l2d (x &&& (127 : Int32)).toInt64 = v) : ∃ i : Nat, i < 128 ∧ v = own_k i := by
  obtain ⟨q, r⟩ := own_andL x 127 (by decide)
  refine ⟨(x &&& (127 : Int32)).toInt.toNat, by have e : (127 : Int32).toInt = 127 := by decide
                                                omega, ?_⟩
  rw [← h]; unfold own_k; congr 1
  apply Int64.toInt_inj.mp
  rw [c_i2l, own_k64 (by have e : (127 : Int32).toInt = 127 := by decide
                         omega)]
  have e : (127 : Int32).toInt = 127 := by decide
  omega
theorem own_c31 {x : Int32} {v : UInt64} (h : FP.l2d (x &&& (2147483647 : Int32)).toInt64 = v) : ∃ V : Int64, own_V V ∧ v = FP.l2d V := by
  obtain ⟨q, r⟩ := own_andL x 2147483647 (by decide)
  refine ⟨_, ⟨by rw [c_i2l]; exact q, ?_⟩, h.symm⟩
  rw [c_i2l]
  have e : (2147483647 : Int32).toInt = 2147483647 := by decide
  omega
theorem own_nnE {x : UInt64} {V : Int64} (h : x = FP.l2d V) : Jvm.Free.Fl.NoNaN64 x := h ▸ (own_lfin V).noNaN
theorem own_e1 {V : Int64} {dv : UInt64} (h : own_V V) (e : dv = FP.l2d V) : FP.dadd dv (4607182418800017408 : UInt64) = FP.l2d (V + 1) := by rw [e]; exact own_vp1 h
theorem own_e2 {i j : Nat} {dc dl : UInt64} (ei : dc = own_k i) (ej : dl = own_k j) (hi : i < 64) (hj : j < 128) : FP.dsub dl dc = FP.l2d (Int64.ofInt (j : Int) - Int64.ofInt (i : Int)) := by rw [ei, ej]; exact own_lc hi hj
theorem own_self {x : UInt64} (h : Jvm.Free.Fl.NoNaN64 x) : ∃ z : Int32, cmpValue (FP.dcmp x x) .l = z ∧ z = (0 : Int32) := ⟨_, rfl, dcmpV_self h _⟩
theorem own_lgt1 {i j : Nat} {dc dl : UInt64} (ei : dc = own_k i) (ej : dl = own_k j) (hi : i < 64) (hj : j < 128) (h : i < j) : own_cg dl dc .l := by
  rw [ei, ej]
  refine ⟨_, rfl, ?_⟩
  unfold own_k
  rw [dcmpV_w (own_B53 (by rw [own_kInt hj]; omega) (by rw [own_kInt hj]; omega)) (own_B53 (by rw [own_kInt (by omega)]; omega) (by rw [own_kInt (by omega)]; omega)), Int32.lt_iff_toInt_lt]
  have c := c_lcmp (Int64.ofInt (j : Int)) (Int64.ofInt (i : Int))
  rw [own_kInt hj, own_kInt (show i < 128 by omega)] at c
  have e0 : (0 : Int32).toInt = 0 := by decide
  omega
theorem own_lgt0 {i j : Nat} {dc dl : UInt64} (ei : dc = own_k i) (ej : dl = own_k j) (hi : i < 64) (hj : j < 128) (h : ¬ i < j) : own_cng dl dc .l := by
  rw [ei, ej]
  refine ⟨_, rfl, ?_⟩
  unfold own_k
  rw [dcmpV_w (own_B53 (by rw [own_kInt hj]; omega) (by rw [own_kInt hj]; omega)) (own_B53 (by rw [own_kInt (by omega)]; omega) (by rw [own_kInt (by omega)]; omega)), Int32.lt_iff_toInt_lt]
  have c := c_lcmp (Int64.ofInt (j : Int)) (Int64.ofInt (i : Int))
  rw [own_kInt hj, own_kInt (show i < 128 by omega)] at c
  have e0 : (0 : Int32).toInt = 0 := by decide
  omega
theorem okl_0 : cmpValue (FP.dcmp (4607182418800017408 : UInt64) (0 : UInt64)) .l = (1 : Int32) := by first | decide +kernel | (unfold Jvm.Free.Fl.NoNaN64; decide +kernel) | (constructor <;> decide +kernel) | (rw [Jvm.Free.Fl.fin64_iff]; decide +kernel)
theorem okl_1 : Jvm.Free.Fl.NoNaN64 (FP.ddiv (13830554455654793216 : UInt64) (4607182418800017408 : UInt64)) ∧ FP.ddiv (13830554455654793216 : UInt64) (4607182418800017408 : UInt64) = (13830554455654793216 : UInt64) := by first | decide +kernel | (unfold Jvm.Free.Fl.NoNaN64; decide +kernel) | (constructor <;> decide +kernel) | (rw [Jvm.Free.Fl.fin64_iff]; decide +kernel)
theorem okl_2 : Jvm.Free.Fl.Fin64 (13830554455654793216 : UInt64) := by first | decide +kernel | (unfold Jvm.Free.Fl.NoNaN64; decide +kernel) | (constructor <;> decide +kernel) | (rw [Jvm.Free.Fl.fin64_iff]; decide +kernel)
theorem okl_3 : Jvm.Free.Fl.NoNaN64 (0 : UInt64) := by first | decide +kernel | (unfold Jvm.Free.Fl.NoNaN64; decide +kernel) | (constructor <;> decide +kernel) | (rw [Jvm.Free.Fl.fin64_iff]; decide +kernel)
theorem okl_4 : Jvm.Free.Fl.NoNaN64 (4607182418800017408 : UInt64) := by first | decide +kernel | (unfold Jvm.Free.Fl.NoNaN64; decide +kernel) | (constructor <;> decide +kernel) | (rw [Jvm.Free.Fl.fin64_iff]; decide +kernel)
theorem okl_5 : cmpValue (FP.dcmp (0 : UInt64) (4607182418800017408 : UInt64)) .l = (-1 : Int32) := by first | decide +kernel | (unfold Jvm.Free.Fl.NoNaN64; decide +kernel) | (constructor <;> decide +kernel) | (rw [Jvm.Free.Fl.fin64_iff]; decide +kernel)
theorem okl_6 : Jvm.Free.Fl.NoNaN64 (FP.ddiv (0 : UInt64) (4607182418800017408 : UInt64)) ∧ FP.ddiv (0 : UInt64) (4607182418800017408 : UInt64) = (0 : UInt64) := by first | decide +kernel | (unfold Jvm.Free.Fl.NoNaN64; decide +kernel) | (constructor <;> decide +kernel) | (rw [Jvm.Free.Fl.fin64_iff]; decide +kernel)
theorem okl_7 : Jvm.Free.Fl.NoNaN64 (FP.dmul (0 : UInt64) (4607182418800017408 : UInt64)) ∧ FP.dmul (0 : UInt64) (4607182418800017408 : UInt64) = (0 : UInt64) := by first | decide +kernel | (unfold Jvm.Free.Fl.NoNaN64; decide +kernel) | (constructor <;> decide +kernel) | (rw [Jvm.Free.Fl.fin64_iff]; decide +kernel)
theorem okl_8 : Jvm.Free.Fl.NoNaN64 (FP.dsub (0 : UInt64) (0 : UInt64)) ∧ FP.dsub (0 : UInt64) (0 : UInt64) = (0 : UInt64) := by first | decide +kernel | (unfold Jvm.Free.Fl.NoNaN64; decide +kernel) | (constructor <;> decide +kernel) | (rw [Jvm.Free.Fl.fin64_iff]; decide +kernel)
theorem okl_9 : Jvm.Free.Fl.NoNaN64 (FP.dsub (4607182418800017408 : UInt64) (0 : UInt64)) ∧ FP.dsub (4607182418800017408 : UInt64) (0 : UInt64) = (4607182418800017408 : UInt64) := by first | decide +kernel | (unfold Jvm.Free.Fl.NoNaN64; decide +kernel) | (constructor <;> decide +kernel) | (rw [Jvm.Free.Fl.fin64_iff]; decide +kernel)
theorem okl_10 : Jvm.Free.Fl.NoNaN64 (FP.dmul (0 : UInt64) (13830554455654793216 : UInt64)) ∧ FP.dmul (0 : UInt64) (13830554455654793216 : UInt64) = (9223372036854775808 : UInt64) := by first | decide +kernel | (unfold Jvm.Free.Fl.NoNaN64; decide +kernel) | (constructor <;> decide +kernel) | (rw [Jvm.Free.Fl.fin64_iff]; decide +kernel)
theorem okl_11 : Jvm.Free.Fl.NoNaN64 (FP.dsub (0 : UInt64) (9223372036854775808 : UInt64)) ∧ FP.dsub (0 : UInt64) (9223372036854775808 : UInt64) = (0 : UInt64) := by first | decide +kernel | (unfold Jvm.Free.Fl.NoNaN64; decide +kernel) | (constructor <;> decide +kernel) | (rw [Jvm.Free.Fl.fin64_iff]; decide +kernel)
theorem okl_12 : Jvm.Free.Fl.NoNaN64 (FP.dmul (0 : UInt64) (0 : UInt64)) ∧ FP.dmul (0 : UInt64) (0 : UInt64) = (0 : UInt64) := by first | decide +kernel | (unfold Jvm.Free.Fl.NoNaN64; decide +kernel) | (constructor <;> decide +kernel) | (rw [Jvm.Free.Fl.fin64_iff]; decide +kernel)
theorem okl_13 : Jvm.Free.Fl.Fin64 (0 : UInt64) := by first | decide +kernel | (unfold Jvm.Free.Fl.NoNaN64; decide +kernel) | (constructor <;> decide +kernel) | (rw [Jvm.Free.Fl.fin64_iff]; decide +kernel)
theorem okl_14 : Jvm.Free.Fl.NoNaN64 (FP.dsub (13830554455654793216 : UInt64) (0 : UInt64)) ∧ FP.dsub (13830554455654793216 : UInt64) (0 : UInt64) = (13830554455654793216 : UInt64) := by first | decide +kernel | (unfold Jvm.Free.Fl.NoNaN64; decide +kernel) | (constructor <;> decide +kernel) | (rw [Jvm.Free.Fl.fin64_iff]; decide +kernel)
theorem okl_15 : Jvm.Native.java_lang_Math.nans.pick64 true (0 : UInt64) (0 : UInt64) = (0 : UInt64) := by first | decide +kernel | (unfold Jvm.Free.Fl.NoNaN64; decide +kernel) | (constructor <;> decide +kernel) | (rw [Jvm.Free.Fl.fin64_iff]; decide +kernel)
theorem okl_16 : cmpValue (FP.dcmp (0 : UInt64) (0 : UInt64)) .l = (0 : Int32) := by first | decide +kernel | (unfold Jvm.Free.Fl.NoNaN64; decide +kernel) | (constructor <;> decide +kernel) | (rw [Jvm.Free.Fl.fin64_iff]; decide +kernel)
theorem ow_0 {Z : State} {a0 : Array Value} (hw : ∀ d ∈ tables_1, d.before a0 Z = true) : (Jvm.Cond.constant "com/example/bindery/bindery/selection/BindingMixPricesPinLaw" (7 : Nat) (2147483647 : Int32)).before a0 Z = true := hw _ (List.mem_of_getElem? (i := 0) rfl)
theorem ow_1 {Z : State} {a0 : Array Value} (hw : ∀ d ∈ tables_1, d.before a0 Z = true) : (Jvm.Cond.classLink "com/example/bindery/bindery/selection/BindingMixPricesPinLaw" (8 : Nat) "com/example/bindery/bindery/selection/BindingMix").before a0 Z = true := hw _ (List.mem_of_getElem? (i := 1) rfl)
theorem ow_2 {Z : State} {a0 : Array Value} (hw : ∀ d ∈ tables_1, d.before a0 Z = true) : (Jvm.Cond.instantiable "com/example/bindery/bindery/selection/BindingMix" (6 : Nat)).before a0 Z = true := hw _ (List.mem_of_getElem? (i := 2) rfl)
theorem ow_3 {Z : State} {a0 : Array Value} (hw : ∀ d ∈ tables_1, d.before a0 Z = true) : (Jvm.Cond.initialized "com/example/bindery/bindery/selection/BindingMix").before a0 Z = true := hw _ (List.mem_of_getElem? (i := 3) rfl)
theorem ow_4 {Z : State} {a0 : Array Value} (hw : ∀ d ∈ tables_1, d.before a0 Z = true) : (Jvm.Cond.arrayClass Jvm.ClassFile.FieldType.double).before a0 Z = true := hw _ (List.mem_of_getElem? (i := 4) rfl)
theorem ow_5 {Z : State} {a0 : Array Value} (hw : ∀ d ∈ tables_1, d.before a0 Z = true) : (Jvm.Cond.methodLink "com/example/bindery/bindery/selection/BindingMixPricesPinLaw" (10 : Nat) ({ cls := "com/example/bindery/bindery/selection/BindingMix", name := "<init>", desc := "([D)V" } : Jvm.MethodName)).before a0 Z = true := hw _ (List.mem_of_getElem? (i := 5) rfl)
theorem ow_6 {Z : State} {a0 : Array Value} (hw : ∀ d ∈ tables_1, d.before a0 Z = true) : (Jvm.Cond.instanceMethod ({ cls := "com/example/bindery/bindery/selection/BindingMix", name := "<init>", desc := "([D)V" } : Jvm.MethodName)).before a0 Z = true := hw _ (List.mem_of_getElem? (i := 6) rfl)
theorem ow_7 {Z : State} {a0 : Array Value} (hw : ∀ d ∈ tables_1, d.before a0 Z = true) : (Jvm.Cond.code ({ cls := "com/example/bindery/bindery/selection/BindingMix", name := "<init>", desc := "([D)V" } : Jvm.MethodName) prog_37_method_1_code (3 : Nat) (Option.none : Option Jvm.ClassFile.FieldType)).before a0 Z = true := hw _ (List.mem_of_getElem? (i := 7) rfl)
theorem ow_8 {Z : State} {a0 : Array Value} (hw : ∀ d ∈ tables_1, d.before a0 Z = true) : (Jvm.Cond.methodLink "com/example/bindery/bindery/selection/BindingMix" (1 : Nat) ({ cls := "java/lang/Object", name := "<init>", desc := "()V" } : Jvm.MethodName)).before a0 Z = true := hw _ (List.mem_of_getElem? (i := 8) rfl)
theorem ow_9 {Z : State} {a0 : Array Value} (hw : ∀ d ∈ tables_1, d.before a0 Z = true) : (Jvm.Cond.instanceMethod ({ cls := "java/lang/Object", name := "<init>", desc := "()V" } : Jvm.MethodName)).before a0 Z = true := hw _ (List.mem_of_getElem? (i := 9) rfl)
theorem ow_10 {Z : State} {a0 : Array Value} (hw : ∀ d ∈ tables_1, d.before a0 Z = true) : (Jvm.Cond.code ({ cls := "java/lang/Object", name := "<init>", desc := "()V" } : Jvm.MethodName) object_method_1_code (1 : Nat) (Option.none : Option Jvm.ClassFile.FieldType)).before a0 Z = true := hw _ (List.mem_of_getElem? (i := 10) rfl)
theorem ow_11 {Z : State} {a0 : Array Value} (hw : ∀ d ∈ tables_1, d.before a0 Z = true) : (Jvm.Cond.fieldLink "com/example/bindery/bindery/selection/BindingMix" (7 : Nat) "com/example/bindery/bindery/selection/BindingMix" "size" "I").before a0 Z = true := hw _ (List.mem_of_getElem? (i := 11) rfl)
theorem ow_12 {Z : State} {a0 : Array Value} (hw : ∀ d ∈ tables_1, d.before a0 Z = true) : (Jvm.Cond.laysFinal "com/example/bindery/bindery/selection/BindingMix" "com/example/bindery/bindery/selection/BindingMix" "size" "I").before a0 Z = true := hw _ (List.mem_of_getElem? (i := 12) rfl)
theorem ow_13 {Z : State} {a0 : Array Value} (hw : ∀ d ∈ tables_1, d.before a0 Z = true) : (Jvm.Cond.fieldLink "com/example/bindery/bindery/selection/BindingMix" (13 : Nat) "com/example/bindery/bindery/selection/BindingMix" "rightHandSide" "[D").before a0 Z = true := hw _ (List.mem_of_getElem? (i := 13) rfl)
theorem ow_14 {Z : State} {a0 : Array Value} (hw : ∀ d ∈ tables_1, d.before a0 Z = true) : (Jvm.Cond.laysFinal "com/example/bindery/bindery/selection/BindingMix" "com/example/bindery/bindery/selection/BindingMix" "rightHandSide" "[D").before a0 Z = true := hw _ (List.mem_of_getElem? (i := 14) rfl)
theorem ow_15 {Z : State} {a0 : Array Value} (hw : ∀ d ∈ tables_1, d.before a0 Z = true) : (Jvm.Cond.methodLink "com/example/bindery/bindery/selection/BindingMix" (17 : Nat) ({ cls := "java/lang/System", name := "arraycopy", desc := "(Ljava/lang/Object;ILjava/lang/Object;II)V" } : Jvm.MethodName)).before a0 Z = true := hw _ (List.mem_of_getElem? (i := 15) rfl)
theorem ow_16 {Z : State} {a0 : Array Value} (hw : ∀ d ∈ tables_1, d.before a0 Z = true) : (Jvm.Cond.static ({ cls := "java/lang/System", name := "arraycopy", desc := "(Ljava/lang/Object;ILjava/lang/Object;II)V" } : Jvm.MethodName)).before a0 Z = true := hw _ (List.mem_of_getElem? (i := 16) rfl)
theorem ow_17 {Z : State} {a0 : Array Value} (hw : ∀ d ∈ tables_1, d.before a0 Z = true) : (Jvm.Cond.initialized "java/lang/System").before a0 Z = true := hw _ (List.mem_of_getElem? (i := 17) rfl)
theorem ow_18 {Z : State} {a0 : Array Value} (hw : ∀ d ∈ tables_1, d.before a0 Z = true) : (Jvm.Cond.native ({ cls := "java/lang/System", name := "arraycopy", desc := "(Ljava/lang/Object;ILjava/lang/Object;II)V" } : Jvm.MethodName)).before a0 Z = true := hw _ (List.mem_of_getElem? (i := 18) rfl)
theorem ow_19 {Z : State} {a0 : Array Value} (hw : ∀ d ∈ tables_1, d.before a0 Z = true) : (Jvm.Cond.classLink "com/example/bindery/bindery/selection/BindingMix" (23 : Nat) "[D").before a0 Z = true := hw _ (List.mem_of_getElem? (i := 19) rfl)
theorem ow_20 {Z : State} {a0 : Array Value} (hw : ∀ d ∈ tables_1, d.before a0 Z = true) : (Jvm.Cond.arrayOver (Jvm.ClassFile.FieldType.array Jvm.ClassFile.FieldType.double)).before a0 Z = true := hw _ (List.mem_of_getElem? (i := 20) rfl)
theorem ow_21 {Z : State} {a0 : Array Value} (hw : ∀ d ∈ tables_1, d.before a0 Z = true) : (Jvm.Cond.fieldLink "com/example/bindery/bindery/selection/BindingMix" (24 : Nat) "com/example/bindery/bindery/selection/BindingMix" "basis" "[[D").before a0 Z = true := hw _ (List.mem_of_getElem? (i := 21) rfl)
theorem ow_22 {Z : State} {a0 : Array Value} (hw : ∀ d ∈ tables_1, d.before a0 Z = true) : (Jvm.Cond.laysFinal "com/example/bindery/bindery/selection/BindingMix" "com/example/bindery/bindery/selection/BindingMix" "basis" "[[D").before a0 Z = true := hw _ (List.mem_of_getElem? (i := 22) rfl)
theorem ow_23 {Z : State} {a0 : Array Value} (hw : ∀ d ∈ tables_1, d.before a0 Z = true) : (Jvm.Cond.fieldLink "com/example/bindery/bindery/selection/BindingMix" (28 : Nat) "com/example/bindery/bindery/selection/BindingMix" "values" "[D").before a0 Z = true := hw _ (List.mem_of_getElem? (i := 23) rfl)
theorem ow_24 {Z : State} {a0 : Array Value} (hw : ∀ d ∈ tables_1, d.before a0 Z = true) : (Jvm.Cond.laysFinal "com/example/bindery/bindery/selection/BindingMix" "com/example/bindery/bindery/selection/BindingMix" "values" "[D").before a0 Z = true := hw _ (List.mem_of_getElem? (i := 24) rfl)
theorem ow_25 {Z : State} {a0 : Array Value} (hw : ∀ d ∈ tables_1, d.before a0 Z = true) : (Jvm.Cond.arrayClass Jvm.ClassFile.FieldType.int).before a0 Z = true := hw _ (List.mem_of_getElem? (i := 25) rfl)
theorem ow_26 {Z : State} {a0 : Array Value} (hw : ∀ d ∈ tables_1, d.before a0 Z = true) : (Jvm.Cond.fieldLink "com/example/bindery/bindery/selection/BindingMix" (31 : Nat) "com/example/bindery/bindery/selection/BindingMix" "slackOf" "[I").before a0 Z = true := hw _ (List.mem_of_getElem? (i := 26) rfl)
theorem ow_27 {Z : State} {a0 : Array Value} (hw : ∀ d ∈ tables_1, d.before a0 Z = true) : (Jvm.Cond.laysFinal "com/example/bindery/bindery/selection/BindingMix" "com/example/bindery/bindery/selection/BindingMix" "slackOf" "[I").before a0 Z = true := hw _ (List.mem_of_getElem? (i := 27) rfl)
theorem ow_28 {Z : State} {a0 : Array Value} (hw : ∀ d ∈ tables_1, d.before a0 Z = true) : (Jvm.Cond.methodLink "com/example/bindery/bindery/selection/BindingMix" (35 : Nat) ({ cls := "[D", name := "clone", desc := "()Ljava/lang/Object;" } : Jvm.MethodName)).before a0 Z = true := hw _ (List.mem_of_getElem? (i := 28) rfl)
theorem ow_29 {Z : State} {a0 : Array Value} (hw : ∀ d ∈ tables_1, d.before a0 Z = true) : (Jvm.Cond.sameMethod "[D" "java/lang/Object" "clone" "()Ljava/lang/Object;").before a0 Z = true := hw _ (List.mem_of_getElem? (i := 29) rfl)
theorem ow_31 {Z : State} {a0 : Array Value} (hw : ∀ d ∈ tables_1, d.before a0 Z = true) : (Jvm.Cond.instanceMethod ({ cls := "java/lang/Object", name := "clone", desc := "()Ljava/lang/Object;" } : Jvm.MethodName)).before a0 Z = true := hw _ (List.mem_of_getElem? (i := 31) rfl)
theorem ow_32 {Z : State} {a0 : Array Value} (hw : ∀ d ∈ tables_1, d.before a0 Z = true) : (Jvm.Cond.selects "[D" ({ cls := "[D", name := "clone", desc := "()Ljava/lang/Object;" } : Jvm.MethodName) ({ cls := "java/lang/Object", name := "clone", desc := "()Ljava/lang/Object;" } : Jvm.MethodName)).before a0 Z = true := hw _ (List.mem_of_getElem? (i := 32) rfl)
theorem ow_33 {Z : State} {a0 : Array Value} (hw : ∀ d ∈ tables_1, d.before a0 Z = true) : (Jvm.Cond.native ({ cls := "java/lang/Object", name := "clone", desc := "()Ljava/lang/Object;" } : Jvm.MethodName)).before a0 Z = true := hw _ (List.mem_of_getElem? (i := 33) rfl)
theorem ow_34 {Z : State} {a0 : Array Value} (hw : ∀ d ∈ tables_1, d.before a0 Z = true) : (Jvm.Cond.castable "[D" "java/lang/Cloneable").before a0 Z = true := hw _ (List.mem_of_getElem? (i := 34) rfl)
theorem ow_36 {Z : State} {a0 : Array Value} (hw : ∀ d ∈ tables_1, d.before a0 Z = true) : (Jvm.Cond.constantDouble "com/example/bindery/bindery/selection/BindingMix" (39 : Nat) (13830554455654793216 : UInt64)).before a0 Z = true := hw _ (List.mem_of_getElem? (i := 36) rfl)
theorem ow_37 {Z : State} {a0 : Array Value} (hw : ∀ d ∈ tables_1, d.before a0 Z = true) : (Jvm.Cond.methodLink "com/example/bindery/bindery/selection/BindingMix" (45 : Nat) ({ cls := "com/example/bindery/bindery/selection/BindingMix", name := "duals", desc := "()[D" } : Jvm.MethodName)).before a0 Z = true := hw _ (List.mem_of_getElem? (i := 37) rfl)
theorem ow_38 {Z : State} {a0 : Array Value} (hw : ∀ d ∈ tables_1, d.before a0 Z = true) : (Jvm.Cond.instanceMethod ({ cls := "com/example/bindery/bindery/selection/BindingMix", name := "duals", desc := "()[D" } : Jvm.MethodName)).before a0 Z = true := hw _ (List.mem_of_getElem? (i := 38) rfl)
theorem ow_39 {Z : State} {a0 : Array Value} (hw : ∀ d ∈ tables_1, d.before a0 Z = true) : (Jvm.Cond.privateMethod ({ cls := "com/example/bindery/bindery/selection/BindingMix", name := "duals", desc := "()[D" } : Jvm.MethodName)).before a0 Z = true := hw _ (List.mem_of_getElem? (i := 39) rfl)
theorem ow_40 {Z : State} {a0 : Array Value} (hw : ∀ d ∈ tables_1, d.before a0 Z = true) : (Jvm.Cond.code ({ cls := "com/example/bindery/bindery/selection/BindingMix", name := "duals", desc := "()[D" } : Jvm.MethodName) prog_37_method_9_code (1 : Nat) (Option.some (Jvm.ClassFile.FieldType.array Jvm.ClassFile.FieldType.double))).before a0 Z = true := hw _ (List.mem_of_getElem? (i := 40) rfl)
theorem ow_41 {Z : State} {a0 : Array Value} (hw : ∀ d ∈ tables_1, d.before a0 Z = true) : (Jvm.Cond.methodLink "com/example/bindery/bindery/selection/BindingMix" (71 : Nat) ({ cls := "com/example/bindery/bindery/selection/BindingMix", name := "solve", desc := "([[D[D)[D" } : Jvm.MethodName)).before a0 Z = true := hw _ (List.mem_of_getElem? (i := 41) rfl)
theorem ow_42 {Z : State} {a0 : Array Value} (hw : ∀ d ∈ tables_1, d.before a0 Z = true) : (Jvm.Cond.static ({ cls := "com/example/bindery/bindery/selection/BindingMix", name := "solve", desc := "([[D[D)[D" } : Jvm.MethodName)).before a0 Z = true := hw _ (List.mem_of_getElem? (i := 42) rfl)
theorem ow_43 {Z : State} {a0 : Array Value} (hw : ∀ d ∈ tables_1, d.before a0 Z = true) : (Jvm.Cond.code ({ cls := "com/example/bindery/bindery/selection/BindingMix", name := "solve", desc := "([[D[D)[D" } : Jvm.MethodName) prog_37_method_10_code (14 : Nat) (Option.some (Jvm.ClassFile.FieldType.array Jvm.ClassFile.FieldType.double))).before a0 Z = true := hw _ (List.mem_of_getElem? (i := 43) rfl)
theorem ow_44 {Z : State} {a0 : Array Value} (hw : ∀ d ∈ tables_1, d.before a0 Z = true) : (Jvm.Cond.methodLink "com/example/bindery/bindery/selection/BindingMix" (86 : Nat) ({ cls := "java/lang/Double", name := "isFinite", desc := "(D)Z" } : Jvm.MethodName)).before a0 Z = true := hw _ (List.mem_of_getElem? (i := 44) rfl)
theorem ow_45 {Z : State} {a0 : Array Value} (hw : ∀ d ∈ tables_1, d.before a0 Z = true) : (Jvm.Cond.static ({ cls := "java/lang/Double", name := "isFinite", desc := "(D)Z" } : Jvm.MethodName)).before a0 Z = true := hw _ (List.mem_of_getElem? (i := 45) rfl)
theorem ow_46 {Z : State} {a0 : Array Value} (hw : ∀ d ∈ tables_1, d.before a0 Z = true) : (Jvm.Cond.initialized "java/lang/Double").before a0 Z = true := hw _ (List.mem_of_getElem? (i := 46) rfl)
theorem ow_47 {Z : State} {a0 : Array Value} (hw : ∀ d ∈ tables_1, d.before a0 Z = true) : (Jvm.Cond.code ({ cls := "java/lang/Double", name := "isFinite", desc := "(D)Z" } : Jvm.MethodName) jdk_117_method_8_code (2 : Nat) (Option.some Jvm.ClassFile.FieldType.boolean)).before a0 Z = true := hw _ (List.mem_of_getElem? (i := 47) rfl)
theorem ow_48 {Z : State} {a0 : Array Value} (hw : ∀ d ∈ tables_1, d.before a0 Z = true) : (Jvm.Cond.methodLink "java/lang/Double" (38 : Nat) ({ cls := "java/lang/Math", name := "abs", desc := "(D)D" } : Jvm.MethodName)).before a0 Z = true := hw _ (List.mem_of_getElem? (i := 48) rfl)
theorem ow_49 {Z : State} {a0 : Array Value} (hw : ∀ d ∈ tables_1, d.before a0 Z = true) : (Jvm.Cond.static ({ cls := "java/lang/Math", name := "abs", desc := "(D)D" } : Jvm.MethodName)).before a0 Z = true := hw _ (List.mem_of_getElem? (i := 49) rfl)
theorem ow_50 {Z : State} {a0 : Array Value} (hw : ∀ d ∈ tables_1, d.before a0 Z = true) : (Jvm.Cond.initialized "java/lang/Math").before a0 Z = true := hw _ (List.mem_of_getElem? (i := 50) rfl)
theorem ow_51 {Z : State} {a0 : Array Value} (hw : ∀ d ∈ tables_1, d.before a0 Z = true) : (Jvm.Cond.code ({ cls := "java/lang/Math", name := "abs", desc := "(D)D" } : Jvm.MethodName) jdk_29_method_64_code (2 : Nat) (Option.some Jvm.ClassFile.FieldType.double)).before a0 Z = true := hw _ (List.mem_of_getElem? (i := 51) rfl)
theorem ow_52 {Z : State} {a0 : Array Value} (hw : ∀ d ∈ tables_1, d.before a0 Z = true) : (Jvm.Cond.constantDouble "java/lang/Double" (111 : Nat) (9218868437227405311 : UInt64)).before a0 Z = true := hw _ (List.mem_of_getElem? (i := 52) rfl)
theorem ow_53 {Z : State} {a0 : Array Value} (hw : ∀ d ∈ tables_1, d.before a0 Z = true) : (Jvm.Cond.fieldLink "com/example/bindery/bindery/selection/BindingMix" (49 : Nat) "com/example/bindery/bindery/selection/BindingMix" "duals" "[D").before a0 Z = true := hw _ (List.mem_of_getElem? (i := 53) rfl)
theorem ow_54 {Z : State} {a0 : Array Value} (hw : ∀ d ∈ tables_1, d.before a0 Z = true) : (Jvm.Cond.lays "com/example/bindery/bindery/selection/BindingMix" "com/example/bindery/bindery/selection/BindingMix" "duals" "[D").before a0 Z = true := hw _ (List.mem_of_getElem? (i := 54) rfl)
theorem ow_55 {Z : State} {a0 : Array Value} (hw : ∀ d ∈ tables_1, d.before a0 Z = true) : (Jvm.Cond.methodLink "com/example/bindery/bindery/selection/BindingMixPricesPinLaw" (13 : Nat) ({ cls := "com/example/bindery/bindery/selection/BindingMix", name := "prices", desc := "()[D" } : Jvm.MethodName)).before a0 Z = true := hw _ (List.mem_of_getElem? (i := 55) rfl)
theorem ow_56 {Z : State} {a0 : Array Value} (hw : ∀ d ∈ tables_1, d.before a0 Z = true) : (Jvm.Cond.declares ({ cls := "com/example/bindery/bindery/selection/BindingMix", name := "prices", desc := "()[D" } : Jvm.MethodName)).before a0 Z = true := hw _ (List.mem_of_getElem? (i := 56) rfl)
theorem ow_57 {Z : State} {a0 : Array Value} (hw : ∀ d ∈ tables_1, d.before a0 Z = true) : (Jvm.Cond.instanceMethod ({ cls := "com/example/bindery/bindery/selection/BindingMix", name := "prices", desc := "()[D" } : Jvm.MethodName)).before a0 Z = true := hw _ (List.mem_of_getElem? (i := 57) rfl)
theorem ow_58 {Z : State} {a0 : Array Value} (hw : ∀ d ∈ tables_1, d.before a0 Z = true) : (Jvm.Cond.selects "com/example/bindery/bindery/selection/BindingMix" ({ cls := "com/example/bindery/bindery/selection/BindingMix", name := "prices", desc := "()[D" } : Jvm.MethodName) ({ cls := "com/example/bindery/bindery/selection/BindingMix", name := "prices", desc := "()[D" } : Jvm.MethodName)).before a0 Z = true := hw _ (List.mem_of_getElem? (i := 58) rfl)
theorem ow_59 {Z : State} {a0 : Array Value} (hw : ∀ d ∈ tables_1, d.before a0 Z = true) : (Jvm.Cond.code ({ cls := "com/example/bindery/bindery/selection/BindingMix", name := "prices", desc := "()[D" } : Jvm.MethodName) prog_37_method_2_code (3 : Nat) (Option.some (Jvm.ClassFile.FieldType.array Jvm.ClassFile.FieldType.double))).before a0 Z = true := hw _ (List.mem_of_getElem? (i := 59) rfl)
theorem ow_60 {Z : State} {a0 : Array Value} (hw : ∀ d ∈ tables_1, d.before a0 Z = true) : (Jvm.Cond.methodLink "com/example/bindery/bindery/selection/BindingMix" (41 : Nat) ({ cls := "com/example/bindery/bindery/selection/BindingMix", name := "slack", desc := "(I)[D" } : Jvm.MethodName)).before a0 Z = true := hw _ (List.mem_of_getElem? (i := 60) rfl)
theorem ow_61 {Z : State} {a0 : Array Value} (hw : ∀ d ∈ tables_1, d.before a0 Z = true) : (Jvm.Cond.instanceMethod ({ cls := "com/example/bindery/bindery/selection/BindingMix", name := "slack", desc := "(I)[D" } : Jvm.MethodName)).before a0 Z = true := hw _ (List.mem_of_getElem? (i := 61) rfl)
theorem ow_62 {Z : State} {a0 : Array Value} (hw : ∀ d ∈ tables_1, d.before a0 Z = true) : (Jvm.Cond.privateMethod ({ cls := "com/example/bindery/bindery/selection/BindingMix", name := "slack", desc := "(I)[D" } : Jvm.MethodName)).before a0 Z = true := hw _ (List.mem_of_getElem? (i := 62) rfl)
theorem ow_63 {Z : State} {a0 : Array Value} (hw : ∀ d ∈ tables_1, d.before a0 Z = true) : (Jvm.Cond.code ({ cls := "com/example/bindery/bindery/selection/BindingMix", name := "slack", desc := "(I)[D" } : Jvm.MethodName) prog_37_method_7_code (3 : Nat) (Option.some (Jvm.ClassFile.FieldType.array Jvm.ClassFile.FieldType.double))).before a0 Z = true := hw _ (List.mem_of_getElem? (i := 63) rfl)
theorem ow_64 {Z : State} {a0 : Array Value} (hw : ∀ d ∈ tables_1, d.before a0 Z = true) : (Jvm.Cond.methodLink "com/example/bindery/bindery/selection/BindingMix" (82 : Nat) ({ cls := "java/lang/Math", name := "abs", desc := "(D)D" } : Jvm.MethodName)).before a0 Z = true := hw _ (List.mem_of_getElem? (i := 64) rfl)
theorem ow_65 {Z : State} {a0 : Array Value} (hw : ∀ d ∈ tables_1, d.before a0 Z = true) : (Jvm.Cond.methodLink "com/example/bindery/bindery/selection/BindingMix" (51 : Nat) ({ cls := "java/lang/Math", name := "max", desc := "(DD)D" } : Jvm.MethodName)).before a0 Z = true := hw _ (List.mem_of_getElem? (i := 65) rfl)
theorem ow_66 {Z : State} {a0 : Array Value} (hw : ∀ d ∈ tables_1, d.before a0 Z = true) : (Jvm.Cond.static ({ cls := "java/lang/Math", name := "max", desc := "(DD)D" } : Jvm.MethodName)).before a0 Z = true := hw _ (List.mem_of_getElem? (i := 66) rfl)
theorem ow_67 {Z : State} {a0 : Array Value} (hw : ∀ d ∈ tables_1, d.before a0 Z = true) : (Jvm.Cond.code ({ cls := "java/lang/Math", name := "max", desc := "(DD)D" } : Jvm.MethodName) jdk_29_method_68_code (4 : Nat) (Option.some Jvm.ClassFile.FieldType.double)).before a0 Z = true := hw _ (List.mem_of_getElem? (i := 67) rfl)
theorem ow_68 {Z : State} {a0 : Array Value} (hw : ∀ d ∈ tables_1, d.before a0 Z = true) : (Jvm.Cond.methodLink "com/example/bindery/bindery/selection/BindingMixPricesPinLaw" (17 : Nat) ({ cls := "com/example/bindery/bindery/selection/BindingMix", name := "add", desc := "(D[D)Z" } : Jvm.MethodName)).before a0 Z = true := hw _ (List.mem_of_getElem? (i := 68) rfl)
theorem ow_69 {Z : State} {a0 : Array Value} (hw : ∀ d ∈ tables_1, d.before a0 Z = true) : (Jvm.Cond.declares ({ cls := "com/example/bindery/bindery/selection/BindingMix", name := "add", desc := "(D[D)Z" } : Jvm.MethodName)).before a0 Z = true := hw _ (List.mem_of_getElem? (i := 69) rfl)
theorem ow_70 {Z : State} {a0 : Array Value} (hw : ∀ d ∈ tables_1, d.before a0 Z = true) : (Jvm.Cond.instanceMethod ({ cls := "com/example/bindery/bindery/selection/BindingMix", name := "add", desc := "(D[D)Z" } : Jvm.MethodName)).before a0 Z = true := hw _ (List.mem_of_getElem? (i := 70) rfl)
theorem ow_71 {Z : State} {a0 : Array Value} (hw : ∀ d ∈ tables_1, d.before a0 Z = true) : (Jvm.Cond.selects "com/example/bindery/bindery/selection/BindingMix" ({ cls := "com/example/bindery/bindery/selection/BindingMix", name := "add", desc := "(D[D)Z" } : Jvm.MethodName) ({ cls := "com/example/bindery/bindery/selection/BindingMix", name := "add", desc := "(D[D)Z" } : Jvm.MethodName)).before a0 Z = true := hw _ (List.mem_of_getElem? (i := 71) rfl)
theorem ow_72 {Z : State} {a0 : Array Value} (hw : ∀ d ∈ tables_1, d.before a0 Z = true) : (Jvm.Cond.code ({ cls := "com/example/bindery/bindery/selection/BindingMix", name := "add", desc := "(D[D)Z" } : Jvm.MethodName) prog_37_method_4_code (7 : Nat) (Option.some Jvm.ClassFile.FieldType.boolean)).before a0 Z = true := hw _ (List.mem_of_getElem? (i := 72) rfl)
theorem ow_73 {Z : State} {a0 : Array Value} (hw : ∀ d ∈ tables_1, d.before a0 Z = true) : (Jvm.Cond.methodLink "com/example/bindery/bindery/selection/BindingMix" (57 : Nat) ({ cls := "com/example/bindery/bindery/selection/BindingMix", name := "enter", desc := "([DDI)Z" } : Jvm.MethodName)).before a0 Z = true := hw _ (List.mem_of_getElem? (i := 73) rfl)
theorem ow_74 {Z : State} {a0 : Array Value} (hw : ∀ d ∈ tables_1, d.before a0 Z = true) : (Jvm.Cond.instanceMethod ({ cls := "com/example/bindery/bindery/selection/BindingMix", name := "enter", desc := "([DDI)Z" } : Jvm.MethodName)).before a0 Z = true := hw _ (List.mem_of_getElem? (i := 74) rfl)
theorem ow_75 {Z : State} {a0 : Array Value} (hw : ∀ d ∈ tables_1, d.before a0 Z = true) : (Jvm.Cond.privateMethod ({ cls := "com/example/bindery/bindery/selection/BindingMix", name := "enter", desc := "([DDI)Z" } : Jvm.MethodName)).before a0 Z = true := hw _ (List.mem_of_getElem? (i := 75) rfl)
theorem ow_76 {Z : State} {a0 : Array Value} (hw : ∀ d ∈ tables_1, d.before a0 Z = true) : (Jvm.Cond.code ({ cls := "com/example/bindery/bindery/selection/BindingMix", name := "enter", desc := "([DDI)Z" } : Jvm.MethodName) prog_37_method_6_code (16 : Nat) (Option.some Jvm.ClassFile.FieldType.boolean)).before a0 Z = true := hw _ (List.mem_of_getElem? (i := 76) rfl)
theorem ow_77 {Z : State} {a0 : Array Value} (hw : ∀ d ∈ tables_1, d.before a0 Z = true) : (Jvm.Cond.methodLink "com/example/bindery/bindery/selection/BindingMix" (67 : Nat) ({ cls := "com/example/bindery/bindery/selection/BindingMix", name := "basisMatrix", desc := "()[[D" } : Jvm.MethodName)).before a0 Z = true := hw _ (List.mem_of_getElem? (i := 77) rfl)
theorem ow_78 {Z : State} {a0 : Array Value} (hw : ∀ d ∈ tables_1, d.before a0 Z = true) : (Jvm.Cond.instanceMethod ({ cls := "com/example/bindery/bindery/selection/BindingMix", name := "basisMatrix", desc := "()[[D" } : Jvm.MethodName)).before a0 Z = true := hw _ (List.mem_of_getElem? (i := 78) rfl)
theorem ow_79 {Z : State} {a0 : Array Value} (hw : ∀ d ∈ tables_1, d.before a0 Z = true) : (Jvm.Cond.privateMethod ({ cls := "com/example/bindery/bindery/selection/BindingMix", name := "basisMatrix", desc := "()[[D" } : Jvm.MethodName)).before a0 Z = true := hw _ (List.mem_of_getElem? (i := 79) rfl)
theorem ow_80 {Z : State} {a0 : Array Value} (hw : ∀ d ∈ tables_1, d.before a0 Z = true) : (Jvm.Cond.code ({ cls := "com/example/bindery/bindery/selection/BindingMix", name := "basisMatrix", desc := "()[[D" } : Jvm.MethodName) prog_37_method_8_code (4 : Nat) (Option.some (Jvm.ClassFile.FieldType.array (Jvm.ClassFile.FieldType.array Jvm.ClassFile.FieldType.double)))).before a0 Z = true := hw _ (List.mem_of_getElem? (i := 80) rfl)
theorem ow_81 {Z : State} {a0 : Array Value} (hw : ∀ d ∈ tables_1, d.before a0 Z = true) : (Jvm.Cond.classLink "com/example/bindery/bindery/selection/BindingMix" (81 : Nat) "[[D").before a0 Z = true := hw _ (List.mem_of_getElem? (i := 81) rfl)
theorem ow_82 {Z : State} {a0 : Array Value} (hw : ∀ d ∈ tables_1, d.before a0 Z = true) : (Jvm.Cond.constantDouble "com/example/bindery/bindery/selection/BindingMix" (77 : Nat) (9218868437227405312 : UInt64)).before a0 Z = true := hw _ (List.mem_of_getElem? (i := 82) rfl)
theorem ow_83 {Z : State} {a0 : Array Value} (hw : ∀ d ∈ tables_1, d.before a0 Z = true) : (Jvm.Cond.constantDouble "com/example/bindery/bindery/selection/BindingMix" (79 : Nat) (4427486594234968593 : UInt64)).before a0 Z = true := hw _ (List.mem_of_getElem? (i := 83) rfl)
theorem ow_84 {Z : State} {a0 : Array Value} (hw : ∀ d ∈ tables_1, d.before a0 Z = true) : (Jvm.Cond.methodLink "com/example/bindery/bindery/selection/BindingMix" (61 : Nat) ({ cls := "com/example/bindery/bindery/selection/BindingMix", name := "slackToEnter", desc := "()I" } : Jvm.MethodName)).before a0 Z = true := hw _ (List.mem_of_getElem? (i := 84) rfl)
theorem ow_85 {Z : State} {a0 : Array Value} (hw : ∀ d ∈ tables_1, d.before a0 Z = true) : (Jvm.Cond.instanceMethod ({ cls := "com/example/bindery/bindery/selection/BindingMix", name := "slackToEnter", desc := "()I" } : Jvm.MethodName)).before a0 Z = true := hw _ (List.mem_of_getElem? (i := 85) rfl)
theorem ow_86 {Z : State} {a0 : Array Value} (hw : ∀ d ∈ tables_1, d.before a0 Z = true) : (Jvm.Cond.privateMethod ({ cls := "com/example/bindery/bindery/selection/BindingMix", name := "slackToEnter", desc := "()I" } : Jvm.MethodName)).before a0 Z = true := hw _ (List.mem_of_getElem? (i := 86) rfl)
theorem ow_87 {Z : State} {a0 : Array Value} (hw : ∀ d ∈ tables_1, d.before a0 Z = true) : (Jvm.Cond.code ({ cls := "com/example/bindery/bindery/selection/BindingMix", name := "slackToEnter", desc := "()I" } : Jvm.MethodName) prog_37_method_5_code (6 : Nat) (Option.some Jvm.ClassFile.FieldType.int)).before a0 Z = true := hw _ (List.mem_of_getElem? (i := 87) rfl)
theorem ow_88 {Z : State} {a0 : Array Value} (hw : ∀ d ∈ tables_1, d.before a0 Z = true) : (Jvm.Cond.arrayClass Jvm.ClassFile.FieldType.boolean).before a0 Z = true := hw _ (List.mem_of_getElem? (i := 88) rfl)
theorem ow_89 {Z : State} {a0 : Array Value} (hw : ∀ d ∈ tables_1, d.before a0 Z = true) : (Jvm.Cond.constantDouble "com/example/bindery/bindery/selection/BindingMix" (65 : Nat) (13650858631089744401 : UInt64)).before a0 Z = true := hw _ (List.mem_of_getElem? (i := 89) rfl)
theorem od_jdk_117_method_8_0 : decode jdk_117_method_8_code 0 = .ok (.dload_n 0, 1) := by decide +kernel
theorem od_jdk_117_method_8_1 : decode jdk_117_method_8_code 1 = .ok (.invokestatic 38, 3) := by decide +kernel
theorem od_jdk_117_method_8_4 : decode jdk_117_method_8_code 4 = .ok (.ldc2_w 111, 3) := by decide +kernel
theorem od_jdk_117_method_8_7 : decode jdk_117_method_8_code 7 = .ok (.dcmp .g, 1) := by decide +kernel
theorem od_jdk_117_method_8_8 : decode jdk_117_method_8_code 8 = .ok (.ifCond .gt 7, 3) := by decide +kernel
theorem od_jdk_117_method_8_11 : decode jdk_117_method_8_code 11 = .ok (.iconst 1, 1) := by decide +kernel
theorem od_jdk_117_method_8_12 : decode jdk_117_method_8_code 12 = .ok (.goto 4, 3) := by decide +kernel
theorem od_jdk_117_method_8_16 : decode jdk_117_method_8_code 16 = .ok (.ireturn, 1) := by decide +kernel
theorem od_prog_37_method_10_0 : decode prog_37_method_10_code 0 = .ok (.aload_n 1, 1) := by decide +kernel
theorem od_prog_37_method_10_1 : decode prog_37_method_10_code 1 = .ok (.arraylength, 1) := by decide +kernel
theorem od_prog_37_method_10_2 : decode prog_37_method_10_code 2 = .ok (.istore_n 2, 1) := by decide +kernel
theorem od_prog_37_method_10_3 : decode prog_37_method_10_code 3 = .ok (.iload_n 2, 1) := by decide +kernel
theorem od_prog_37_method_10_4 : decode prog_37_method_10_code 4 = .ok (.anewarray 23, 3) := by decide +kernel
theorem od_prog_37_method_10_7 : decode prog_37_method_10_code 7 = .ok (.astore_n 3, 1) := by decide +kernel
theorem od_prog_37_method_10_8 : decode prog_37_method_10_code 8 = .ok (.iconst 0, 1) := by decide +kernel
theorem od_prog_37_method_10_9 : decode prog_37_method_10_code 9 = .ok (.istore 4, 2) := by decide +kernel
theorem od_prog_37_method_10_11 : decode prog_37_method_10_code 11 = .ok (.iload 4, 2) := by decide +kernel
theorem od_prog_37_method_10_13 : decode prog_37_method_10_code 13 = .ok (.iload_n 2, 1) := by decide +kernel
theorem od_prog_37_method_10_14 : decode prog_37_method_10_code 14 = .ok (.if_icmp .ge 23, 3) := by decide +kernel
theorem od_prog_37_method_10_17 : decode prog_37_method_10_code 17 = .ok (.aload_n 3, 1) := by decide +kernel
theorem od_prog_37_method_10_18 : decode prog_37_method_10_code 18 = .ok (.iload 4, 2) := by decide +kernel
theorem od_prog_37_method_10_20 : decode prog_37_method_10_code 20 = .ok (.aload_n 0, 1) := by decide +kernel
theorem od_prog_37_method_10_21 : decode prog_37_method_10_code 21 = .ok (.iload 4, 2) := by decide +kernel
theorem od_prog_37_method_10_23 : decode prog_37_method_10_code 23 = .ok (.aaload, 1) := by decide +kernel
theorem od_prog_37_method_10_24 : decode prog_37_method_10_code 24 = .ok (.invokevirtual 35, 3) := by decide +kernel
theorem od_prog_37_method_10_27 : decode prog_37_method_10_code 27 = .ok (.checkcast 23, 3) := by decide +kernel
theorem od_prog_37_method_10_30 : decode prog_37_method_10_code 30 = .ok (.aastore, 1) := by decide +kernel
theorem od_prog_37_method_10_31 : decode prog_37_method_10_code 31 = .ok (.iinc 4 1, 3) := by decide +kernel
theorem od_prog_37_method_10_34 : decode prog_37_method_10_code 34 = .ok (.goto (-23), 3) := by decide +kernel
theorem od_prog_37_method_10_37 : decode prog_37_method_10_code 37 = .ok (.aload_n 1, 1) := by decide +kernel
theorem od_prog_37_method_10_38 : decode prog_37_method_10_code 38 = .ok (.invokevirtual 35, 3) := by decide +kernel
theorem od_prog_37_method_10_41 : decode prog_37_method_10_code 41 = .ok (.checkcast 23, 3) := by decide +kernel
theorem od_prog_37_method_10_44 : decode prog_37_method_10_code 44 = .ok (.astore 4, 2) := by decide +kernel
theorem od_prog_37_method_10_46 : decode prog_37_method_10_code 46 = .ok (.iconst 0, 1) := by decide +kernel
theorem od_prog_37_method_10_47 : decode prog_37_method_10_code 47 = .ok (.istore 5, 2) := by decide +kernel
theorem od_prog_37_method_10_49 : decode prog_37_method_10_code 49 = .ok (.iload 5, 2) := by decide +kernel
theorem od_prog_37_method_10_51 : decode prog_37_method_10_code 51 = .ok (.iload_n 2, 1) := by decide +kernel
theorem od_prog_37_method_10_52 : decode prog_37_method_10_code 52 = .ok (.if_icmp .ge 204, 3) := by decide +kernel
theorem od_prog_37_method_10_55 : decode prog_37_method_10_code 55 = .ok (.iload 5, 2) := by decide +kernel
theorem od_prog_37_method_10_57 : decode prog_37_method_10_code 57 = .ok (.istore 6, 2) := by decide +kernel
theorem od_prog_37_method_10_59 : decode prog_37_method_10_code 59 = .ok (.iload 5, 2) := by decide +kernel
theorem od_prog_37_method_10_61 : decode prog_37_method_10_code 61 = .ok (.iconst 1, 1) := by decide +kernel
theorem od_prog_37_method_10_62 : decode prog_37_method_10_code 62 = .ok (.iadd, 1) := by decide +kernel
theorem od_prog_37_method_10_63 : decode prog_37_method_10_code 63 = .ok (.istore 7, 2) := by decide +kernel
theorem od_prog_37_method_10_65 : decode prog_37_method_10_code 65 = .ok (.iload 7, 2) := by decide +kernel
theorem od_prog_37_method_10_67 : decode prog_37_method_10_code 67 = .ok (.iload_n 2, 1) := by decide +kernel
theorem od_prog_37_method_10_68 : decode prog_37_method_10_code 68 = .ok (.if_icmp .ge 37, 3) := by decide +kernel
theorem od_prog_37_method_10_105 : decode prog_37_method_10_code 105 = .ok (.aload_n 3, 1) := by decide +kernel
theorem od_prog_37_method_10_106 : decode prog_37_method_10_code 106 = .ok (.iload 6, 2) := by decide +kernel
theorem od_prog_37_method_10_108 : decode prog_37_method_10_code 108 = .ok (.aaload, 1) := by decide +kernel
theorem od_prog_37_method_10_109 : decode prog_37_method_10_code 109 = .ok (.iload 5, 2) := by decide +kernel
theorem od_prog_37_method_10_111 : decode prog_37_method_10_code 111 = .ok (.daload, 1) := by decide +kernel
theorem od_prog_37_method_10_112 : decode prog_37_method_10_code 112 = .ok (.dconst 0, 1) := by decide +kernel
theorem od_prog_37_method_10_113 : decode prog_37_method_10_code 113 = .ok (.dcmp .l, 1) := by decide +kernel
theorem od_prog_37_method_10_114 : decode prog_37_method_10_code 114 = .ok (.ifCond .ne 5, 3) := by decide +kernel
theorem od_prog_37_method_10_119 : decode prog_37_method_10_code 119 = .ok (.aload_n 3, 1) := by decide +kernel
theorem od_prog_37_method_10_120 : decode prog_37_method_10_code 120 = .ok (.iload 5, 2) := by decide +kernel
theorem od_prog_37_method_10_122 : decode prog_37_method_10_code 122 = .ok (.aaload, 1) := by decide +kernel
theorem od_prog_37_method_10_123 : decode prog_37_method_10_code 123 = .ok (.astore 7, 2) := by decide +kernel
theorem od_prog_37_method_10_125 : decode prog_37_method_10_code 125 = .ok (.aload_n 3, 1) := by decide +kernel
theorem od_prog_37_method_10_126 : decode prog_37_method_10_code 126 = .ok (.iload 5, 2) := by decide +kernel
theorem od_prog_37_method_10_128 : decode prog_37_method_10_code 128 = .ok (.aload_n 3, 1) := by decide +kernel
theorem od_prog_37_method_10_129 : decode prog_37_method_10_code 129 = .ok (.iload 6, 2) := by decide +kernel
theorem od_prog_37_method_10_131 : decode prog_37_method_10_code 131 = .ok (.aaload, 1) := by decide +kernel
theorem od_prog_37_method_10_132 : decode prog_37_method_10_code 132 = .ok (.aastore, 1) := by decide +kernel
theorem od_prog_37_method_10_133 : decode prog_37_method_10_code 133 = .ok (.aload_n 3, 1) := by decide +kernel
theorem od_prog_37_method_10_134 : decode prog_37_method_10_code 134 = .ok (.iload 6, 2) := by decide +kernel
theorem od_prog_37_method_10_136 : decode prog_37_method_10_code 136 = .ok (.aload 7, 2) := by decide +kernel
theorem od_prog_37_method_10_138 : decode prog_37_method_10_code 138 = .ok (.aastore, 1) := by decide +kernel
theorem od_prog_37_method_10_139 : decode prog_37_method_10_code 139 = .ok (.aload 4, 2) := by decide +kernel
theorem od_prog_37_method_10_141 : decode prog_37_method_10_code 141 = .ok (.iload 5, 2) := by decide +kernel
theorem od_prog_37_method_10_143 : decode prog_37_method_10_code 143 = .ok (.daload, 1) := by decide +kernel
theorem od_prog_37_method_10_144 : decode prog_37_method_10_code 144 = .ok (.dstore 8, 2) := by decide +kernel
theorem od_prog_37_method_10_146 : decode prog_37_method_10_code 146 = .ok (.aload 4, 2) := by decide +kernel
theorem od_prog_37_method_10_148 : decode prog_37_method_10_code 148 = .ok (.iload 5, 2) := by decide +kernel
theorem od_prog_37_method_10_150 : decode prog_37_method_10_code 150 = .ok (.aload 4, 2) := by decide +kernel
theorem od_prog_37_method_10_152 : decode prog_37_method_10_code 152 = .ok (.iload 6, 2) := by decide +kernel
theorem od_prog_37_method_10_154 : decode prog_37_method_10_code 154 = .ok (.daload, 1) := by decide +kernel
theorem od_prog_37_method_10_155 : decode prog_37_method_10_code 155 = .ok (.dastore, 1) := by decide +kernel
theorem od_prog_37_method_10_156 : decode prog_37_method_10_code 156 = .ok (.aload 4, 2) := by decide +kernel
theorem od_prog_37_method_10_158 : decode prog_37_method_10_code 158 = .ok (.iload 6, 2) := by decide +kernel
theorem od_prog_37_method_10_160 : decode prog_37_method_10_code 160 = .ok (.dload 8, 2) := by decide +kernel
theorem od_prog_37_method_10_162 : decode prog_37_method_10_code 162 = .ok (.dastore, 1) := by decide +kernel
theorem od_prog_37_method_10_163 : decode prog_37_method_10_code 163 = .ok (.iload 5, 2) := by decide +kernel
theorem od_prog_37_method_10_165 : decode prog_37_method_10_code 165 = .ok (.iconst 1, 1) := by decide +kernel
theorem od_prog_37_method_10_166 : decode prog_37_method_10_code 166 = .ok (.iadd, 1) := by decide +kernel
theorem od_prog_37_method_10_167 : decode prog_37_method_10_code 167 = .ok (.istore 10, 2) := by decide +kernel
theorem od_prog_37_method_10_169 : decode prog_37_method_10_code 169 = .ok (.iload 10, 2) := by decide +kernel
theorem od_prog_37_method_10_171 : decode prog_37_method_10_code 171 = .ok (.iload_n 2, 1) := by decide +kernel
theorem od_prog_37_method_10_172 : decode prog_37_method_10_code 172 = .ok (.if_icmp .ge 78, 3) := by decide +kernel
theorem od_prog_37_method_10_250 : decode prog_37_method_10_code 250 = .ok (.iinc 5 1, 3) := by decide +kernel
theorem od_prog_37_method_10_253 : decode prog_37_method_10_code 253 = .ok (.goto (-204), 3) := by decide +kernel
theorem od_prog_37_method_10_256 : decode prog_37_method_10_code 256 = .ok (.iload_n 2, 1) := by decide +kernel
theorem od_prog_37_method_10_257 : decode prog_37_method_10_code 257 = .ok (.newarray .double, 2) := by decide +kernel
theorem od_prog_37_method_10_259 : decode prog_37_method_10_code 259 = .ok (.astore 5, 2) := by decide +kernel
theorem od_prog_37_method_10_261 : decode prog_37_method_10_code 261 = .ok (.iload_n 2, 1) := by decide +kernel
theorem od_prog_37_method_10_262 : decode prog_37_method_10_code 262 = .ok (.iconst 1, 1) := by decide +kernel
theorem od_prog_37_method_10_263 : decode prog_37_method_10_code 263 = .ok (.isub, 1) := by decide +kernel
theorem od_prog_37_method_10_264 : decode prog_37_method_10_code 264 = .ok (.istore 6, 2) := by decide +kernel
theorem od_prog_37_method_10_266 : decode prog_37_method_10_code 266 = .ok (.iload 6, 2) := by decide +kernel
theorem od_prog_37_method_10_268 : decode prog_37_method_10_code 268 = .ok (.ifCond .lt 80, 3) := by decide +kernel
theorem od_prog_37_method_10_271 : decode prog_37_method_10_code 271 = .ok (.aload 4, 2) := by decide +kernel
theorem od_prog_37_method_10_273 : decode prog_37_method_10_code 273 = .ok (.iload 6, 2) := by decide +kernel
theorem od_prog_37_method_10_275 : decode prog_37_method_10_code 275 = .ok (.daload, 1) := by decide +kernel
theorem od_prog_37_method_10_276 : decode prog_37_method_10_code 276 = .ok (.dstore 7, 2) := by decide +kernel
theorem od_prog_37_method_10_278 : decode prog_37_method_10_code 278 = .ok (.iload 6, 2) := by decide +kernel
theorem od_prog_37_method_10_280 : decode prog_37_method_10_code 280 = .ok (.iconst 1, 1) := by decide +kernel
theorem od_prog_37_method_10_281 : decode prog_37_method_10_code 281 = .ok (.iadd, 1) := by decide +kernel
theorem od_prog_37_method_10_282 : decode prog_37_method_10_code 282 = .ok (.istore 9, 2) := by decide +kernel
theorem od_prog_37_method_10_284 : decode prog_37_method_10_code 284 = .ok (.iload 9, 2) := by decide +kernel
theorem od_prog_37_method_10_286 : decode prog_37_method_10_code 286 = .ok (.iload_n 2, 1) := by decide +kernel
theorem od_prog_37_method_10_287 : decode prog_37_method_10_code 287 = .ok (.if_icmp .ge 27, 3) := by decide +kernel
theorem od_prog_37_method_10_314 : decode prog_37_method_10_code 314 = .ok (.aload 5, 2) := by decide +kernel
theorem od_prog_37_method_10_316 : decode prog_37_method_10_code 316 = .ok (.iload 6, 2) := by decide +kernel
theorem od_prog_37_method_10_318 : decode prog_37_method_10_code 318 = .ok (.dload 7, 2) := by decide +kernel
theorem od_prog_37_method_10_320 : decode prog_37_method_10_code 320 = .ok (.aload_n 3, 1) := by decide +kernel
theorem od_prog_37_method_10_321 : decode prog_37_method_10_code 321 = .ok (.iload 6, 2) := by decide +kernel
theorem od_prog_37_method_10_323 : decode prog_37_method_10_code 323 = .ok (.aaload, 1) := by decide +kernel
theorem od_prog_37_method_10_324 : decode prog_37_method_10_code 324 = .ok (.iload 6, 2) := by decide +kernel
theorem od_prog_37_method_10_326 : decode prog_37_method_10_code 326 = .ok (.daload, 1) := by decide +kernel
theorem od_prog_37_method_10_327 : decode prog_37_method_10_code 327 = .ok (.ddiv, 1) := by decide +kernel
theorem od_prog_37_method_10_328 : decode prog_37_method_10_code 328 = .ok (.dastore, 1) := by decide +kernel
theorem od_prog_37_method_10_329 : decode prog_37_method_10_code 329 = .ok (.aload 5, 2) := by decide +kernel
theorem od_prog_37_method_10_331 : decode prog_37_method_10_code 331 = .ok (.iload 6, 2) := by decide +kernel
theorem od_prog_37_method_10_333 : decode prog_37_method_10_code 333 = .ok (.daload, 1) := by decide +kernel
theorem od_prog_37_method_10_334 : decode prog_37_method_10_code 334 = .ok (.invokestatic 86, 3) := by decide +kernel
theorem od_prog_37_method_10_337 : decode prog_37_method_10_code 337 = .ok (.ifCond .ne 5, 3) := by decide +kernel
theorem od_prog_37_method_10_342 : decode prog_37_method_10_code 342 = .ok (.iinc 6 (-1), 3) := by decide +kernel
theorem od_prog_37_method_10_345 : decode prog_37_method_10_code 345 = .ok (.goto (-79), 3) := by decide +kernel
theorem od_prog_37_method_10_348 : decode prog_37_method_10_code 348 = .ok (.aload 5, 2) := by decide +kernel
theorem od_prog_37_method_10_350 : decode prog_37_method_10_code 350 = .ok (.areturn, 1) := by decide +kernel
theorem od_prog_37_method_10_71 : decode prog_37_method_10_code 71 = .ok (.aload_n 3, 1) := by decide +kernel
theorem od_prog_37_method_10_72 : decode prog_37_method_10_code 72 = .ok (.iload 7, 2) := by decide +kernel
theorem od_prog_37_method_10_74 : decode prog_37_method_10_code 74 = .ok (.aaload, 1) := by decide +kernel
theorem od_prog_37_method_10_75 : decode prog_37_method_10_code 75 = .ok (.iload 5, 2) := by decide +kernel
theorem od_prog_37_method_10_77 : decode prog_37_method_10_code 77 = .ok (.daload, 1) := by decide +kernel
theorem od_prog_37_method_10_78 : decode prog_37_method_10_code 78 = .ok (.invokestatic 82, 3) := by decide +kernel
theorem od_prog_37_method_10_81 : decode prog_37_method_10_code 81 = .ok (.aload_n 3, 1) := by decide +kernel
theorem od_prog_37_method_10_82 : decode prog_37_method_10_code 82 = .ok (.iload 6, 2) := by decide +kernel
theorem od_prog_37_method_10_84 : decode prog_37_method_10_code 84 = .ok (.aaload, 1) := by decide +kernel
theorem od_prog_37_method_10_85 : decode prog_37_method_10_code 85 = .ok (.iload 5, 2) := by decide +kernel
theorem od_prog_37_method_10_87 : decode prog_37_method_10_code 87 = .ok (.daload, 1) := by decide +kernel
theorem od_prog_37_method_10_88 : decode prog_37_method_10_code 88 = .ok (.invokestatic 82, 3) := by decide +kernel
theorem od_prog_37_method_10_91 : decode prog_37_method_10_code 91 = .ok (.dcmp .l, 1) := by decide +kernel
theorem od_prog_37_method_10_92 : decode prog_37_method_10_code 92 = .ok (.ifCond .le 7, 3) := by decide +kernel
theorem od_prog_37_method_10_99 : decode prog_37_method_10_code 99 = .ok (.iinc 7 1, 3) := by decide +kernel
theorem od_prog_37_method_10_102 : decode prog_37_method_10_code 102 = .ok (.goto (-37), 3) := by decide +kernel
theorem od_prog_37_method_10_175 : decode prog_37_method_10_code 175 = .ok (.aload_n 3, 1) := by decide +kernel
theorem od_prog_37_method_10_176 : decode prog_37_method_10_code 176 = .ok (.iload 10, 2) := by decide +kernel
theorem od_prog_37_method_10_178 : decode prog_37_method_10_code 178 = .ok (.aaload, 1) := by decide +kernel
theorem od_prog_37_method_10_179 : decode prog_37_method_10_code 179 = .ok (.iload 5, 2) := by decide +kernel
theorem od_prog_37_method_10_181 : decode prog_37_method_10_code 181 = .ok (.daload, 1) := by decide +kernel
theorem od_prog_37_method_10_182 : decode prog_37_method_10_code 182 = .ok (.aload_n 3, 1) := by decide +kernel
theorem od_prog_37_method_10_183 : decode prog_37_method_10_code 183 = .ok (.iload 5, 2) := by decide +kernel
theorem od_prog_37_method_10_185 : decode prog_37_method_10_code 185 = .ok (.aaload, 1) := by decide +kernel
theorem od_prog_37_method_10_186 : decode prog_37_method_10_code 186 = .ok (.iload 5, 2) := by decide +kernel
theorem od_prog_37_method_10_188 : decode prog_37_method_10_code 188 = .ok (.daload, 1) := by decide +kernel
theorem od_prog_37_method_10_189 : decode prog_37_method_10_code 189 = .ok (.ddiv, 1) := by decide +kernel
theorem od_prog_37_method_10_190 : decode prog_37_method_10_code 190 = .ok (.dstore 11, 2) := by decide +kernel
theorem od_prog_37_method_10_192 : decode prog_37_method_10_code 192 = .ok (.iload 5, 2) := by decide +kernel
theorem od_prog_37_method_10_194 : decode prog_37_method_10_code 194 = .ok (.istore 13, 2) := by decide +kernel
theorem od_prog_37_method_10_196 : decode prog_37_method_10_code 196 = .ok (.iload 13, 2) := by decide +kernel
theorem od_prog_37_method_10_198 : decode prog_37_method_10_code 198 = .ok (.iload_n 2, 1) := by decide +kernel
theorem od_prog_37_method_10_199 : decode prog_37_method_10_code 199 = .ok (.if_icmp .ge 29, 3) := by decide +kernel
theorem od_prog_37_method_10_202 : decode prog_37_method_10_code 202 = .ok (.aload_n 3, 1) := by decide +kernel
theorem od_prog_37_method_10_203 : decode prog_37_method_10_code 203 = .ok (.iload 10, 2) := by decide +kernel
theorem od_prog_37_method_10_205 : decode prog_37_method_10_code 205 = .ok (.aaload, 1) := by decide +kernel
theorem od_prog_37_method_10_206 : decode prog_37_method_10_code 206 = .ok (.iload 13, 2) := by decide +kernel
theorem od_prog_37_method_10_208 : decode prog_37_method_10_code 208 = .ok (.dup2, 1) := by decide +kernel
theorem od_prog_37_method_10_209 : decode prog_37_method_10_code 209 = .ok (.daload, 1) := by decide +kernel
theorem od_prog_37_method_10_210 : decode prog_37_method_10_code 210 = .ok (.dload 11, 2) := by decide +kernel
theorem od_prog_37_method_10_212 : decode prog_37_method_10_code 212 = .ok (.aload_n 3, 1) := by decide +kernel
theorem od_prog_37_method_10_213 : decode prog_37_method_10_code 213 = .ok (.iload 5, 2) := by decide +kernel
theorem od_prog_37_method_10_215 : decode prog_37_method_10_code 215 = .ok (.aaload, 1) := by decide +kernel
theorem od_prog_37_method_10_216 : decode prog_37_method_10_code 216 = .ok (.iload 13, 2) := by decide +kernel
theorem od_prog_37_method_10_218 : decode prog_37_method_10_code 218 = .ok (.daload, 1) := by decide +kernel
theorem od_prog_37_method_10_219 : decode prog_37_method_10_code 219 = .ok (.dmul, 1) := by decide +kernel
theorem od_prog_37_method_10_220 : decode prog_37_method_10_code 220 = .ok (.dsub, 1) := by decide +kernel
theorem od_prog_37_method_10_221 : decode prog_37_method_10_code 221 = .ok (.dastore, 1) := by decide +kernel
theorem od_prog_37_method_10_222 : decode prog_37_method_10_code 222 = .ok (.iinc 13 1, 3) := by decide +kernel
theorem od_prog_37_method_10_225 : decode prog_37_method_10_code 225 = .ok (.goto (-29), 3) := by decide +kernel
theorem od_prog_37_method_10_228 : decode prog_37_method_10_code 228 = .ok (.aload 4, 2) := by decide +kernel
theorem od_prog_37_method_10_230 : decode prog_37_method_10_code 230 = .ok (.iload 10, 2) := by decide +kernel
theorem od_prog_37_method_10_232 : decode prog_37_method_10_code 232 = .ok (.dup2, 1) := by decide +kernel
theorem od_prog_37_method_10_233 : decode prog_37_method_10_code 233 = .ok (.daload, 1) := by decide +kernel
theorem od_prog_37_method_10_234 : decode prog_37_method_10_code 234 = .ok (.dload 11, 2) := by decide +kernel
theorem od_prog_37_method_10_236 : decode prog_37_method_10_code 236 = .ok (.aload 4, 2) := by decide +kernel
theorem od_prog_37_method_10_238 : decode prog_37_method_10_code 238 = .ok (.iload 5, 2) := by decide +kernel
theorem od_prog_37_method_10_240 : decode prog_37_method_10_code 240 = .ok (.daload, 1) := by decide +kernel
theorem od_prog_37_method_10_241 : decode prog_37_method_10_code 241 = .ok (.dmul, 1) := by decide +kernel
theorem od_prog_37_method_10_242 : decode prog_37_method_10_code 242 = .ok (.dsub, 1) := by decide +kernel
theorem od_prog_37_method_10_243 : decode prog_37_method_10_code 243 = .ok (.dastore, 1) := by decide +kernel
theorem od_prog_37_method_10_244 : decode prog_37_method_10_code 244 = .ok (.iinc 10 1, 3) := by decide +kernel
theorem od_prog_37_method_10_247 : decode prog_37_method_10_code 247 = .ok (.goto (-78), 3) := by decide +kernel
theorem od_prog_37_method_10_290 : decode prog_37_method_10_code 290 = .ok (.dload 7, 2) := by decide +kernel
theorem od_prog_37_method_10_292 : decode prog_37_method_10_code 292 = .ok (.aload_n 3, 1) := by decide +kernel
theorem od_prog_37_method_10_293 : decode prog_37_method_10_code 293 = .ok (.iload 6, 2) := by decide +kernel
theorem od_prog_37_method_10_295 : decode prog_37_method_10_code 295 = .ok (.aaload, 1) := by decide +kernel
theorem od_prog_37_method_10_296 : decode prog_37_method_10_code 296 = .ok (.iload 9, 2) := by decide +kernel
theorem od_prog_37_method_10_298 : decode prog_37_method_10_code 298 = .ok (.daload, 1) := by decide +kernel
theorem od_prog_37_method_10_299 : decode prog_37_method_10_code 299 = .ok (.aload 5, 2) := by decide +kernel
theorem od_prog_37_method_10_301 : decode prog_37_method_10_code 301 = .ok (.iload 9, 2) := by decide +kernel
theorem od_prog_37_method_10_303 : decode prog_37_method_10_code 303 = .ok (.daload, 1) := by decide +kernel
theorem od_prog_37_method_10_304 : decode prog_37_method_10_code 304 = .ok (.dmul, 1) := by decide +kernel
theorem od_prog_37_method_10_305 : decode prog_37_method_10_code 305 = .ok (.dsub, 1) := by decide +kernel
theorem od_prog_37_method_10_306 : decode prog_37_method_10_code 306 = .ok (.dstore 7, 2) := by decide +kernel
theorem od_prog_37_method_10_308 : decode prog_37_method_10_code 308 = .ok (.iinc 9 1, 3) := by decide +kernel
theorem od_prog_37_method_10_311 : decode prog_37_method_10_code 311 = .ok (.goto (-27), 3) := by decide +kernel
theorem od_prog_37_method_10_95 : decode prog_37_method_10_code 95 = .ok (.iload 7, 2) := by decide +kernel
theorem od_prog_37_method_10_97 : decode prog_37_method_10_code 97 = .ok (.istore 6, 2) := by decide +kernel
theorem od_prog_37_method_9_0 : decode prog_37_method_9_code 0 = .ok (.aload_n 0, 1) := by decide +kernel
theorem od_prog_37_method_9_1 : decode prog_37_method_9_code 1 = .ok (.getfield 24, 3) := by decide +kernel
theorem od_prog_37_method_9_4 : decode prog_37_method_9_code 4 = .ok (.aload_n 0, 1) := by decide +kernel
theorem od_prog_37_method_9_5 : decode prog_37_method_9_code 5 = .ok (.getfield 28, 3) := by decide +kernel
theorem od_prog_37_method_9_8 : decode prog_37_method_9_code 8 = .ok (.invokestatic 71, 3) := by decide +kernel
theorem od_prog_37_method_9_11 : decode prog_37_method_9_code 11 = .ok (.areturn, 1) := by decide +kernel
theorem od_prog_37_method_7_0 : decode prog_37_method_7_code 0 = .ok (.aload_n 0, 1) := by decide +kernel
theorem od_prog_37_method_7_1 : decode prog_37_method_7_code 1 = .ok (.getfield 7, 3) := by decide +kernel
theorem od_prog_37_method_7_4 : decode prog_37_method_7_code 4 = .ok (.newarray .double, 2) := by decide +kernel
theorem od_prog_37_method_7_6 : decode prog_37_method_7_code 6 = .ok (.astore_n 2, 1) := by decide +kernel
theorem od_prog_37_method_7_7 : decode prog_37_method_7_code 7 = .ok (.aload_n 2, 1) := by decide +kernel
theorem od_prog_37_method_7_8 : decode prog_37_method_7_code 8 = .ok (.iload_n 1, 1) := by decide +kernel
theorem od_prog_37_method_7_9 : decode prog_37_method_7_code 9 = .ok (.iconst 1, 1) := by decide +kernel
theorem od_prog_37_method_7_10 : decode prog_37_method_7_code 10 = .ok (.iadd, 1) := by decide +kernel
theorem od_prog_37_method_7_11 : decode prog_37_method_7_code 11 = .ok (.dconst 1, 1) := by decide +kernel
theorem od_prog_37_method_7_12 : decode prog_37_method_7_code 12 = .ok (.dastore, 1) := by decide +kernel
theorem od_prog_37_method_7_13 : decode prog_37_method_7_code 13 = .ok (.aload_n 2, 1) := by decide +kernel
theorem od_prog_37_method_7_14 : decode prog_37_method_7_code 14 = .ok (.areturn, 1) := by decide +kernel
theorem od_prog_37_method_1_0 : decode prog_37_method_1_code 0 = .ok (.aload_n 0, 1) := by decide +kernel
theorem od_prog_37_method_1_1 : decode prog_37_method_1_code 1 = .ok (.invokespecial 1, 3) := by decide +kernel
theorem od_prog_37_method_1_4 : decode prog_37_method_1_code 4 = .ok (.aload_n 0, 1) := by decide +kernel
theorem od_prog_37_method_1_5 : decode prog_37_method_1_code 5 = .ok (.aload_n 1, 1) := by decide +kernel
theorem od_prog_37_method_1_6 : decode prog_37_method_1_code 6 = .ok (.arraylength, 1) := by decide +kernel
theorem od_prog_37_method_1_7 : decode prog_37_method_1_code 7 = .ok (.iconst 1, 1) := by decide +kernel
theorem od_prog_37_method_1_8 : decode prog_37_method_1_code 8 = .ok (.iadd, 1) := by decide +kernel
theorem od_prog_37_method_1_9 : decode prog_37_method_1_code 9 = .ok (.putfield 7, 3) := by decide +kernel
theorem od_prog_37_method_1_12 : decode prog_37_method_1_code 12 = .ok (.aload_n 0, 1) := by decide +kernel
theorem od_prog_37_method_1_13 : decode prog_37_method_1_code 13 = .ok (.aload_n 0, 1) := by decide +kernel
theorem od_prog_37_method_1_14 : decode prog_37_method_1_code 14 = .ok (.getfield 7, 3) := by decide +kernel
theorem od_prog_37_method_1_17 : decode prog_37_method_1_code 17 = .ok (.newarray .double, 2) := by decide +kernel
theorem od_prog_37_method_1_19 : decode prog_37_method_1_code 19 = .ok (.putfield 13, 3) := by decide +kernel
theorem od_prog_37_method_1_22 : decode prog_37_method_1_code 22 = .ok (.aload_n 0, 1) := by decide +kernel
theorem od_prog_37_method_1_23 : decode prog_37_method_1_code 23 = .ok (.getfield 13, 3) := by decide +kernel
theorem od_prog_37_method_1_26 : decode prog_37_method_1_code 26 = .ok (.iconst 0, 1) := by decide +kernel
theorem od_prog_37_method_1_27 : decode prog_37_method_1_code 27 = .ok (.dconst 1, 1) := by decide +kernel
theorem od_prog_37_method_1_28 : decode prog_37_method_1_code 28 = .ok (.dastore, 1) := by decide +kernel
theorem od_prog_37_method_1_29 : decode prog_37_method_1_code 29 = .ok (.aload_n 1, 1) := by decide +kernel
theorem od_prog_37_method_1_30 : decode prog_37_method_1_code 30 = .ok (.iconst 0, 1) := by decide +kernel
theorem od_prog_37_method_1_31 : decode prog_37_method_1_code 31 = .ok (.aload_n 0, 1) := by decide +kernel
theorem od_prog_37_method_1_32 : decode prog_37_method_1_code 32 = .ok (.getfield 13, 3) := by decide +kernel
theorem od_prog_37_method_1_35 : decode prog_37_method_1_code 35 = .ok (.iconst 1, 1) := by decide +kernel
theorem od_prog_37_method_1_36 : decode prog_37_method_1_code 36 = .ok (.aload_n 1, 1) := by decide +kernel
theorem od_prog_37_method_1_37 : decode prog_37_method_1_code 37 = .ok (.arraylength, 1) := by decide +kernel
theorem od_prog_37_method_1_38 : decode prog_37_method_1_code 38 = .ok (.invokestatic 17, 3) := by decide +kernel
theorem od_prog_37_method_1_41 : decode prog_37_method_1_code 41 = .ok (.aload_n 0, 1) := by decide +kernel
theorem od_prog_37_method_1_42 : decode prog_37_method_1_code 42 = .ok (.aload_n 0, 1) := by decide +kernel
theorem od_prog_37_method_1_43 : decode prog_37_method_1_code 43 = .ok (.getfield 7, 3) := by decide +kernel
theorem od_prog_37_method_1_46 : decode prog_37_method_1_code 46 = .ok (.anewarray 23, 3) := by decide +kernel
theorem od_prog_37_method_1_49 : decode prog_37_method_1_code 49 = .ok (.putfield 24, 3) := by decide +kernel
theorem od_prog_37_method_1_52 : decode prog_37_method_1_code 52 = .ok (.aload_n 0, 1) := by decide +kernel
theorem od_prog_37_method_1_53 : decode prog_37_method_1_code 53 = .ok (.aload_n 0, 1) := by decide +kernel
theorem od_prog_37_method_1_54 : decode prog_37_method_1_code 54 = .ok (.getfield 7, 3) := by decide +kernel
theorem od_prog_37_method_1_57 : decode prog_37_method_1_code 57 = .ok (.newarray .double, 2) := by decide +kernel
theorem od_prog_37_method_1_59 : decode prog_37_method_1_code 59 = .ok (.putfield 28, 3) := by decide +kernel
theorem od_prog_37_method_1_62 : decode prog_37_method_1_code 62 = .ok (.aload_n 0, 1) := by decide +kernel
theorem od_prog_37_method_1_63 : decode prog_37_method_1_code 63 = .ok (.aload_n 0, 1) := by decide +kernel
theorem od_prog_37_method_1_64 : decode prog_37_method_1_code 64 = .ok (.getfield 7, 3) := by decide +kernel
theorem od_prog_37_method_1_67 : decode prog_37_method_1_code 67 = .ok (.newarray .int, 2) := by decide +kernel
theorem od_prog_37_method_1_69 : decode prog_37_method_1_code 69 = .ok (.putfield 31, 3) := by decide +kernel
theorem od_prog_37_method_1_72 : decode prog_37_method_1_code 72 = .ok (.aload_n 0, 1) := by decide +kernel
theorem od_prog_37_method_1_73 : decode prog_37_method_1_code 73 = .ok (.getfield 24, 3) := by decide +kernel
theorem od_prog_37_method_1_76 : decode prog_37_method_1_code 76 = .ok (.iconst 0, 1) := by decide +kernel
theorem od_prog_37_method_1_77 : decode prog_37_method_1_code 77 = .ok (.aload_n 0, 1) := by decide +kernel
theorem od_prog_37_method_1_78 : decode prog_37_method_1_code 78 = .ok (.getfield 13, 3) := by decide +kernel
theorem od_prog_37_method_1_81 : decode prog_37_method_1_code 81 = .ok (.invokevirtual 35, 3) := by decide +kernel
theorem od_prog_37_method_1_84 : decode prog_37_method_1_code 84 = .ok (.checkcast 23, 3) := by decide +kernel
theorem od_prog_37_method_1_87 : decode prog_37_method_1_code 87 = .ok (.aastore, 1) := by decide +kernel
theorem od_prog_37_method_1_88 : decode prog_37_method_1_code 88 = .ok (.aload_n 0, 1) := by decide +kernel
theorem od_prog_37_method_1_89 : decode prog_37_method_1_code 89 = .ok (.getfield 28, 3) := by decide +kernel
theorem od_prog_37_method_1_92 : decode prog_37_method_1_code 92 = .ok (.iconst 0, 1) := by decide +kernel
theorem od_prog_37_method_1_93 : decode prog_37_method_1_code 93 = .ok (.ldc2_w 39, 3) := by decide +kernel
theorem od_prog_37_method_1_96 : decode prog_37_method_1_code 96 = .ok (.dastore, 1) := by decide +kernel
theorem od_prog_37_method_1_97 : decode prog_37_method_1_code 97 = .ok (.aload_n 0, 1) := by decide +kernel
theorem od_prog_37_method_1_98 : decode prog_37_method_1_code 98 = .ok (.getfield 31, 3) := by decide +kernel
theorem od_prog_37_method_1_101 : decode prog_37_method_1_code 101 = .ok (.iconst 0, 1) := by decide +kernel
theorem od_prog_37_method_1_102 : decode prog_37_method_1_code 102 = .ok (.iconst (-1), 1) := by decide +kernel
theorem od_prog_37_method_1_103 : decode prog_37_method_1_code 103 = .ok (.iastore, 1) := by decide +kernel
theorem od_prog_37_method_1_104 : decode prog_37_method_1_code 104 = .ok (.iconst 0, 1) := by decide +kernel
theorem od_prog_37_method_1_105 : decode prog_37_method_1_code 105 = .ok (.istore_n 2, 1) := by decide +kernel
theorem od_prog_37_method_1_106 : decode prog_37_method_1_code 106 = .ok (.iload_n 2, 1) := by decide +kernel
theorem od_prog_37_method_1_107 : decode prog_37_method_1_code 107 = .ok (.aload_n 1, 1) := by decide +kernel
theorem od_prog_37_method_1_108 : decode prog_37_method_1_code 108 = .ok (.arraylength, 1) := by decide +kernel
theorem od_prog_37_method_1_109 : decode prog_37_method_1_code 109 = .ok (.if_icmp .ge 31, 3) := by decide +kernel
theorem od_prog_37_method_1_140 : decode prog_37_method_1_code 140 = .ok (.aload_n 0, 1) := by decide +kernel
theorem od_prog_37_method_1_141 : decode prog_37_method_1_code 141 = .ok (.aload_n 0, 1) := by decide +kernel
theorem od_prog_37_method_1_142 : decode prog_37_method_1_code 142 = .ok (.invokevirtual 45, 3) := by decide +kernel
theorem od_prog_37_method_1_145 : decode prog_37_method_1_code 145 = .ok (.putfield 49, 3) := by decide +kernel
theorem od_prog_37_method_1_148 : decode prog_37_method_1_code 148 = .ok (.return_, 1) := by decide +kernel
theorem od_prog_37_method_1_112 : decode prog_37_method_1_code 112 = .ok (.aload_n 0, 1) := by decide +kernel
theorem od_prog_37_method_1_113 : decode prog_37_method_1_code 113 = .ok (.getfield 24, 3) := by decide +kernel
theorem od_prog_37_method_1_116 : decode prog_37_method_1_code 116 = .ok (.iload_n 2, 1) := by decide +kernel
theorem od_prog_37_method_1_117 : decode prog_37_method_1_code 117 = .ok (.iconst 1, 1) := by decide +kernel
theorem od_prog_37_method_1_118 : decode prog_37_method_1_code 118 = .ok (.iadd, 1) := by decide +kernel
theorem od_prog_37_method_1_119 : decode prog_37_method_1_code 119 = .ok (.aload_n 0, 1) := by decide +kernel
theorem od_prog_37_method_1_120 : decode prog_37_method_1_code 120 = .ok (.iload_n 2, 1) := by decide +kernel
theorem od_prog_37_method_1_121 : decode prog_37_method_1_code 121 = .ok (.invokevirtual 41, 3) := by decide +kernel
theorem od_prog_37_method_1_124 : decode prog_37_method_1_code 124 = .ok (.aastore, 1) := by decide +kernel
theorem od_prog_37_method_1_125 : decode prog_37_method_1_code 125 = .ok (.aload_n 0, 1) := by decide +kernel
theorem od_prog_37_method_1_126 : decode prog_37_method_1_code 126 = .ok (.getfield 31, 3) := by decide +kernel
theorem od_prog_37_method_1_129 : decode prog_37_method_1_code 129 = .ok (.iload_n 2, 1) := by decide +kernel
theorem od_prog_37_method_1_130 : decode prog_37_method_1_code 130 = .ok (.iconst 1, 1) := by decide +kernel
theorem od_prog_37_method_1_131 : decode prog_37_method_1_code 131 = .ok (.iadd, 1) := by decide +kernel
theorem od_prog_37_method_1_132 : decode prog_37_method_1_code 132 = .ok (.iload_n 2, 1) := by decide +kernel
theorem od_prog_37_method_1_133 : decode prog_37_method_1_code 133 = .ok (.iastore, 1) := by decide +kernel
theorem od_prog_37_method_1_134 : decode prog_37_method_1_code 134 = .ok (.iinc 2 1, 3) := by decide +kernel
theorem od_prog_37_method_1_137 : decode prog_37_method_1_code 137 = .ok (.goto (-31), 3) := by decide +kernel
theorem od_prog_37_method_2_0 : decode prog_37_method_2_code 0 = .ok (.aload_n 0, 1) := by decide +kernel
theorem od_prog_37_method_2_1 : decode prog_37_method_2_code 1 = .ok (.getfield 7, 3) := by decide +kernel
theorem od_prog_37_method_2_4 : decode prog_37_method_2_code 4 = .ok (.iconst 1, 1) := by decide +kernel
theorem od_prog_37_method_2_5 : decode prog_37_method_2_code 5 = .ok (.isub, 1) := by decide +kernel
theorem od_prog_37_method_2_6 : decode prog_37_method_2_code 6 = .ok (.newarray .double, 2) := by decide +kernel
theorem od_prog_37_method_2_8 : decode prog_37_method_2_code 8 = .ok (.astore_n 1, 1) := by decide +kernel
theorem od_prog_37_method_2_9 : decode prog_37_method_2_code 9 = .ok (.iconst 0, 1) := by decide +kernel
theorem od_prog_37_method_2_10 : decode prog_37_method_2_code 10 = .ok (.istore_n 2, 1) := by decide +kernel
theorem od_prog_37_method_2_11 : decode prog_37_method_2_code 11 = .ok (.iload_n 2, 1) := by decide +kernel
theorem od_prog_37_method_2_12 : decode prog_37_method_2_code 12 = .ok (.aload_n 1, 1) := by decide +kernel
theorem od_prog_37_method_2_13 : decode prog_37_method_2_code 13 = .ok (.arraylength, 1) := by decide +kernel
theorem od_prog_37_method_2_14 : decode prog_37_method_2_code 14 = .ok (.if_icmp .ge 24, 3) := by decide +kernel
theorem od_prog_37_method_2_38 : decode prog_37_method_2_code 38 = .ok (.aload_n 1, 1) := by decide +kernel
theorem od_prog_37_method_2_39 : decode prog_37_method_2_code 39 = .ok (.areturn, 1) := by decide +kernel
theorem od_prog_37_method_2_17 : decode prog_37_method_2_code 17 = .ok (.aload_n 1, 1) := by decide +kernel
theorem od_prog_37_method_2_18 : decode prog_37_method_2_code 18 = .ok (.iload_n 2, 1) := by decide +kernel
theorem od_prog_37_method_2_19 : decode prog_37_method_2_code 19 = .ok (.dconst 0, 1) := by decide +kernel
theorem od_prog_37_method_2_20 : decode prog_37_method_2_code 20 = .ok (.aload_n 0, 1) := by decide +kernel
theorem od_prog_37_method_2_21 : decode prog_37_method_2_code 21 = .ok (.getfield 49, 3) := by decide +kernel
theorem od_prog_37_method_2_24 : decode prog_37_method_2_code 24 = .ok (.iload_n 2, 1) := by decide +kernel
theorem od_prog_37_method_2_25 : decode prog_37_method_2_code 25 = .ok (.iconst 1, 1) := by decide +kernel
theorem od_prog_37_method_2_26 : decode prog_37_method_2_code 26 = .ok (.iadd, 1) := by decide +kernel
theorem od_prog_37_method_2_27 : decode prog_37_method_2_code 27 = .ok (.daload, 1) := by decide +kernel
theorem od_prog_37_method_2_28 : decode prog_37_method_2_code 28 = .ok (.invokestatic 51, 3) := by decide +kernel
theorem od_prog_37_method_2_31 : decode prog_37_method_2_code 31 = .ok (.dastore, 1) := by decide +kernel
theorem od_prog_37_method_2_32 : decode prog_37_method_2_code 32 = .ok (.iinc 2 1, 3) := by decide +kernel
theorem od_prog_37_method_2_35 : decode prog_37_method_2_code 35 = .ok (.goto (-24), 3) := by decide +kernel
theorem od_prog_37_method_8_0 : decode prog_37_method_8_code 0 = .ok (.aload_n 0, 1) := by decide +kernel
theorem od_prog_37_method_8_1 : decode prog_37_method_8_code 1 = .ok (.getfield 7, 3) := by decide +kernel
theorem od_prog_37_method_8_4 : decode prog_37_method_8_code 4 = .ok (.aload_n 0, 1) := by decide +kernel
theorem od_prog_37_method_8_5 : decode prog_37_method_8_code 5 = .ok (.getfield 7, 3) := by decide +kernel
theorem od_prog_37_method_8_8 : decode prog_37_method_8_code 8 = .ok (.multianewarray 81 2, 4) := by decide +kernel
theorem od_prog_37_method_8_12 : decode prog_37_method_8_code 12 = .ok (.astore_n 1, 1) := by decide +kernel
theorem od_prog_37_method_8_13 : decode prog_37_method_8_code 13 = .ok (.iconst 0, 1) := by decide +kernel
theorem od_prog_37_method_8_14 : decode prog_37_method_8_code 14 = .ok (.istore_n 2, 1) := by decide +kernel
theorem od_prog_37_method_8_15 : decode prog_37_method_8_code 15 = .ok (.iload_n 2, 1) := by decide +kernel
theorem od_prog_37_method_8_16 : decode prog_37_method_8_code 16 = .ok (.aload_n 0, 1) := by decide +kernel
theorem od_prog_37_method_8_17 : decode prog_37_method_8_code 17 = .ok (.getfield 7, 3) := by decide +kernel
theorem od_prog_37_method_8_20 : decode prog_37_method_8_code 20 = .ok (.if_icmp .ge 38, 3) := by decide +kernel
theorem od_prog_37_method_8_23 : decode prog_37_method_8_code 23 = .ok (.iconst 0, 1) := by decide +kernel
theorem od_prog_37_method_8_24 : decode prog_37_method_8_code 24 = .ok (.istore_n 3, 1) := by decide +kernel
theorem od_prog_37_method_8_25 : decode prog_37_method_8_code 25 = .ok (.iload_n 3, 1) := by decide +kernel
theorem od_prog_37_method_8_26 : decode prog_37_method_8_code 26 = .ok (.aload_n 0, 1) := by decide +kernel
theorem od_prog_37_method_8_27 : decode prog_37_method_8_code 27 = .ok (.getfield 7, 3) := by decide +kernel
theorem od_prog_37_method_8_30 : decode prog_37_method_8_code 30 = .ok (.if_icmp .ge 22, 3) := by decide +kernel
theorem od_prog_37_method_8_33 : decode prog_37_method_8_code 33 = .ok (.aload_n 1, 1) := by decide +kernel
theorem od_prog_37_method_8_34 : decode prog_37_method_8_code 34 = .ok (.iload_n 3, 1) := by decide +kernel
theorem od_prog_37_method_8_35 : decode prog_37_method_8_code 35 = .ok (.aaload, 1) := by decide +kernel
theorem od_prog_37_method_8_36 : decode prog_37_method_8_code 36 = .ok (.iload_n 2, 1) := by decide +kernel
theorem od_prog_37_method_8_37 : decode prog_37_method_8_code 37 = .ok (.aload_n 0, 1) := by decide +kernel
theorem od_prog_37_method_8_38 : decode prog_37_method_8_code 38 = .ok (.getfield 24, 3) := by decide +kernel
theorem od_prog_37_method_8_41 : decode prog_37_method_8_code 41 = .ok (.iload_n 2, 1) := by decide +kernel
theorem od_prog_37_method_8_42 : decode prog_37_method_8_code 42 = .ok (.aaload, 1) := by decide +kernel
theorem od_prog_37_method_8_43 : decode prog_37_method_8_code 43 = .ok (.iload_n 3, 1) := by decide +kernel
theorem od_prog_37_method_8_44 : decode prog_37_method_8_code 44 = .ok (.daload, 1) := by decide +kernel
theorem od_prog_37_method_8_45 : decode prog_37_method_8_code 45 = .ok (.dastore, 1) := by decide +kernel
theorem od_prog_37_method_8_46 : decode prog_37_method_8_code 46 = .ok (.iinc 3 1, 3) := by decide +kernel
theorem od_prog_37_method_8_49 : decode prog_37_method_8_code 49 = .ok (.goto (-24), 3) := by decide +kernel
theorem od_prog_37_method_8_52 : decode prog_37_method_8_code 52 = .ok (.iinc 2 1, 3) := by decide +kernel
theorem od_prog_37_method_8_55 : decode prog_37_method_8_code 55 = .ok (.goto (-40), 3) := by decide +kernel
theorem od_prog_37_method_8_58 : decode prog_37_method_8_code 58 = .ok (.aload_n 1, 1) := by decide +kernel
theorem od_prog_37_method_8_59 : decode prog_37_method_8_code 59 = .ok (.areturn, 1) := by decide +kernel
theorem od_prog_37_method_6_0 : decode prog_37_method_6_code 0 = .ok (.aload_n 0, 1) := by decide +kernel
theorem od_prog_37_method_6_1 : decode prog_37_method_6_code 1 = .ok (.invokevirtual 67, 3) := by decide +kernel
theorem od_prog_37_method_6_4 : decode prog_37_method_6_code 4 = .ok (.astore 5, 2) := by decide +kernel
theorem od_prog_37_method_6_6 : decode prog_37_method_6_code 6 = .ok (.aload 5, 2) := by decide +kernel
theorem od_prog_37_method_6_8 : decode prog_37_method_6_code 8 = .ok (.aload_n 0, 1) := by decide +kernel
theorem od_prog_37_method_6_9 : decode prog_37_method_6_code 9 = .ok (.getfield 13, 3) := by decide +kernel
theorem od_prog_37_method_6_12 : decode prog_37_method_6_code 12 = .ok (.invokestatic 71, 3) := by decide +kernel
theorem od_prog_37_method_6_15 : decode prog_37_method_6_code 15 = .ok (.astore 6, 2) := by decide +kernel
theorem od_prog_37_method_6_17 : decode prog_37_method_6_code 17 = .ok (.aload 5, 2) := by decide +kernel
theorem od_prog_37_method_6_19 : decode prog_37_method_6_code 19 = .ok (.aload_n 1, 1) := by decide +kernel
theorem od_prog_37_method_6_20 : decode prog_37_method_6_code 20 = .ok (.invokestatic 71, 3) := by decide +kernel
theorem od_prog_37_method_6_23 : decode prog_37_method_6_code 23 = .ok (.astore 7, 2) := by decide +kernel
theorem od_prog_37_method_6_25 : decode prog_37_method_6_code 25 = .ok (.aload 6, 2) := by decide +kernel
theorem od_prog_37_method_6_27 : decode prog_37_method_6_code 27 = .ok (.ifnull 8, 3) := by decide +kernel
theorem od_prog_37_method_6_30 : decode prog_37_method_6_code 30 = .ok (.aload 7, 2) := by decide +kernel
theorem od_prog_37_method_6_32 : decode prog_37_method_6_code 32 = .ok (.ifnonnull 5, 3) := by decide +kernel
theorem od_prog_37_method_6_37 : decode prog_37_method_6_code 37 = .ok (.iconst (-1), 1) := by decide +kernel
theorem od_prog_37_method_6_38 : decode prog_37_method_6_code 38 = .ok (.istore 8, 2) := by decide +kernel
theorem od_prog_37_method_6_40 : decode prog_37_method_6_code 40 = .ok (.ldc2_w 77, 3) := by decide +kernel
theorem od_prog_37_method_6_43 : decode prog_37_method_6_code 43 = .ok (.dstore 9, 2) := by decide +kernel
theorem od_prog_37_method_6_45 : decode prog_37_method_6_code 45 = .ok (.iconst 0, 1) := by decide +kernel
theorem od_prog_37_method_6_46 : decode prog_37_method_6_code 46 = .ok (.istore 11, 2) := by decide +kernel
theorem od_prog_37_method_6_48 : decode prog_37_method_6_code 48 = .ok (.iload 11, 2) := by decide +kernel
theorem od_prog_37_method_6_50 : decode prog_37_method_6_code 50 = .ok (.aload_n 0, 1) := by decide +kernel
theorem od_prog_37_method_6_51 : decode prog_37_method_6_code 51 = .ok (.getfield 7, 3) := by decide +kernel
theorem od_prog_37_method_6_54 : decode prog_37_method_6_code 54 = .ok (.if_icmp .ge 54, 3) := by decide +kernel
theorem od_prog_37_method_6_57 : decode prog_37_method_6_code 57 = .ok (.aload 7, 2) := by decide +kernel
theorem od_prog_37_method_6_59 : decode prog_37_method_6_code 59 = .ok (.iload 11, 2) := by decide +kernel
theorem od_prog_37_method_6_61 : decode prog_37_method_6_code 61 = .ok (.daload, 1) := by decide +kernel
theorem od_prog_37_method_6_62 : decode prog_37_method_6_code 62 = .ok (.ldc2_w 79, 3) := by decide +kernel
theorem od_prog_37_method_6_65 : decode prog_37_method_6_code 65 = .ok (.dcmp .l, 1) := by decide +kernel
theorem od_prog_37_method_6_66 : decode prog_37_method_6_code 66 = .ok (.ifCond .le 36, 3) := by decide +kernel
theorem od_prog_37_method_6_69 : decode prog_37_method_6_code 69 = .ok (.dconst 0, 1) := by decide +kernel
theorem od_prog_37_method_6_70 : decode prog_37_method_6_code 70 = .ok (.aload 6, 2) := by decide +kernel
theorem od_prog_37_method_6_72 : decode prog_37_method_6_code 72 = .ok (.iload 11, 2) := by decide +kernel
theorem od_prog_37_method_6_74 : decode prog_37_method_6_code 74 = .ok (.daload, 1) := by decide +kernel
theorem od_prog_37_method_6_75 : decode prog_37_method_6_code 75 = .ok (.invokestatic 51, 3) := by decide +kernel
theorem od_prog_37_method_6_78 : decode prog_37_method_6_code 78 = .ok (.aload 7, 2) := by decide +kernel
theorem od_prog_37_method_6_80 : decode prog_37_method_6_code 80 = .ok (.iload 11, 2) := by decide +kernel
theorem od_prog_37_method_6_82 : decode prog_37_method_6_code 82 = .ok (.daload, 1) := by decide +kernel
theorem od_prog_37_method_6_83 : decode prog_37_method_6_code 83 = .ok (.ddiv, 1) := by decide +kernel
theorem od_prog_37_method_6_84 : decode prog_37_method_6_code 84 = .ok (.dstore 12, 2) := by decide +kernel
theorem od_prog_37_method_6_86 : decode prog_37_method_6_code 86 = .ok (.dload 12, 2) := by decide +kernel
theorem od_prog_37_method_6_88 : decode prog_37_method_6_code 88 = .ok (.dload 9, 2) := by decide +kernel
theorem od_prog_37_method_6_90 : decode prog_37_method_6_code 90 = .ok (.dcmp .g, 1) := by decide +kernel
theorem od_prog_37_method_6_91 : decode prog_37_method_6_code 91 = .ok (.ifCond .ge 11, 3) := by decide +kernel
theorem od_prog_37_method_6_94 : decode prog_37_method_6_code 94 = .ok (.dload 12, 2) := by decide +kernel
theorem od_prog_37_method_6_96 : decode prog_37_method_6_code 96 = .ok (.dstore 9, 2) := by decide +kernel
theorem od_prog_37_method_6_98 : decode prog_37_method_6_code 98 = .ok (.iload 11, 2) := by decide +kernel
theorem od_prog_37_method_6_100 : decode prog_37_method_6_code 100 = .ok (.istore 8, 2) := by decide +kernel
theorem od_prog_37_method_6_102 : decode prog_37_method_6_code 102 = .ok (.iinc 11 1, 3) := by decide +kernel
theorem od_prog_37_method_6_105 : decode prog_37_method_6_code 105 = .ok (.goto (-57), 3) := by decide +kernel
theorem od_prog_37_method_6_108 : decode prog_37_method_6_code 108 = .ok (.iload 8, 2) := by decide +kernel
theorem od_prog_37_method_6_110 : decode prog_37_method_6_code 110 = .ok (.ifCond .ge 5, 3) := by decide +kernel
theorem od_prog_37_method_6_115 : decode prog_37_method_6_code 115 = .ok (.aload_n 0, 1) := by decide +kernel
theorem od_prog_37_method_6_116 : decode prog_37_method_6_code 116 = .ok (.getfield 24, 3) := by decide +kernel
theorem od_prog_37_method_6_119 : decode prog_37_method_6_code 119 = .ok (.iload 8, 2) := by decide +kernel
theorem od_prog_37_method_6_121 : decode prog_37_method_6_code 121 = .ok (.aaload, 1) := by decide +kernel
theorem od_prog_37_method_6_122 : decode prog_37_method_6_code 122 = .ok (.astore 11, 2) := by decide +kernel
theorem od_prog_37_method_6_124 : decode prog_37_method_6_code 124 = .ok (.aload_n 0, 1) := by decide +kernel
theorem od_prog_37_method_6_125 : decode prog_37_method_6_code 125 = .ok (.getfield 28, 3) := by decide +kernel
theorem od_prog_37_method_6_128 : decode prog_37_method_6_code 128 = .ok (.iload 8, 2) := by decide +kernel
theorem od_prog_37_method_6_130 : decode prog_37_method_6_code 130 = .ok (.daload, 1) := by decide +kernel
theorem od_prog_37_method_6_131 : decode prog_37_method_6_code 131 = .ok (.dstore 12, 2) := by decide +kernel
theorem od_prog_37_method_6_133 : decode prog_37_method_6_code 133 = .ok (.aload_n 0, 1) := by decide +kernel
theorem od_prog_37_method_6_134 : decode prog_37_method_6_code 134 = .ok (.getfield 31, 3) := by decide +kernel
theorem od_prog_37_method_6_137 : decode prog_37_method_6_code 137 = .ok (.iload 8, 2) := by decide +kernel
theorem od_prog_37_method_6_139 : decode prog_37_method_6_code 139 = .ok (.iaload, 1) := by decide +kernel
theorem od_prog_37_method_6_140 : decode prog_37_method_6_code 140 = .ok (.istore 14, 2) := by decide +kernel
theorem od_prog_37_method_6_142 : decode prog_37_method_6_code 142 = .ok (.aload_n 0, 1) := by decide +kernel
theorem od_prog_37_method_6_143 : decode prog_37_method_6_code 143 = .ok (.getfield 24, 3) := by decide +kernel
theorem od_prog_37_method_6_146 : decode prog_37_method_6_code 146 = .ok (.iload 8, 2) := by decide +kernel
theorem od_prog_37_method_6_148 : decode prog_37_method_6_code 148 = .ok (.aload_n 1, 1) := by decide +kernel
theorem od_prog_37_method_6_149 : decode prog_37_method_6_code 149 = .ok (.aastore, 1) := by decide +kernel
theorem od_prog_37_method_6_150 : decode prog_37_method_6_code 150 = .ok (.aload_n 0, 1) := by decide +kernel
theorem od_prog_37_method_6_151 : decode prog_37_method_6_code 151 = .ok (.getfield 28, 3) := by decide +kernel
theorem od_prog_37_method_6_154 : decode prog_37_method_6_code 154 = .ok (.iload 8, 2) := by decide +kernel
theorem od_prog_37_method_6_156 : decode prog_37_method_6_code 156 = .ok (.dload_n 2, 1) := by decide +kernel
theorem od_prog_37_method_6_157 : decode prog_37_method_6_code 157 = .ok (.dastore, 1) := by decide +kernel
theorem od_prog_37_method_6_158 : decode prog_37_method_6_code 158 = .ok (.aload_n 0, 1) := by decide +kernel
theorem od_prog_37_method_6_159 : decode prog_37_method_6_code 159 = .ok (.getfield 31, 3) := by decide +kernel
theorem od_prog_37_method_6_162 : decode prog_37_method_6_code 162 = .ok (.iload 8, 2) := by decide +kernel
theorem od_prog_37_method_6_164 : decode prog_37_method_6_code 164 = .ok (.iload 4, 2) := by decide +kernel
theorem od_prog_37_method_6_166 : decode prog_37_method_6_code 166 = .ok (.iastore, 1) := by decide +kernel
theorem od_prog_37_method_6_167 : decode prog_37_method_6_code 167 = .ok (.aload_n 0, 1) := by decide +kernel
theorem od_prog_37_method_6_168 : decode prog_37_method_6_code 168 = .ok (.invokevirtual 45, 3) := by decide +kernel
theorem od_prog_37_method_6_171 : decode prog_37_method_6_code 171 = .ok (.astore 15, 2) := by decide +kernel
theorem od_prog_37_method_6_173 : decode prog_37_method_6_code 173 = .ok (.aload 15, 2) := by decide +kernel
theorem od_prog_37_method_6_175 : decode prog_37_method_6_code 175 = .ok (.ifnonnull 32, 3) := by decide +kernel
theorem od_prog_37_method_6_207 : decode prog_37_method_6_code 207 = .ok (.aload_n 0, 1) := by decide +kernel
theorem od_prog_37_method_6_208 : decode prog_37_method_6_code 208 = .ok (.aload 15, 2) := by decide +kernel
theorem od_prog_37_method_6_210 : decode prog_37_method_6_code 210 = .ok (.putfield 49, 3) := by decide +kernel
theorem od_prog_37_method_6_213 : decode prog_37_method_6_code 213 = .ok (.iconst 1, 1) := by decide +kernel
theorem od_prog_37_method_6_214 : decode prog_37_method_6_code 214 = .ok (.ireturn, 1) := by decide +kernel
theorem od_prog_37_method_5_0 : decode prog_37_method_5_code 0 = .ok (.aload_n 0, 1) := by decide +kernel
theorem od_prog_37_method_5_1 : decode prog_37_method_5_code 1 = .ok (.getfield 7, 3) := by decide +kernel
theorem od_prog_37_method_5_4 : decode prog_37_method_5_code 4 = .ok (.iconst 1, 1) := by decide +kernel
theorem od_prog_37_method_5_5 : decode prog_37_method_5_code 5 = .ok (.isub, 1) := by decide +kernel
theorem od_prog_37_method_5_6 : decode prog_37_method_5_code 6 = .ok (.newarray .boolean, 2) := by decide +kernel
theorem od_prog_37_method_5_8 : decode prog_37_method_5_code 8 = .ok (.astore_n 1, 1) := by decide +kernel
theorem od_prog_37_method_5_9 : decode prog_37_method_5_code 9 = .ok (.aload_n 0, 1) := by decide +kernel
theorem od_prog_37_method_5_10 : decode prog_37_method_5_code 10 = .ok (.getfield 31, 3) := by decide +kernel
theorem od_prog_37_method_5_13 : decode prog_37_method_5_code 13 = .ok (.astore_n 2, 1) := by decide +kernel
theorem od_prog_37_method_5_14 : decode prog_37_method_5_code 14 = .ok (.aload_n 2, 1) := by decide +kernel
theorem od_prog_37_method_5_15 : decode prog_37_method_5_code 15 = .ok (.arraylength, 1) := by decide +kernel
theorem od_prog_37_method_5_16 : decode prog_37_method_5_code 16 = .ok (.istore_n 3, 1) := by decide +kernel
theorem od_prog_37_method_5_17 : decode prog_37_method_5_code 17 = .ok (.iconst 0, 1) := by decide +kernel
theorem od_prog_37_method_5_18 : decode prog_37_method_5_code 18 = .ok (.istore 4, 2) := by decide +kernel
theorem od_prog_37_method_5_20 : decode prog_37_method_5_code 20 = .ok (.iload 4, 2) := by decide +kernel
theorem od_prog_37_method_5_22 : decode prog_37_method_5_code 22 = .ok (.iload_n 3, 1) := by decide +kernel
theorem od_prog_37_method_5_23 : decode prog_37_method_5_code 23 = .ok (.if_icmp .ge 25, 3) := by decide +kernel
theorem od_prog_37_method_5_26 : decode prog_37_method_5_code 26 = .ok (.aload_n 2, 1) := by decide +kernel
theorem od_prog_37_method_5_27 : decode prog_37_method_5_code 27 = .ok (.iload 4, 2) := by decide +kernel
theorem od_prog_37_method_5_29 : decode prog_37_method_5_code 29 = .ok (.iaload, 1) := by decide +kernel
theorem od_prog_37_method_5_30 : decode prog_37_method_5_code 30 = .ok (.istore 5, 2) := by decide +kernel
theorem od_prog_37_method_5_32 : decode prog_37_method_5_code 32 = .ok (.iload 5, 2) := by decide +kernel
theorem od_prog_37_method_5_34 : decode prog_37_method_5_code 34 = .ok (.ifCond .lt 8, 3) := by decide +kernel
theorem od_prog_37_method_5_42 : decode prog_37_method_5_code 42 = .ok (.iinc 4 1, 3) := by decide +kernel
theorem od_prog_37_method_5_45 : decode prog_37_method_5_code 45 = .ok (.goto (-25), 3) := by decide +kernel
theorem od_prog_37_method_5_37 : decode prog_37_method_5_code 37 = .ok (.aload_n 1, 1) := by decide +kernel
theorem od_prog_37_method_5_38 : decode prog_37_method_5_code 38 = .ok (.iload 5, 2) := by decide +kernel
theorem od_prog_37_method_5_40 : decode prog_37_method_5_code 40 = .ok (.iconst 1, 1) := by decide +kernel
theorem od_prog_37_method_5_41 : decode prog_37_method_5_code 41 = .ok (.bastore, 1) := by decide +kernel
theorem od_prog_37_method_5_48 : decode prog_37_method_5_code 48 = .ok (.iconst 0, 1) := by decide +kernel
theorem od_prog_37_method_5_49 : decode prog_37_method_5_code 49 = .ok (.istore_n 2, 1) := by decide +kernel
theorem od_prog_37_method_5_50 : decode prog_37_method_5_code 50 = .ok (.iload_n 2, 1) := by decide +kernel
theorem od_prog_37_method_5_51 : decode prog_37_method_5_code 51 = .ok (.aload_n 1, 1) := by decide +kernel
theorem od_prog_37_method_5_52 : decode prog_37_method_5_code 52 = .ok (.arraylength, 1) := by decide +kernel
theorem od_prog_37_method_5_53 : decode prog_37_method_5_code 53 = .ok (.if_icmp .ge 32, 3) := by decide +kernel
theorem od_prog_37_method_5_56 : decode prog_37_method_5_code 56 = .ok (.aload_n 1, 1) := by decide +kernel
theorem od_prog_37_method_5_57 : decode prog_37_method_5_code 57 = .ok (.iload_n 2, 1) := by decide +kernel
theorem od_prog_37_method_5_58 : decode prog_37_method_5_code 58 = .ok (.baload, 1) := by decide +kernel
theorem od_prog_37_method_5_59 : decode prog_37_method_5_code 59 = .ok (.ifCond .ne 20, 3) := by decide +kernel
theorem od_prog_37_method_5_79 : decode prog_37_method_5_code 79 = .ok (.iinc 2 1, 3) := by decide +kernel
theorem od_prog_37_method_5_82 : decode prog_37_method_5_code 82 = .ok (.goto (-32), 3) := by decide +kernel
theorem od_prog_37_method_5_85 : decode prog_37_method_5_code 85 = .ok (.iconst (-1), 1) := by decide +kernel
theorem od_prog_37_method_5_86 : decode prog_37_method_5_code 86 = .ok (.ireturn, 1) := by decide +kernel
theorem od_prog_37_method_4_0 : decode prog_37_method_4_code 0 = .ok (.aload_n 0, 1) := by decide +kernel
theorem od_prog_37_method_4_1 : decode prog_37_method_4_code 1 = .ok (.getfield 7, 3) := by decide +kernel
theorem od_prog_37_method_4_4 : decode prog_37_method_4_code 4 = .ok (.newarray .double, 2) := by decide +kernel
theorem od_prog_37_method_4_6 : decode prog_37_method_4_code 6 = .ok (.astore 4, 2) := by decide +kernel
theorem od_prog_37_method_4_8 : decode prog_37_method_4_code 8 = .ok (.aload 4, 2) := by decide +kernel
theorem od_prog_37_method_4_10 : decode prog_37_method_4_code 10 = .ok (.iconst 0, 1) := by decide +kernel
theorem od_prog_37_method_4_11 : decode prog_37_method_4_code 11 = .ok (.dconst 1, 1) := by decide +kernel
theorem od_prog_37_method_4_12 : decode prog_37_method_4_code 12 = .ok (.dastore, 1) := by decide +kernel
theorem od_prog_37_method_4_13 : decode prog_37_method_4_code 13 = .ok (.aload_n 3, 1) := by decide +kernel
theorem od_prog_37_method_4_14 : decode prog_37_method_4_code 14 = .ok (.iconst 0, 1) := by decide +kernel
theorem od_prog_37_method_4_15 : decode prog_37_method_4_code 15 = .ok (.aload 4, 2) := by decide +kernel
theorem od_prog_37_method_4_17 : decode prog_37_method_4_code 17 = .ok (.iconst 1, 1) := by decide +kernel
theorem od_prog_37_method_4_18 : decode prog_37_method_4_code 18 = .ok (.aload_n 3, 1) := by decide +kernel
theorem od_prog_37_method_4_19 : decode prog_37_method_4_code 19 = .ok (.arraylength, 1) := by decide +kernel
theorem od_prog_37_method_4_20 : decode prog_37_method_4_code 20 = .ok (.invokestatic 17, 3) := by decide +kernel
theorem od_prog_37_method_4_23 : decode prog_37_method_4_code 23 = .ok (.aload_n 0, 1) := by decide +kernel
theorem od_prog_37_method_4_24 : decode prog_37_method_4_code 24 = .ok (.aload 4, 2) := by decide +kernel
theorem od_prog_37_method_4_26 : decode prog_37_method_4_code 26 = .ok (.dload_n 1, 1) := by decide +kernel
theorem od_prog_37_method_4_27 : decode prog_37_method_4_code 27 = .ok (.iconst (-1), 1) := by decide +kernel
theorem od_prog_37_method_4_28 : decode prog_37_method_4_code 28 = .ok (.invokevirtual 57, 3) := by decide +kernel
theorem od_prog_37_method_4_31 : decode prog_37_method_4_code 31 = .ok (.ifCond .ne 5, 3) := by decide +kernel
theorem od_prog_37_method_4_36 : decode prog_37_method_4_code 36 = .ok (.iconst 0, 1) := by decide +kernel
theorem od_prog_37_method_4_37 : decode prog_37_method_4_code 37 = .ok (.istore 5, 2) := by decide +kernel
theorem od_prog_37_method_4_39 : decode prog_37_method_4_code 39 = .ok (.iload 5, 2) := by decide +kernel
theorem od_prog_37_method_4_41 : decode prog_37_method_4_code 41 = .ok (.aload_n 0, 1) := by decide +kernel
theorem od_prog_37_method_4_42 : decode prog_37_method_4_code 42 = .ok (.getfield 7, 3) := by decide +kernel
theorem od_prog_37_method_4_45 : decode prog_37_method_4_code 45 = .ok (.if_icmp .ge 40, 3) := by decide +kernel
theorem od_prog_37_method_4_48 : decode prog_37_method_4_code 48 = .ok (.aload_n 0, 1) := by decide +kernel
theorem od_prog_37_method_4_49 : decode prog_37_method_4_code 49 = .ok (.invokevirtual 61, 3) := by decide +kernel
theorem od_prog_37_method_4_52 : decode prog_37_method_4_code 52 = .ok (.istore 6, 2) := by decide +kernel
theorem od_prog_37_method_4_54 : decode prog_37_method_4_code 54 = .ok (.iload 6, 2) := by decide +kernel
theorem od_prog_37_method_4_56 : decode prog_37_method_4_code 56 = .ok (.ifCond .ge 5, 3) := by decide +kernel
theorem od_prog_37_method_4_59 : decode prog_37_method_4_code 59 = .ok (.iconst 1, 1) := by decide +kernel
theorem od_prog_37_method_4_60 : decode prog_37_method_4_code 60 = .ok (.ireturn, 1) := by decide +kernel
theorem od_prog_37_method_5_62 : decode prog_37_method_5_code 62 = .ok (.aload_n 0, 1) := by decide +kernel
theorem od_prog_37_method_5_63 : decode prog_37_method_5_code 63 = .ok (.getfield 49, 3) := by decide +kernel
theorem od_prog_37_method_5_66 : decode prog_37_method_5_code 66 = .ok (.iload_n 2, 1) := by decide +kernel
theorem od_prog_37_method_5_67 : decode prog_37_method_5_code 67 = .ok (.iconst 1, 1) := by decide +kernel
theorem od_prog_37_method_5_68 : decode prog_37_method_5_code 68 = .ok (.iadd, 1) := by decide +kernel
theorem od_prog_37_method_5_69 : decode prog_37_method_5_code 69 = .ok (.daload, 1) := by decide +kernel
theorem od_prog_37_method_5_70 : decode prog_37_method_5_code 70 = .ok (.ldc2_w 65, 3) := by decide +kernel
theorem od_prog_37_method_5_73 : decode prog_37_method_5_code 73 = .ok (.dcmp .g, 1) := by decide +kernel
theorem od_prog_37_method_5_74 : decode prog_37_method_5_code 74 = .ok (.ifCond .ge 5, 3) := by decide +kernel
theorem opd_0 : parseMethodDescriptor "(D)Z" = some ⟨[.double], some .boolean⟩ := by decide +kernel
theorem opd_1 : parseMethodDescriptor "([[D[D)[D" = some ⟨[(.array (.array .double)), (.array .double)], some (.array .double)⟩ := by decide +kernel
theorem opd_2 : parseMethodDescriptor "()[D" = some ⟨[], some (.array .double)⟩ := by decide +kernel
theorem opd_3 : parseMethodDescriptor "(I)[D" = some ⟨[.int], some (.array .double)⟩ := by decide +kernel
theorem opd_4 : parseMethodDescriptor "()[[D" = some ⟨[], some (.array (.array .double))⟩ := by decide +kernel
theorem opd_5 : parseMethodDescriptor "([DDI)Z" = some ⟨[(.array .double), .double, .int], some .boolean⟩ := by decide +kernel
theorem opd_6 : parseMethodDescriptor "()I" = some ⟨[], some .int⟩ := by decide +kernel
theorem opd_7 : parseMethodDescriptor "([D)V" = some ⟨[(.array .double)], none⟩ := by decide +kernel
theorem opd_8 : parseMethodDescriptor "(D[D)Z" = some ⟨[.double, (.array .double)], some .boolean⟩ := by decide +kernel
theorem ef_rm_fin (m : MethodId) (x0 : UInt64) : entryFrame m #[(.double x0)] 2 = mkF m 0 #[.val (.double x0), .second] [] := by first | (simp [entryFrame, mkF, argsToLocals, Value.category]; done) | rfl
set_option maxRecDepth 65536 in
set_option maxHeartbeats 40000000 in
theorem rm_fin (l : Launch) (Z : State) (a0 : Array Value) (hw : ∀ d ∈ tables_1, d.before a0 Z = true) (dx : UInt64) (h0 : Heap) (n0 : Nat) (Z0 : n0 ≤ h0.size) (hf : Jvm.Free.Fl.Fin64 dx) :
    own_Met l Z (⟨"java/lang/Double", "isFinite", "(D)Z"⟩ : MethodName) jdk_117_method_8_code 2 (some .boolean) ({ frames := 1, cells := 0, slots := 0, locals := 13 } : Room) #[(.double dx)] h0 (fun v h L => v = some (.int (1 : Int32)) ∧ Fr n0 L ∧ h0 = h) := by
  refine own_body (plainFor_of_name (by first | (simp [plainName, overriddenIn]; done) | decide +kernel)) ?_
  intro p e s m below meth c s₁ hx hby hml hown hnm hlk hrt hZ X0 e0
  refine own_enter (ef_rm_fin m dx) ?_
  have N0 := Fr.nil n0
  refine own_dloadN X0 hx hby od_jdk_117_method_8_0 (pc' := 1) rfl rfl ?_
  refine own_absD X0 hx hby hZ hml hown (ow_48 hw) (ow_49 hw) (ow_50 hw) (ow_51 hw) e0 hf.noNaN rfl rfl od_jdk_117_method_8_1 (pc' := 4) rfl (W := 0) (Nat.le_refl _) (by decide) (by decide) (by decide) (by decide) ?_
  intro T1 X1 e1
  refine own_ldcD X1 hx hby hZ hown (ow_52 hw) od_jdk_117_method_8_4 (pc' := 7) rfl ?_
  obtain ⟨dv2, hd2, hk2⟩ := own_fmax hf
  refine own_dcmp X1 hx hby od_jdk_117_method_8_7 (pc' := 8) rfl (v := dv2) hd2 ?_
  refine own_ifN X1 hx hby od_jdk_117_method_8_8 (pc' := 11) rfl (flt hk2).2.2.1 ?_
  refine own_iconst X1 hx hby od_jdk_117_method_8_11 (pc' := 12) rfl (z := 1) rfl ?_
  refine own_goto X1 hx hby od_jdk_117_method_8_12 (by decide) (pc' := 16) (by decide) ?_
  exact own_retN X1 hx hby hlk hrt (by simp) od_jdk_117_method_8_16 (z' := (1 : Int32)) rfl (by first | exact ⟨rfl, N0, rfl⟩ | (rw [e1]; exact ⟨rfl, N0, rfl⟩)) (by decide) (by decide)
theorem ef_rm_solve1 (m : MethodId) (x0 : Addr) (x1 : Addr) : entryFrame m #[(.ref x0), (.ref x1)] 14 = mkF m 0 #[.val (.ref x0), .val (.ref x1), .unset, .unset, .unset, .unset, .unset, .unset, .unset, .unset, .unset, .unset, .unset, .unset] [] := by first | (simp [entryFrame, mkF, argsToLocals, Value.category]; done) | rfl
set_option maxRecDepth 65536 in
set_option maxHeartbeats 40000000 in
theorem rm_solve1 (l : Launch) (Z : State) (a0 : Array Value) (hw : ∀ d ∈ tables_1, d.before a0 Z = true) (aM r0 ar : Addr) (h0 : Heap) (n0 : Nat) (Z0 : n0 ≤ h0.size)  (V_aM : own_DD Z h0 aM (1 : Int32) [.ref r0]) (V_r0 : own_D Z h0 r0 (1 : Int32) [.double (4607182418800017408 : UInt64)]) (V_ar : own_D Z h0 ar (1 : Int32) [.double (13830554455654793216 : UInt64)]) :
    own_Met l Z (⟨"com/example/bindery/bindery/selection/BindingMix", "solve", "([[D[D)[D"⟩ : MethodName) prog_37_method_10_code 14 (some (.array .double)) ({ frames := 2, cells := 4, slots := 4, locals := 26 } : Room) #[(.ref aM), (.ref ar)] h0 (fun v h L => ∃ b : Addr, v = some (.ref b) ∧ h0.size ≤ b ∧ Ext h0 h ∧ Fr n0 L ∧ own_D Z h b (1 : Int32) [.double (13830554455654793216 : UInt64)]) := by
  refine own_body (plainFor_of_name (by first | (simp [plainName, overriddenIn]; done) | decide +kernel)) ?_
  intro p e s m below meth c s₁ hx hby hml hown hnm hlk hrt hZ X0 e0
  refine own_enter (ef_rm_solve1 m aM ar) ?_
  have N0 := Fr.nil n0
  refine own_aloadN X0 hx hby od_prog_37_method_10_0 (pc' := 1) rfl rfl rfl ?_
  refine own_alD X0 hx hby hZ e0 V_ar od_prog_37_method_10_1 (pc' := 2) rfl ?_
  refine own_istoreN X0 hx hby od_prog_37_method_10_2 (pc' := 3) rfl (Ls' := #[.val (.ref aM), .val (.ref ar), .val (.int (1 : Int32)), .unset, .unset, .unset, .unset, .unset, .unset, .unset, .unset, .unset, .unset, .unset]) rfl ?_
  refine own_iloadN X0 hx hby od_prog_37_method_10_3 (pc' := 4) rfl rfl ?_
  refine own_newDD X0 hx hby hZ hown (ow_19 hw) (ow_20 hw) e0 od_prog_37_method_10_4 (pc' := 7) rfl (by decide) (cap := 1) (by decide) (by decide) (by decide) (by decide) (vs := [.null]) rfl ?_
  intro T1 h1 b1 g1 X1 e1 E1 V_b1
  have ne_aM_b1 : aM ≠ b1 := own_nl V_aM.lt g1
  have ne_r0_b1 : r0 ≠ b1 := own_nl V_r0.lt g1
  have ne_ar_b1 : ar ≠ b1 := own_nl V_ar.lt g1
  have le2 : h0.size ≤ b1 := Nat.le_of_eq g1.symm
  have n0_b1 : n0 ≤ b1 := Nat.le_trans Z0 (Nat.le_of_eq g1.symm)
  replace V_aM := V_aM.ext E1
  replace V_r0 := V_r0.ext E1
  replace V_ar := V_ar.ext E1
  refine own_astoreN X1 hx hby od_prog_37_method_10_7 (pc' := 8) rfl rfl (Ls' := #[.val (.ref aM), .val (.ref ar), .val (.int (1 : Int32)), .val (.ref b1), .unset, .unset, .unset, .unset, .unset, .unset, .unset, .unset, .unset, .unset]) rfl ?_
  refine own_iconst X1 hx hby od_prog_37_method_10_8 (pc' := 9) rfl (z := 0) rfl ?_
  refine own_istore X1 hx hby od_prog_37_method_10_9 (pc' := 11) rfl (Ls' := #[.val (.ref aM), .val (.ref ar), .val (.int (1 : Int32)), .val (.ref b1), .val (.int (0 : Int32)), .unset, .unset, .unset, .unset, .unset, .unset, .unset, .unset, .unset]) rfl ?_
  refine own_iload X1 hx hby od_prog_37_method_10_11 (pc' := 13) rfl rfl ?_
  refine own_iloadN X1 hx hby od_prog_37_method_10_13 (pc' := 14) rfl rfl ?_
  refine own_icmpN X1 hx hby od_prog_37_method_10_14 (pc' := 17) rfl (tlt (by decide)).2.1 ?_
  refine own_aloadN X1 hx hby od_prog_37_method_10_17 (pc' := 18) rfl rfl rfl ?_
  refine own_iload X1 hx hby od_prog_37_method_10_18 (pc' := 20) rfl rfl ?_
  refine own_aloadN X1 hx hby od_prog_37_method_10_20 (pc' := 21) rfl rfl rfl ?_
  refine own_iload X1 hx hby od_prog_37_method_10_21 (pc' := 23) rfl rfl ?_
  refine own_aaD X1 hx hby hZ e1 V_aM ⟨by decide, by decide⟩ (v := (.ref r0)) rfl od_prog_37_method_10_23 (pc' := 24) rfl ?_
  refine own_cloneD X1 hx hby hZ hml hown (ow_28 hw) (ow_29 hw) (ow_33 hw) (ow_31 hw) (ow_32 hw) (ow_34 hw) e1 V_r0 rfl od_prog_37_method_10_24 (pc' := 27) rfl (by decide) (W := 2) (cap := 1) (Nat.le_refl _) (by decide) (by decide) (by decide) (by decide) ?_
  intro T3 h3 b3 g3 X3 e3 E3 V_b3
  have ne_aM_b3 : aM ≠ b3 := own_nl V_aM.lt g3
  have ne_r0_b3 : r0 ≠ b3 := own_nl V_r0.lt g3
  have ne_ar_b3 : ar ≠ b3 := own_nl V_ar.lt g3
  have ne_b1_b3 : b1 ≠ b3 := own_nl V_b1.lt g3
  have le4 : h0.size ≤ b3 := Nat.le_trans E1.1 (Nat.le_of_eq g3.symm)
  have n0_b3 : n0 ≤ b3 := Nat.le_trans (Nat.le_trans Z0 E1.1) (Nat.le_of_eq g3.symm)
  have Ea5 := own_xt E1 E3
  replace V_aM := V_aM.ext E3
  replace V_r0 := V_r0.ext E3
  replace V_ar := V_ar.ext E3
  replace V_b1 := V_b1.ext E3
  refine own_cast X3 hx hby hZ hown (ow_19 hw) e3 (Ins.self V_b3.exa) od_prog_37_method_10_27 (pc' := 30) rfl ?_
  intro T6 X6 e6
  refine own_asD X6 hx hby hZ e6 V_b1 (V_b3.exa) ⟨by decide, by decide⟩ 0 rfl (Nat.le_of_ble_eq_true rfl) (ys := [.ref b3]) rfl od_prog_37_method_10_30 (pc' := 31) rfl ?_
  intro T7 h7 X7 e7 W7 Q7
  have Ea8 := own_xw Ea5 W7 le2
  replace V_aM := V_aM.other W7 ne_aM_b1
  replace V_r0 := V_r0.other W7 ne_r0_b1
  replace V_ar := V_ar.other W7 ne_ar_b1
  replace V_b3 := V_b3.other W7 (Ne.symm ne_b1_b3)
  replace V_b1 := Q7
  have N7 := own_fr1 (sl := ((0 : Int32)).toNatClampNeg) N0 n0_b1
  refine own_iinc X7 hx hby od_prog_37_method_10_31 (pc' := 34) rfl rfl (z := 1) rfl (Ls' := #[.val (.ref aM), .val (.ref ar), .val (.int (1 : Int32)), .val (.ref b1), .val (.int (1 : Int32)), .unset, .unset, .unset, .unset, .unset, .unset, .unset, .unset, .unset]) rfl ?_
  refine own_goto X7 hx hby od_prog_37_method_10_34 (by decide) (pc' := 11) (by decide) ?_
  refine own_iload X7 hx hby od_prog_37_method_10_11 (pc' := 13) rfl rfl ?_
  refine own_iloadN X7 hx hby od_prog_37_method_10_13 (pc' := 14) rfl rfl ?_
  refine own_icmpY X7 hx hby od_prog_37_method_10_14 (by decide) (pc' := 37) (by decide) (flt (by decide)).2.1 ?_
  refine own_aloadN X7 hx hby od_prog_37_method_10_37 (pc' := 38) rfl rfl rfl ?_
  refine own_cloneD X7 hx hby hZ hml hown (ow_28 hw) (ow_29 hw) (ow_33 hw) (ow_31 hw) (ow_32 hw) (ow_34 hw) e7 V_ar rfl od_prog_37_method_10_38 (pc' := 41) rfl (by decide) (W := 0) (cap := 1) (Nat.le_refl _) (by decide) (by decide) (by decide) (by decide) ?_
  intro T9 h9 b9 g9 X9 e9 E9 V_b9
  have ne_aM_b9 : aM ≠ b9 := own_nl V_aM.lt g9
  have ne_r0_b9 : r0 ≠ b9 := own_nl V_r0.lt g9
  have ne_ar_b9 : ar ≠ b9 := own_nl V_ar.lt g9
  have ne_b1_b9 : b1 ≠ b9 := own_nl V_b1.lt g9
  have ne_b3_b9 : b3 ≠ b9 := own_nl V_b3.lt g9
  have le10 : h0.size ≤ b9 := Nat.le_trans Ea8.1 (Nat.le_of_eq g9.symm)
  have n0_b9 : n0 ≤ b9 := Nat.le_trans (Nat.le_trans Z0 Ea8.1) (Nat.le_of_eq g9.symm)
  have Ea11 := own_xt Ea8 E9
  replace V_aM := V_aM.ext E9
  replace V_r0 := V_r0.ext E9
  replace V_ar := V_ar.ext E9
  replace V_b1 := V_b1.ext E9
  replace V_b3 := V_b3.ext E9
  refine own_cast X9 hx hby hZ hown (ow_19 hw) e9 (Ins.self V_b9.exa) od_prog_37_method_10_41 (pc' := 44) rfl ?_
  intro T12 X12 e12
  refine own_astore X12 hx hby od_prog_37_method_10_44 (pc' := 46) rfl rfl (Ls' := #[.val (.ref aM), .val (.ref ar), .val (.int (1 : Int32)), .val (.ref b1), .val (.ref b9), .unset, .unset, .unset, .unset, .unset, .unset, .unset, .unset, .unset]) rfl ?_
  refine own_iconst X12 hx hby od_prog_37_method_10_46 (pc' := 47) rfl (z := 0) rfl ?_
  refine own_istore X12 hx hby od_prog_37_method_10_47 (pc' := 49) rfl (Ls' := #[.val (.ref aM), .val (.ref ar), .val (.int (1 : Int32)), .val (.ref b1), .val (.ref b9), .val (.int (0 : Int32)), .unset, .unset, .unset, .unset, .unset, .unset, .unset, .unset]) rfl ?_
  refine own_iload X12 hx hby od_prog_37_method_10_49 (pc' := 51) rfl rfl ?_
  refine own_iloadN X12 hx hby od_prog_37_method_10_51 (pc' := 52) rfl rfl ?_
  refine own_icmpN X12 hx hby od_prog_37_method_10_52 (pc' := 55) rfl (tlt (by decide)).2.1 ?_
  refine own_iload X12 hx hby od_prog_37_method_10_55 (pc' := 57) rfl rfl ?_
  refine own_istore X12 hx hby od_prog_37_method_10_57 (pc' := 59) rfl (Ls' := #[.val (.ref aM), .val (.ref ar), .val (.int (1 : Int32)), .val (.ref b1), .val (.ref b9), .val (.int (0 : Int32)), .val (.int (0 : Int32)), .unset, .unset, .unset, .unset, .unset, .unset, .unset]) rfl ?_
  refine own_iload X12 hx hby od_prog_37_method_10_59 (pc' := 61) rfl rfl ?_
  refine own_iconst X12 hx hby od_prog_37_method_10_61 (pc' := 62) rfl (z := 1) rfl ?_
  refine own_iaddE X12 hx hby od_prog_37_method_10_62 (pc' := 63) rfl (v := (1 : Int32)) rfl ?_
  refine own_istore X12 hx hby od_prog_37_method_10_63 (pc' := 65) rfl (Ls' := #[.val (.ref aM), .val (.ref ar), .val (.int (1 : Int32)), .val (.ref b1), .val (.ref b9), .val (.int (0 : Int32)), .val (.int (0 : Int32)), .val (.int (1 : Int32)), .unset, .unset, .unset, .unset, .unset, .unset]) rfl ?_
  refine own_iload X12 hx hby od_prog_37_method_10_65 (pc' := 67) rfl rfl ?_
  refine own_iloadN X12 hx hby od_prog_37_method_10_67 (pc' := 68) rfl rfl ?_
  refine own_icmpY X12 hx hby od_prog_37_method_10_68 (by decide) (pc' := 105) (by decide) (flt (by decide)).2.1 ?_
  refine own_aloadN X12 hx hby od_prog_37_method_10_105 (pc' := 106) rfl rfl rfl ?_
  refine own_iload X12 hx hby od_prog_37_method_10_106 (pc' := 108) rfl rfl ?_
  refine own_aaD X12 hx hby hZ e12 V_b1 ⟨by decide, by decide⟩ (v := (.ref b3)) rfl od_prog_37_method_10_108 (pc' := 109) rfl ?_
  refine own_iload X12 hx hby od_prog_37_method_10_109 (pc' := 111) rfl rfl ?_
  refine own_daD X12 hx hby hZ e12 V_b3 ⟨by decide, by decide⟩ (v := (4607182418800017408 : UInt64)) rfl od_prog_37_method_10_111 (pc' := 112) rfl ?_
  refine own_dconst0 X12 hx hby od_prog_37_method_10_112 (pc' := 113) rfl (v := (0 : UInt64)) rfl ?_
  refine own_dcmp X12 hx hby od_prog_37_method_10_113 (pc' := 114) rfl (v := (1 : Int32)) okl_0 ?_
  refine own_ifY X12 hx hby od_prog_37_method_10_114 (by decide) (pc' := 119) (by decide) (feq (by decide)).2 ?_
  refine own_aloadN X12 hx hby od_prog_37_method_10_119 (pc' := 120) rfl rfl rfl ?_
  refine own_iload X12 hx hby od_prog_37_method_10_120 (pc' := 122) rfl rfl ?_
  refine own_aaD X12 hx hby hZ e12 V_b1 ⟨by decide, by decide⟩ (v := (.ref b3)) rfl od_prog_37_method_10_122 (pc' := 123) rfl ?_
  refine own_astore X12 hx hby od_prog_37_method_10_123 (pc' := 125) rfl rfl (Ls' := #[.val (.ref aM), .val (.ref ar), .val (.int (1 : Int32)), .val (.ref b1), .val (.ref b9), .val (.int (0 : Int32)), .val (.int (0 : Int32)), .val (.ref b3), .unset, .unset, .unset, .unset, .unset, .unset]) rfl ?_
  refine own_aloadN X12 hx hby od_prog_37_method_10_125 (pc' := 126) rfl rfl rfl ?_
  refine own_iload X12 hx hby od_prog_37_method_10_126 (pc' := 128) rfl rfl ?_
  refine own_aloadN X12 hx hby od_prog_37_method_10_128 (pc' := 129) rfl rfl rfl ?_
  refine own_iload X12 hx hby od_prog_37_method_10_129 (pc' := 131) rfl rfl ?_
  refine own_aaD X12 hx hby hZ e12 V_b1 ⟨by decide, by decide⟩ (v := (.ref b3)) rfl od_prog_37_method_10_131 (pc' := 132) rfl ?_
  refine own_asD X12 hx hby hZ e12 V_b1 (V_b3.exa) ⟨by decide, by decide⟩ 0 rfl (Nat.le_of_ble_eq_true rfl) (ys := [.ref b3]) rfl od_prog_37_method_10_132 (pc' := 133) rfl ?_
  intro T13 h13 X13 e13 W13 Q13
  have Ea14 := own_xw Ea11 W13 le2
  replace V_b3 := V_b3.other W13 (Ne.symm ne_b1_b3)
  replace V_b9 := V_b9.other W13 (Ne.symm ne_b1_b9)
  replace V_b1 := Q13
  have N13 := own_fr1 (sl := ((0 : Int32)).toNatClampNeg) N7 n0_b1
  refine own_aloadN X13 hx hby od_prog_37_method_10_133 (pc' := 134) rfl rfl rfl ?_
  refine own_iload X13 hx hby od_prog_37_method_10_134 (pc' := 136) rfl rfl ?_
  refine own_aload X13 hx hby od_prog_37_method_10_136 (pc' := 138) rfl rfl rfl ?_
  refine own_asD X13 hx hby hZ e13 V_b1 (V_b3.exa) ⟨by decide, by decide⟩ 0 rfl (Nat.le_of_ble_eq_true rfl) (ys := [.ref b3]) rfl od_prog_37_method_10_138 (pc' := 139) rfl ?_
  intro T15 h15 X15 e15 W15 Q15
  have Ea16 := own_xw Ea14 W15 le2
  replace V_b3 := V_b3.other W15 (Ne.symm ne_b1_b3)
  replace V_b9 := V_b9.other W15 (Ne.symm ne_b1_b9)
  replace V_b1 := Q15
  have N15 := own_fr1 (sl := ((0 : Int32)).toNatClampNeg) N13 n0_b1
  refine own_aload X15 hx hby od_prog_37_method_10_139 (pc' := 141) rfl rfl rfl ?_
  refine own_iload X15 hx hby od_prog_37_method_10_141 (pc' := 143) rfl rfl ?_
  refine own_daD X15 hx hby hZ e15 V_b9 ⟨by decide, by decide⟩ (v := (13830554455654793216 : UInt64)) rfl od_prog_37_method_10_143 (pc' := 144) rfl ?_
  refine own_dstore X15 hx hby od_prog_37_method_10_144 (pc' := 146) rfl (Ls' := #[.val (.ref aM), .val (.ref ar), .val (.int (1 : Int32)), .val (.ref b1), .val (.ref b9), .val (.int (0 : Int32)), .val (.int (0 : Int32)), .val (.ref b3), .val (.double (13830554455654793216 : UInt64)), .second, .unset, .unset, .unset, .unset]) rfl ?_
  refine own_aload X15 hx hby od_prog_37_method_10_146 (pc' := 148) rfl rfl rfl ?_
  refine own_iload X15 hx hby od_prog_37_method_10_148 (pc' := 150) rfl rfl ?_
  refine own_aload X15 hx hby od_prog_37_method_10_150 (pc' := 152) rfl rfl rfl ?_
  refine own_iload X15 hx hby od_prog_37_method_10_152 (pc' := 154) rfl rfl ?_
  refine own_daD X15 hx hby hZ e15 V_b9 ⟨by decide, by decide⟩ (v := (13830554455654793216 : UInt64)) rfl od_prog_37_method_10_154 (pc' := 155) rfl ?_
  refine own_dsD X15 hx hby hZ e15 V_b9 ⟨by decide, by decide⟩ 0 rfl (Nat.le_of_ble_eq_true rfl) (ys := [.double (13830554455654793216 : UInt64)]) rfl od_prog_37_method_10_155 (pc' := 156) rfl ?_
  intro T17 h17 X17 e17 W17 Q17
  have Ea18 := own_xw Ea16 W17 le10
  replace V_b1 := V_b1.other W17 ne_b1_b9
  replace V_b3 := V_b3.other W17 ne_b3_b9
  replace V_b9 := Q17
  have N17 := own_fr1 (sl := ((0 : Int32)).toNatClampNeg) N15 n0_b9
  refine own_aload X17 hx hby od_prog_37_method_10_156 (pc' := 158) rfl rfl rfl ?_
  refine own_iload X17 hx hby od_prog_37_method_10_158 (pc' := 160) rfl rfl ?_
  refine own_dload X17 hx hby od_prog_37_method_10_160 (pc' := 162) rfl rfl ?_
  refine own_dsD X17 hx hby hZ e17 V_b9 ⟨by decide, by decide⟩ 0 rfl (Nat.le_of_ble_eq_true rfl) (ys := [.double (13830554455654793216 : UInt64)]) rfl od_prog_37_method_10_162 (pc' := 163) rfl ?_
  intro T19 h19 X19 e19 W19 Q19
  have Ea20 := own_xw Ea18 W19 le10
  replace V_b1 := V_b1.other W19 ne_b1_b9
  replace V_b3 := V_b3.other W19 ne_b3_b9
  replace V_b9 := Q19
  have N19 := own_fr1 (sl := ((0 : Int32)).toNatClampNeg) N17 n0_b9
  refine own_iload X19 hx hby od_prog_37_method_10_163 (pc' := 165) rfl rfl ?_
  refine own_iconst X19 hx hby od_prog_37_method_10_165 (pc' := 166) rfl (z := 1) rfl ?_
  refine own_iaddE X19 hx hby od_prog_37_method_10_166 (pc' := 167) rfl (v := (1 : Int32)) rfl ?_
  refine own_istore X19 hx hby od_prog_37_method_10_167 (pc' := 169) rfl (Ls' := #[.val (.ref aM), .val (.ref ar), .val (.int (1 : Int32)), .val (.ref b1), .val (.ref b9), .val (.int (0 : Int32)), .val (.int (0 : Int32)), .val (.ref b3), .val (.double (13830554455654793216 : UInt64)), .second, .val (.int (1 : Int32)), .unset, .unset, .unset]) rfl ?_
  refine own_iload X19 hx hby od_prog_37_method_10_169 (pc' := 171) rfl rfl ?_
  refine own_iloadN X19 hx hby od_prog_37_method_10_171 (pc' := 172) rfl rfl ?_
  refine own_icmpY X19 hx hby od_prog_37_method_10_172 (by decide) (pc' := 250) (by decide) (flt (by decide)).2.1 ?_
  refine own_iinc X19 hx hby od_prog_37_method_10_250 (pc' := 253) rfl rfl (z := 1) rfl (Ls' := #[.val (.ref aM), .val (.ref ar), .val (.int (1 : Int32)), .val (.ref b1), .val (.ref b9), .val (.int (1 : Int32)), .val (.int (0 : Int32)), .val (.ref b3), .val (.double (13830554455654793216 : UInt64)), .second, .val (.int (1 : Int32)), .unset, .unset, .unset]) rfl ?_
  refine own_goto X19 hx hby od_prog_37_method_10_253 (by decide) (pc' := 49) (by decide) ?_
  refine own_iload X19 hx hby od_prog_37_method_10_49 (pc' := 51) rfl rfl ?_
  refine own_iloadN X19 hx hby od_prog_37_method_10_51 (pc' := 52) rfl rfl ?_
  refine own_icmpY X19 hx hby od_prog_37_method_10_52 (by decide) (pc' := 256) (by decide) (flt (by decide)).2.1 ?_
  refine own_iloadN X19 hx hby od_prog_37_method_10_256 (pc' := 257) rfl rfl ?_
  refine own_newD X19 hx hby hZ (ow_4 hw) e19 od_prog_37_method_10_257 (pc' := 259) rfl (by decide) (cap := 1) (by decide) (by decide) (by decide) (by decide) (vs := [.double (0 : UInt64)]) rfl ?_
  intro T21 h21 b21 g21 X21 e21 E21 V_b21
  have ne_b1_b21 : b1 ≠ b21 := own_nl V_b1.lt g21
  have ne_b3_b21 : b3 ≠ b21 := own_nl V_b3.lt g21
  have ne_b9_b21 : b9 ≠ b21 := own_nl V_b9.lt g21
  have le22 : h0.size ≤ b21 := Nat.le_trans Ea20.1 (Nat.le_of_eq g21.symm)
  have n0_b21 : n0 ≤ b21 := Nat.le_trans (Nat.le_trans Z0 Ea20.1) (Nat.le_of_eq g21.symm)
  have Ea23 := own_xt Ea20 E21
  replace V_b1 := V_b1.ext E21
  replace V_b3 := V_b3.ext E21
  replace V_b9 := V_b9.ext E21
  refine own_astore X21 hx hby od_prog_37_method_10_259 (pc' := 261) rfl rfl (Ls' := #[.val (.ref aM), .val (.ref ar), .val (.int (1 : Int32)), .val (.ref b1), .val (.ref b9), .val (.ref b21), .val (.int (0 : Int32)), .val (.ref b3), .val (.double (13830554455654793216 : UInt64)), .second, .val (.int (1 : Int32)), .unset, .unset, .unset]) rfl ?_
  refine own_iloadN X21 hx hby od_prog_37_method_10_261 (pc' := 262) rfl rfl ?_
  refine own_iconst X21 hx hby od_prog_37_method_10_262 (pc' := 263) rfl (z := 1) rfl ?_
  refine own_isubE X21 hx hby od_prog_37_method_10_263 (pc' := 264) rfl (v := (0 : Int32)) rfl ?_
  refine own_istore X21 hx hby od_prog_37_method_10_264 (pc' := 266) rfl (Ls' := #[.val (.ref aM), .val (.ref ar), .val (.int (1 : Int32)), .val (.ref b1), .val (.ref b9), .val (.ref b21), .val (.int (0 : Int32)), .val (.ref b3), .val (.double (13830554455654793216 : UInt64)), .second, .val (.int (1 : Int32)), .unset, .unset, .unset]) rfl ?_
  refine own_iload X21 hx hby od_prog_37_method_10_266 (pc' := 268) rfl rfl ?_
  refine own_ifN X21 hx hby od_prog_37_method_10_268 (pc' := 271) rfl (flt (by decide)).1 ?_
  refine own_aload X21 hx hby od_prog_37_method_10_271 (pc' := 273) rfl rfl rfl ?_
  refine own_iload X21 hx hby od_prog_37_method_10_273 (pc' := 275) rfl rfl ?_
  refine own_daD X21 hx hby hZ e21 V_b9 ⟨by decide, by decide⟩ (v := (13830554455654793216 : UInt64)) rfl od_prog_37_method_10_275 (pc' := 276) rfl ?_
  refine own_dstore X21 hx hby od_prog_37_method_10_276 (pc' := 278) rfl (Ls' := #[.val (.ref aM), .val (.ref ar), .val (.int (1 : Int32)), .val (.ref b1), .val (.ref b9), .val (.ref b21), .val (.int (0 : Int32)), .val (.double (13830554455654793216 : UInt64)), .second, .unset, .val (.int (1 : Int32)), .unset, .unset, .unset]) rfl ?_
  refine own_iload X21 hx hby od_prog_37_method_10_278 (pc' := 280) rfl rfl ?_
  refine own_iconst X21 hx hby od_prog_37_method_10_280 (pc' := 281) rfl (z := 1) rfl ?_
  refine own_iaddE X21 hx hby od_prog_37_method_10_281 (pc' := 282) rfl (v := (1 : Int32)) rfl ?_
  refine own_istore X21 hx hby od_prog_37_method_10_282 (pc' := 284) rfl (Ls' := #[.val (.ref aM), .val (.ref ar), .val (.int (1 : Int32)), .val (.ref b1), .val (.ref b9), .val (.ref b21), .val (.int (0 : Int32)), .val (.double (13830554455654793216 : UInt64)), .second, .val (.int (1 : Int32)), .val (.int (1 : Int32)), .unset, .unset, .unset]) rfl ?_
  refine own_iload X21 hx hby od_prog_37_method_10_284 (pc' := 286) rfl rfl ?_
  refine own_iloadN X21 hx hby od_prog_37_method_10_286 (pc' := 287) rfl rfl ?_
  refine own_icmpY X21 hx hby od_prog_37_method_10_287 (by decide) (pc' := 314) (by decide) (flt (by decide)).2.1 ?_
  refine own_aload X21 hx hby od_prog_37_method_10_314 (pc' := 316) rfl rfl rfl ?_
  refine own_iload X21 hx hby od_prog_37_method_10_316 (pc' := 318) rfl rfl ?_
  refine own_dload X21 hx hby od_prog_37_method_10_318 (pc' := 320) rfl rfl ?_
  refine own_aloadN X21 hx hby od_prog_37_method_10_320 (pc' := 321) rfl rfl rfl ?_
  refine own_iload X21 hx hby od_prog_37_method_10_321 (pc' := 323) rfl rfl ?_
  refine own_aaD X21 hx hby hZ e21 V_b1 ⟨by decide, by decide⟩ (v := (.ref b3)) rfl od_prog_37_method_10_323 (pc' := 324) rfl ?_
  refine own_iload X21 hx hby od_prog_37_method_10_324 (pc' := 326) rfl rfl ?_
  refine own_daD X21 hx hby hZ e21 V_b3 ⟨by decide, by decide⟩ (v := (4607182418800017408 : UInt64)) rfl od_prog_37_method_10_326 (pc' := 327) rfl ?_
  refine own_ddiv X21 hx hby od_prog_37_method_10_327 (pc' := 328) rfl okl_1.1 (v := (13830554455654793216 : UInt64)) okl_1.2 ?_
  refine own_dsD X21 hx hby hZ e21 V_b21 ⟨by decide, by decide⟩ 0 rfl (Nat.le_of_ble_eq_true rfl) (ys := [.double (13830554455654793216 : UInt64)]) rfl od_prog_37_method_10_328 (pc' := 329) rfl ?_
  intro T24 h24 X24 e24 W24 Q24
  have Ea25 := own_xw Ea23 W24 le22
  replace V_b1 := V_b1.other W24 ne_b1_b21
  replace V_b3 := V_b3.other W24 ne_b3_b21
  replace V_b9 := V_b9.other W24 ne_b9_b21
  replace V_b21 := Q24
  have N24 := own_fr1 (sl := ((0 : Int32)).toNatClampNeg) N19 n0_b21
  refine own_aload X24 hx hby od_prog_37_method_10_329 (pc' := 331) rfl rfl rfl ?_
  refine own_iload X24 hx hby od_prog_37_method_10_331 (pc' := 333) rfl rfl ?_
  refine own_daD X24 hx hby hZ e24 V_b21 ⟨by decide, by decide⟩ (v := (13830554455654793216 : UInt64)) rfl od_prog_37_method_10_333 (pc' := 334) rfl ?_
  refine own_callM X24 hx hby hml hZ hown (ow_44 hw) (ow_45 hw) (ow_46 hw) (ow_47 hw) (by decide) (cc := 0) (ss := 0) (rm_fin l Z a0 hw (13830554455654793216 : UInt64) h24 n0 (Nat.le_trans Z0 Ea25.1) okl_2) 0 rfl rfl (by decide) (by decide) rfl (argsL := [(.double (13830554455654793216 : UInt64))]) (rest := []) opd_0 rfl rfl (Nat.le_refl _) od_prog_37_method_10_334 (pc' := 337) rfl rfl e24 (by decide) (by decide) ?_
  rintro v26 T26 h26 L26 X26 e26 ⟨rfl, Nq26, rfl⟩
  have N26 := N24.app Nq26
  refine own_ifY X26 hx hby od_prog_37_method_10_337 (by decide) (pc' := 342) (by decide) (feq (by decide)).2 ?_
  refine own_iinc X26 hx hby od_prog_37_method_10_342 (pc' := 345) rfl rfl (z := (-1)) rfl (Ls' := #[.val (.ref aM), .val (.ref ar), .val (.int (1 : Int32)), .val (.ref b1), .val (.ref b9), .val (.ref b21), .val (.int (-1 : Int32)), .val (.double (13830554455654793216 : UInt64)), .second, .val (.int (1 : Int32)), .val (.int (1 : Int32)), .unset, .unset, .unset]) rfl ?_
  refine own_goto X26 hx hby od_prog_37_method_10_345 (by decide) (pc' := 266) (by decide) ?_
  refine own_iload X26 hx hby od_prog_37_method_10_266 (pc' := 268) rfl rfl ?_
  refine own_ifY X26 hx hby od_prog_37_method_10_268 (by decide) (pc' := 348) (by decide) (tlt (by decide)).1 ?_
  refine own_aload X26 hx hby od_prog_37_method_10_348 (pc' := 350) rfl rfl rfl ?_
  exact own_retA X26 hx hby hlk hrt rfl rfl od_prog_37_method_10_350 (by first | exact ⟨b21, rfl, le22, Ea25, N26, V_b21⟩ | (rw [e26]; exact ⟨b21, rfl, le22, Ea25, N26, V_b21⟩)) (by decide) (by decide)
theorem ef_rm_solve3 (m : MethodId) (x0 : Addr) (x1 : Addr) : entryFrame m #[(.ref x0), (.ref x1)] 14 = mkF m 0 #[.val (.ref x0), .val (.ref x1), .unset, .unset, .unset, .unset, .unset, .unset, .unset, .unset, .unset, .unset, .unset, .unset] [] := by first | (simp [entryFrame, mkF, argsToLocals, Value.category]; done) | rfl
set_option maxRecDepth 65536 in
set_option maxHeartbeats 40000000 in
theorem rm_solve3 (l : Launch) (Z : State) (a0 : Array Value) (hw : ∀ d ∈ tables_1, d.before a0 Z = true) (aM r0 r1 r2 ar : Addr) (dc dl : UInt64) (h0 : Heap) (n0 : Nat) (Z0 : n0 ≤ h0.size) (Zc : own_nb dc = true ∧ own_nb (FP.dmul (0 : UInt64) dc) = true ∧ FP.dmul (0 : UInt64) dc = 0 ∧ own_nb (FP.dmul dc (0 : UInt64)) = true ∧ FP.dmul dc (0 : UInt64) = 0) (Zl : own_nb dl = true ∧ own_nb (FP.dmul (0 : UInt64) dl) = true ∧ FP.dmul (0 : UInt64) dl = 0 ∧ own_nb (FP.dmul dl (0 : UInt64)) = true ∧ FP.dmul dl (0 : UInt64) = 0) (V_aM : own_DD Z h0 aM (3 : Int32) [.ref r0, .ref r1, .ref r2]) (V_r0 : own_D Z h0 r0 (3 : Int32) [.double (4607182418800017408 : UInt64), .double dc, .double dl]) (V_r1 : own_D Z h0 r1 (3 : Int32) [.double (0 : UInt64), .double (4607182418800017408 : UInt64), .double (0 : UInt64)]) (V_r2 : own_D Z h0 r2 (3 : Int32) [.double (0 : UInt64), .double (0 : UInt64), .double (4607182418800017408 : UInt64)]) (V_ar : own_D Z h0 ar (3 : Int32) [.double (13830554455654793216 : UInt64), .double (0 : UInt64), .double (0 : UInt64)]) :
    own_Met l Z (⟨"com/example/bindery/bindery/selection/BindingMix", "solve", "([[D[D)[D"⟩ : MethodName) prog_37_method_10_code 14 (some (.array .double)) ({ frames := 2, cells := 6, slots := 18, locals := 26 } : Room) #[(.ref aM), (.ref ar)] h0 (fun v h L => ∃ b : Addr, v = some (.ref b) ∧ h0.size ≤ b ∧ Ext h0 h ∧ Fr n0 L ∧ own_D Z h b (3 : Int32) [.double (13830554455654793216 : UInt64), .double (0 : UInt64), .double (0 : UInt64)]) := by
  refine own_body (plainFor_of_name (by first | (simp [plainName, overriddenIn]; done) | decide +kernel)) ?_
  intro p e s m below meth c s₁ hx hby hml hown hnm hlk hrt hZ X0 e0
  refine own_enter (ef_rm_solve3 m aM ar) ?_
  have N0 := Fr.nil n0
  refine own_aloadN X0 hx hby od_prog_37_method_10_0 (pc' := 1) rfl rfl rfl ?_
  refine own_alD X0 hx hby hZ e0 V_ar od_prog_37_method_10_1 (pc' := 2) rfl ?_
  refine own_istoreN X0 hx hby od_prog_37_method_10_2 (pc' := 3) rfl (Ls' := #[.val (.ref aM), .val (.ref ar), .val (.int (3 : Int32)), .unset, .unset, .unset, .unset, .unset, .unset, .unset, .unset, .unset, .unset, .unset]) rfl ?_
  refine own_iloadN X0 hx hby od_prog_37_method_10_3 (pc' := 4) rfl rfl ?_
  refine own_newDD X0 hx hby hZ hown (ow_19 hw) (ow_20 hw) e0 od_prog_37_method_10_4 (pc' := 7) rfl (by decide) (cap := 3) (by decide) (by decide) (by decide) (by decide) (vs := [.null, .null, .null]) rfl ?_
  intro T1 h1 b1 g1 X1 e1 E1 V_b1
  have ne_aM_b1 : aM ≠ b1 := own_nl V_aM.lt g1
  have ne_r0_b1 : r0 ≠ b1 := own_nl V_r0.lt g1
  have ne_r1_b1 : r1 ≠ b1 := own_nl V_r1.lt g1
  have ne_r2_b1 : r2 ≠ b1 := own_nl V_r2.lt g1
  have ne_ar_b1 : ar ≠ b1 := own_nl V_ar.lt g1
  have le2 : h0.size ≤ b1 := Nat.le_of_eq g1.symm
  have n0_b1 : n0 ≤ b1 := Nat.le_trans Z0 (Nat.le_of_eq g1.symm)
  replace V_aM := V_aM.ext E1
  replace V_r0 := V_r0.ext E1
  replace V_r1 := V_r1.ext E1
  replace V_r2 := V_r2.ext E1
  replace V_ar := V_ar.ext E1
  refine own_astoreN X1 hx hby od_prog_37_method_10_7 (pc' := 8) rfl rfl (Ls' := #[.val (.ref aM), .val (.ref ar), .val (.int (3 : Int32)), .val (.ref b1), .unset, .unset, .unset, .unset, .unset, .unset, .unset, .unset, .unset, .unset]) rfl ?_
  refine own_iconst X1 hx hby od_prog_37_method_10_8 (pc' := 9) rfl (z := 0) rfl ?_
  refine own_istore X1 hx hby od_prog_37_method_10_9 (pc' := 11) rfl (Ls' := #[.val (.ref aM), .val (.ref ar), .val (.int (3 : Int32)), .val (.ref b1), .val (.int (0 : Int32)), .unset, .unset, .unset, .unset, .unset, .unset, .unset, .unset, .unset]) rfl ?_
  refine own_iload X1 hx hby od_prog_37_method_10_11 (pc' := 13) rfl rfl ?_
  refine own_iloadN X1 hx hby od_prog_37_method_10_13 (pc' := 14) rfl rfl ?_
  refine own_icmpN X1 hx hby od_prog_37_method_10_14 (pc' := 17) rfl (tlt (by decide)).2.1 ?_
  refine own_aloadN X1 hx hby od_prog_37_method_10_17 (pc' := 18) rfl rfl rfl ?_
  refine own_iload X1 hx hby od_prog_37_method_10_18 (pc' := 20) rfl rfl ?_
  refine own_aloadN X1 hx hby od_prog_37_method_10_20 (pc' := 21) rfl rfl rfl ?_
  refine own_iload X1 hx hby od_prog_37_method_10_21 (pc' := 23) rfl rfl ?_
  refine own_aaD X1 hx hby hZ e1 V_aM ⟨by decide, by decide⟩ (v := (.ref r0)) rfl od_prog_37_method_10_23 (pc' := 24) rfl ?_
  refine own_cloneD X1 hx hby hZ hml hown (ow_28 hw) (ow_29 hw) (ow_33 hw) (ow_31 hw) (ow_32 hw) (ow_34 hw) e1 V_r0 rfl od_prog_37_method_10_24 (pc' := 27) rfl (by decide) (W := 2) (cap := 3) (Nat.le_refl _) (by decide) (by decide) (by decide) (by decide) ?_
  intro T3 h3 b3 g3 X3 e3 E3 V_b3
  have ne_aM_b3 : aM ≠ b3 := own_nl V_aM.lt g3
  have ne_r0_b3 : r0 ≠ b3 := own_nl V_r0.lt g3
  have ne_r1_b3 : r1 ≠ b3 := own_nl V_r1.lt g3
  have ne_r2_b3 : r2 ≠ b3 := own_nl V_r2.lt g3
  have ne_ar_b3 : ar ≠ b3 := own_nl V_ar.lt g3
  have ne_b1_b3 : b1 ≠ b3 := own_nl V_b1.lt g3
  have le4 : h0.size ≤ b3 := Nat.le_trans E1.1 (Nat.le_of_eq g3.symm)
  have n0_b3 : n0 ≤ b3 := Nat.le_trans (Nat.le_trans Z0 E1.1) (Nat.le_of_eq g3.symm)
  have Ea5 := own_xt E1 E3
  replace V_aM := V_aM.ext E3
  replace V_r0 := V_r0.ext E3
  replace V_r1 := V_r1.ext E3
  replace V_r2 := V_r2.ext E3
  replace V_ar := V_ar.ext E3
  replace V_b1 := V_b1.ext E3
  refine own_cast X3 hx hby hZ hown (ow_19 hw) e3 (Ins.self V_b3.exa) od_prog_37_method_10_27 (pc' := 30) rfl ?_
  intro T6 X6 e6
  refine own_asD X6 hx hby hZ e6 V_b1 (V_b3.exa) ⟨by decide, by decide⟩ 0 rfl (Nat.le_of_ble_eq_true rfl) (ys := [.ref b3, .null, .null]) rfl od_prog_37_method_10_30 (pc' := 31) rfl ?_
  intro T7 h7 X7 e7 W7 Q7
  have Ea8 := own_xw Ea5 W7 le2
  replace V_aM := V_aM.other W7 ne_aM_b1
  replace V_r0 := V_r0.other W7 ne_r0_b1
  replace V_r1 := V_r1.other W7 ne_r1_b1
  replace V_r2 := V_r2.other W7 ne_r2_b1
  replace V_ar := V_ar.other W7 ne_ar_b1
  replace V_b3 := V_b3.other W7 (Ne.symm ne_b1_b3)
  replace V_b1 := Q7
  have N7 := own_fr1 (sl := ((0 : Int32)).toNatClampNeg) N0 n0_b1
  refine own_iinc X7 hx hby od_prog_37_method_10_31 (pc' := 34) rfl rfl (z := 1) rfl (Ls' := #[.val (.ref aM), .val (.ref ar), .val (.int (3 : Int32)), .val (.ref b1), .val (.int (1 : Int32)), .unset, .unset, .unset, .unset, .unset, .unset, .unset, .unset, .unset]) rfl ?_
  refine own_goto X7 hx hby od_prog_37_method_10_34 (by decide) (pc' := 11) (by decide) ?_
  refine own_iload X7 hx hby od_prog_37_method_10_11 (pc' := 13) rfl rfl ?_
  refine own_iloadN X7 hx hby od_prog_37_method_10_13 (pc' := 14) rfl rfl ?_
  refine own_icmpN X7 hx hby od_prog_37_method_10_14 (pc' := 17) rfl (tlt (by decide)).2.1 ?_
  refine own_aloadN X7 hx hby od_prog_37_method_10_17 (pc' := 18) rfl rfl rfl ?_
  refine own_iload X7 hx hby od_prog_37_method_10_18 (pc' := 20) rfl rfl ?_
  refine own_aloadN X7 hx hby od_prog_37_method_10_20 (pc' := 21) rfl rfl rfl ?_
  refine own_iload X7 hx hby od_prog_37_method_10_21 (pc' := 23) rfl rfl ?_
  refine own_aaD X7 hx hby hZ e7 V_aM ⟨by decide, by decide⟩ (v := (.ref r1)) rfl od_prog_37_method_10_23 (pc' := 24) rfl ?_
  refine own_cloneD X7 hx hby hZ hml hown (ow_28 hw) (ow_29 hw) (ow_33 hw) (ow_31 hw) (ow_32 hw) (ow_34 hw) e7 V_r1 rfl od_prog_37_method_10_24 (pc' := 27) rfl (by decide) (W := 2) (cap := 3) (Nat.le_refl _) (by decide) (by decide) (by decide) (by decide) ?_
  intro T9 h9 b9 g9 X9 e9 E9 V_b9
  have ne_aM_b9 : aM ≠ b9 := own_nl V_aM.lt g9
  have ne_r0_b9 : r0 ≠ b9 := own_nl V_r0.lt g9
  have ne_r1_b9 : r1 ≠ b9 := own_nl V_r1.lt g9
  have ne_r2_b9 : r2 ≠ b9 := own_nl V_r2.lt g9
  have ne_ar_b9 : ar ≠ b9 := own_nl V_ar.lt g9
  have ne_b1_b9 : b1 ≠ b9 := own_nl V_b1.lt g9
  have ne_b3_b9 : b3 ≠ b9 := own_nl V_b3.lt g9
  have le10 : h0.size ≤ b9 := Nat.le_trans Ea8.1 (Nat.le_of_eq g9.symm)
  have n0_b9 : n0 ≤ b9 := Nat.le_trans (Nat.le_trans Z0 Ea8.1) (Nat.le_of_eq g9.symm)
  have Ea11 := own_xt Ea8 E9
  replace V_aM := V_aM.ext E9
  replace V_r0 := V_r0.ext E9
  replace V_r1 := V_r1.ext E9
  replace V_r2 := V_r2.ext E9
  replace V_ar := V_ar.ext E9
  replace V_b1 := V_b1.ext E9
  replace V_b3 := V_b3.ext E9
  refine own_cast X9 hx hby hZ hown (ow_19 hw) e9 (Ins.self V_b9.exa) od_prog_37_method_10_27 (pc' := 30) rfl ?_
  intro T12 X12 e12
  refine own_asD X12 hx hby hZ e12 V_b1 (V_b9.exa) ⟨by decide, by decide⟩ 1 rfl (Nat.le_of_ble_eq_true rfl) (ys := [.ref b3, .ref b9, .null]) rfl od_prog_37_method_10_30 (pc' := 31) rfl ?_
  intro T13 h13 X13 e13 W13 Q13
  have Ea14 := own_xw Ea11 W13 le2
  replace V_aM := V_aM.other W13 ne_aM_b1
  replace V_r0 := V_r0.other W13 ne_r0_b1
  replace V_r1 := V_r1.other W13 ne_r1_b1
  replace V_r2 := V_r2.other W13 ne_r2_b1
  replace V_ar := V_ar.other W13 ne_ar_b1
  replace V_b3 := V_b3.other W13 (Ne.symm ne_b1_b3)
  replace V_b9 := V_b9.other W13 (Ne.symm ne_b1_b9)
  replace V_b1 := Q13
  have N13 := own_fr1 (sl := ((1 : Int32)).toNatClampNeg) N7 n0_b1
  refine own_iinc X13 hx hby od_prog_37_method_10_31 (pc' := 34) rfl rfl (z := 1) rfl (Ls' := #[.val (.ref aM), .val (.ref ar), .val (.int (3 : Int32)), .val (.ref b1), .val (.int (2 : Int32)), .unset, .unset, .unset, .unset, .unset, .unset, .unset, .unset, .unset]) rfl ?_
  refine own_goto X13 hx hby od_prog_37_method_10_34 (by decide) (pc' := 11) (by decide) ?_
  refine own_iload X13 hx hby od_prog_37_method_10_11 (pc' := 13) rfl rfl ?_
  refine own_iloadN X13 hx hby od_prog_37_method_10_13 (pc' := 14) rfl rfl ?_
  refine own_icmpN X13 hx hby od_prog_37_method_10_14 (pc' := 17) rfl (tlt (by decide)).2.1 ?_
  refine own_aloadN X13 hx hby od_prog_37_method_10_17 (pc' := 18) rfl rfl rfl ?_
  refine own_iload X13 hx hby od_prog_37_method_10_18 (pc' := 20) rfl rfl ?_
  refine own_aloadN X13 hx hby od_prog_37_method_10_20 (pc' := 21) rfl rfl rfl ?_
  refine own_iload X13 hx hby od_prog_37_method_10_21 (pc' := 23) rfl rfl ?_
  refine own_aaD X13 hx hby hZ e13 V_aM ⟨by decide, by decide⟩ (v := (.ref r2)) rfl od_prog_37_method_10_23 (pc' := 24) rfl ?_
  refine own_cloneD X13 hx hby hZ hml hown (ow_28 hw) (ow_29 hw) (ow_33 hw) (ow_31 hw) (ow_32 hw) (ow_34 hw) e13 V_r2 rfl od_prog_37_method_10_24 (pc' := 27) rfl (by decide) (W := 2) (cap := 3) (Nat.le_refl _) (by decide) (by decide) (by decide) (by decide) ?_
  intro T15 h15 b15 g15 X15 e15 E15 V_b15
  have ne_aM_b15 : aM ≠ b15 := own_nl V_aM.lt g15
  have ne_r0_b15 : r0 ≠ b15 := own_nl V_r0.lt g15
  have ne_r1_b15 : r1 ≠ b15 := own_nl V_r1.lt g15
  have ne_r2_b15 : r2 ≠ b15 := own_nl V_r2.lt g15
  have ne_ar_b15 : ar ≠ b15 := own_nl V_ar.lt g15
  have ne_b1_b15 : b1 ≠ b15 := own_nl V_b1.lt g15
  have ne_b3_b15 : b3 ≠ b15 := own_nl V_b3.lt g15
  have ne_b9_b15 : b9 ≠ b15 := own_nl V_b9.lt g15
  have le16 : h0.size ≤ b15 := Nat.le_trans Ea14.1 (Nat.le_of_eq g15.symm)
  have n0_b15 : n0 ≤ b15 := Nat.le_trans (Nat.le_trans Z0 Ea14.1) (Nat.le_of_eq g15.symm)
  have Ea17 := own_xt Ea14 E15
  replace V_aM := V_aM.ext E15
  replace V_r0 := V_r0.ext E15
  replace V_r1 := V_r1.ext E15
  replace V_r2 := V_r2.ext E15
  replace V_ar := V_ar.ext E15
  replace V_b1 := V_b1.ext E15
  replace V_b3 := V_b3.ext E15
  replace V_b9 := V_b9.ext E15
  refine own_cast X15 hx hby hZ hown (ow_19 hw) e15 (Ins.self V_b15.exa) od_prog_37_method_10_27 (pc' := 30) rfl ?_
  intro T18 X18 e18
  refine own_asD X18 hx hby hZ e18 V_b1 (V_b15.exa) ⟨by decide, by decide⟩ 2 rfl (Nat.le_of_ble_eq_true rfl) (ys := [.ref b3, .ref b9, .ref b15]) rfl od_prog_37_method_10_30 (pc' := 31) rfl ?_
  intro T19 h19 X19 e19 W19 Q19
  have Ea20 := own_xw Ea17 W19 le2
  replace V_aM := V_aM.other W19 ne_aM_b1
  replace V_r0 := V_r0.other W19 ne_r0_b1
  replace V_r1 := V_r1.other W19 ne_r1_b1
  replace V_r2 := V_r2.other W19 ne_r2_b1
  replace V_ar := V_ar.other W19 ne_ar_b1
  replace V_b3 := V_b3.other W19 (Ne.symm ne_b1_b3)
  replace V_b9 := V_b9.other W19 (Ne.symm ne_b1_b9)
  replace V_b15 := V_b15.other W19 (Ne.symm ne_b1_b15)
  replace V_b1 := Q19
  have N19 := own_fr1 (sl := ((2 : Int32)).toNatClampNeg) N13 n0_b1
  refine own_iinc X19 hx hby od_prog_37_method_10_31 (pc' := 34) rfl rfl (z := 1) rfl (Ls' := #[.val (.ref aM), .val (.ref ar), .val (.int (3 : Int32)), .val (.ref b1), .val (.int (3 : Int32)), .unset, .unset, .unset, .unset, .unset, .unset, .unset, .unset, .unset]) rfl ?_
  refine own_goto X19 hx hby od_prog_37_method_10_34 (by decide) (pc' := 11) (by decide) ?_
  refine own_iload X19 hx hby od_prog_37_method_10_11 (pc' := 13) rfl rfl ?_
  refine own_iloadN X19 hx hby od_prog_37_method_10_13 (pc' := 14) rfl rfl ?_
  refine own_icmpY X19 hx hby od_prog_37_method_10_14 (by decide) (pc' := 37) (by decide) (flt (by decide)).2.1 ?_
  refine own_aloadN X19 hx hby od_prog_37_method_10_37 (pc' := 38) rfl rfl rfl ?_
  refine own_cloneD X19 hx hby hZ hml hown (ow_28 hw) (ow_29 hw) (ow_33 hw) (ow_31 hw) (ow_32 hw) (ow_34 hw) e19 V_ar rfl od_prog_37_method_10_38 (pc' := 41) rfl (by decide) (W := 0) (cap := 3) (Nat.le_refl _) (by decide) (by decide) (by decide) (by decide) ?_
  intro T21 h21 b21 g21 X21 e21 E21 V_b21
  have ne_aM_b21 : aM ≠ b21 := own_nl V_aM.lt g21
  have ne_r0_b21 : r0 ≠ b21 := own_nl V_r0.lt g21
  have ne_r1_b21 : r1 ≠ b21 := own_nl V_r1.lt g21
  have ne_r2_b21 : r2 ≠ b21 := own_nl V_r2.lt g21
  have ne_ar_b21 : ar ≠ b21 := own_nl V_ar.lt g21
  have ne_b1_b21 : b1 ≠ b21 := own_nl V_b1.lt g21
  have ne_b3_b21 : b3 ≠ b21 := own_nl V_b3.lt g21
  have ne_b9_b21 : b9 ≠ b21 := own_nl V_b9.lt g21
  have ne_b15_b21 : b15 ≠ b21 := own_nl V_b15.lt g21
  have le22 : h0.size ≤ b21 := Nat.le_trans Ea20.1 (Nat.le_of_eq g21.symm)
  have n0_b21 : n0 ≤ b21 := Nat.le_trans (Nat.le_trans Z0 Ea20.1) (Nat.le_of_eq g21.symm)
  have Ea23 := own_xt Ea20 E21
  replace V_aM := V_aM.ext E21
  replace V_r0 := V_r0.ext E21
  replace V_r1 := V_r1.ext E21
  replace V_r2 := V_r2.ext E21
  replace V_ar := V_ar.ext E21
  replace V_b1 := V_b1.ext E21
  replace V_b3 := V_b3.ext E21
  replace V_b9 := V_b9.ext E21
  replace V_b15 := V_b15.ext E21
  refine own_cast X21 hx hby hZ hown (ow_19 hw) e21 (Ins.self V_b21.exa) od_prog_37_method_10_41 (pc' := 44) rfl ?_
  intro T24 X24 e24
  refine own_astore X24 hx hby od_prog_37_method_10_44 (pc' := 46) rfl rfl (Ls' := #[.val (.ref aM), .val (.ref ar), .val (.int (3 : Int32)), .val (.ref b1), .val (.ref b21), .unset, .unset, .unset, .unset, .unset, .unset, .unset, .unset, .unset]) rfl ?_
  refine own_iconst X24 hx hby od_prog_37_method_10_46 (pc' := 47) rfl (z := 0) rfl ?_
  refine own_istore X24 hx hby od_prog_37_method_10_47 (pc' := 49) rfl (Ls' := #[.val (.ref aM), .val (.ref ar), .val (.int (3 : Int32)), .val (.ref b1), .val (.ref b21), .val (.int (0 : Int32)), .unset, .unset, .unset, .unset, .unset, .unset, .unset, .unset]) rfl ?_
  refine own_iload X24 hx hby od_prog_37_method_10_49 (pc' := 51) rfl rfl ?_
  refine own_iloadN X24 hx hby od_prog_37_method_10_51 (pc' := 52) rfl rfl ?_
  refine own_icmpN X24 hx hby od_prog_37_method_10_52 (pc' := 55) rfl (tlt (by decide)).2.1 ?_
  refine own_iload X24 hx hby od_prog_37_method_10_55 (pc' := 57) rfl rfl ?_
  refine own_istore X24 hx hby od_prog_37_method_10_57 (pc' := 59) rfl (Ls' := #[.val (.ref aM), .val (.ref ar), .val (.int (3 : Int32)), .val (.ref b1), .val (.ref b21), .val (.int (0 : Int32)), .val (.int (0 : Int32)), .unset, .unset, .unset, .unset, .unset, .unset, .unset]) rfl ?_
  refine own_iload X24 hx hby od_prog_37_method_10_59 (pc' := 61) rfl rfl ?_
  refine own_iconst X24 hx hby od_prog_37_method_10_61 (pc' := 62) rfl (z := 1) rfl ?_
  refine own_iaddE X24 hx hby od_prog_37_method_10_62 (pc' := 63) rfl (v := (1 : Int32)) rfl ?_
  refine own_istore X24 hx hby od_prog_37_method_10_63 (pc' := 65) rfl (Ls' := #[.val (.ref aM), .val (.ref ar), .val (.int (3 : Int32)), .val (.ref b1), .val (.ref b21), .val (.int (0 : Int32)), .val (.int (0 : Int32)), .val (.int (1 : Int32)), .unset, .unset, .unset, .unset, .unset, .unset]) rfl ?_
  refine own_iload X24 hx hby od_prog_37_method_10_65 (pc' := 67) rfl rfl ?_
  refine own_iloadN X24 hx hby od_prog_37_method_10_67 (pc' := 68) rfl rfl ?_
  refine own_icmpN X24 hx hby od_prog_37_method_10_68 (pc' := 71) rfl (tlt (by decide)).2.1 ?_
  refine own_aloadN X24 hx hby od_prog_37_method_10_71 (pc' := 72) rfl rfl rfl ?_
  refine own_iload X24 hx hby od_prog_37_method_10_72 (pc' := 74) rfl rfl ?_
  refine own_aaD X24 hx hby hZ e24 V_b1 ⟨by decide, by decide⟩ (v := (.ref b9)) rfl od_prog_37_method_10_74 (pc' := 75) rfl ?_
  refine own_iload X24 hx hby od_prog_37_method_10_75 (pc' := 77) rfl rfl ?_
  refine own_daD X24 hx hby hZ e24 V_b9 ⟨by decide, by decide⟩ (v := (0 : UInt64)) rfl od_prog_37_method_10_77 (pc' := 78) rfl ?_
  refine own_absD X24 hx hby hZ hml hown (ow_64 hw) (ow_49 hw) (ow_50 hw) (ow_51 hw) e24 okl_3 (v := (0 : UInt64)) rfl rfl od_prog_37_method_10_78 (pc' := 81) rfl (W := 0) (Nat.le_refl _) (by decide) (by decide) (by decide) (by decide) ?_
  intro T25 X25 e25
  refine own_aloadN X25 hx hby od_prog_37_method_10_81 (pc' := 82) rfl rfl rfl ?_
  refine own_iload X25 hx hby od_prog_37_method_10_82 (pc' := 84) rfl rfl ?_
  refine own_aaD X25 hx hby hZ e25 V_b1 ⟨by decide, by decide⟩ (v := (.ref b3)) rfl od_prog_37_method_10_84 (pc' := 85) rfl ?_
  refine own_iload X25 hx hby od_prog_37_method_10_85 (pc' := 87) rfl rfl ?_
  refine own_daD X25 hx hby hZ e25 V_b3 ⟨by decide, by decide⟩ (v := (4607182418800017408 : UInt64)) rfl od_prog_37_method_10_87 (pc' := 88) rfl ?_
  refine own_absD X25 hx hby hZ hml hown (ow_64 hw) (ow_49 hw) (ow_50 hw) (ow_51 hw) e25 okl_4 (v := (4607182418800017408 : UInt64)) rfl rfl od_prog_37_method_10_88 (pc' := 91) rfl (W := 2) (Nat.le_refl _) (by decide) (by decide) (by decide) (by decide) ?_
  intro T26 X26 e26
  refine own_dcmp X26 hx hby od_prog_37_method_10_91 (pc' := 92) rfl (v := (-1 : Int32)) okl_5 ?_
  refine own_ifY X26 hx hby od_prog_37_method_10_92 (by decide) (pc' := 99) (by decide) (flt (by decide)).2.2.2 ?_
  refine own_iinc X26 hx hby od_prog_37_method_10_99 (pc' := 102) rfl rfl (z := 1) rfl (Ls' := #[.val (.ref aM), .val (.ref ar), .val (.int (3 : Int32)), .val (.ref b1), .val (.ref b21), .val (.int (0 : Int32)), .val (.int (0 : Int32)), .val (.int (2 : Int32)), .unset, .unset, .unset, .unset, .unset, .unset]) rfl ?_
  refine own_goto X26 hx hby od_prog_37_method_10_102 (by decide) (pc' := 65) (by decide) ?_
  refine own_iload X26 hx hby od_prog_37_method_10_65 (pc' := 67) rfl rfl ?_
  refine own_iloadN X26 hx hby od_prog_37_method_10_67 (pc' := 68) rfl rfl ?_
  refine own_icmpN X26 hx hby od_prog_37_method_10_68 (pc' := 71) rfl (tlt (by decide)).2.1 ?_
  refine own_aloadN X26 hx hby od_prog_37_method_10_71 (pc' := 72) rfl rfl rfl ?_
  refine own_iload X26 hx hby od_prog_37_method_10_72 (pc' := 74) rfl rfl ?_
  refine own_aaD X26 hx hby hZ e26 V_b1 ⟨by decide, by decide⟩ (v := (.ref b15)) rfl od_prog_37_method_10_74 (pc' := 75) rfl ?_
  refine own_iload X26 hx hby od_prog_37_method_10_75 (pc' := 77) rfl rfl ?_
  refine own_daD X26 hx hby hZ e26 V_b15 ⟨by decide, by decide⟩ (v := (0 : UInt64)) rfl od_prog_37_method_10_77 (pc' := 78) rfl ?_
  refine own_absD X26 hx hby hZ hml hown (ow_64 hw) (ow_49 hw) (ow_50 hw) (ow_51 hw) e26 okl_3 (v := (0 : UInt64)) rfl rfl od_prog_37_method_10_78 (pc' := 81) rfl (W := 0) (Nat.le_refl _) (by decide) (by decide) (by decide) (by decide) ?_
  intro T27 X27 e27
  refine own_aloadN X27 hx hby od_prog_37_method_10_81 (pc' := 82) rfl rfl rfl ?_
  refine own_iload X27 hx hby od_prog_37_method_10_82 (pc' := 84) rfl rfl ?_
  refine own_aaD X27 hx hby hZ e27 V_b1 ⟨by decide, by decide⟩ (v := (.ref b3)) rfl od_prog_37_method_10_84 (pc' := 85) rfl ?_
  refine own_iload X27 hx hby od_prog_37_method_10_85 (pc' := 87) rfl rfl ?_
  refine own_daD X27 hx hby hZ e27 V_b3 ⟨by decide, by decide⟩ (v := (4607182418800017408 : UInt64)) rfl od_prog_37_method_10_87 (pc' := 88) rfl ?_
  refine own_absD X27 hx hby hZ hml hown (ow_64 hw) (ow_49 hw) (ow_50 hw) (ow_51 hw) e27 okl_4 (v := (4607182418800017408 : UInt64)) rfl rfl od_prog_37_method_10_88 (pc' := 91) rfl (W := 2) (Nat.le_refl _) (by decide) (by decide) (by decide) (by decide) ?_
  intro T28 X28 e28
  refine own_dcmp X28 hx hby od_prog_37_method_10_91 (pc' := 92) rfl (v := (-1 : Int32)) okl_5 ?_
  refine own_ifY X28 hx hby od_prog_37_method_10_92 (by decide) (pc' := 99) (by decide) (flt (by decide)).2.2.2 ?_
  refine own_iinc X28 hx hby od_prog_37_method_10_99 (pc' := 102) rfl rfl (z := 1) rfl (Ls' := #[.val (.ref aM), .val (.ref ar), .val (.int (3 : Int32)), .val (.ref b1), .val (.ref b21), .val (.int (0 : Int32)), .val (.int (0 : Int32)), .val (.int (3 : Int32)), .unset, .unset, .unset, .unset, .unset, .unset]) rfl ?_
  refine own_goto X28 hx hby od_prog_37_method_10_102 (by decide) (pc' := 65) (by decide) ?_
  refine own_iload X28 hx hby od_prog_37_method_10_65 (pc' := 67) rfl rfl ?_
  refine own_iloadN X28 hx hby od_prog_37_method_10_67 (pc' := 68) rfl rfl ?_
  refine own_icmpY X28 hx hby od_prog_37_method_10_68 (by decide) (pc' := 105) (by decide) (flt (by decide)).2.1 ?_
  refine own_aloadN X28 hx hby od_prog_37_method_10_105 (pc' := 106) rfl rfl rfl ?_
  refine own_iload X28 hx hby od_prog_37_method_10_106 (pc' := 108) rfl rfl ?_
  refine own_aaD X28 hx hby hZ e28 V_b1 ⟨by decide, by decide⟩ (v := (.ref b3)) rfl od_prog_37_method_10_108 (pc' := 109) rfl ?_
  refine own_iload X28 hx hby od_prog_37_method_10_109 (pc' := 111) rfl rfl ?_
  refine own_daD X28 hx hby hZ e28 V_b3 ⟨by decide, by decide⟩ (v := (4607182418800017408 : UInt64)) rfl od_prog_37_method_10_111 (pc' := 112) rfl ?_
  refine own_dconst0 X28 hx hby od_prog_37_method_10_112 (pc' := 113) rfl (v := (0 : UInt64)) rfl ?_
  refine own_dcmp X28 hx hby od_prog_37_method_10_113 (pc' := 114) rfl (v := (1 : Int32)) okl_0 ?_
  refine own_ifY X28 hx hby od_prog_37_method_10_114 (by decide) (pc' := 119) (by decide) (feq (by decide)).2 ?_
  refine own_aloadN X28 hx hby od_prog_37_method_10_119 (pc' := 120) rfl rfl rfl ?_
  refine own_iload X28 hx hby od_prog_37_method_10_120 (pc' := 122) rfl rfl ?_
  refine own_aaD X28 hx hby hZ e28 V_b1 ⟨by decide, by decide⟩ (v := (.ref b3)) rfl od_prog_37_method_10_122 (pc' := 123) rfl ?_
  refine own_astore X28 hx hby od_prog_37_method_10_123 (pc' := 125) rfl rfl (Ls' := #[.val (.ref aM), .val (.ref ar), .val (.int (3 : Int32)), .val (.ref b1), .val (.ref b21), .val (.int (0 : Int32)), .val (.int (0 : Int32)), .val (.ref b3), .unset, .unset, .unset, .unset, .unset, .unset]) rfl ?_
  refine own_aloadN X28 hx hby od_prog_37_method_10_125 (pc' := 126) rfl rfl rfl ?_
  refine own_iload X28 hx hby od_prog_37_method_10_126 (pc' := 128) rfl rfl ?_
  refine own_aloadN X28 hx hby od_prog_37_method_10_128 (pc' := 129) rfl rfl rfl ?_
  refine own_iload X28 hx hby od_prog_37_method_10_129 (pc' := 131) rfl rfl ?_
  refine own_aaD X28 hx hby hZ e28 V_b1 ⟨by decide, by decide⟩ (v := (.ref b3)) rfl od_prog_37_method_10_131 (pc' := 132) rfl ?_
  refine own_asD X28 hx hby hZ e28 V_b1 (V_b3.exa) ⟨by decide, by decide⟩ 0 rfl (Nat.le_of_ble_eq_true rfl) (ys := [.ref b3, .ref b9, .ref b15]) rfl od_prog_37_method_10_132 (pc' := 133) rfl ?_
  intro T29 h29 X29 e29 W29 Q29
  have Ea30 := own_xw Ea23 W29 le2
  replace V_b3 := V_b3.other W29 (Ne.symm ne_b1_b3)
  replace V_b9 := V_b9.other W29 (Ne.symm ne_b1_b9)
  replace V_b15 := V_b15.other W29 (Ne.symm ne_b1_b15)
  replace V_b21 := V_b21.other W29 (Ne.symm ne_b1_b21)
  replace V_b1 := Q29
  have N29 := own_fr1 (sl := ((0 : Int32)).toNatClampNeg) N19 n0_b1
  refine own_aloadN X29 hx hby od_prog_37_method_10_133 (pc' := 134) rfl rfl rfl ?_
  refine own_iload X29 hx hby od_prog_37_method_10_134 (pc' := 136) rfl rfl ?_
  refine own_aload X29 hx hby od_prog_37_method_10_136 (pc' := 138) rfl rfl rfl ?_
  refine own_asD X29 hx hby hZ e29 V_b1 (V_b3.exa) ⟨by decide, by decide⟩ 0 rfl (Nat.le_of_ble_eq_true rfl) (ys := [.ref b3, .ref b9, .ref b15]) rfl od_prog_37_method_10_138 (pc' := 139) rfl ?_
  intro T31 h31 X31 e31 W31 Q31
  have Ea32 := own_xw Ea30 W31 le2
  replace V_b3 := V_b3.other W31 (Ne.symm ne_b1_b3)
  replace V_b9 := V_b9.other W31 (Ne.symm ne_b1_b9)
  replace V_b15 := V_b15.other W31 (Ne.symm ne_b1_b15)
  replace V_b21 := V_b21.other W31 (Ne.symm ne_b1_b21)
  replace V_b1 := Q31
  have N31 := own_fr1 (sl := ((0 : Int32)).toNatClampNeg) N29 n0_b1
  refine own_aload X31 hx hby od_prog_37_method_10_139 (pc' := 141) rfl rfl rfl ?_
  refine own_iload X31 hx hby od_prog_37_method_10_141 (pc' := 143) rfl rfl ?_
  refine own_daD X31 hx hby hZ e31 V_b21 ⟨by decide, by decide⟩ (v := (13830554455654793216 : UInt64)) rfl od_prog_37_method_10_143 (pc' := 144) rfl ?_
  refine own_dstore X31 hx hby od_prog_37_method_10_144 (pc' := 146) rfl (Ls' := #[.val (.ref aM), .val (.ref ar), .val (.int (3 : Int32)), .val (.ref b1), .val (.ref b21), .val (.int (0 : Int32)), .val (.int (0 : Int32)), .val (.ref b3), .val (.double (13830554455654793216 : UInt64)), .second, .unset, .unset, .unset, .unset]) rfl ?_
  refine own_aload X31 hx hby od_prog_37_method_10_146 (pc' := 148) rfl rfl rfl ?_
  refine own_iload X31 hx hby od_prog_37_method_10_148 (pc' := 150) rfl rfl ?_
  refine own_aload X31 hx hby od_prog_37_method_10_150 (pc' := 152) rfl rfl rfl ?_
  refine own_iload X31 hx hby od_prog_37_method_10_152 (pc' := 154) rfl rfl ?_
  refine own_daD X31 hx hby hZ e31 V_b21 ⟨by decide, by decide⟩ (v := (13830554455654793216 : UInt64)) rfl od_prog_37_method_10_154 (pc' := 155) rfl ?_
  refine own_dsD X31 hx hby hZ e31 V_b21 ⟨by decide, by decide⟩ 0 rfl (Nat.le_of_ble_eq_true rfl) (ys := [.double (13830554455654793216 : UInt64), .double (0 : UInt64), .double (0 : UInt64)]) rfl od_prog_37_method_10_155 (pc' := 156) rfl ?_
  intro T33 h33 X33 e33 W33 Q33
  have Ea34 := own_xw Ea32 W33 le22
  replace V_b1 := V_b1.other W33 ne_b1_b21
  replace V_b3 := V_b3.other W33 ne_b3_b21
  replace V_b9 := V_b9.other W33 ne_b9_b21
  replace V_b15 := V_b15.other W33 ne_b15_b21
  replace V_b21 := Q33
  have N33 := own_fr1 (sl := ((0 : Int32)).toNatClampNeg) N31 n0_b21
  refine own_aload X33 hx hby od_prog_37_method_10_156 (pc' := 158) rfl rfl rfl ?_
  refine own_iload X33 hx hby od_prog_37_method_10_158 (pc' := 160) rfl rfl ?_
  refine own_dload X33 hx hby od_prog_37_method_10_160 (pc' := 162) rfl rfl ?_
  refine own_dsD X33 hx hby hZ e33 V_b21 ⟨by decide, by decide⟩ 0 rfl (Nat.le_of_ble_eq_true rfl) (ys := [.double (13830554455654793216 : UInt64), .double (0 : UInt64), .double (0 : UInt64)]) rfl od_prog_37_method_10_162 (pc' := 163) rfl ?_
  intro T35 h35 X35 e35 W35 Q35
  have Ea36 := own_xw Ea34 W35 le22
  replace V_b1 := V_b1.other W35 ne_b1_b21
  replace V_b3 := V_b3.other W35 ne_b3_b21
  replace V_b9 := V_b9.other W35 ne_b9_b21
  replace V_b15 := V_b15.other W35 ne_b15_b21
  replace V_b21 := Q35
  have N35 := own_fr1 (sl := ((0 : Int32)).toNatClampNeg) N33 n0_b21
  refine own_iload X35 hx hby od_prog_37_method_10_163 (pc' := 165) rfl rfl ?_
  refine own_iconst X35 hx hby od_prog_37_method_10_165 (pc' := 166) rfl (z := 1) rfl ?_
  refine own_iaddE X35 hx hby od_prog_37_method_10_166 (pc' := 167) rfl (v := (1 : Int32)) rfl ?_
  refine own_istore X35 hx hby od_prog_37_method_10_167 (pc' := 169) rfl (Ls' := #[.val (.ref aM), .val (.ref ar), .val (.int (3 : Int32)), .val (.ref b1), .val (.ref b21), .val (.int (0 : Int32)), .val (.int (0 : Int32)), .val (.ref b3), .val (.double (13830554455654793216 : UInt64)), .second, .val (.int (1 : Int32)), .unset, .unset, .unset]) rfl ?_
  refine own_iload X35 hx hby od_prog_37_method_10_169 (pc' := 171) rfl rfl ?_
  refine own_iloadN X35 hx hby od_prog_37_method_10_171 (pc' := 172) rfl rfl ?_
  refine own_icmpN X35 hx hby od_prog_37_method_10_172 (pc' := 175) rfl (tlt (by decide)).2.1 ?_
  refine own_aloadN X35 hx hby od_prog_37_method_10_175 (pc' := 176) rfl rfl rfl ?_
  refine own_iload X35 hx hby od_prog_37_method_10_176 (pc' := 178) rfl rfl ?_
  refine own_aaD X35 hx hby hZ e35 V_b1 ⟨by decide, by decide⟩ (v := (.ref b9)) rfl od_prog_37_method_10_178 (pc' := 179) rfl ?_
  refine own_iload X35 hx hby od_prog_37_method_10_179 (pc' := 181) rfl rfl ?_
  refine own_daD X35 hx hby hZ e35 V_b9 ⟨by decide, by decide⟩ (v := (0 : UInt64)) rfl od_prog_37_method_10_181 (pc' := 182) rfl ?_
  refine own_aloadN X35 hx hby od_prog_37_method_10_182 (pc' := 183) rfl rfl rfl ?_
  refine own_iload X35 hx hby od_prog_37_method_10_183 (pc' := 185) rfl rfl ?_
  refine own_aaD X35 hx hby hZ e35 V_b1 ⟨by decide, by decide⟩ (v := (.ref b3)) rfl od_prog_37_method_10_185 (pc' := 186) rfl ?_
  refine own_iload X35 hx hby od_prog_37_method_10_186 (pc' := 188) rfl rfl ?_
  refine own_daD X35 hx hby hZ e35 V_b3 ⟨by decide, by decide⟩ (v := (4607182418800017408 : UInt64)) rfl od_prog_37_method_10_188 (pc' := 189) rfl ?_
  refine own_ddiv X35 hx hby od_prog_37_method_10_189 (pc' := 190) rfl okl_6.1 (v := (0 : UInt64)) okl_6.2 ?_
  refine own_dstore X35 hx hby od_prog_37_method_10_190 (pc' := 192) rfl (Ls' := #[.val (.ref aM), .val (.ref ar), .val (.int (3 : Int32)), .val (.ref b1), .val (.ref b21), .val (.int (0 : Int32)), .val (.int (0 : Int32)), .val (.ref b3), .val (.double (13830554455654793216 : UInt64)), .second, .val (.int (1 : Int32)), .val (.double (0 : UInt64)), .second, .unset]) rfl ?_
  refine own_iload X35 hx hby od_prog_37_method_10_192 (pc' := 194) rfl rfl ?_
  refine own_istore X35 hx hby od_prog_37_method_10_194 (pc' := 196) rfl (Ls' := #[.val (.ref aM), .val (.ref ar), .val (.int (3 : Int32)), .val (.ref b1), .val (.ref b21), .val (.int (0 : Int32)), .val (.int (0 : Int32)), .val (.ref b3), .val (.double (13830554455654793216 : UInt64)), .second, .val (.int (1 : Int32)), .val (.double (0 : UInt64)), .second, .val (.int (0 : Int32))]) rfl ?_
  refine own_iload X35 hx hby od_prog_37_method_10_196 (pc' := 198) rfl rfl ?_
  refine own_iloadN X35 hx hby od_prog_37_method_10_198 (pc' := 199) rfl rfl ?_
  refine own_icmpN X35 hx hby od_prog_37_method_10_199 (pc' := 202) rfl (tlt (by decide)).2.1 ?_
  refine own_aloadN X35 hx hby od_prog_37_method_10_202 (pc' := 203) rfl rfl rfl ?_
  refine own_iload X35 hx hby od_prog_37_method_10_203 (pc' := 205) rfl rfl ?_
  refine own_aaD X35 hx hby hZ e35 V_b1 ⟨by decide, by decide⟩ (v := (.ref b9)) rfl od_prog_37_method_10_205 (pc' := 206) rfl ?_
  refine own_iload X35 hx hby od_prog_37_method_10_206 (pc' := 208) rfl rfl ?_
  refine own_dup2 X35 hx hby od_prog_37_method_10_208 (pc' := 209) rfl rfl rfl ?_
  refine own_daD X35 hx hby hZ e35 V_b9 ⟨by decide, by decide⟩ (v := (0 : UInt64)) rfl od_prog_37_method_10_209 (pc' := 210) rfl ?_
  refine own_dload X35 hx hby od_prog_37_method_10_210 (pc' := 212) rfl rfl ?_
  refine own_aloadN X35 hx hby od_prog_37_method_10_212 (pc' := 213) rfl rfl rfl ?_
  refine own_iload X35 hx hby od_prog_37_method_10_213 (pc' := 215) rfl rfl ?_
  refine own_aaD X35 hx hby hZ e35 V_b1 ⟨by decide, by decide⟩ (v := (.ref b3)) rfl od_prog_37_method_10_215 (pc' := 216) rfl ?_
  refine own_iload X35 hx hby od_prog_37_method_10_216 (pc' := 218) rfl rfl ?_
  refine own_daD X35 hx hby hZ e35 V_b3 ⟨by decide, by decide⟩ (v := (4607182418800017408 : UInt64)) rfl od_prog_37_method_10_218 (pc' := 219) rfl ?_
  refine own_dmul X35 hx hby od_prog_37_method_10_219 (pc' := 220) rfl okl_7.1 (v := (0 : UInt64)) okl_7.2 ?_
  refine own_dsub X35 hx hby od_prog_37_method_10_220 (pc' := 221) rfl okl_8.1 (v := (0 : UInt64)) okl_8.2 ?_
  refine own_dsD X35 hx hby hZ e35 V_b9 ⟨by decide, by decide⟩ 0 rfl (Nat.le_of_ble_eq_true rfl) (ys := [.double (0 : UInt64), .double (4607182418800017408 : UInt64), .double (0 : UInt64)]) rfl od_prog_37_method_10_221 (pc' := 222) rfl ?_
  intro T37 h37 X37 e37 W37 Q37
  have Ea38 := own_xw Ea36 W37 le10
  replace V_b1 := V_b1.other W37 ne_b1_b9
  replace V_b3 := V_b3.other W37 ne_b3_b9
  replace V_b15 := V_b15.other W37 (Ne.symm ne_b9_b15)
  replace V_b21 := V_b21.other W37 (Ne.symm ne_b9_b21)
  replace V_b9 := Q37
  have N37 := own_fr1 (sl := ((0 : Int32)).toNatClampNeg) N35 n0_b9
  refine own_iinc X37 hx hby od_prog_37_method_10_222 (pc' := 225) rfl rfl (z := 1) rfl (Ls' := #[.val (.ref aM), .val (.ref ar), .val (.int (3 : Int32)), .val (.ref b1), .val (.ref b21), .val (.int (0 : Int32)), .val (.int (0 : Int32)), .val (.ref b3), .val (.double (13830554455654793216 : UInt64)), .second, .val (.int (1 : Int32)), .val (.double (0 : UInt64)), .second, .val (.int (1 : Int32))]) rfl ?_
  refine own_goto X37 hx hby od_prog_37_method_10_225 (by decide) (pc' := 196) (by decide) ?_
  refine own_iload X37 hx hby od_prog_37_method_10_196 (pc' := 198) rfl rfl ?_
  refine own_iloadN X37 hx hby od_prog_37_method_10_198 (pc' := 199) rfl rfl ?_
  refine own_icmpN X37 hx hby od_prog_37_method_10_199 (pc' := 202) rfl (tlt (by decide)).2.1 ?_
  refine own_aloadN X37 hx hby od_prog_37_method_10_202 (pc' := 203) rfl rfl rfl ?_
  refine own_iload X37 hx hby od_prog_37_method_10_203 (pc' := 205) rfl rfl ?_
  refine own_aaD X37 hx hby hZ e37 V_b1 ⟨by decide, by decide⟩ (v := (.ref b9)) rfl od_prog_37_method_10_205 (pc' := 206) rfl ?_
  refine own_iload X37 hx hby od_prog_37_method_10_206 (pc' := 208) rfl rfl ?_
  refine own_dup2 X37 hx hby od_prog_37_method_10_208 (pc' := 209) rfl rfl rfl ?_
  refine own_daD X37 hx hby hZ e37 V_b9 ⟨by decide, by decide⟩ (v := (4607182418800017408 : UInt64)) rfl od_prog_37_method_10_209 (pc' := 210) rfl ?_
  refine own_dload X37 hx hby od_prog_37_method_10_210 (pc' := 212) rfl rfl ?_
  refine own_aloadN X37 hx hby od_prog_37_method_10_212 (pc' := 213) rfl rfl rfl ?_
  refine own_iload X37 hx hby od_prog_37_method_10_213 (pc' := 215) rfl rfl ?_
  refine own_aaD X37 hx hby hZ e37 V_b1 ⟨by decide, by decide⟩ (v := (.ref b3)) rfl od_prog_37_method_10_215 (pc' := 216) rfl ?_
  refine own_iload X37 hx hby od_prog_37_method_10_216 (pc' := 218) rfl rfl ?_
  refine own_daD X37 hx hby hZ e37 V_b3 ⟨by decide, by decide⟩ (v := dc) rfl od_prog_37_method_10_218 (pc' := 219) rfl ?_
  refine own_dmul X37 hx hby od_prog_37_method_10_219 (pc' := 220) rfl (own_nb_s Zc.2.1) (v := (0 : UInt64)) Zc.2.2.1 ?_
  refine own_dsub X37 hx hby od_prog_37_method_10_220 (pc' := 221) rfl okl_9.1 (v := (4607182418800017408 : UInt64)) okl_9.2 ?_
  refine own_dsD X37 hx hby hZ e37 V_b9 ⟨by decide, by decide⟩ 1 rfl (Nat.le_of_ble_eq_true rfl) (ys := [.double (0 : UInt64), .double (4607182418800017408 : UInt64), .double (0 : UInt64)]) rfl od_prog_37_method_10_221 (pc' := 222) rfl ?_
  intro T39 h39 X39 e39 W39 Q39
  have Ea40 := own_xw Ea38 W39 le10
  replace V_b1 := V_b1.other W39 ne_b1_b9
  replace V_b3 := V_b3.other W39 ne_b3_b9
  replace V_b15 := V_b15.other W39 (Ne.symm ne_b9_b15)
  replace V_b21 := V_b21.other W39 (Ne.symm ne_b9_b21)
  replace V_b9 := Q39
  have N39 := own_fr1 (sl := ((1 : Int32)).toNatClampNeg) N37 n0_b9
  refine own_iinc X39 hx hby od_prog_37_method_10_222 (pc' := 225) rfl rfl (z := 1) rfl (Ls' := #[.val (.ref aM), .val (.ref ar), .val (.int (3 : Int32)), .val (.ref b1), .val (.ref b21), .val (.int (0 : Int32)), .val (.int (0 : Int32)), .val (.ref b3), .val (.double (13830554455654793216 : UInt64)), .second, .val (.int (1 : Int32)), .val (.double (0 : UInt64)), .second, .val (.int (2 : Int32))]) rfl ?_
  refine own_goto X39 hx hby od_prog_37_method_10_225 (by decide) (pc' := 196) (by decide) ?_
  refine own_iload X39 hx hby od_prog_37_method_10_196 (pc' := 198) rfl rfl ?_
  refine own_iloadN X39 hx hby od_prog_37_method_10_198 (pc' := 199) rfl rfl ?_
  refine own_icmpN X39 hx hby od_prog_37_method_10_199 (pc' := 202) rfl (tlt (by decide)).2.1 ?_
  refine own_aloadN X39 hx hby od_prog_37_method_10_202 (pc' := 203) rfl rfl rfl ?_
  refine own_iload X39 hx hby od_prog_37_method_10_203 (pc' := 205) rfl rfl ?_
  refine own_aaD X39 hx hby hZ e39 V_b1 ⟨by decide, by decide⟩ (v := (.ref b9)) rfl od_prog_37_method_10_205 (pc' := 206) rfl ?_
  refine own_iload X39 hx hby od_prog_37_method_10_206 (pc' := 208) rfl rfl ?_
  refine own_dup2 X39 hx hby od_prog_37_method_10_208 (pc' := 209) rfl rfl rfl ?_
  refine own_daD X39 hx hby hZ e39 V_b9 ⟨by decide, by decide⟩ (v := (0 : UInt64)) rfl od_prog_37_method_10_209 (pc' := 210) rfl ?_
  refine own_dload X39 hx hby od_prog_37_method_10_210 (pc' := 212) rfl rfl ?_
  refine own_aloadN X39 hx hby od_prog_37_method_10_212 (pc' := 213) rfl rfl rfl ?_
  refine own_iload X39 hx hby od_prog_37_method_10_213 (pc' := 215) rfl rfl ?_
  refine own_aaD X39 hx hby hZ e39 V_b1 ⟨by decide, by decide⟩ (v := (.ref b3)) rfl od_prog_37_method_10_215 (pc' := 216) rfl ?_
  refine own_iload X39 hx hby od_prog_37_method_10_216 (pc' := 218) rfl rfl ?_
  refine own_daD X39 hx hby hZ e39 V_b3 ⟨by decide, by decide⟩ (v := dl) rfl od_prog_37_method_10_218 (pc' := 219) rfl ?_
  refine own_dmul X39 hx hby od_prog_37_method_10_219 (pc' := 220) rfl (own_nb_s Zl.2.1) (v := (0 : UInt64)) Zl.2.2.1 ?_
  refine own_dsub X39 hx hby od_prog_37_method_10_220 (pc' := 221) rfl okl_8.1 (v := (0 : UInt64)) okl_8.2 ?_
  refine own_dsD X39 hx hby hZ e39 V_b9 ⟨by decide, by decide⟩ 2 rfl (Nat.le_of_ble_eq_true rfl) (ys := [.double (0 : UInt64), .double (4607182418800017408 : UInt64), .double (0 : UInt64)]) rfl od_prog_37_method_10_221 (pc' := 222) rfl ?_
  intro T41 h41 X41 e41 W41 Q41
  have Ea42 := own_xw Ea40 W41 le10
  replace V_b1 := V_b1.other W41 ne_b1_b9
  replace V_b3 := V_b3.other W41 ne_b3_b9
  replace V_b15 := V_b15.other W41 (Ne.symm ne_b9_b15)
  replace V_b21 := V_b21.other W41 (Ne.symm ne_b9_b21)
  replace V_b9 := Q41
  have N41 := own_fr1 (sl := ((2 : Int32)).toNatClampNeg) N39 n0_b9
  refine own_iinc X41 hx hby od_prog_37_method_10_222 (pc' := 225) rfl rfl (z := 1) rfl (Ls' := #[.val (.ref aM), .val (.ref ar), .val (.int (3 : Int32)), .val (.ref b1), .val (.ref b21), .val (.int (0 : Int32)), .val (.int (0 : Int32)), .val (.ref b3), .val (.double (13830554455654793216 : UInt64)), .second, .val (.int (1 : Int32)), .val (.double (0 : UInt64)), .second, .val (.int (3 : Int32))]) rfl ?_
  refine own_goto X41 hx hby od_prog_37_method_10_225 (by decide) (pc' := 196) (by decide) ?_
  refine own_iload X41 hx hby od_prog_37_method_10_196 (pc' := 198) rfl rfl ?_
  refine own_iloadN X41 hx hby od_prog_37_method_10_198 (pc' := 199) rfl rfl ?_
  refine own_icmpY X41 hx hby od_prog_37_method_10_199 (by decide) (pc' := 228) (by decide) (flt (by decide)).2.1 ?_
  refine own_aload X41 hx hby od_prog_37_method_10_228 (pc' := 230) rfl rfl rfl ?_
  refine own_iload X41 hx hby od_prog_37_method_10_230 (pc' := 232) rfl rfl ?_
  refine own_dup2 X41 hx hby od_prog_37_method_10_232 (pc' := 233) rfl rfl rfl ?_
  refine own_daD X41 hx hby hZ e41 V_b21 ⟨by decide, by decide⟩ (v := (0 : UInt64)) rfl od_prog_37_method_10_233 (pc' := 234) rfl ?_
  refine own_dload X41 hx hby od_prog_37_method_10_234 (pc' := 236) rfl rfl ?_
  refine own_aload X41 hx hby od_prog_37_method_10_236 (pc' := 238) rfl rfl rfl ?_
  refine own_iload X41 hx hby od_prog_37_method_10_238 (pc' := 240) rfl rfl ?_
  refine own_daD X41 hx hby hZ e41 V_b21 ⟨by decide, by decide⟩ (v := (13830554455654793216 : UInt64)) rfl od_prog_37_method_10_240 (pc' := 241) rfl ?_
  refine own_dmul X41 hx hby od_prog_37_method_10_241 (pc' := 242) rfl okl_10.1 (v := (9223372036854775808 : UInt64)) okl_10.2 ?_
  refine own_dsub X41 hx hby od_prog_37_method_10_242 (pc' := 243) rfl okl_11.1 (v := (0 : UInt64)) okl_11.2 ?_
  refine own_dsD X41 hx hby hZ e41 V_b21 ⟨by decide, by decide⟩ 1 rfl (Nat.le_of_ble_eq_true rfl) (ys := [.double (13830554455654793216 : UInt64), .double (0 : UInt64), .double (0 : UInt64)]) rfl od_prog_37_method_10_243 (pc' := 244) rfl ?_
  intro T43 h43 X43 e43 W43 Q43
  have Ea44 := own_xw Ea42 W43 le22
  replace V_b1 := V_b1.other W43 ne_b1_b21
  replace V_b3 := V_b3.other W43 ne_b3_b21
  replace V_b9 := V_b9.other W43 ne_b9_b21
  replace V_b15 := V_b15.other W43 ne_b15_b21
  replace V_b21 := Q43
  have N43 := own_fr1 (sl := ((1 : Int32)).toNatClampNeg) N41 n0_b21
  refine own_iinc X43 hx hby od_prog_37_method_10_244 (pc' := 247) rfl rfl (z := 1) rfl (Ls' := #[.val (.ref aM), .val (.ref ar), .val (.int (3 : Int32)), .val (.ref b1), .val (.ref b21), .val (.int (0 : Int32)), .val (.int (0 : Int32)), .val (.ref b3), .val (.double (13830554455654793216 : UInt64)), .second, .val (.int (2 : Int32)), .val (.double (0 : UInt64)), .second, .val (.int (3 : Int32))]) rfl ?_
  refine own_goto X43 hx hby od_prog_37_method_10_247 (by decide) (pc' := 169) (by decide) ?_
  refine own_iload X43 hx hby od_prog_37_method_10_169 (pc' := 171) rfl rfl ?_
  refine own_iloadN X43 hx hby od_prog_37_method_10_171 (pc' := 172) rfl rfl ?_
  refine own_icmpN X43 hx hby od_prog_37_method_10_172 (pc' := 175) rfl (tlt (by decide)).2.1 ?_
  refine own_aloadN X43 hx hby od_prog_37_method_10_175 (pc' := 176) rfl rfl rfl ?_
  refine own_iload X43 hx hby od_prog_37_method_10_176 (pc' := 178) rfl rfl ?_
  refine own_aaD X43 hx hby hZ e43 V_b1 ⟨by decide, by decide⟩ (v := (.ref b15)) rfl od_prog_37_method_10_178 (pc' := 179) rfl ?_
  refine own_iload X43 hx hby od_prog_37_method_10_179 (pc' := 181) rfl rfl ?_
  refine own_daD X43 hx hby hZ e43 V_b15 ⟨by decide, by decide⟩ (v := (0 : UInt64)) rfl od_prog_37_method_10_181 (pc' := 182) rfl ?_
  refine own_aloadN X43 hx hby od_prog_37_method_10_182 (pc' := 183) rfl rfl rfl ?_
  refine own_iload X43 hx hby od_prog_37_method_10_183 (pc' := 185) rfl rfl ?_
  refine own_aaD X43 hx hby hZ e43 V_b1 ⟨by decide, by decide⟩ (v := (.ref b3)) rfl od_prog_37_method_10_185 (pc' := 186) rfl ?_
  refine own_iload X43 hx hby od_prog_37_method_10_186 (pc' := 188) rfl rfl ?_
  refine own_daD X43 hx hby hZ e43 V_b3 ⟨by decide, by decide⟩ (v := (4607182418800017408 : UInt64)) rfl od_prog_37_method_10_188 (pc' := 189) rfl ?_
  refine own_ddiv X43 hx hby od_prog_37_method_10_189 (pc' := 190) rfl okl_6.1 (v := (0 : UInt64)) okl_6.2 ?_
  refine own_dstore X43 hx hby od_prog_37_method_10_190 (pc' := 192) rfl (Ls' := #[.val (.ref aM), .val (.ref ar), .val (.int (3 : Int32)), .val (.ref b1), .val (.ref b21), .val (.int (0 : Int32)), .val (.int (0 : Int32)), .val (.ref b3), .val (.double (13830554455654793216 : UInt64)), .second, .val (.int (2 : Int32)), .val (.double (0 : UInt64)), .second, .val (.int (3 : Int32))]) rfl ?_
  refine own_iload X43 hx hby od_prog_37_method_10_192 (pc' := 194) rfl rfl ?_
  refine own_istore X43 hx hby od_prog_37_method_10_194 (pc' := 196) rfl (Ls' := #[.val (.ref aM), .val (.ref ar), .val (.int (3 : Int32)), .val (.ref b1), .val (.ref b21), .val (.int (0 : Int32)), .val (.int (0 : Int32)), .val (.ref b3), .val (.double (13830554455654793216 : UInt64)), .second, .val (.int (2 : Int32)), .val (.double (0 : UInt64)), .second, .val (.int (0 : Int32))]) rfl ?_
  refine own_iload X43 hx hby od_prog_37_method_10_196 (pc' := 198) rfl rfl ?_
  refine own_iloadN X43 hx hby od_prog_37_method_10_198 (pc' := 199) rfl rfl ?_
  refine own_icmpN X43 hx hby od_prog_37_method_10_199 (pc' := 202) rfl (tlt (by decide)).2.1 ?_
  refine own_aloadN X43 hx hby od_prog_37_method_10_202 (pc' := 203) rfl rfl rfl ?_
  refine own_iload X43 hx hby od_prog_37_method_10_203 (pc' := 205) rfl rfl ?_
  refine own_aaD X43 hx hby hZ e43 V_b1 ⟨by decide, by decide⟩ (v := (.ref b15)) rfl od_prog_37_method_10_205 (pc' := 206) rfl ?_
  refine own_iload X43 hx hby od_prog_37_method_10_206 (pc' := 208) rfl rfl ?_
  refine own_dup2 X43 hx hby od_prog_37_method_10_208 (pc' := 209) rfl rfl rfl ?_
  refine own_daD X43 hx hby hZ e43 V_b15 ⟨by decide, by decide⟩ (v := (0 : UInt64)) rfl od_prog_37_method_10_209 (pc' := 210) rfl ?_
  refine own_dload X43 hx hby od_prog_37_method_10_210 (pc' := 212) rfl rfl ?_
  refine own_aloadN X43 hx hby od_prog_37_method_10_212 (pc' := 213) rfl rfl rfl ?_
  refine own_iload X43 hx hby od_prog_37_method_10_213 (pc' := 215) rfl rfl ?_
  refine own_aaD X43 hx hby hZ e43 V_b1 ⟨by decide, by decide⟩ (v := (.ref b3)) rfl od_prog_37_method_10_215 (pc' := 216) rfl ?_
  refine own_iload X43 hx hby od_prog_37_method_10_216 (pc' := 218) rfl rfl ?_
  refine own_daD X43 hx hby hZ e43 V_b3 ⟨by decide, by decide⟩ (v := (4607182418800017408 : UInt64)) rfl od_prog_37_method_10_218 (pc' := 219) rfl ?_
  refine own_dmul X43 hx hby od_prog_37_method_10_219 (pc' := 220) rfl okl_7.1 (v := (0 : UInt64)) okl_7.2 ?_
  refine own_dsub X43 hx hby od_prog_37_method_10_220 (pc' := 221) rfl okl_8.1 (v := (0 : UInt64)) okl_8.2 ?_
  refine own_dsD X43 hx hby hZ e43 V_b15 ⟨by decide, by decide⟩ 0 rfl (Nat.le_of_ble_eq_true rfl) (ys := [.double (0 : UInt64), .double (0 : UInt64), .double (4607182418800017408 : UInt64)]) rfl od_prog_37_method_10_221 (pc' := 222) rfl ?_
  intro T45 h45 X45 e45 W45 Q45
  have Ea46 := own_xw Ea44 W45 le16
  replace V_b1 := V_b1.other W45 ne_b1_b15
  replace V_b3 := V_b3.other W45 ne_b3_b15
  replace V_b9 := V_b9.other W45 ne_b9_b15
  replace V_b21 := V_b21.other W45 (Ne.symm ne_b15_b21)
  replace V_b15 := Q45
  have N45 := own_fr1 (sl := ((0 : Int32)).toNatClampNeg) N43 n0_b15
  refine own_iinc X45 hx hby od_prog_37_method_10_222 (pc' := 225) rfl rfl (z := 1) rfl (Ls' := #[.val (.ref aM), .val (.ref ar), .val (.int (3 : Int32)), .val (.ref b1), .val (.ref b21), .val (.int (0 : Int32)), .val (.int (0 : Int32)), .val (.ref b3), .val (.double (13830554455654793216 : UInt64)), .second, .val (.int (2 : Int32)), .val (.double (0 : UInt64)), .second, .val (.int (1 : Int32))]) rfl ?_
  refine own_goto X45 hx hby od_prog_37_method_10_225 (by decide) (pc' := 196) (by decide) ?_
  refine own_iload X45 hx hby od_prog_37_method_10_196 (pc' := 198) rfl rfl ?_
  refine own_iloadN X45 hx hby od_prog_37_method_10_198 (pc' := 199) rfl rfl ?_
  refine own_icmpN X45 hx hby od_prog_37_method_10_199 (pc' := 202) rfl (tlt (by decide)).2.1 ?_
  refine own_aloadN X45 hx hby od_prog_37_method_10_202 (pc' := 203) rfl rfl rfl ?_
  refine own_iload X45 hx hby od_prog_37_method_10_203 (pc' := 205) rfl rfl ?_
  refine own_aaD X45 hx hby hZ e45 V_b1 ⟨by decide, by decide⟩ (v := (.ref b15)) rfl od_prog_37_method_10_205 (pc' := 206) rfl ?_
  refine own_iload X45 hx hby od_prog_37_method_10_206 (pc' := 208) rfl rfl ?_
  refine own_dup2 X45 hx hby od_prog_37_method_10_208 (pc' := 209) rfl rfl rfl ?_
  refine own_daD X45 hx hby hZ e45 V_b15 ⟨by decide, by decide⟩ (v := (0 : UInt64)) rfl od_prog_37_method_10_209 (pc' := 210) rfl ?_
  refine own_dload X45 hx hby od_prog_37_method_10_210 (pc' := 212) rfl rfl ?_
  refine own_aloadN X45 hx hby od_prog_37_method_10_212 (pc' := 213) rfl rfl rfl ?_
  refine own_iload X45 hx hby od_prog_37_method_10_213 (pc' := 215) rfl rfl ?_
  refine own_aaD X45 hx hby hZ e45 V_b1 ⟨by decide, by decide⟩ (v := (.ref b3)) rfl od_prog_37_method_10_215 (pc' := 216) rfl ?_
  refine own_iload X45 hx hby od_prog_37_method_10_216 (pc' := 218) rfl rfl ?_
  refine own_daD X45 hx hby hZ e45 V_b3 ⟨by decide, by decide⟩ (v := dc) rfl od_prog_37_method_10_218 (pc' := 219) rfl ?_
  refine own_dmul X45 hx hby od_prog_37_method_10_219 (pc' := 220) rfl (own_nb_s Zc.2.1) (v := (0 : UInt64)) Zc.2.2.1 ?_
  refine own_dsub X45 hx hby od_prog_37_method_10_220 (pc' := 221) rfl okl_8.1 (v := (0 : UInt64)) okl_8.2 ?_
  refine own_dsD X45 hx hby hZ e45 V_b15 ⟨by decide, by decide⟩ 1 rfl (Nat.le_of_ble_eq_true rfl) (ys := [.double (0 : UInt64), .double (0 : UInt64), .double (4607182418800017408 : UInt64)]) rfl od_prog_37_method_10_221 (pc' := 222) rfl ?_
  intro T47 h47 X47 e47 W47 Q47
  have Ea48 := own_xw Ea46 W47 le16
  replace V_b1 := V_b1.other W47 ne_b1_b15
  replace V_b3 := V_b3.other W47 ne_b3_b15
  replace V_b9 := V_b9.other W47 ne_b9_b15
  replace V_b21 := V_b21.other W47 (Ne.symm ne_b15_b21)
  replace V_b15 := Q47
  have N47 := own_fr1 (sl := ((1 : Int32)).toNatClampNeg) N45 n0_b15
  refine own_iinc X47 hx hby od_prog_37_method_10_222 (pc' := 225) rfl rfl (z := 1) rfl (Ls' := #[.val (.ref aM), .val (.ref ar), .val (.int (3 : Int32)), .val (.ref b1), .val (.ref b21), .val (.int (0 : Int32)), .val (.int (0 : Int32)), .val (.ref b3), .val (.double (13830554455654793216 : UInt64)), .second, .val (.int (2 : Int32)), .val (.double (0 : UInt64)), .second, .val (.int (2 : Int32))]) rfl ?_
  refine own_goto X47 hx hby od_prog_37_method_10_225 (by decide) (pc' := 196) (by decide) ?_
  refine own_iload X47 hx hby od_prog_37_method_10_196 (pc' := 198) rfl rfl ?_
  refine own_iloadN X47 hx hby od_prog_37_method_10_198 (pc' := 199) rfl rfl ?_
  refine own_icmpN X47 hx hby od_prog_37_method_10_199 (pc' := 202) rfl (tlt (by decide)).2.1 ?_
  refine own_aloadN X47 hx hby od_prog_37_method_10_202 (pc' := 203) rfl rfl rfl ?_
  refine own_iload X47 hx hby od_prog_37_method_10_203 (pc' := 205) rfl rfl ?_
  refine own_aaD X47 hx hby hZ e47 V_b1 ⟨by decide, by decide⟩ (v := (.ref b15)) rfl od_prog_37_method_10_205 (pc' := 206) rfl ?_
  refine own_iload X47 hx hby od_prog_37_method_10_206 (pc' := 208) rfl rfl ?_
  refine own_dup2 X47 hx hby od_prog_37_method_10_208 (pc' := 209) rfl rfl rfl ?_
  refine own_daD X47 hx hby hZ e47 V_b15 ⟨by decide, by decide⟩ (v := (4607182418800017408 : UInt64)) rfl od_prog_37_method_10_209 (pc' := 210) rfl ?_
  refine own_dload X47 hx hby od_prog_37_method_10_210 (pc' := 212) rfl rfl ?_
  refine own_aloadN X47 hx hby od_prog_37_method_10_212 (pc' := 213) rfl rfl rfl ?_
  refine own_iload X47 hx hby od_prog_37_method_10_213 (pc' := 215) rfl rfl ?_
  refine own_aaD X47 hx hby hZ e47 V_b1 ⟨by decide, by decide⟩ (v := (.ref b3)) rfl od_prog_37_method_10_215 (pc' := 216) rfl ?_
  refine own_iload X47 hx hby od_prog_37_method_10_216 (pc' := 218) rfl rfl ?_
  refine own_daD X47 hx hby hZ e47 V_b3 ⟨by decide, by decide⟩ (v := dl) rfl od_prog_37_method_10_218 (pc' := 219) rfl ?_
  refine own_dmul X47 hx hby od_prog_37_method_10_219 (pc' := 220) rfl (own_nb_s Zl.2.1) (v := (0 : UInt64)) Zl.2.2.1 ?_
  refine own_dsub X47 hx hby od_prog_37_method_10_220 (pc' := 221) rfl okl_9.1 (v := (4607182418800017408 : UInt64)) okl_9.2 ?_
  refine own_dsD X47 hx hby hZ e47 V_b15 ⟨by decide, by decide⟩ 2 rfl (Nat.le_of_ble_eq_true rfl) (ys := [.double (0 : UInt64), .double (0 : UInt64), .double (4607182418800017408 : UInt64)]) rfl od_prog_37_method_10_221 (pc' := 222) rfl ?_
  intro T49 h49 X49 e49 W49 Q49
  have Ea50 := own_xw Ea48 W49 le16
  replace V_b1 := V_b1.other W49 ne_b1_b15
  replace V_b3 := V_b3.other W49 ne_b3_b15
  replace V_b9 := V_b9.other W49 ne_b9_b15
  replace V_b21 := V_b21.other W49 (Ne.symm ne_b15_b21)
  replace V_b15 := Q49
  have N49 := own_fr1 (sl := ((2 : Int32)).toNatClampNeg) N47 n0_b15
  refine own_iinc X49 hx hby od_prog_37_method_10_222 (pc' := 225) rfl rfl (z := 1) rfl (Ls' := #[.val (.ref aM), .val (.ref ar), .val (.int (3 : Int32)), .val (.ref b1), .val (.ref b21), .val (.int (0 : Int32)), .val (.int (0 : Int32)), .val (.ref b3), .val (.double (13830554455654793216 : UInt64)), .second, .val (.int (2 : Int32)), .val (.double (0 : UInt64)), .second, .val (.int (3 : Int32))]) rfl ?_
  refine own_goto X49 hx hby od_prog_37_method_10_225 (by decide) (pc' := 196) (by decide) ?_
  refine own_iload X49 hx hby od_prog_37_method_10_196 (pc' := 198) rfl rfl ?_
  refine own_iloadN X49 hx hby od_prog_37_method_10_198 (pc' := 199) rfl rfl ?_
  refine own_icmpY X49 hx hby od_prog_37_method_10_199 (by decide) (pc' := 228) (by decide) (flt (by decide)).2.1 ?_
  refine own_aload X49 hx hby od_prog_37_method_10_228 (pc' := 230) rfl rfl rfl ?_
  refine own_iload X49 hx hby od_prog_37_method_10_230 (pc' := 232) rfl rfl ?_
  refine own_dup2 X49 hx hby od_prog_37_method_10_232 (pc' := 233) rfl rfl rfl ?_
  refine own_daD X49 hx hby hZ e49 V_b21 ⟨by decide, by decide⟩ (v := (0 : UInt64)) rfl od_prog_37_method_10_233 (pc' := 234) rfl ?_
  refine own_dload X49 hx hby od_prog_37_method_10_234 (pc' := 236) rfl rfl ?_
  refine own_aload X49 hx hby od_prog_37_method_10_236 (pc' := 238) rfl rfl rfl ?_
  refine own_iload X49 hx hby od_prog_37_method_10_238 (pc' := 240) rfl rfl ?_
  refine own_daD X49 hx hby hZ e49 V_b21 ⟨by decide, by decide⟩ (v := (13830554455654793216 : UInt64)) rfl od_prog_37_method_10_240 (pc' := 241) rfl ?_
  refine own_dmul X49 hx hby od_prog_37_method_10_241 (pc' := 242) rfl okl_10.1 (v := (9223372036854775808 : UInt64)) okl_10.2 ?_
  refine own_dsub X49 hx hby od_prog_37_method_10_242 (pc' := 243) rfl okl_11.1 (v := (0 : UInt64)) okl_11.2 ?_
  refine own_dsD X49 hx hby hZ e49 V_b21 ⟨by decide, by decide⟩ 2 rfl (Nat.le_of_ble_eq_true rfl) (ys := [.double (13830554455654793216 : UInt64), .double (0 : UInt64), .double (0 : UInt64)]) rfl od_prog_37_method_10_243 (pc' := 244) rfl ?_
  intro T51 h51 X51 e51 W51 Q51
  have Ea52 := own_xw Ea50 W51 le22
  replace V_b1 := V_b1.other W51 ne_b1_b21
  replace V_b3 := V_b3.other W51 ne_b3_b21
  replace V_b9 := V_b9.other W51 ne_b9_b21
  replace V_b15 := V_b15.other W51 ne_b15_b21
  replace V_b21 := Q51
  have N51 := own_fr1 (sl := ((2 : Int32)).toNatClampNeg) N49 n0_b21
  refine own_iinc X51 hx hby od_prog_37_method_10_244 (pc' := 247) rfl rfl (z := 1) rfl (Ls' := #[.val (.ref aM), .val (.ref ar), .val (.int (3 : Int32)), .val (.ref b1), .val (.ref b21), .val (.int (0 : Int32)), .val (.int (0 : Int32)), .val (.ref b3), .val (.double (13830554455654793216 : UInt64)), .second, .val (.int (3 : Int32)), .val (.double (0 : UInt64)), .second, .val (.int (3 : Int32))]) rfl ?_
  refine own_goto X51 hx hby od_prog_37_method_10_247 (by decide) (pc' := 169) (by decide) ?_
  refine own_iload X51 hx hby od_prog_37_method_10_169 (pc' := 171) rfl rfl ?_
  refine own_iloadN X51 hx hby od_prog_37_method_10_171 (pc' := 172) rfl rfl ?_
  refine own_icmpY X51 hx hby od_prog_37_method_10_172 (by decide) (pc' := 250) (by decide) (flt (by decide)).2.1 ?_
  refine own_iinc X51 hx hby od_prog_37_method_10_250 (pc' := 253) rfl rfl (z := 1) rfl (Ls' := #[.val (.ref aM), .val (.ref ar), .val (.int (3 : Int32)), .val (.ref b1), .val (.ref b21), .val (.int (1 : Int32)), .val (.int (0 : Int32)), .val (.ref b3), .val (.double (13830554455654793216 : UInt64)), .second, .val (.int (3 : Int32)), .val (.double (0 : UInt64)), .second, .val (.int (3 : Int32))]) rfl ?_
  refine own_goto X51 hx hby od_prog_37_method_10_253 (by decide) (pc' := 49) (by decide) ?_
  refine own_iload X51 hx hby od_prog_37_method_10_49 (pc' := 51) rfl rfl ?_
  refine own_iloadN X51 hx hby od_prog_37_method_10_51 (pc' := 52) rfl rfl ?_
  refine own_icmpN X51 hx hby od_prog_37_method_10_52 (pc' := 55) rfl (tlt (by decide)).2.1 ?_
  refine own_iload X51 hx hby od_prog_37_method_10_55 (pc' := 57) rfl rfl ?_
  refine own_istore X51 hx hby od_prog_37_method_10_57 (pc' := 59) rfl (Ls' := #[.val (.ref aM), .val (.ref ar), .val (.int (3 : Int32)), .val (.ref b1), .val (.ref b21), .val (.int (1 : Int32)), .val (.int (1 : Int32)), .val (.ref b3), .val (.double (13830554455654793216 : UInt64)), .second, .val (.int (3 : Int32)), .val (.double (0 : UInt64)), .second, .val (.int (3 : Int32))]) rfl ?_
  refine own_iload X51 hx hby od_prog_37_method_10_59 (pc' := 61) rfl rfl ?_
  refine own_iconst X51 hx hby od_prog_37_method_10_61 (pc' := 62) rfl (z := 1) rfl ?_
  refine own_iaddE X51 hx hby od_prog_37_method_10_62 (pc' := 63) rfl (v := (2 : Int32)) rfl ?_
  refine own_istore X51 hx hby od_prog_37_method_10_63 (pc' := 65) rfl (Ls' := #[.val (.ref aM), .val (.ref ar), .val (.int (3 : Int32)), .val (.ref b1), .val (.ref b21), .val (.int (1 : Int32)), .val (.int (1 : Int32)), .val (.int (2 : Int32)), .val (.double (13830554455654793216 : UInt64)), .second, .val (.int (3 : Int32)), .val (.double (0 : UInt64)), .second, .val (.int (3 : Int32))]) rfl ?_
  refine own_iload X51 hx hby od_prog_37_method_10_65 (pc' := 67) rfl rfl ?_
  refine own_iloadN X51 hx hby od_prog_37_method_10_67 (pc' := 68) rfl rfl ?_
  refine own_icmpN X51 hx hby od_prog_37_method_10_68 (pc' := 71) rfl (tlt (by decide)).2.1 ?_
  refine own_aloadN X51 hx hby od_prog_37_method_10_71 (pc' := 72) rfl rfl rfl ?_
  refine own_iload X51 hx hby od_prog_37_method_10_72 (pc' := 74) rfl rfl ?_
  refine own_aaD X51 hx hby hZ e51 V_b1 ⟨by decide, by decide⟩ (v := (.ref b15)) rfl od_prog_37_method_10_74 (pc' := 75) rfl ?_
  refine own_iload X51 hx hby od_prog_37_method_10_75 (pc' := 77) rfl rfl ?_
  refine own_daD X51 hx hby hZ e51 V_b15 ⟨by decide, by decide⟩ (v := (0 : UInt64)) rfl od_prog_37_method_10_77 (pc' := 78) rfl ?_
  refine own_absD X51 hx hby hZ hml hown (ow_64 hw) (ow_49 hw) (ow_50 hw) (ow_51 hw) e51 okl_3 (v := (0 : UInt64)) rfl rfl od_prog_37_method_10_78 (pc' := 81) rfl (W := 0) (Nat.le_refl _) (by decide) (by decide) (by decide) (by decide) ?_
  intro T53 X53 e53
  refine own_aloadN X53 hx hby od_prog_37_method_10_81 (pc' := 82) rfl rfl rfl ?_
  refine own_iload X53 hx hby od_prog_37_method_10_82 (pc' := 84) rfl rfl ?_
  refine own_aaD X53 hx hby hZ e53 V_b1 ⟨by decide, by decide⟩ (v := (.ref b9)) rfl od_prog_37_method_10_84 (pc' := 85) rfl ?_
  refine own_iload X53 hx hby od_prog_37_method_10_85 (pc' := 87) rfl rfl ?_
  refine own_daD X53 hx hby hZ e53 V_b9 ⟨by decide, by decide⟩ (v := (4607182418800017408 : UInt64)) rfl od_prog_37_method_10_87 (pc' := 88) rfl ?_
  refine own_absD X53 hx hby hZ hml hown (ow_64 hw) (ow_49 hw) (ow_50 hw) (ow_51 hw) e53 okl_4 (v := (4607182418800017408 : UInt64)) rfl rfl od_prog_37_method_10_88 (pc' := 91) rfl (W := 2) (Nat.le_refl _) (by decide) (by decide) (by decide) (by decide) ?_
  intro T54 X54 e54
  refine own_dcmp X54 hx hby od_prog_37_method_10_91 (pc' := 92) rfl (v := (-1 : Int32)) okl_5 ?_
  refine own_ifY X54 hx hby od_prog_37_method_10_92 (by decide) (pc' := 99) (by decide) (flt (by decide)).2.2.2 ?_
  refine own_iinc X54 hx hby od_prog_37_method_10_99 (pc' := 102) rfl rfl (z := 1) rfl (Ls' := #[.val (.ref aM), .val (.ref ar), .val (.int (3 : Int32)), .val (.ref b1), .val (.ref b21), .val (.int (1 : Int32)), .val (.int (1 : Int32)), .val (.int (3 : Int32)), .val (.double (13830554455654793216 : UInt64)), .second, .val (.int (3 : Int32)), .val (.double (0 : UInt64)), .second, .val (.int (3 : Int32))]) rfl ?_
  refine own_goto X54 hx hby od_prog_37_method_10_102 (by decide) (pc' := 65) (by decide) ?_
  refine own_iload X54 hx hby od_prog_37_method_10_65 (pc' := 67) rfl rfl ?_
  refine own_iloadN X54 hx hby od_prog_37_method_10_67 (pc' := 68) rfl rfl ?_
  refine own_icmpY X54 hx hby od_prog_37_method_10_68 (by decide) (pc' := 105) (by decide) (flt (by decide)).2.1 ?_
  refine own_aloadN X54 hx hby od_prog_37_method_10_105 (pc' := 106) rfl rfl rfl ?_
  refine own_iload X54 hx hby od_prog_37_method_10_106 (pc' := 108) rfl rfl ?_
  refine own_aaD X54 hx hby hZ e54 V_b1 ⟨by decide, by decide⟩ (v := (.ref b9)) rfl od_prog_37_method_10_108 (pc' := 109) rfl ?_
  refine own_iload X54 hx hby od_prog_37_method_10_109 (pc' := 111) rfl rfl ?_
  refine own_daD X54 hx hby hZ e54 V_b9 ⟨by decide, by decide⟩ (v := (4607182418800017408 : UInt64)) rfl od_prog_37_method_10_111 (pc' := 112) rfl ?_
  refine own_dconst0 X54 hx hby od_prog_37_method_10_112 (pc' := 113) rfl (v := (0 : UInt64)) rfl ?_
  refine own_dcmp X54 hx hby od_prog_37_method_10_113 (pc' := 114) rfl (v := (1 : Int32)) okl_0 ?_
  refine own_ifY X54 hx hby od_prog_37_method_10_114 (by decide) (pc' := 119) (by decide) (feq (by decide)).2 ?_
  refine own_aloadN X54 hx hby od_prog_37_method_10_119 (pc' := 120) rfl rfl rfl ?_
  refine own_iload X54 hx hby od_prog_37_method_10_120 (pc' := 122) rfl rfl ?_
  refine own_aaD X54 hx hby hZ e54 V_b1 ⟨by decide, by decide⟩ (v := (.ref b9)) rfl od_prog_37_method_10_122 (pc' := 123) rfl ?_
  refine own_astore X54 hx hby od_prog_37_method_10_123 (pc' := 125) rfl rfl (Ls' := #[.val (.ref aM), .val (.ref ar), .val (.int (3 : Int32)), .val (.ref b1), .val (.ref b21), .val (.int (1 : Int32)), .val (.int (1 : Int32)), .val (.ref b9), .val (.double (13830554455654793216 : UInt64)), .second, .val (.int (3 : Int32)), .val (.double (0 : UInt64)), .second, .val (.int (3 : Int32))]) rfl ?_
  refine own_aloadN X54 hx hby od_prog_37_method_10_125 (pc' := 126) rfl rfl rfl ?_
  refine own_iload X54 hx hby od_prog_37_method_10_126 (pc' := 128) rfl rfl ?_
  refine own_aloadN X54 hx hby od_prog_37_method_10_128 (pc' := 129) rfl rfl rfl ?_
  refine own_iload X54 hx hby od_prog_37_method_10_129 (pc' := 131) rfl rfl ?_
  refine own_aaD X54 hx hby hZ e54 V_b1 ⟨by decide, by decide⟩ (v := (.ref b9)) rfl od_prog_37_method_10_131 (pc' := 132) rfl ?_
  refine own_asD X54 hx hby hZ e54 V_b1 (V_b9.exa) ⟨by decide, by decide⟩ 1 rfl (Nat.le_of_ble_eq_true rfl) (ys := [.ref b3, .ref b9, .ref b15]) rfl od_prog_37_method_10_132 (pc' := 133) rfl ?_
  intro T55 h55 X55 e55 W55 Q55
  have Ea56 := own_xw Ea52 W55 le2
  replace V_b3 := V_b3.other W55 (Ne.symm ne_b1_b3)
  replace V_b9 := V_b9.other W55 (Ne.symm ne_b1_b9)
  replace V_b15 := V_b15.other W55 (Ne.symm ne_b1_b15)
  replace V_b21 := V_b21.other W55 (Ne.symm ne_b1_b21)
  replace V_b1 := Q55
  have N55 := own_fr1 (sl := ((1 : Int32)).toNatClampNeg) N51 n0_b1
  refine own_aloadN X55 hx hby od_prog_37_method_10_133 (pc' := 134) rfl rfl rfl ?_
  refine own_iload X55 hx hby od_prog_37_method_10_134 (pc' := 136) rfl rfl ?_
  refine own_aload X55 hx hby od_prog_37_method_10_136 (pc' := 138) rfl rfl rfl ?_
  refine own_asD X55 hx hby hZ e55 V_b1 (V_b9.exa) ⟨by decide, by decide⟩ 1 rfl (Nat.le_of_ble_eq_true rfl) (ys := [.ref b3, .ref b9, .ref b15]) rfl od_prog_37_method_10_138 (pc' := 139) rfl ?_
  intro T57 h57 X57 e57 W57 Q57
  have Ea58 := own_xw Ea56 W57 le2
  replace V_b3 := V_b3.other W57 (Ne.symm ne_b1_b3)
  replace V_b9 := V_b9.other W57 (Ne.symm ne_b1_b9)
  replace V_b15 := V_b15.other W57 (Ne.symm ne_b1_b15)
  replace V_b21 := V_b21.other W57 (Ne.symm ne_b1_b21)
  replace V_b1 := Q57
  have N57 := own_fr1 (sl := ((1 : Int32)).toNatClampNeg) N55 n0_b1
  refine own_aload X57 hx hby od_prog_37_method_10_139 (pc' := 141) rfl rfl rfl ?_
  refine own_iload X57 hx hby od_prog_37_method_10_141 (pc' := 143) rfl rfl ?_
  refine own_daD X57 hx hby hZ e57 V_b21 ⟨by decide, by decide⟩ (v := (0 : UInt64)) rfl od_prog_37_method_10_143 (pc' := 144) rfl ?_
  refine own_dstore X57 hx hby od_prog_37_method_10_144 (pc' := 146) rfl (Ls' := #[.val (.ref aM), .val (.ref ar), .val (.int (3 : Int32)), .val (.ref b1), .val (.ref b21), .val (.int (1 : Int32)), .val (.int (1 : Int32)), .val (.ref b9), .val (.double (0 : UInt64)), .second, .val (.int (3 : Int32)), .val (.double (0 : UInt64)), .second, .val (.int (3 : Int32))]) rfl ?_
  refine own_aload X57 hx hby od_prog_37_method_10_146 (pc' := 148) rfl rfl rfl ?_
  refine own_iload X57 hx hby od_prog_37_method_10_148 (pc' := 150) rfl rfl ?_
  refine own_aload X57 hx hby od_prog_37_method_10_150 (pc' := 152) rfl rfl rfl ?_
  refine own_iload X57 hx hby od_prog_37_method_10_152 (pc' := 154) rfl rfl ?_
  refine own_daD X57 hx hby hZ e57 V_b21 ⟨by decide, by decide⟩ (v := (0 : UInt64)) rfl od_prog_37_method_10_154 (pc' := 155) rfl ?_
  refine own_dsD X57 hx hby hZ e57 V_b21 ⟨by decide, by decide⟩ 1 rfl (Nat.le_of_ble_eq_true rfl) (ys := [.double (13830554455654793216 : UInt64), .double (0 : UInt64), .double (0 : UInt64)]) rfl od_prog_37_method_10_155 (pc' := 156) rfl ?_
  intro T59 h59 X59 e59 W59 Q59
  have Ea60 := own_xw Ea58 W59 le22
  replace V_b1 := V_b1.other W59 ne_b1_b21
  replace V_b3 := V_b3.other W59 ne_b3_b21
  replace V_b9 := V_b9.other W59 ne_b9_b21
  replace V_b15 := V_b15.other W59 ne_b15_b21
  replace V_b21 := Q59
  have N59 := own_fr1 (sl := ((1 : Int32)).toNatClampNeg) N57 n0_b21
  refine own_aload X59 hx hby od_prog_37_method_10_156 (pc' := 158) rfl rfl rfl ?_
  refine own_iload X59 hx hby od_prog_37_method_10_158 (pc' := 160) rfl rfl ?_
  refine own_dload X59 hx hby od_prog_37_method_10_160 (pc' := 162) rfl rfl ?_
  refine own_dsD X59 hx hby hZ e59 V_b21 ⟨by decide, by decide⟩ 1 rfl (Nat.le_of_ble_eq_true rfl) (ys := [.double (13830554455654793216 : UInt64), .double (0 : UInt64), .double (0 : UInt64)]) rfl od_prog_37_method_10_162 (pc' := 163) rfl ?_
  intro T61 h61 X61 e61 W61 Q61
  have Ea62 := own_xw Ea60 W61 le22
  replace V_b1 := V_b1.other W61 ne_b1_b21
  replace V_b3 := V_b3.other W61 ne_b3_b21
  replace V_b9 := V_b9.other W61 ne_b9_b21
  replace V_b15 := V_b15.other W61 ne_b15_b21
  replace V_b21 := Q61
  have N61 := own_fr1 (sl := ((1 : Int32)).toNatClampNeg) N59 n0_b21
  refine own_iload X61 hx hby od_prog_37_method_10_163 (pc' := 165) rfl rfl ?_
  refine own_iconst X61 hx hby od_prog_37_method_10_165 (pc' := 166) rfl (z := 1) rfl ?_
  refine own_iaddE X61 hx hby od_prog_37_method_10_166 (pc' := 167) rfl (v := (2 : Int32)) rfl ?_
  refine own_istore X61 hx hby od_prog_37_method_10_167 (pc' := 169) rfl (Ls' := #[.val (.ref aM), .val (.ref ar), .val (.int (3 : Int32)), .val (.ref b1), .val (.ref b21), .val (.int (1 : Int32)), .val (.int (1 : Int32)), .val (.ref b9), .val (.double (0 : UInt64)), .second, .val (.int (2 : Int32)), .val (.double (0 : UInt64)), .second, .val (.int (3 : Int32))]) rfl ?_
  refine own_iload X61 hx hby od_prog_37_method_10_169 (pc' := 171) rfl rfl ?_
  refine own_iloadN X61 hx hby od_prog_37_method_10_171 (pc' := 172) rfl rfl ?_
  refine own_icmpN X61 hx hby od_prog_37_method_10_172 (pc' := 175) rfl (tlt (by decide)).2.1 ?_
  refine own_aloadN X61 hx hby od_prog_37_method_10_175 (pc' := 176) rfl rfl rfl ?_
  refine own_iload X61 hx hby od_prog_37_method_10_176 (pc' := 178) rfl rfl ?_
  refine own_aaD X61 hx hby hZ e61 V_b1 ⟨by decide, by decide⟩ (v := (.ref b15)) rfl od_prog_37_method_10_178 (pc' := 179) rfl ?_
  refine own_iload X61 hx hby od_prog_37_method_10_179 (pc' := 181) rfl rfl ?_
  refine own_daD X61 hx hby hZ e61 V_b15 ⟨by decide, by decide⟩ (v := (0 : UInt64)) rfl od_prog_37_method_10_181 (pc' := 182) rfl ?_
  refine own_aloadN X61 hx hby od_prog_37_method_10_182 (pc' := 183) rfl rfl rfl ?_
  refine own_iload X61 hx hby od_prog_37_method_10_183 (pc' := 185) rfl rfl ?_
  refine own_aaD X61 hx hby hZ e61 V_b1 ⟨by decide, by decide⟩ (v := (.ref b9)) rfl od_prog_37_method_10_185 (pc' := 186) rfl ?_
  refine own_iload X61 hx hby od_prog_37_method_10_186 (pc' := 188) rfl rfl ?_
  refine own_daD X61 hx hby hZ e61 V_b9 ⟨by decide, by decide⟩ (v := (4607182418800017408 : UInt64)) rfl od_prog_37_method_10_188 (pc' := 189) rfl ?_
  refine own_ddiv X61 hx hby od_prog_37_method_10_189 (pc' := 190) rfl okl_6.1 (v := (0 : UInt64)) okl_6.2 ?_
  refine own_dstore X61 hx hby od_prog_37_method_10_190 (pc' := 192) rfl (Ls' := #[.val (.ref aM), .val (.ref ar), .val (.int (3 : Int32)), .val (.ref b1), .val (.ref b21), .val (.int (1 : Int32)), .val (.int (1 : Int32)), .val (.ref b9), .val (.double (0 : UInt64)), .second, .val (.int (2 : Int32)), .val (.double (0 : UInt64)), .second, .val (.int (3 : Int32))]) rfl ?_
  refine own_iload X61 hx hby od_prog_37_method_10_192 (pc' := 194) rfl rfl ?_
  refine own_istore X61 hx hby od_prog_37_method_10_194 (pc' := 196) rfl (Ls' := #[.val (.ref aM), .val (.ref ar), .val (.int (3 : Int32)), .val (.ref b1), .val (.ref b21), .val (.int (1 : Int32)), .val (.int (1 : Int32)), .val (.ref b9), .val (.double (0 : UInt64)), .second, .val (.int (2 : Int32)), .val (.double (0 : UInt64)), .second, .val (.int (1 : Int32))]) rfl ?_
  refine own_iload X61 hx hby od_prog_37_method_10_196 (pc' := 198) rfl rfl ?_
  refine own_iloadN X61 hx hby od_prog_37_method_10_198 (pc' := 199) rfl rfl ?_
  refine own_icmpN X61 hx hby od_prog_37_method_10_199 (pc' := 202) rfl (tlt (by decide)).2.1 ?_
  refine own_aloadN X61 hx hby od_prog_37_method_10_202 (pc' := 203) rfl rfl rfl ?_
  refine own_iload X61 hx hby od_prog_37_method_10_203 (pc' := 205) rfl rfl ?_
  refine own_aaD X61 hx hby hZ e61 V_b1 ⟨by decide, by decide⟩ (v := (.ref b15)) rfl od_prog_37_method_10_205 (pc' := 206) rfl ?_
  refine own_iload X61 hx hby od_prog_37_method_10_206 (pc' := 208) rfl rfl ?_
  refine own_dup2 X61 hx hby od_prog_37_method_10_208 (pc' := 209) rfl rfl rfl ?_
  refine own_daD X61 hx hby hZ e61 V_b15 ⟨by decide, by decide⟩ (v := (0 : UInt64)) rfl od_prog_37_method_10_209 (pc' := 210) rfl ?_
  refine own_dload X61 hx hby od_prog_37_method_10_210 (pc' := 212) rfl rfl ?_
  refine own_aloadN X61 hx hby od_prog_37_method_10_212 (pc' := 213) rfl rfl rfl ?_
  refine own_iload X61 hx hby od_prog_37_method_10_213 (pc' := 215) rfl rfl ?_
  refine own_aaD X61 hx hby hZ e61 V_b1 ⟨by decide, by decide⟩ (v := (.ref b9)) rfl od_prog_37_method_10_215 (pc' := 216) rfl ?_
  refine own_iload X61 hx hby od_prog_37_method_10_216 (pc' := 218) rfl rfl ?_
  refine own_daD X61 hx hby hZ e61 V_b9 ⟨by decide, by decide⟩ (v := (4607182418800017408 : UInt64)) rfl od_prog_37_method_10_218 (pc' := 219) rfl ?_
  refine own_dmul X61 hx hby od_prog_37_method_10_219 (pc' := 220) rfl okl_7.1 (v := (0 : UInt64)) okl_7.2 ?_
  refine own_dsub X61 hx hby od_prog_37_method_10_220 (pc' := 221) rfl okl_8.1 (v := (0 : UInt64)) okl_8.2 ?_
  refine own_dsD X61 hx hby hZ e61 V_b15 ⟨by decide, by decide⟩ 1 rfl (Nat.le_of_ble_eq_true rfl) (ys := [.double (0 : UInt64), .double (0 : UInt64), .double (4607182418800017408 : UInt64)]) rfl od_prog_37_method_10_221 (pc' := 222) rfl ?_
  intro T63 h63 X63 e63 W63 Q63
  have Ea64 := own_xw Ea62 W63 le16
  replace V_b1 := V_b1.other W63 ne_b1_b15
  replace V_b3 := V_b3.other W63 ne_b3_b15
  replace V_b9 := V_b9.other W63 ne_b9_b15
  replace V_b21 := V_b21.other W63 (Ne.symm ne_b15_b21)
  replace V_b15 := Q63
  have N63 := own_fr1 (sl := ((1 : Int32)).toNatClampNeg) N61 n0_b15
  refine own_iinc X63 hx hby od_prog_37_method_10_222 (pc' := 225) rfl rfl (z := 1) rfl (Ls' := #[.val (.ref aM), .val (.ref ar), .val (.int (3 : Int32)), .val (.ref b1), .val (.ref b21), .val (.int (1 : Int32)), .val (.int (1 : Int32)), .val (.ref b9), .val (.double (0 : UInt64)), .second, .val (.int (2 : Int32)), .val (.double (0 : UInt64)), .second, .val (.int (2 : Int32))]) rfl ?_
  refine own_goto X63 hx hby od_prog_37_method_10_225 (by decide) (pc' := 196) (by decide) ?_
  refine own_iload X63 hx hby od_prog_37_method_10_196 (pc' := 198) rfl rfl ?_
  refine own_iloadN X63 hx hby od_prog_37_method_10_198 (pc' := 199) rfl rfl ?_
  refine own_icmpN X63 hx hby od_prog_37_method_10_199 (pc' := 202) rfl (tlt (by decide)).2.1 ?_
  refine own_aloadN X63 hx hby od_prog_37_method_10_202 (pc' := 203) rfl rfl rfl ?_
  refine own_iload X63 hx hby od_prog_37_method_10_203 (pc' := 205) rfl rfl ?_
  refine own_aaD X63 hx hby hZ e63 V_b1 ⟨by decide, by decide⟩ (v := (.ref b15)) rfl od_prog_37_method_10_205 (pc' := 206) rfl ?_
  refine own_iload X63 hx hby od_prog_37_method_10_206 (pc' := 208) rfl rfl ?_
  refine own_dup2 X63 hx hby od_prog_37_method_10_208 (pc' := 209) rfl rfl rfl ?_
  refine own_daD X63 hx hby hZ e63 V_b15 ⟨by decide, by decide⟩ (v := (4607182418800017408 : UInt64)) rfl od_prog_37_method_10_209 (pc' := 210) rfl ?_
  refine own_dload X63 hx hby od_prog_37_method_10_210 (pc' := 212) rfl rfl ?_
  refine own_aloadN X63 hx hby od_prog_37_method_10_212 (pc' := 213) rfl rfl rfl ?_
  refine own_iload X63 hx hby od_prog_37_method_10_213 (pc' := 215) rfl rfl ?_
  refine own_aaD X63 hx hby hZ e63 V_b1 ⟨by decide, by decide⟩ (v := (.ref b9)) rfl od_prog_37_method_10_215 (pc' := 216) rfl ?_
  refine own_iload X63 hx hby od_prog_37_method_10_216 (pc' := 218) rfl rfl ?_
  refine own_daD X63 hx hby hZ e63 V_b9 ⟨by decide, by decide⟩ (v := (0 : UInt64)) rfl od_prog_37_method_10_218 (pc' := 219) rfl ?_
  refine own_dmul X63 hx hby od_prog_37_method_10_219 (pc' := 220) rfl okl_12.1 (v := (0 : UInt64)) okl_12.2 ?_
  refine own_dsub X63 hx hby od_prog_37_method_10_220 (pc' := 221) rfl okl_9.1 (v := (4607182418800017408 : UInt64)) okl_9.2 ?_
  refine own_dsD X63 hx hby hZ e63 V_b15 ⟨by decide, by decide⟩ 2 rfl (Nat.le_of_ble_eq_true rfl) (ys := [.double (0 : UInt64), .double (0 : UInt64), .double (4607182418800017408 : UInt64)]) rfl od_prog_37_method_10_221 (pc' := 222) rfl ?_
  intro T65 h65 X65 e65 W65 Q65
  have Ea66 := own_xw Ea64 W65 le16
  replace V_b1 := V_b1.other W65 ne_b1_b15
  replace V_b3 := V_b3.other W65 ne_b3_b15
  replace V_b9 := V_b9.other W65 ne_b9_b15
  replace V_b21 := V_b21.other W65 (Ne.symm ne_b15_b21)
  replace V_b15 := Q65
  have N65 := own_fr1 (sl := ((2 : Int32)).toNatClampNeg) N63 n0_b15
  refine own_iinc X65 hx hby od_prog_37_method_10_222 (pc' := 225) rfl rfl (z := 1) rfl (Ls' := #[.val (.ref aM), .val (.ref ar), .val (.int (3 : Int32)), .val (.ref b1), .val (.ref b21), .val (.int (1 : Int32)), .val (.int (1 : Int32)), .val (.ref b9), .val (.double (0 : UInt64)), .second, .val (.int (2 : Int32)), .val (.double (0 : UInt64)), .second, .val (.int (3 : Int32))]) rfl ?_
  refine own_goto X65 hx hby od_prog_37_method_10_225 (by decide) (pc' := 196) (by decide) ?_
  refine own_iload X65 hx hby od_prog_37_method_10_196 (pc' := 198) rfl rfl ?_
  refine own_iloadN X65 hx hby od_prog_37_method_10_198 (pc' := 199) rfl rfl ?_
  refine own_icmpY X65 hx hby od_prog_37_method_10_199 (by decide) (pc' := 228) (by decide) (flt (by decide)).2.1 ?_
  refine own_aload X65 hx hby od_prog_37_method_10_228 (pc' := 230) rfl rfl rfl ?_
  refine own_iload X65 hx hby od_prog_37_method_10_230 (pc' := 232) rfl rfl ?_
  refine own_dup2 X65 hx hby od_prog_37_method_10_232 (pc' := 233) rfl rfl rfl ?_
  refine own_daD X65 hx hby hZ e65 V_b21 ⟨by decide, by decide⟩ (v := (0 : UInt64)) rfl od_prog_37_method_10_233 (pc' := 234) rfl ?_
  refine own_dload X65 hx hby od_prog_37_method_10_234 (pc' := 236) rfl rfl ?_
  refine own_aload X65 hx hby od_prog_37_method_10_236 (pc' := 238) rfl rfl rfl ?_
  refine own_iload X65 hx hby od_prog_37_method_10_238 (pc' := 240) rfl rfl ?_
  refine own_daD X65 hx hby hZ e65 V_b21 ⟨by decide, by decide⟩ (v := (0 : UInt64)) rfl od_prog_37_method_10_240 (pc' := 241) rfl ?_
  refine own_dmul X65 hx hby od_prog_37_method_10_241 (pc' := 242) rfl okl_12.1 (v := (0 : UInt64)) okl_12.2 ?_
  refine own_dsub X65 hx hby od_prog_37_method_10_242 (pc' := 243) rfl okl_8.1 (v := (0 : UInt64)) okl_8.2 ?_
  refine own_dsD X65 hx hby hZ e65 V_b21 ⟨by decide, by decide⟩ 2 rfl (Nat.le_of_ble_eq_true rfl) (ys := [.double (13830554455654793216 : UInt64), .double (0 : UInt64), .double (0 : UInt64)]) rfl od_prog_37_method_10_243 (pc' := 244) rfl ?_
  intro T67 h67 X67 e67 W67 Q67
  have Ea68 := own_xw Ea66 W67 le22
  replace V_b1 := V_b1.other W67 ne_b1_b21
  replace V_b3 := V_b3.other W67 ne_b3_b21
  replace V_b9 := V_b9.other W67 ne_b9_b21
  replace V_b15 := V_b15.other W67 ne_b15_b21
  replace V_b21 := Q67
  have N67 := own_fr1 (sl := ((2 : Int32)).toNatClampNeg) N65 n0_b21
  refine own_iinc X67 hx hby od_prog_37_method_10_244 (pc' := 247) rfl rfl (z := 1) rfl (Ls' := #[.val (.ref aM), .val (.ref ar), .val (.int (3 : Int32)), .val (.ref b1), .val (.ref b21), .val (.int (1 : Int32)), .val (.int (1 : Int32)), .val (.ref b9), .val (.double (0 : UInt64)), .second, .val (.int (3 : Int32)), .val (.double (0 : UInt64)), .second, .val (.int (3 : Int32))]) rfl ?_
  refine own_goto X67 hx hby od_prog_37_method_10_247 (by decide) (pc' := 169) (by decide) ?_
  refine own_iload X67 hx hby od_prog_37_method_10_169 (pc' := 171) rfl rfl ?_
  refine own_iloadN X67 hx hby od_prog_37_method_10_171 (pc' := 172) rfl rfl ?_
  refine own_icmpY X67 hx hby od_prog_37_method_10_172 (by decide) (pc' := 250) (by decide) (flt (by decide)).2.1 ?_
  refine own_iinc X67 hx hby od_prog_37_method_10_250 (pc' := 253) rfl rfl (z := 1) rfl (Ls' := #[.val (.ref aM), .val (.ref ar), .val (.int (3 : Int32)), .val (.ref b1), .val (.ref b21), .val (.int (2 : Int32)), .val (.int (1 : Int32)), .val (.ref b9), .val (.double (0 : UInt64)), .second, .val (.int (3 : Int32)), .val (.double (0 : UInt64)), .second, .val (.int (3 : Int32))]) rfl ?_
  refine own_goto X67 hx hby od_prog_37_method_10_253 (by decide) (pc' := 49) (by decide) ?_
  refine own_iload X67 hx hby od_prog_37_method_10_49 (pc' := 51) rfl rfl ?_
  refine own_iloadN X67 hx hby od_prog_37_method_10_51 (pc' := 52) rfl rfl ?_
  refine own_icmpN X67 hx hby od_prog_37_method_10_52 (pc' := 55) rfl (tlt (by decide)).2.1 ?_
  refine own_iload X67 hx hby od_prog_37_method_10_55 (pc' := 57) rfl rfl ?_
  refine own_istore X67 hx hby od_prog_37_method_10_57 (pc' := 59) rfl (Ls' := #[.val (.ref aM), .val (.ref ar), .val (.int (3 : Int32)), .val (.ref b1), .val (.ref b21), .val (.int (2 : Int32)), .val (.int (2 : Int32)), .val (.ref b9), .val (.double (0 : UInt64)), .second, .val (.int (3 : Int32)), .val (.double (0 : UInt64)), .second, .val (.int (3 : Int32))]) rfl ?_
  refine own_iload X67 hx hby od_prog_37_method_10_59 (pc' := 61) rfl rfl ?_
  refine own_iconst X67 hx hby od_prog_37_method_10_61 (pc' := 62) rfl (z := 1) rfl ?_
  refine own_iaddE X67 hx hby od_prog_37_method_10_62 (pc' := 63) rfl (v := (3 : Int32)) rfl ?_
  refine own_istore X67 hx hby od_prog_37_method_10_63 (pc' := 65) rfl (Ls' := #[.val (.ref aM), .val (.ref ar), .val (.int (3 : Int32)), .val (.ref b1), .val (.ref b21), .val (.int (2 : Int32)), .val (.int (2 : Int32)), .val (.int (3 : Int32)), .val (.double (0 : UInt64)), .second, .val (.int (3 : Int32)), .val (.double (0 : UInt64)), .second, .val (.int (3 : Int32))]) rfl ?_
  refine own_iload X67 hx hby od_prog_37_method_10_65 (pc' := 67) rfl rfl ?_
  refine own_iloadN X67 hx hby od_prog_37_method_10_67 (pc' := 68) rfl rfl ?_
  refine own_icmpY X67 hx hby od_prog_37_method_10_68 (by decide) (pc' := 105) (by decide) (flt (by decide)).2.1 ?_
  refine own_aloadN X67 hx hby od_prog_37_method_10_105 (pc' := 106) rfl rfl rfl ?_
  refine own_iload X67 hx hby od_prog_37_method_10_106 (pc' := 108) rfl rfl ?_
  refine own_aaD X67 hx hby hZ e67 V_b1 ⟨by decide, by decide⟩ (v := (.ref b15)) rfl od_prog_37_method_10_108 (pc' := 109) rfl ?_
  refine own_iload X67 hx hby od_prog_37_method_10_109 (pc' := 111) rfl rfl ?_
  refine own_daD X67 hx hby hZ e67 V_b15 ⟨by decide, by decide⟩ (v := (4607182418800017408 : UInt64)) rfl od_prog_37_method_10_111 (pc' := 112) rfl ?_
  refine own_dconst0 X67 hx hby od_prog_37_method_10_112 (pc' := 113) rfl (v := (0 : UInt64)) rfl ?_
  refine own_dcmp X67 hx hby od_prog_37_method_10_113 (pc' := 114) rfl (v := (1 : Int32)) okl_0 ?_
  refine own_ifY X67 hx hby od_prog_37_method_10_114 (by decide) (pc' := 119) (by decide) (feq (by decide)).2 ?_
  refine own_aloadN X67 hx hby od_prog_37_method_10_119 (pc' := 120) rfl rfl rfl ?_
  refine own_iload X67 hx hby od_prog_37_method_10_120 (pc' := 122) rfl rfl ?_
  refine own_aaD X67 hx hby hZ e67 V_b1 ⟨by decide, by decide⟩ (v := (.ref b15)) rfl od_prog_37_method_10_122 (pc' := 123) rfl ?_
  refine own_astore X67 hx hby od_prog_37_method_10_123 (pc' := 125) rfl rfl (Ls' := #[.val (.ref aM), .val (.ref ar), .val (.int (3 : Int32)), .val (.ref b1), .val (.ref b21), .val (.int (2 : Int32)), .val (.int (2 : Int32)), .val (.ref b15), .val (.double (0 : UInt64)), .second, .val (.int (3 : Int32)), .val (.double (0 : UInt64)), .second, .val (.int (3 : Int32))]) rfl ?_
  refine own_aloadN X67 hx hby od_prog_37_method_10_125 (pc' := 126) rfl rfl rfl ?_
  refine own_iload X67 hx hby od_prog_37_method_10_126 (pc' := 128) rfl rfl ?_
  refine own_aloadN X67 hx hby od_prog_37_method_10_128 (pc' := 129) rfl rfl rfl ?_
  refine own_iload X67 hx hby od_prog_37_method_10_129 (pc' := 131) rfl rfl ?_
  refine own_aaD X67 hx hby hZ e67 V_b1 ⟨by decide, by decide⟩ (v := (.ref b15)) rfl od_prog_37_method_10_131 (pc' := 132) rfl ?_
  refine own_asD X67 hx hby hZ e67 V_b1 (V_b15.exa) ⟨by decide, by decide⟩ 2 rfl (Nat.le_of_ble_eq_true rfl) (ys := [.ref b3, .ref b9, .ref b15]) rfl od_prog_37_method_10_132 (pc' := 133) rfl ?_
  intro T69 h69 X69 e69 W69 Q69
  have Ea70 := own_xw Ea68 W69 le2
  replace V_b3 := V_b3.other W69 (Ne.symm ne_b1_b3)
  replace V_b9 := V_b9.other W69 (Ne.symm ne_b1_b9)
  replace V_b15 := V_b15.other W69 (Ne.symm ne_b1_b15)
  replace V_b21 := V_b21.other W69 (Ne.symm ne_b1_b21)
  replace V_b1 := Q69
  have N69 := own_fr1 (sl := ((2 : Int32)).toNatClampNeg) N67 n0_b1
  refine own_aloadN X69 hx hby od_prog_37_method_10_133 (pc' := 134) rfl rfl rfl ?_
  refine own_iload X69 hx hby od_prog_37_method_10_134 (pc' := 136) rfl rfl ?_
  refine own_aload X69 hx hby od_prog_37_method_10_136 (pc' := 138) rfl rfl rfl ?_
  refine own_asD X69 hx hby hZ e69 V_b1 (V_b15.exa) ⟨by decide, by decide⟩ 2 rfl (Nat.le_of_ble_eq_true rfl) (ys := [.ref b3, .ref b9, .ref b15]) rfl od_prog_37_method_10_138 (pc' := 139) rfl ?_
  intro T71 h71 X71 e71 W71 Q71
  have Ea72 := own_xw Ea70 W71 le2
  replace V_b3 := V_b3.other W71 (Ne.symm ne_b1_b3)
  replace V_b9 := V_b9.other W71 (Ne.symm ne_b1_b9)
  replace V_b15 := V_b15.other W71 (Ne.symm ne_b1_b15)
  replace V_b21 := V_b21.other W71 (Ne.symm ne_b1_b21)
  replace V_b1 := Q71
  have N71 := own_fr1 (sl := ((2 : Int32)).toNatClampNeg) N69 n0_b1
  refine own_aload X71 hx hby od_prog_37_method_10_139 (pc' := 141) rfl rfl rfl ?_
  refine own_iload X71 hx hby od_prog_37_method_10_141 (pc' := 143) rfl rfl ?_
  refine own_daD X71 hx hby hZ e71 V_b21 ⟨by decide, by decide⟩ (v := (0 : UInt64)) rfl od_prog_37_method_10_143 (pc' := 144) rfl ?_
  refine own_dstore X71 hx hby od_prog_37_method_10_144 (pc' := 146) rfl (Ls' := #[.val (.ref aM), .val (.ref ar), .val (.int (3 : Int32)), .val (.ref b1), .val (.ref b21), .val (.int (2 : Int32)), .val (.int (2 : Int32)), .val (.ref b15), .val (.double (0 : UInt64)), .second, .val (.int (3 : Int32)), .val (.double (0 : UInt64)), .second, .val (.int (3 : Int32))]) rfl ?_
  refine own_aload X71 hx hby od_prog_37_method_10_146 (pc' := 148) rfl rfl rfl ?_
  refine own_iload X71 hx hby od_prog_37_method_10_148 (pc' := 150) rfl rfl ?_
  refine own_aload X71 hx hby od_prog_37_method_10_150 (pc' := 152) rfl rfl rfl ?_
  refine own_iload X71 hx hby od_prog_37_method_10_152 (pc' := 154) rfl rfl ?_
  refine own_daD X71 hx hby hZ e71 V_b21 ⟨by decide, by decide⟩ (v := (0 : UInt64)) rfl od_prog_37_method_10_154 (pc' := 155) rfl ?_
  refine own_dsD X71 hx hby hZ e71 V_b21 ⟨by decide, by decide⟩ 2 rfl (Nat.le_of_ble_eq_true rfl) (ys := [.double (13830554455654793216 : UInt64), .double (0 : UInt64), .double (0 : UInt64)]) rfl od_prog_37_method_10_155 (pc' := 156) rfl ?_
  intro T73 h73 X73 e73 W73 Q73
  have Ea74 := own_xw Ea72 W73 le22
  replace V_b1 := V_b1.other W73 ne_b1_b21
  replace V_b3 := V_b3.other W73 ne_b3_b21
  replace V_b9 := V_b9.other W73 ne_b9_b21
  replace V_b15 := V_b15.other W73 ne_b15_b21
  replace V_b21 := Q73
  have N73 := own_fr1 (sl := ((2 : Int32)).toNatClampNeg) N71 n0_b21
  refine own_aload X73 hx hby od_prog_37_method_10_156 (pc' := 158) rfl rfl rfl ?_
  refine own_iload X73 hx hby od_prog_37_method_10_158 (pc' := 160) rfl rfl ?_
  refine own_dload X73 hx hby od_prog_37_method_10_160 (pc' := 162) rfl rfl ?_
  refine own_dsD X73 hx hby hZ e73 V_b21 ⟨by decide, by decide⟩ 2 rfl (Nat.le_of_ble_eq_true rfl) (ys := [.double (13830554455654793216 : UInt64), .double (0 : UInt64), .double (0 : UInt64)]) rfl od_prog_37_method_10_162 (pc' := 163) rfl ?_
  intro T75 h75 X75 e75 W75 Q75
  have Ea76 := own_xw Ea74 W75 le22
  replace V_b1 := V_b1.other W75 ne_b1_b21
  replace V_b3 := V_b3.other W75 ne_b3_b21
  replace V_b9 := V_b9.other W75 ne_b9_b21
  replace V_b15 := V_b15.other W75 ne_b15_b21
  replace V_b21 := Q75
  have N75 := own_fr1 (sl := ((2 : Int32)).toNatClampNeg) N73 n0_b21
  refine own_iload X75 hx hby od_prog_37_method_10_163 (pc' := 165) rfl rfl ?_
  refine own_iconst X75 hx hby od_prog_37_method_10_165 (pc' := 166) rfl (z := 1) rfl ?_
  refine own_iaddE X75 hx hby od_prog_37_method_10_166 (pc' := 167) rfl (v := (3 : Int32)) rfl ?_
  refine own_istore X75 hx hby od_prog_37_method_10_167 (pc' := 169) rfl (Ls' := #[.val (.ref aM), .val (.ref ar), .val (.int (3 : Int32)), .val (.ref b1), .val (.ref b21), .val (.int (2 : Int32)), .val (.int (2 : Int32)), .val (.ref b15), .val (.double (0 : UInt64)), .second, .val (.int (3 : Int32)), .val (.double (0 : UInt64)), .second, .val (.int (3 : Int32))]) rfl ?_
  refine own_iload X75 hx hby od_prog_37_method_10_169 (pc' := 171) rfl rfl ?_
  refine own_iloadN X75 hx hby od_prog_37_method_10_171 (pc' := 172) rfl rfl ?_
  refine own_icmpY X75 hx hby od_prog_37_method_10_172 (by decide) (pc' := 250) (by decide) (flt (by decide)).2.1 ?_
  refine own_iinc X75 hx hby od_prog_37_method_10_250 (pc' := 253) rfl rfl (z := 1) rfl (Ls' := #[.val (.ref aM), .val (.ref ar), .val (.int (3 : Int32)), .val (.ref b1), .val (.ref b21), .val (.int (3 : Int32)), .val (.int (2 : Int32)), .val (.ref b15), .val (.double (0 : UInt64)), .second, .val (.int (3 : Int32)), .val (.double (0 : UInt64)), .second, .val (.int (3 : Int32))]) rfl ?_
  refine own_goto X75 hx hby od_prog_37_method_10_253 (by decide) (pc' := 49) (by decide) ?_
  refine own_iload X75 hx hby od_prog_37_method_10_49 (pc' := 51) rfl rfl ?_
  refine own_iloadN X75 hx hby od_prog_37_method_10_51 (pc' := 52) rfl rfl ?_
  refine own_icmpY X75 hx hby od_prog_37_method_10_52 (by decide) (pc' := 256) (by decide) (flt (by decide)).2.1 ?_
  refine own_iloadN X75 hx hby od_prog_37_method_10_256 (pc' := 257) rfl rfl ?_
  refine own_newD X75 hx hby hZ (ow_4 hw) e75 od_prog_37_method_10_257 (pc' := 259) rfl (by decide) (cap := 3) (by decide) (by decide) (by decide) (by decide) (vs := [.double (0 : UInt64), .double (0 : UInt64), .double (0 : UInt64)]) rfl ?_
  intro T77 h77 b77 g77 X77 e77 E77 V_b77
  have ne_b1_b77 : b1 ≠ b77 := own_nl V_b1.lt g77
  have ne_b3_b77 : b3 ≠ b77 := own_nl V_b3.lt g77
  have ne_b9_b77 : b9 ≠ b77 := own_nl V_b9.lt g77
  have ne_b15_b77 : b15 ≠ b77 := own_nl V_b15.lt g77
  have ne_b21_b77 : b21 ≠ b77 := own_nl V_b21.lt g77
  have le78 : h0.size ≤ b77 := Nat.le_trans Ea76.1 (Nat.le_of_eq g77.symm)
  have n0_b77 : n0 ≤ b77 := Nat.le_trans (Nat.le_trans Z0 Ea76.1) (Nat.le_of_eq g77.symm)
  have Ea79 := own_xt Ea76 E77
  replace V_b1 := V_b1.ext E77
  replace V_b3 := V_b3.ext E77
  replace V_b9 := V_b9.ext E77
  replace V_b15 := V_b15.ext E77
  replace V_b21 := V_b21.ext E77
  refine own_astore X77 hx hby od_prog_37_method_10_259 (pc' := 261) rfl rfl (Ls' := #[.val (.ref aM), .val (.ref ar), .val (.int (3 : Int32)), .val (.ref b1), .val (.ref b21), .val (.ref b77), .val (.int (2 : Int32)), .val (.ref b15), .val (.double (0 : UInt64)), .second, .val (.int (3 : Int32)), .val (.double (0 : UInt64)), .second, .val (.int (3 : Int32))]) rfl ?_
  refine own_iloadN X77 hx hby od_prog_37_method_10_261 (pc' := 262) rfl rfl ?_
  refine own_iconst X77 hx hby od_prog_37_method_10_262 (pc' := 263) rfl (z := 1) rfl ?_
  refine own_isubE X77 hx hby od_prog_37_method_10_263 (pc' := 264) rfl (v := (2 : Int32)) rfl ?_
  refine own_istore X77 hx hby od_prog_37_method_10_264 (pc' := 266) rfl (Ls' := #[.val (.ref aM), .val (.ref ar), .val (.int (3 : Int32)), .val (.ref b1), .val (.ref b21), .val (.ref b77), .val (.int (2 : Int32)), .val (.ref b15), .val (.double (0 : UInt64)), .second, .val (.int (3 : Int32)), .val (.double (0 : UInt64)), .second, .val (.int (3 : Int32))]) rfl ?_
  refine own_iload X77 hx hby od_prog_37_method_10_266 (pc' := 268) rfl rfl ?_
  refine own_ifN X77 hx hby od_prog_37_method_10_268 (pc' := 271) rfl (flt (by decide)).1 ?_
  refine own_aload X77 hx hby od_prog_37_method_10_271 (pc' := 273) rfl rfl rfl ?_
  refine own_iload X77 hx hby od_prog_37_method_10_273 (pc' := 275) rfl rfl ?_
  refine own_daD X77 hx hby hZ e77 V_b21 ⟨by decide, by decide⟩ (v := (0 : UInt64)) rfl od_prog_37_method_10_275 (pc' := 276) rfl ?_
  refine own_dstore X77 hx hby od_prog_37_method_10_276 (pc' := 278) rfl (Ls' := #[.val (.ref aM), .val (.ref ar), .val (.int (3 : Int32)), .val (.ref b1), .val (.ref b21), .val (.ref b77), .val (.int (2 : Int32)), .val (.double (0 : UInt64)), .second, .unset, .val (.int (3 : Int32)), .val (.double (0 : UInt64)), .second, .val (.int (3 : Int32))]) rfl ?_
  refine own_iload X77 hx hby od_prog_37_method_10_278 (pc' := 280) rfl rfl ?_
  refine own_iconst X77 hx hby od_prog_37_method_10_280 (pc' := 281) rfl (z := 1) rfl ?_
  refine own_iaddE X77 hx hby od_prog_37_method_10_281 (pc' := 282) rfl (v := (3 : Int32)) rfl ?_
  refine own_istore X77 hx hby od_prog_37_method_10_282 (pc' := 284) rfl (Ls' := #[.val (.ref aM), .val (.ref ar), .val (.int (3 : Int32)), .val (.ref b1), .val (.ref b21), .val (.ref b77), .val (.int (2 : Int32)), .val (.double (0 : UInt64)), .second, .val (.int (3 : Int32)), .val (.int (3 : Int32)), .val (.double (0 : UInt64)), .second, .val (.int (3 : Int32))]) rfl ?_
  refine own_iload X77 hx hby od_prog_37_method_10_284 (pc' := 286) rfl rfl ?_
  refine own_iloadN X77 hx hby od_prog_37_method_10_286 (pc' := 287) rfl rfl ?_
  refine own_icmpY X77 hx hby od_prog_37_method_10_287 (by decide) (pc' := 314) (by decide) (flt (by decide)).2.1 ?_
  refine own_aload X77 hx hby od_prog_37_method_10_314 (pc' := 316) rfl rfl rfl ?_
  refine own_iload X77 hx hby od_prog_37_method_10_316 (pc' := 318) rfl rfl ?_
  refine own_dload X77 hx hby od_prog_37_method_10_318 (pc' := 320) rfl rfl ?_
  refine own_aloadN X77 hx hby od_prog_37_method_10_320 (pc' := 321) rfl rfl rfl ?_
  refine own_iload X77 hx hby od_prog_37_method_10_321 (pc' := 323) rfl rfl ?_
  refine own_aaD X77 hx hby hZ e77 V_b1 ⟨by decide, by decide⟩ (v := (.ref b15)) rfl od_prog_37_method_10_323 (pc' := 324) rfl ?_
  refine own_iload X77 hx hby od_prog_37_method_10_324 (pc' := 326) rfl rfl ?_
  refine own_daD X77 hx hby hZ e77 V_b15 ⟨by decide, by decide⟩ (v := (4607182418800017408 : UInt64)) rfl od_prog_37_method_10_326 (pc' := 327) rfl ?_
  refine own_ddiv X77 hx hby od_prog_37_method_10_327 (pc' := 328) rfl okl_6.1 (v := (0 : UInt64)) okl_6.2 ?_
  refine own_dsD X77 hx hby hZ e77 V_b77 ⟨by decide, by decide⟩ 2 rfl (Nat.le_of_ble_eq_true rfl) (ys := [.double (0 : UInt64), .double (0 : UInt64), .double (0 : UInt64)]) rfl od_prog_37_method_10_328 (pc' := 329) rfl ?_
  intro T80 h80 X80 e80 W80 Q80
  have Ea81 := own_xw Ea79 W80 le78
  replace V_b1 := V_b1.other W80 ne_b1_b77
  replace V_b3 := V_b3.other W80 ne_b3_b77
  replace V_b9 := V_b9.other W80 ne_b9_b77
  replace V_b15 := V_b15.other W80 ne_b15_b77
  replace V_b21 := V_b21.other W80 ne_b21_b77
  replace V_b77 := Q80
  have N80 := own_fr1 (sl := ((2 : Int32)).toNatClampNeg) N75 n0_b77
  refine own_aload X80 hx hby od_prog_37_method_10_329 (pc' := 331) rfl rfl rfl ?_
  refine own_iload X80 hx hby od_prog_37_method_10_331 (pc' := 333) rfl rfl ?_
  refine own_daD X80 hx hby hZ e80 V_b77 ⟨by decide, by decide⟩ (v := (0 : UInt64)) rfl od_prog_37_method_10_333 (pc' := 334) rfl ?_
  refine own_callM X80 hx hby hml hZ hown (ow_44 hw) (ow_45 hw) (ow_46 hw) (ow_47 hw) (by decide) (cc := 0) (ss := 0) (rm_fin l Z a0 hw (0 : UInt64) h80 n0 (Nat.le_trans Z0 Ea81.1) okl_13) 0 rfl rfl (by decide) (by decide) rfl (argsL := [(.double (0 : UInt64))]) (rest := []) opd_0 rfl rfl (Nat.le_refl _) od_prog_37_method_10_334 (pc' := 337) rfl rfl e80 (by decide) (by decide) ?_
  rintro v82 T82 h82 L82 X82 e82 ⟨rfl, Nq82, rfl⟩
  have N82 := N80.app Nq82
  refine own_ifY X82 hx hby od_prog_37_method_10_337 (by decide) (pc' := 342) (by decide) (feq (by decide)).2 ?_
  refine own_iinc X82 hx hby od_prog_37_method_10_342 (pc' := 345) rfl rfl (z := (-1)) rfl (Ls' := #[.val (.ref aM), .val (.ref ar), .val (.int (3 : Int32)), .val (.ref b1), .val (.ref b21), .val (.ref b77), .val (.int (1 : Int32)), .val (.double (0 : UInt64)), .second, .val (.int (3 : Int32)), .val (.int (3 : Int32)), .val (.double (0 : UInt64)), .second, .val (.int (3 : Int32))]) rfl ?_
  refine own_goto X82 hx hby od_prog_37_method_10_345 (by decide) (pc' := 266) (by decide) ?_
  refine own_iload X82 hx hby od_prog_37_method_10_266 (pc' := 268) rfl rfl ?_
  refine own_ifN X82 hx hby od_prog_37_method_10_268 (pc' := 271) rfl (flt (by decide)).1 ?_
  refine own_aload X82 hx hby od_prog_37_method_10_271 (pc' := 273) rfl rfl rfl ?_
  refine own_iload X82 hx hby od_prog_37_method_10_273 (pc' := 275) rfl rfl ?_
  refine own_daD X82 hx hby hZ e82 V_b21 ⟨by decide, by decide⟩ (v := (0 : UInt64)) rfl od_prog_37_method_10_275 (pc' := 276) rfl ?_
  refine own_dstore X82 hx hby od_prog_37_method_10_276 (pc' := 278) rfl (Ls' := #[.val (.ref aM), .val (.ref ar), .val (.int (3 : Int32)), .val (.ref b1), .val (.ref b21), .val (.ref b77), .val (.int (1 : Int32)), .val (.double (0 : UInt64)), .second, .val (.int (3 : Int32)), .val (.int (3 : Int32)), .val (.double (0 : UInt64)), .second, .val (.int (3 : Int32))]) rfl ?_
  refine own_iload X82 hx hby od_prog_37_method_10_278 (pc' := 280) rfl rfl ?_
  refine own_iconst X82 hx hby od_prog_37_method_10_280 (pc' := 281) rfl (z := 1) rfl ?_
  refine own_iaddE X82 hx hby od_prog_37_method_10_281 (pc' := 282) rfl (v := (2 : Int32)) rfl ?_
  refine own_istore X82 hx hby od_prog_37_method_10_282 (pc' := 284) rfl (Ls' := #[.val (.ref aM), .val (.ref ar), .val (.int (3 : Int32)), .val (.ref b1), .val (.ref b21), .val (.ref b77), .val (.int (1 : Int32)), .val (.double (0 : UInt64)), .second, .val (.int (2 : Int32)), .val (.int (3 : Int32)), .val (.double (0 : UInt64)), .second, .val (.int (3 : Int32))]) rfl ?_
  refine own_iload X82 hx hby od_prog_37_method_10_284 (pc' := 286) rfl rfl ?_
  refine own_iloadN X82 hx hby od_prog_37_method_10_286 (pc' := 287) rfl rfl ?_
  refine own_icmpN X82 hx hby od_prog_37_method_10_287 (pc' := 290) rfl (tlt (by decide)).2.1 ?_
  refine own_dload X82 hx hby od_prog_37_method_10_290 (pc' := 292) rfl rfl ?_
  refine own_aloadN X82 hx hby od_prog_37_method_10_292 (pc' := 293) rfl rfl rfl ?_
  refine own_iload X82 hx hby od_prog_37_method_10_293 (pc' := 295) rfl rfl ?_
  refine own_aaD X82 hx hby hZ e82 V_b1 ⟨by decide, by decide⟩ (v := (.ref b9)) rfl od_prog_37_method_10_295 (pc' := 296) rfl ?_
  refine own_iload X82 hx hby od_prog_37_method_10_296 (pc' := 298) rfl rfl ?_
  refine own_daD X82 hx hby hZ e82 V_b9 ⟨by decide, by decide⟩ (v := (0 : UInt64)) rfl od_prog_37_method_10_298 (pc' := 299) rfl ?_
  refine own_aload X82 hx hby od_prog_37_method_10_299 (pc' := 301) rfl rfl rfl ?_
  refine own_iload X82 hx hby od_prog_37_method_10_301 (pc' := 303) rfl rfl ?_
  refine own_daD X82 hx hby hZ e82 V_b77 ⟨by decide, by decide⟩ (v := (0 : UInt64)) rfl od_prog_37_method_10_303 (pc' := 304) rfl ?_
  refine own_dmul X82 hx hby od_prog_37_method_10_304 (pc' := 305) rfl okl_12.1 (v := (0 : UInt64)) okl_12.2 ?_
  refine own_dsub X82 hx hby od_prog_37_method_10_305 (pc' := 306) rfl okl_8.1 (v := (0 : UInt64)) okl_8.2 ?_
  refine own_dstore X82 hx hby od_prog_37_method_10_306 (pc' := 308) rfl (Ls' := #[.val (.ref aM), .val (.ref ar), .val (.int (3 : Int32)), .val (.ref b1), .val (.ref b21), .val (.ref b77), .val (.int (1 : Int32)), .val (.double (0 : UInt64)), .second, .val (.int (2 : Int32)), .val (.int (3 : Int32)), .val (.double (0 : UInt64)), .second, .val (.int (3 : Int32))]) rfl ?_
  refine own_iinc X82 hx hby od_prog_37_method_10_308 (pc' := 311) rfl rfl (z := 1) rfl (Ls' := #[.val (.ref aM), .val (.ref ar), .val (.int (3 : Int32)), .val (.ref b1), .val (.ref b21), .val (.ref b77), .val (.int (1 : Int32)), .val (.double (0 : UInt64)), .second, .val (.int (3 : Int32)), .val (.int (3 : Int32)), .val (.double (0 : UInt64)), .second, .val (.int (3 : Int32))]) rfl ?_
  refine own_goto X82 hx hby od_prog_37_method_10_311 (by decide) (pc' := 284) (by decide) ?_
  refine own_iload X82 hx hby od_prog_37_method_10_284 (pc' := 286) rfl rfl ?_
  refine own_iloadN X82 hx hby od_prog_37_method_10_286 (pc' := 287) rfl rfl ?_
  refine own_icmpY X82 hx hby od_prog_37_method_10_287 (by decide) (pc' := 314) (by decide) (flt (by decide)).2.1 ?_
  refine own_aload X82 hx hby od_prog_37_method_10_314 (pc' := 316) rfl rfl rfl ?_
  refine own_iload X82 hx hby od_prog_37_method_10_316 (pc' := 318) rfl rfl ?_
  refine own_dload X82 hx hby od_prog_37_method_10_318 (pc' := 320) rfl rfl ?_
  refine own_aloadN X82 hx hby od_prog_37_method_10_320 (pc' := 321) rfl rfl rfl ?_
  refine own_iload X82 hx hby od_prog_37_method_10_321 (pc' := 323) rfl rfl ?_
  refine own_aaD X82 hx hby hZ e82 V_b1 ⟨by decide, by decide⟩ (v := (.ref b9)) rfl od_prog_37_method_10_323 (pc' := 324) rfl ?_
  refine own_iload X82 hx hby od_prog_37_method_10_324 (pc' := 326) rfl rfl ?_
  refine own_daD X82 hx hby hZ e82 V_b9 ⟨by decide, by decide⟩ (v := (4607182418800017408 : UInt64)) rfl od_prog_37_method_10_326 (pc' := 327) rfl ?_
  refine own_ddiv X82 hx hby od_prog_37_method_10_327 (pc' := 328) rfl okl_6.1 (v := (0 : UInt64)) okl_6.2 ?_
  refine own_dsD X82 hx hby hZ e82 V_b77 ⟨by decide, by decide⟩ 1 rfl (Nat.le_of_ble_eq_true rfl) (ys := [.double (0 : UInt64), .double (0 : UInt64), .double (0 : UInt64)]) rfl od_prog_37_method_10_328 (pc' := 329) rfl ?_
  intro T83 h83 X83 e83 W83 Q83
  have Ea84 := own_xw Ea81 W83 le78
  replace V_b1 := V_b1.other W83 ne_b1_b77
  replace V_b3 := V_b3.other W83 ne_b3_b77
  replace V_b9 := V_b9.other W83 ne_b9_b77
  replace V_b15 := V_b15.other W83 ne_b15_b77
  replace V_b21 := V_b21.other W83 ne_b21_b77
  replace V_b77 := Q83
  have N83 := own_fr1 (sl := ((1 : Int32)).toNatClampNeg) N82 n0_b77
  refine own_aload X83 hx hby od_prog_37_method_10_329 (pc' := 331) rfl rfl rfl ?_
  refine own_iload X83 hx hby od_prog_37_method_10_331 (pc' := 333) rfl rfl ?_
  refine own_daD X83 hx hby hZ e83 V_b77 ⟨by decide, by decide⟩ (v := (0 : UInt64)) rfl od_prog_37_method_10_333 (pc' := 334) rfl ?_
  refine own_callM X83 hx hby hml hZ hown (ow_44 hw) (ow_45 hw) (ow_46 hw) (ow_47 hw) (by decide) (cc := 0) (ss := 0) (rm_fin l Z a0 hw (0 : UInt64) h83 n0 (Nat.le_trans Z0 Ea84.1) okl_13) 0 rfl rfl (by decide) (by decide) rfl (argsL := [(.double (0 : UInt64))]) (rest := []) opd_0 rfl rfl (Nat.le_refl _) od_prog_37_method_10_334 (pc' := 337) rfl rfl e83 (by decide) (by decide) ?_
  rintro v85 T85 h85 L85 X85 e85 ⟨rfl, Nq85, rfl⟩
  have N85 := N83.app Nq85
  refine own_ifY X85 hx hby od_prog_37_method_10_337 (by decide) (pc' := 342) (by decide) (feq (by decide)).2 ?_
  refine own_iinc X85 hx hby od_prog_37_method_10_342 (pc' := 345) rfl rfl (z := (-1)) rfl (Ls' := #[.val (.ref aM), .val (.ref ar), .val (.int (3 : Int32)), .val (.ref b1), .val (.ref b21), .val (.ref b77), .val (.int (0 : Int32)), .val (.double (0 : UInt64)), .second, .val (.int (3 : Int32)), .val (.int (3 : Int32)), .val (.double (0 : UInt64)), .second, .val (.int (3 : Int32))]) rfl ?_
  refine own_goto X85 hx hby od_prog_37_method_10_345 (by decide) (pc' := 266) (by decide) ?_
  refine own_iload X85 hx hby od_prog_37_method_10_266 (pc' := 268) rfl rfl ?_
  refine own_ifN X85 hx hby od_prog_37_method_10_268 (pc' := 271) rfl (flt (by decide)).1 ?_
  refine own_aload X85 hx hby od_prog_37_method_10_271 (pc' := 273) rfl rfl rfl ?_
  refine own_iload X85 hx hby od_prog_37_method_10_273 (pc' := 275) rfl rfl ?_
  refine own_daD X85 hx hby hZ e85 V_b21 ⟨by decide, by decide⟩ (v := (13830554455654793216 : UInt64)) rfl od_prog_37_method_10_275 (pc' := 276) rfl ?_
  refine own_dstore X85 hx hby od_prog_37_method_10_276 (pc' := 278) rfl (Ls' := #[.val (.ref aM), .val (.ref ar), .val (.int (3 : Int32)), .val (.ref b1), .val (.ref b21), .val (.ref b77), .val (.int (0 : Int32)), .val (.double (13830554455654793216 : UInt64)), .second, .val (.int (3 : Int32)), .val (.int (3 : Int32)), .val (.double (0 : UInt64)), .second, .val (.int (3 : Int32))]) rfl ?_
  refine own_iload X85 hx hby od_prog_37_method_10_278 (pc' := 280) rfl rfl ?_
  refine own_iconst X85 hx hby od_prog_37_method_10_280 (pc' := 281) rfl (z := 1) rfl ?_
  refine own_iaddE X85 hx hby od_prog_37_method_10_281 (pc' := 282) rfl (v := (1 : Int32)) rfl ?_
  refine own_istore X85 hx hby od_prog_37_method_10_282 (pc' := 284) rfl (Ls' := #[.val (.ref aM), .val (.ref ar), .val (.int (3 : Int32)), .val (.ref b1), .val (.ref b21), .val (.ref b77), .val (.int (0 : Int32)), .val (.double (13830554455654793216 : UInt64)), .second, .val (.int (1 : Int32)), .val (.int (3 : Int32)), .val (.double (0 : UInt64)), .second, .val (.int (3 : Int32))]) rfl ?_
  refine own_iload X85 hx hby od_prog_37_method_10_284 (pc' := 286) rfl rfl ?_
  refine own_iloadN X85 hx hby od_prog_37_method_10_286 (pc' := 287) rfl rfl ?_
  refine own_icmpN X85 hx hby od_prog_37_method_10_287 (pc' := 290) rfl (tlt (by decide)).2.1 ?_
  refine own_dload X85 hx hby od_prog_37_method_10_290 (pc' := 292) rfl rfl ?_
  refine own_aloadN X85 hx hby od_prog_37_method_10_292 (pc' := 293) rfl rfl rfl ?_
  refine own_iload X85 hx hby od_prog_37_method_10_293 (pc' := 295) rfl rfl ?_
  refine own_aaD X85 hx hby hZ e85 V_b1 ⟨by decide, by decide⟩ (v := (.ref b3)) rfl od_prog_37_method_10_295 (pc' := 296) rfl ?_
  refine own_iload X85 hx hby od_prog_37_method_10_296 (pc' := 298) rfl rfl ?_
  refine own_daD X85 hx hby hZ e85 V_b3 ⟨by decide, by decide⟩ (v := dc) rfl od_prog_37_method_10_298 (pc' := 299) rfl ?_
  refine own_aload X85 hx hby od_prog_37_method_10_299 (pc' := 301) rfl rfl rfl ?_
  refine own_iload X85 hx hby od_prog_37_method_10_301 (pc' := 303) rfl rfl ?_
  refine own_daD X85 hx hby hZ e85 V_b77 ⟨by decide, by decide⟩ (v := (0 : UInt64)) rfl od_prog_37_method_10_303 (pc' := 304) rfl ?_
  refine own_dmul X85 hx hby od_prog_37_method_10_304 (pc' := 305) rfl (own_nb_s Zc.2.2.2.1) (v := (0 : UInt64)) Zc.2.2.2.2 ?_
  refine own_dsub X85 hx hby od_prog_37_method_10_305 (pc' := 306) rfl okl_14.1 (v := (13830554455654793216 : UInt64)) okl_14.2 ?_
  refine own_dstore X85 hx hby od_prog_37_method_10_306 (pc' := 308) rfl (Ls' := #[.val (.ref aM), .val (.ref ar), .val (.int (3 : Int32)), .val (.ref b1), .val (.ref b21), .val (.ref b77), .val (.int (0 : Int32)), .val (.double (13830554455654793216 : UInt64)), .second, .val (.int (1 : Int32)), .val (.int (3 : Int32)), .val (.double (0 : UInt64)), .second, .val (.int (3 : Int32))]) rfl ?_
  refine own_iinc X85 hx hby od_prog_37_method_10_308 (pc' := 311) rfl rfl (z := 1) rfl (Ls' := #[.val (.ref aM), .val (.ref ar), .val (.int (3 : Int32)), .val (.ref b1), .val (.ref b21), .val (.ref b77), .val (.int (0 : Int32)), .val (.double (13830554455654793216 : UInt64)), .second, .val (.int (2 : Int32)), .val (.int (3 : Int32)), .val (.double (0 : UInt64)), .second, .val (.int (3 : Int32))]) rfl ?_
  refine own_goto X85 hx hby od_prog_37_method_10_311 (by decide) (pc' := 284) (by decide) ?_
  refine own_iload X85 hx hby od_prog_37_method_10_284 (pc' := 286) rfl rfl ?_
  refine own_iloadN X85 hx hby od_prog_37_method_10_286 (pc' := 287) rfl rfl ?_
  refine own_icmpN X85 hx hby od_prog_37_method_10_287 (pc' := 290) rfl (tlt (by decide)).2.1 ?_
  refine own_dload X85 hx hby od_prog_37_method_10_290 (pc' := 292) rfl rfl ?_
  refine own_aloadN X85 hx hby od_prog_37_method_10_292 (pc' := 293) rfl rfl rfl ?_
  refine own_iload X85 hx hby od_prog_37_method_10_293 (pc' := 295) rfl rfl ?_
  refine own_aaD X85 hx hby hZ e85 V_b1 ⟨by decide, by decide⟩ (v := (.ref b3)) rfl od_prog_37_method_10_295 (pc' := 296) rfl ?_
  refine own_iload X85 hx hby od_prog_37_method_10_296 (pc' := 298) rfl rfl ?_
  refine own_daD X85 hx hby hZ e85 V_b3 ⟨by decide, by decide⟩ (v := dl) rfl od_prog_37_method_10_298 (pc' := 299) rfl ?_
  refine own_aload X85 hx hby od_prog_37_method_10_299 (pc' := 301) rfl rfl rfl ?_
  refine own_iload X85 hx hby od_prog_37_method_10_301 (pc' := 303) rfl rfl ?_
  refine own_daD X85 hx hby hZ e85 V_b77 ⟨by decide, by decide⟩ (v := (0 : UInt64)) rfl od_prog_37_method_10_303 (pc' := 304) rfl ?_
  refine own_dmul X85 hx hby od_prog_37_method_10_304 (pc' := 305) rfl (own_nb_s Zl.2.2.2.1) (v := (0 : UInt64)) Zl.2.2.2.2 ?_
  refine own_dsub X85 hx hby od_prog_37_method_10_305 (pc' := 306) rfl okl_14.1 (v := (13830554455654793216 : UInt64)) okl_14.2 ?_
  refine own_dstore X85 hx hby od_prog_37_method_10_306 (pc' := 308) rfl (Ls' := #[.val (.ref aM), .val (.ref ar), .val (.int (3 : Int32)), .val (.ref b1), .val (.ref b21), .val (.ref b77), .val (.int (0 : Int32)), .val (.double (13830554455654793216 : UInt64)), .second, .val (.int (2 : Int32)), .val (.int (3 : Int32)), .val (.double (0 : UInt64)), .second, .val (.int (3 : Int32))]) rfl ?_
  refine own_iinc X85 hx hby od_prog_37_method_10_308 (pc' := 311) rfl rfl (z := 1) rfl (Ls' := #[.val (.ref aM), .val (.ref ar), .val (.int (3 : Int32)), .val (.ref b1), .val (.ref b21), .val (.ref b77), .val (.int (0 : Int32)), .val (.double (13830554455654793216 : UInt64)), .second, .val (.int (3 : Int32)), .val (.int (3 : Int32)), .val (.double (0 : UInt64)), .second, .val (.int (3 : Int32))]) rfl ?_
  refine own_goto X85 hx hby od_prog_37_method_10_311 (by decide) (pc' := 284) (by decide) ?_
  refine own_iload X85 hx hby od_prog_37_method_10_284 (pc' := 286) rfl rfl ?_
  refine own_iloadN X85 hx hby od_prog_37_method_10_286 (pc' := 287) rfl rfl ?_
  refine own_icmpY X85 hx hby od_prog_37_method_10_287 (by decide) (pc' := 314) (by decide) (flt (by decide)).2.1 ?_
  refine own_aload X85 hx hby od_prog_37_method_10_314 (pc' := 316) rfl rfl rfl ?_
  refine own_iload X85 hx hby od_prog_37_method_10_316 (pc' := 318) rfl rfl ?_
  refine own_dload X85 hx hby od_prog_37_method_10_318 (pc' := 320) rfl rfl ?_
  refine own_aloadN X85 hx hby od_prog_37_method_10_320 (pc' := 321) rfl rfl rfl ?_
  refine own_iload X85 hx hby od_prog_37_method_10_321 (pc' := 323) rfl rfl ?_
  refine own_aaD X85 hx hby hZ e85 V_b1 ⟨by decide, by decide⟩ (v := (.ref b3)) rfl od_prog_37_method_10_323 (pc' := 324) rfl ?_
  refine own_iload X85 hx hby od_prog_37_method_10_324 (pc' := 326) rfl rfl ?_
  refine own_daD X85 hx hby hZ e85 V_b3 ⟨by decide, by decide⟩ (v := (4607182418800017408 : UInt64)) rfl od_prog_37_method_10_326 (pc' := 327) rfl ?_
  refine own_ddiv X85 hx hby od_prog_37_method_10_327 (pc' := 328) rfl okl_1.1 (v := (13830554455654793216 : UInt64)) okl_1.2 ?_
  refine own_dsD X85 hx hby hZ e85 V_b77 ⟨by decide, by decide⟩ 0 rfl (Nat.le_of_ble_eq_true rfl) (ys := [.double (13830554455654793216 : UInt64), .double (0 : UInt64), .double (0 : UInt64)]) rfl od_prog_37_method_10_328 (pc' := 329) rfl ?_
  intro T86 h86 X86 e86 W86 Q86
  have Ea87 := own_xw Ea84 W86 le78
  replace V_b1 := V_b1.other W86 ne_b1_b77
  replace V_b3 := V_b3.other W86 ne_b3_b77
  replace V_b9 := V_b9.other W86 ne_b9_b77
  replace V_b15 := V_b15.other W86 ne_b15_b77
  replace V_b21 := V_b21.other W86 ne_b21_b77
  replace V_b77 := Q86
  have N86 := own_fr1 (sl := ((0 : Int32)).toNatClampNeg) N85 n0_b77
  refine own_aload X86 hx hby od_prog_37_method_10_329 (pc' := 331) rfl rfl rfl ?_
  refine own_iload X86 hx hby od_prog_37_method_10_331 (pc' := 333) rfl rfl ?_
  refine own_daD X86 hx hby hZ e86 V_b77 ⟨by decide, by decide⟩ (v := (13830554455654793216 : UInt64)) rfl od_prog_37_method_10_333 (pc' := 334) rfl ?_
  refine own_callM X86 hx hby hml hZ hown (ow_44 hw) (ow_45 hw) (ow_46 hw) (ow_47 hw) (by decide) (cc := 0) (ss := 0) (rm_fin l Z a0 hw (13830554455654793216 : UInt64) h86 n0 (Nat.le_trans Z0 Ea87.1) okl_2) 0 rfl rfl (by decide) (by decide) rfl (argsL := [(.double (13830554455654793216 : UInt64))]) (rest := []) opd_0 rfl rfl (Nat.le_refl _) od_prog_37_method_10_334 (pc' := 337) rfl rfl e86 (by decide) (by decide) ?_
  rintro v88 T88 h88 L88 X88 e88 ⟨rfl, Nq88, rfl⟩
  have N88 := N86.app Nq88
  refine own_ifY X88 hx hby od_prog_37_method_10_337 (by decide) (pc' := 342) (by decide) (feq (by decide)).2 ?_
  refine own_iinc X88 hx hby od_prog_37_method_10_342 (pc' := 345) rfl rfl (z := (-1)) rfl (Ls' := #[.val (.ref aM), .val (.ref ar), .val (.int (3 : Int32)), .val (.ref b1), .val (.ref b21), .val (.ref b77), .val (.int (-1 : Int32)), .val (.double (13830554455654793216 : UInt64)), .second, .val (.int (3 : Int32)), .val (.int (3 : Int32)), .val (.double (0 : UInt64)), .second, .val (.int (3 : Int32))]) rfl ?_
  refine own_goto X88 hx hby od_prog_37_method_10_345 (by decide) (pc' := 266) (by decide) ?_
  refine own_iload X88 hx hby od_prog_37_method_10_266 (pc' := 268) rfl rfl ?_
  refine own_ifY X88 hx hby od_prog_37_method_10_268 (by decide) (pc' := 348) (by decide) (tlt (by decide)).1 ?_
  refine own_aload X88 hx hby od_prog_37_method_10_348 (pc' := 350) rfl rfl rfl ?_
  exact own_retA X88 hx hby hlk hrt rfl rfl od_prog_37_method_10_350 (by first | exact ⟨b77, rfl, le78, Ea87, N88, V_b77⟩ | (rw [e88]; exact ⟨b77, rfl, le78, Ea87, N88, V_b77⟩)) (by decide) (by decide)
theorem ef_rm_s2_0 (m : MethodId) (x0 : Addr) (x1 : Addr) : entryFrame m #[(.ref x0), (.ref x1)] 14 = mkF m 0 #[.val (.ref x0), .val (.ref x1), .unset, .unset, .unset, .unset, .unset, .unset, .unset, .unset, .unset, .unset, .unset, .unset] [] := by first | (simp [entryFrame, mkF, argsToLocals, Value.category]; done) | rfl
set_option maxRecDepth 65536 in
set_option maxHeartbeats 40000000 in
theorem rm_s2_0 (l : Launch) (Z : State) (a0 : Array Value) (hw : ∀ d ∈ tables_1, d.before a0 Z = true) (aM r0 r1 ar : Addr) (m00 m01 m10 m11 q0 q1 uf up0 ua10 up1 ua11 upb ub1 uq us0 ux0 ux1 : UInt64) (h0 : Heap) (n0 : Nat) (Z0 : n0 ≤ h0.size) (Hn0 : Jvm.Free.Fl.NoNaN64 m00) (Hn1 : Jvm.Free.Fl.NoNaN64 m10) (Hp : own_cng (m10 &&& 0x7fffffffffffffff) (m00 &&& 0x7fffffffffffffff) .l) (G1 : own_op (FP.ddiv m10 m00) uf) (G2 : own_op (FP.dmul uf m00) up0) (G3 : own_op (FP.dsub m10 up0) ua10) (G4 : own_op (FP.dmul uf m01) up1) (G5 : own_op (FP.dsub m11 up1) ua11) (G6 : own_op (FP.dmul uf q0) upb) (G7 : own_op (FP.dsub q1 upb) ub1) (G8 : own_op (FP.ddiv ub1 ua11) ux1) (G9 : own_op (FP.dmul m01 ux1) uq) (G10 : own_op (FP.dsub q0 uq) us0) (G11 : own_op (FP.ddiv us0 m00) ux0) (G12 : own_cnz m00 (0 : UInt64) .l) (G13 : own_cnz ua11 (0 : UInt64) .l) (G14 : Jvm.Free.Fl.Fin64 ux1) (G15 : Jvm.Free.Fl.Fin64 ux0) (V_aM : own_DD Z h0 aM (2 : Int32) [.ref r0, .ref r1]) (V_r0 : own_D Z h0 r0 (2 : Int32) [.double m00, .double m01]) (V_r1 : own_D Z h0 r1 (2 : Int32) [.double m10, .double m11]) (V_ar : own_D Z h0 ar (2 : Int32) [.double q0, .double q1]) :
    own_Met l Z (⟨"com/example/bindery/bindery/selection/BindingMix", "solve", "([[D[D)[D"⟩ : MethodName) prog_37_method_10_code 14 (some (.array .double)) ({ frames := 2, cells := 5, slots := 10, locals := 26 } : Room) #[(.ref aM), (.ref ar)] h0 (fun v h L => ∃ b : Addr, v = some (.ref b) ∧ h0.size ≤ b ∧ Ext h0 h ∧ Fr n0 L ∧ own_D Z h b (2 : Int32) [.double ux0, .double ux1]) := by
  refine own_body (plainFor_of_name (by first | (simp [plainName, overriddenIn]; done) | decide +kernel)) ?_
  intro p e s m below meth c s₁ hx hby hml hown hnm hlk hrt hZ X0 e0
  refine own_enter (ef_rm_s2_0 m aM ar) ?_
  have N0 := Fr.nil n0
  refine own_aloadN X0 hx hby od_prog_37_method_10_0 (pc' := 1) rfl rfl rfl ?_
  refine own_alD X0 hx hby hZ e0 V_ar od_prog_37_method_10_1 (pc' := 2) rfl ?_
  refine own_istoreN X0 hx hby od_prog_37_method_10_2 (pc' := 3) rfl (Ls' := #[.val (.ref aM), .val (.ref ar), .val (.int (2 : Int32)), .unset, .unset, .unset, .unset, .unset, .unset, .unset, .unset, .unset, .unset, .unset]) rfl ?_
  refine own_iloadN X0 hx hby od_prog_37_method_10_3 (pc' := 4) rfl rfl ?_
  refine own_newDD X0 hx hby hZ hown (ow_19 hw) (ow_20 hw) e0 od_prog_37_method_10_4 (pc' := 7) rfl (by decide) (cap := 2) (by decide) (by decide) (by decide) (by decide) (vs := [.null, .null]) rfl ?_
  intro T1 h1 b1 g1 X1 e1 E1 V_b1
  have ne_aM_b1 : aM ≠ b1 := own_nl V_aM.lt g1
  have ne_r0_b1 : r0 ≠ b1 := own_nl V_r0.lt g1
  have ne_r1_b1 : r1 ≠ b1 := own_nl V_r1.lt g1
  have ne_ar_b1 : ar ≠ b1 := own_nl V_ar.lt g1
  have le2 : h0.size ≤ b1 := Nat.le_of_eq g1.symm
  have n0_b1 : n0 ≤ b1 := Nat.le_trans Z0 (Nat.le_of_eq g1.symm)
  replace V_aM := V_aM.ext E1
  replace V_r0 := V_r0.ext E1
  replace V_r1 := V_r1.ext E1
  replace V_ar := V_ar.ext E1
  refine own_astoreN X1 hx hby od_prog_37_method_10_7 (pc' := 8) rfl rfl (Ls' := #[.val (.ref aM), .val (.ref ar), .val (.int (2 : Int32)), .val (.ref b1), .unset, .unset, .unset, .unset, .unset, .unset, .unset, .unset, .unset, .unset]) rfl ?_
  refine own_iconst X1 hx hby od_prog_37_method_10_8 (pc' := 9) rfl (z := 0) rfl ?_
  refine own_istore X1 hx hby od_prog_37_method_10_9 (pc' := 11) rfl (Ls' := #[.val (.ref aM), .val (.ref ar), .val (.int (2 : Int32)), .val (.ref b1), .val (.int (0 : Int32)), .unset, .unset, .unset, .unset, .unset, .unset, .unset, .unset, .unset]) rfl ?_
  refine own_iload X1 hx hby od_prog_37_method_10_11 (pc' := 13) rfl rfl ?_
  refine own_iloadN X1 hx hby od_prog_37_method_10_13 (pc' := 14) rfl rfl ?_
  refine own_icmpN X1 hx hby od_prog_37_method_10_14 (pc' := 17) rfl (tlt (by decide)).2.1 ?_
  refine own_aloadN X1 hx hby od_prog_37_method_10_17 (pc' := 18) rfl rfl rfl ?_
  refine own_iload X1 hx hby od_prog_37_method_10_18 (pc' := 20) rfl rfl ?_
  refine own_aloadN X1 hx hby od_prog_37_method_10_20 (pc' := 21) rfl rfl rfl ?_
  refine own_iload X1 hx hby od_prog_37_method_10_21 (pc' := 23) rfl rfl ?_
  refine own_aaD X1 hx hby hZ e1 V_aM ⟨by decide, by decide⟩ (v := (.ref r0)) rfl od_prog_37_method_10_23 (pc' := 24) rfl ?_
  refine own_cloneD X1 hx hby hZ hml hown (ow_28 hw) (ow_29 hw) (ow_33 hw) (ow_31 hw) (ow_32 hw) (ow_34 hw) e1 V_r0 rfl od_prog_37_method_10_24 (pc' := 27) rfl (by decide) (W := 2) (cap := 2) (Nat.le_refl _) (by decide) (by decide) (by decide) (by decide) ?_
  intro T3 h3 b3 g3 X3 e3 E3 V_b3
  have ne_aM_b3 : aM ≠ b3 := own_nl V_aM.lt g3
  have ne_r0_b3 : r0 ≠ b3 := own_nl V_r0.lt g3
  have ne_r1_b3 : r1 ≠ b3 := own_nl V_r1.lt g3
  have ne_ar_b3 : ar ≠ b3 := own_nl V_ar.lt g3
  have ne_b1_b3 : b1 ≠ b3 := own_nl V_b1.lt g3
  have le4 : h0.size ≤ b3 := Nat.le_trans E1.1 (Nat.le_of_eq g3.symm)
  have n0_b3 : n0 ≤ b3 := Nat.le_trans (Nat.le_trans Z0 E1.1) (Nat.le_of_eq g3.symm)
  have Ea5 := own_xt E1 E3
  replace V_aM := V_aM.ext E3
  replace V_r0 := V_r0.ext E3
  replace V_r1 := V_r1.ext E3
  replace V_ar := V_ar.ext E3
  replace V_b1 := V_b1.ext E3
  refine own_cast X3 hx hby hZ hown (ow_19 hw) e3 (Ins.self V_b3.exa) od_prog_37_method_10_27 (pc' := 30) rfl ?_
  intro T6 X6 e6
  refine own_asD X6 hx hby hZ e6 V_b1 (V_b3.exa) ⟨by decide, by decide⟩ 0 rfl (Nat.le_of_ble_eq_true rfl) (ys := [.ref b3, .null]) rfl od_prog_37_method_10_30 (pc' := 31) rfl ?_
  intro T7 h7 X7 e7 W7 Q7
  have Ea8 := own_xw Ea5 W7 le2
  replace V_aM := V_aM.other W7 ne_aM_b1
  replace V_r0 := V_r0.other W7 ne_r0_b1
  replace V_r1 := V_r1.other W7 ne_r1_b1
  replace V_ar := V_ar.other W7 ne_ar_b1
  replace V_b3 := V_b3.other W7 (Ne.symm ne_b1_b3)
  replace V_b1 := Q7
  have N7 := own_fr1 (sl := ((0 : Int32)).toNatClampNeg) N0 n0_b1
  refine own_iinc X7 hx hby od_prog_37_method_10_31 (pc' := 34) rfl rfl (z := 1) rfl (Ls' := #[.val (.ref aM), .val (.ref ar), .val (.int (2 : Int32)), .val (.ref b1), .val (.int (1 : Int32)), .unset, .unset, .unset, .unset, .unset, .unset, .unset, .unset, .unset]) rfl ?_
  refine own_goto X7 hx hby od_prog_37_method_10_34 (by decide) (pc' := 11) (by decide) ?_
  refine own_iload X7 hx hby od_prog_37_method_10_11 (pc' := 13) rfl rfl ?_
  refine own_iloadN X7 hx hby od_prog_37_method_10_13 (pc' := 14) rfl rfl ?_
  refine own_icmpN X7 hx hby od_prog_37_method_10_14 (pc' := 17) rfl (tlt (by decide)).2.1 ?_
  refine own_aloadN X7 hx hby od_prog_37_method_10_17 (pc' := 18) rfl rfl rfl ?_
  refine own_iload X7 hx hby od_prog_37_method_10_18 (pc' := 20) rfl rfl ?_
  refine own_aloadN X7 hx hby od_prog_37_method_10_20 (pc' := 21) rfl rfl rfl ?_
  refine own_iload X7 hx hby od_prog_37_method_10_21 (pc' := 23) rfl rfl ?_
  refine own_aaD X7 hx hby hZ e7 V_aM ⟨by decide, by decide⟩ (v := (.ref r1)) rfl od_prog_37_method_10_23 (pc' := 24) rfl ?_
  refine own_cloneD X7 hx hby hZ hml hown (ow_28 hw) (ow_29 hw) (ow_33 hw) (ow_31 hw) (ow_32 hw) (ow_34 hw) e7 V_r1 rfl od_prog_37_method_10_24 (pc' := 27) rfl (by decide) (W := 2) (cap := 2) (Nat.le_refl _) (by decide) (by decide) (by decide) (by decide) ?_
  intro T9 h9 b9 g9 X9 e9 E9 V_b9
  have ne_aM_b9 : aM ≠ b9 := own_nl V_aM.lt g9
  have ne_r0_b9 : r0 ≠ b9 := own_nl V_r0.lt g9
  have ne_r1_b9 : r1 ≠ b9 := own_nl V_r1.lt g9
  have ne_ar_b9 : ar ≠ b9 := own_nl V_ar.lt g9
  have ne_b1_b9 : b1 ≠ b9 := own_nl V_b1.lt g9
  have ne_b3_b9 : b3 ≠ b9 := own_nl V_b3.lt g9
  have le10 : h0.size ≤ b9 := Nat.le_trans Ea8.1 (Nat.le_of_eq g9.symm)
  have n0_b9 : n0 ≤ b9 := Nat.le_trans (Nat.le_trans Z0 Ea8.1) (Nat.le_of_eq g9.symm)
  have Ea11 := own_xt Ea8 E9
  replace V_aM := V_aM.ext E9
  replace V_r0 := V_r0.ext E9
  replace V_r1 := V_r1.ext E9
  replace V_ar := V_ar.ext E9
  replace V_b1 := V_b1.ext E9
  replace V_b3 := V_b3.ext E9
  refine own_cast X9 hx hby hZ hown (ow_19 hw) e9 (Ins.self V_b9.exa) od_prog_37_method_10_27 (pc' := 30) rfl ?_
  intro T12 X12 e12
  refine own_asD X12 hx hby hZ e12 V_b1 (V_b9.exa) ⟨by decide, by decide⟩ 1 rfl (Nat.le_of_ble_eq_true rfl) (ys := [.ref b3, .ref b9]) rfl od_prog_37_method_10_30 (pc' := 31) rfl ?_
  intro T13 h13 X13 e13 W13 Q13
  have Ea14 := own_xw Ea11 W13 le2
  replace V_aM := V_aM.other W13 ne_aM_b1
  replace V_r0 := V_r0.other W13 ne_r0_b1
  replace V_r1 := V_r1.other W13 ne_r1_b1
  replace V_ar := V_ar.other W13 ne_ar_b1
  replace V_b3 := V_b3.other W13 (Ne.symm ne_b1_b3)
  replace V_b9 := V_b9.other W13 (Ne.symm ne_b1_b9)
  replace V_b1 := Q13
  have N13 := own_fr1 (sl := ((1 : Int32)).toNatClampNeg) N7 n0_b1
  refine own_iinc X13 hx hby od_prog_37_method_10_31 (pc' := 34) rfl rfl (z := 1) rfl (Ls' := #[.val (.ref aM), .val (.ref ar), .val (.int (2 : Int32)), .val (.ref b1), .val (.int (2 : Int32)), .unset, .unset, .unset, .unset, .unset, .unset, .unset, .unset, .unset]) rfl ?_
  refine own_goto X13 hx hby od_prog_37_method_10_34 (by decide) (pc' := 11) (by decide) ?_
  refine own_iload X13 hx hby od_prog_37_method_10_11 (pc' := 13) rfl rfl ?_
  refine own_iloadN X13 hx hby od_prog_37_method_10_13 (pc' := 14) rfl rfl ?_
  refine own_icmpY X13 hx hby od_prog_37_method_10_14 (by decide) (pc' := 37) (by decide) (flt (by decide)).2.1 ?_
  refine own_aloadN X13 hx hby od_prog_37_method_10_37 (pc' := 38) rfl rfl rfl ?_
  refine own_cloneD X13 hx hby hZ hml hown (ow_28 hw) (ow_29 hw) (ow_33 hw) (ow_31 hw) (ow_32 hw) (ow_34 hw) e13 V_ar rfl od_prog_37_method_10_38 (pc' := 41) rfl (by decide) (W := 0) (cap := 2) (Nat.le_refl _) (by decide) (by decide) (by decide) (by decide) ?_
  intro T15 h15 b15 g15 X15 e15 E15 V_b15
  have ne_aM_b15 : aM ≠ b15 := own_nl V_aM.lt g15
  have ne_r0_b15 : r0 ≠ b15 := own_nl V_r0.lt g15
  have ne_r1_b15 : r1 ≠ b15 := own_nl V_r1.lt g15
  have ne_ar_b15 : ar ≠ b15 := own_nl V_ar.lt g15
  have ne_b1_b15 : b1 ≠ b15 := own_nl V_b1.lt g15
  have ne_b3_b15 : b3 ≠ b15 := own_nl V_b3.lt g15
  have ne_b9_b15 : b9 ≠ b15 := own_nl V_b9.lt g15
  have le16 : h0.size ≤ b15 := Nat.le_trans Ea14.1 (Nat.le_of_eq g15.symm)
  have n0_b15 : n0 ≤ b15 := Nat.le_trans (Nat.le_trans Z0 Ea14.1) (Nat.le_of_eq g15.symm)
  have Ea17 := own_xt Ea14 E15
  replace V_aM := V_aM.ext E15
  replace V_r0 := V_r0.ext E15
  replace V_r1 := V_r1.ext E15
  replace V_ar := V_ar.ext E15
  replace V_b1 := V_b1.ext E15
  replace V_b3 := V_b3.ext E15
  replace V_b9 := V_b9.ext E15
  refine own_cast X15 hx hby hZ hown (ow_19 hw) e15 (Ins.self V_b15.exa) od_prog_37_method_10_41 (pc' := 44) rfl ?_
  intro T18 X18 e18
  refine own_astore X18 hx hby od_prog_37_method_10_44 (pc' := 46) rfl rfl (Ls' := #[.val (.ref aM), .val (.ref ar), .val (.int (2 : Int32)), .val (.ref b1), .val (.ref b15), .unset, .unset, .unset, .unset, .unset, .unset, .unset, .unset, .unset]) rfl ?_
  refine own_iconst X18 hx hby od_prog_37_method_10_46 (pc' := 47) rfl (z := 0) rfl ?_
  refine own_istore X18 hx hby od_prog_37_method_10_47 (pc' := 49) rfl (Ls' := #[.val (.ref aM), .val (.ref ar), .val (.int (2 : Int32)), .val (.ref b1), .val (.ref b15), .val (.int (0 : Int32)), .unset, .unset, .unset, .unset, .unset, .unset, .unset, .unset]) rfl ?_
  refine own_iload X18 hx hby od_prog_37_method_10_49 (pc' := 51) rfl rfl ?_
  refine own_iloadN X18 hx hby od_prog_37_method_10_51 (pc' := 52) rfl rfl ?_
  refine own_icmpN X18 hx hby od_prog_37_method_10_52 (pc' := 55) rfl (tlt (by decide)).2.1 ?_
  refine own_iload X18 hx hby od_prog_37_method_10_55 (pc' := 57) rfl rfl ?_
  refine own_istore X18 hx hby od_prog_37_method_10_57 (pc' := 59) rfl (Ls' := #[.val (.ref aM), .val (.ref ar), .val (.int (2 : Int32)), .val (.ref b1), .val (.ref b15), .val (.int (0 : Int32)), .val (.int (0 : Int32)), .unset, .unset, .unset, .unset, .unset, .unset, .unset]) rfl ?_
  refine own_iload X18 hx hby od_prog_37_method_10_59 (pc' := 61) rfl rfl ?_
  refine own_iconst X18 hx hby od_prog_37_method_10_61 (pc' := 62) rfl (z := 1) rfl ?_
  refine own_iaddE X18 hx hby od_prog_37_method_10_62 (pc' := 63) rfl (v := (1 : Int32)) rfl ?_
  refine own_istore X18 hx hby od_prog_37_method_10_63 (pc' := 65) rfl (Ls' := #[.val (.ref aM), .val (.ref ar), .val (.int (2 : Int32)), .val (.ref b1), .val (.ref b15), .val (.int (0 : Int32)), .val (.int (0 : Int32)), .val (.int (1 : Int32)), .unset, .unset, .unset, .unset, .unset, .unset]) rfl ?_
  refine own_iload X18 hx hby od_prog_37_method_10_65 (pc' := 67) rfl rfl ?_
  refine own_iloadN X18 hx hby od_prog_37_method_10_67 (pc' := 68) rfl rfl ?_
  refine own_icmpN X18 hx hby od_prog_37_method_10_68 (pc' := 71) rfl (tlt (by decide)).2.1 ?_
  refine own_aloadN X18 hx hby od_prog_37_method_10_71 (pc' := 72) rfl rfl rfl ?_
  refine own_iload X18 hx hby od_prog_37_method_10_72 (pc' := 74) rfl rfl ?_
  refine own_aaD X18 hx hby hZ e18 V_b1 ⟨by decide, by decide⟩ (v := (.ref b9)) rfl od_prog_37_method_10_74 (pc' := 75) rfl ?_
  refine own_iload X18 hx hby od_prog_37_method_10_75 (pc' := 77) rfl rfl ?_
  refine own_daD X18 hx hby hZ e18 V_b9 ⟨by decide, by decide⟩ (v := m10) rfl od_prog_37_method_10_77 (pc' := 78) rfl ?_
  refine own_absD X18 hx hby hZ hml hown (ow_64 hw) (ow_49 hw) (ow_50 hw) (ow_51 hw) e18 Hn1 rfl rfl od_prog_37_method_10_78 (pc' := 81) rfl (W := 0) (Nat.le_refl _) (by decide) (by decide) (by decide) (by decide) ?_
  intro T19 X19 e19
  refine own_aloadN X19 hx hby od_prog_37_method_10_81 (pc' := 82) rfl rfl rfl ?_
  refine own_iload X19 hx hby od_prog_37_method_10_82 (pc' := 84) rfl rfl ?_
  refine own_aaD X19 hx hby hZ e19 V_b1 ⟨by decide, by decide⟩ (v := (.ref b3)) rfl od_prog_37_method_10_84 (pc' := 85) rfl ?_
  refine own_iload X19 hx hby od_prog_37_method_10_85 (pc' := 87) rfl rfl ?_
  refine own_daD X19 hx hby hZ e19 V_b3 ⟨by decide, by decide⟩ (v := m00) rfl od_prog_37_method_10_87 (pc' := 88) rfl ?_
  refine own_absD X19 hx hby hZ hml hown (ow_64 hw) (ow_49 hw) (ow_50 hw) (ow_51 hw) e19 Hn0 rfl rfl od_prog_37_method_10_88 (pc' := 91) rfl (W := 2) (Nat.le_refl _) (by decide) (by decide) (by decide) (by decide) ?_
  intro T20 X20 e20
  obtain ⟨dv21, hd21, hk21⟩ := Hp
  refine own_dcmp X20 hx hby od_prog_37_method_10_91 (pc' := 92) rfl (v := dv21) hd21 ?_
  refine own_ifY X20 hx hby od_prog_37_method_10_92 (by decide) (pc' := 99) (by decide) (flt hk21).2.2.2 ?_
  refine own_iinc X20 hx hby od_prog_37_method_10_99 (pc' := 102) rfl rfl (z := 1) rfl (Ls' := #[.val (.ref aM), .val (.ref ar), .val (.int (2 : Int32)), .val (.ref b1), .val (.ref b15), .val (.int (0 : Int32)), .val (.int (0 : Int32)), .val (.int (2 : Int32)), .unset, .unset, .unset, .unset, .unset, .unset]) rfl ?_
  refine own_goto X20 hx hby od_prog_37_method_10_102 (by decide) (pc' := 65) (by decide) ?_
  refine own_iload X20 hx hby od_prog_37_method_10_65 (pc' := 67) rfl rfl ?_
  refine own_iloadN X20 hx hby od_prog_37_method_10_67 (pc' := 68) rfl rfl ?_
  refine own_icmpY X20 hx hby od_prog_37_method_10_68 (by decide) (pc' := 105) (by decide) (flt (by decide)).2.1 ?_
  refine own_aloadN X20 hx hby od_prog_37_method_10_105 (pc' := 106) rfl rfl rfl ?_
  refine own_iload X20 hx hby od_prog_37_method_10_106 (pc' := 108) rfl rfl ?_
  refine own_aaD X20 hx hby hZ e20 V_b1 ⟨by decide, by decide⟩ (v := (.ref b3)) rfl od_prog_37_method_10_108 (pc' := 109) rfl ?_
  refine own_iload X20 hx hby od_prog_37_method_10_109 (pc' := 111) rfl rfl ?_
  refine own_daD X20 hx hby hZ e20 V_b3 ⟨by decide, by decide⟩ (v := m00) rfl od_prog_37_method_10_111 (pc' := 112) rfl ?_
  refine own_dconst0 X20 hx hby od_prog_37_method_10_112 (pc' := 113) rfl (v := (0 : UInt64)) rfl ?_
  obtain ⟨dv22, hd22, hk22⟩ := G12
  refine own_dcmp X20 hx hby od_prog_37_method_10_113 (pc' := 114) rfl (v := dv22) hd22 ?_
  refine own_ifY X20 hx hby od_prog_37_method_10_114 (by decide) (pc' := 119) (by decide) (feq hk22).2 ?_
  refine own_aloadN X20 hx hby od_prog_37_method_10_119 (pc' := 120) rfl rfl rfl ?_
  refine own_iload X20 hx hby od_prog_37_method_10_120 (pc' := 122) rfl rfl ?_
  refine own_aaD X20 hx hby hZ e20 V_b1 ⟨by decide, by decide⟩ (v := (.ref b3)) rfl od_prog_37_method_10_122 (pc' := 123) rfl ?_
  refine own_astore X20 hx hby od_prog_37_method_10_123 (pc' := 125) rfl rfl (Ls' := #[.val (.ref aM), .val (.ref ar), .val (.int (2 : Int32)), .val (.ref b1), .val (.ref b15), .val (.int (0 : Int32)), .val (.int (0 : Int32)), .val (.ref b3), .unset, .unset, .unset, .unset, .unset, .unset]) rfl ?_
  refine own_aloadN X20 hx hby od_prog_37_method_10_125 (pc' := 126) rfl rfl rfl ?_
  refine own_iload X20 hx hby od_prog_37_method_10_126 (pc' := 128) rfl rfl ?_
  refine own_aloadN X20 hx hby od_prog_37_method_10_128 (pc' := 129) rfl rfl rfl ?_
  refine own_iload X20 hx hby od_prog_37_method_10_129 (pc' := 131) rfl rfl ?_
  refine own_aaD X20 hx hby hZ e20 V_b1 ⟨by decide, by decide⟩ (v := (.ref b3)) rfl od_prog_37_method_10_131 (pc' := 132) rfl ?_
  refine own_asD X20 hx hby hZ e20 V_b1 (V_b3.exa) ⟨by decide, by decide⟩ 0 rfl (Nat.le_of_ble_eq_true rfl) (ys := [.ref b3, .ref b9]) rfl od_prog_37_method_10_132 (pc' := 133) rfl ?_
  intro T23 h23 X23 e23 W23 Q23
  have Ea24 := own_xw Ea17 W23 le2
  replace V_b3 := V_b3.other W23 (Ne.symm ne_b1_b3)
  replace V_b9 := V_b9.other W23 (Ne.symm ne_b1_b9)
  replace V_b15 := V_b15.other W23 (Ne.symm ne_b1_b15)
  replace V_b1 := Q23
  have N23 := own_fr1 (sl := ((0 : Int32)).toNatClampNeg) N13 n0_b1
  refine own_aloadN X23 hx hby od_prog_37_method_10_133 (pc' := 134) rfl rfl rfl ?_
  refine own_iload X23 hx hby od_prog_37_method_10_134 (pc' := 136) rfl rfl ?_
  refine own_aload X23 hx hby od_prog_37_method_10_136 (pc' := 138) rfl rfl rfl ?_
  refine own_asD X23 hx hby hZ e23 V_b1 (V_b3.exa) ⟨by decide, by decide⟩ 0 rfl (Nat.le_of_ble_eq_true rfl) (ys := [.ref b3, .ref b9]) rfl od_prog_37_method_10_138 (pc' := 139) rfl ?_
  intro T25 h25 X25 e25 W25 Q25
  have Ea26 := own_xw Ea24 W25 le2
  replace V_b3 := V_b3.other W25 (Ne.symm ne_b1_b3)
  replace V_b9 := V_b9.other W25 (Ne.symm ne_b1_b9)
  replace V_b15 := V_b15.other W25 (Ne.symm ne_b1_b15)
  replace V_b1 := Q25
  have N25 := own_fr1 (sl := ((0 : Int32)).toNatClampNeg) N23 n0_b1
  refine own_aload X25 hx hby od_prog_37_method_10_139 (pc' := 141) rfl rfl rfl ?_
  refine own_iload X25 hx hby od_prog_37_method_10_141 (pc' := 143) rfl rfl ?_
  refine own_daD X25 hx hby hZ e25 V_b15 ⟨by decide, by decide⟩ (v := q0) rfl od_prog_37_method_10_143 (pc' := 144) rfl ?_
  refine own_dstore X25 hx hby od_prog_37_method_10_144 (pc' := 146) rfl (Ls' := #[.val (.ref aM), .val (.ref ar), .val (.int (2 : Int32)), .val (.ref b1), .val (.ref b15), .val (.int (0 : Int32)), .val (.int (0 : Int32)), .val (.ref b3), .val (.double q0), .second, .unset, .unset, .unset, .unset]) rfl ?_
  refine own_aload X25 hx hby od_prog_37_method_10_146 (pc' := 148) rfl rfl rfl ?_
  refine own_iload X25 hx hby od_prog_37_method_10_148 (pc' := 150) rfl rfl ?_
  refine own_aload X25 hx hby od_prog_37_method_10_150 (pc' := 152) rfl rfl rfl ?_
  refine own_iload X25 hx hby od_prog_37_method_10_152 (pc' := 154) rfl rfl ?_
  refine own_daD X25 hx hby hZ e25 V_b15 ⟨by decide, by decide⟩ (v := q0) rfl od_prog_37_method_10_154 (pc' := 155) rfl ?_
  refine own_dsD X25 hx hby hZ e25 V_b15 ⟨by decide, by decide⟩ 0 rfl (Nat.le_of_ble_eq_true rfl) (ys := [.double q0, .double q1]) rfl od_prog_37_method_10_155 (pc' := 156) rfl ?_
  intro T27 h27 X27 e27 W27 Q27
  have Ea28 := own_xw Ea26 W27 le16
  replace V_b1 := V_b1.other W27 ne_b1_b15
  replace V_b3 := V_b3.other W27 ne_b3_b15
  replace V_b9 := V_b9.other W27 ne_b9_b15
  replace V_b15 := Q27
  have N27 := own_fr1 (sl := ((0 : Int32)).toNatClampNeg) N25 n0_b15
  refine own_aload X27 hx hby od_prog_37_method_10_156 (pc' := 158) rfl rfl rfl ?_
  refine own_iload X27 hx hby od_prog_37_method_10_158 (pc' := 160) rfl rfl ?_
  refine own_dload X27 hx hby od_prog_37_method_10_160 (pc' := 162) rfl rfl ?_
  refine own_dsD X27 hx hby hZ e27 V_b15 ⟨by decide, by decide⟩ 0 rfl (Nat.le_of_ble_eq_true rfl) (ys := [.double q0, .double q1]) rfl od_prog_37_method_10_162 (pc' := 163) rfl ?_
  intro T29 h29 X29 e29 W29 Q29
  have Ea30 := own_xw Ea28 W29 le16
  replace V_b1 := V_b1.other W29 ne_b1_b15
  replace V_b3 := V_b3.other W29 ne_b3_b15
  replace V_b9 := V_b9.other W29 ne_b9_b15
  replace V_b15 := Q29
  have N29 := own_fr1 (sl := ((0 : Int32)).toNatClampNeg) N27 n0_b15
  refine own_iload X29 hx hby od_prog_37_method_10_163 (pc' := 165) rfl rfl ?_
  refine own_iconst X29 hx hby od_prog_37_method_10_165 (pc' := 166) rfl (z := 1) rfl ?_
  refine own_iaddE X29 hx hby od_prog_37_method_10_166 (pc' := 167) rfl (v := (1 : Int32)) rfl ?_
  refine own_istore X29 hx hby od_prog_37_method_10_167 (pc' := 169) rfl (Ls' := #[.val (.ref aM), .val (.ref ar), .val (.int (2 : Int32)), .val (.ref b1), .val (.ref b15), .val (.int (0 : Int32)), .val (.int (0 : Int32)), .val (.ref b3), .val (.double q0), .second, .val (.int (1 : Int32)), .unset, .unset, .unset]) rfl ?_
  refine own_iload X29 hx hby od_prog_37_method_10_169 (pc' := 171) rfl rfl ?_
  refine own_iloadN X29 hx hby od_prog_37_method_10_171 (pc' := 172) rfl rfl ?_
  refine own_icmpN X29 hx hby od_prog_37_method_10_172 (pc' := 175) rfl (tlt (by decide)).2.1 ?_
  refine own_aloadN X29 hx hby od_prog_37_method_10_175 (pc' := 176) rfl rfl rfl ?_
  refine own_iload X29 hx hby od_prog_37_method_10_176 (pc' := 178) rfl rfl ?_
  refine own_aaD X29 hx hby hZ e29 V_b1 ⟨by decide, by decide⟩ (v := (.ref b9)) rfl od_prog_37_method_10_178 (pc' := 179) rfl ?_
  refine own_iload X29 hx hby od_prog_37_method_10_179 (pc' := 181) rfl rfl ?_
  refine own_daD X29 hx hby hZ e29 V_b9 ⟨by decide, by decide⟩ (v := m10) rfl od_prog_37_method_10_181 (pc' := 182) rfl ?_
  refine own_aloadN X29 hx hby od_prog_37_method_10_182 (pc' := 183) rfl rfl rfl ?_
  refine own_iload X29 hx hby od_prog_37_method_10_183 (pc' := 185) rfl rfl ?_
  refine own_aaD X29 hx hby hZ e29 V_b1 ⟨by decide, by decide⟩ (v := (.ref b3)) rfl od_prog_37_method_10_185 (pc' := 186) rfl ?_
  refine own_iload X29 hx hby od_prog_37_method_10_186 (pc' := 188) rfl rfl ?_
  refine own_daD X29 hx hby hZ e29 V_b3 ⟨by decide, by decide⟩ (v := m00) rfl od_prog_37_method_10_188 (pc' := 189) rfl ?_
  refine own_ddiv X29 hx hby od_prog_37_method_10_189 (pc' := 190) rfl G1.1 (v := uf) G1.2 ?_
  refine own_dstore X29 hx hby od_prog_37_method_10_190 (pc' := 192) rfl (Ls' := #[.val (.ref aM), .val (.ref ar), .val (.int (2 : Int32)), .val (.ref b1), .val (.ref b15), .val (.int (0 : Int32)), .val (.int (0 : Int32)), .val (.ref b3), .val (.double q0), .second, .val (.int (1 : Int32)), .val (.double uf), .second, .unset]) rfl ?_
  refine own_iload X29 hx hby od_prog_37_method_10_192 (pc' := 194) rfl rfl ?_
  refine own_istore X29 hx hby od_prog_37_method_10_194 (pc' := 196) rfl (Ls' := #[.val (.ref aM), .val (.ref ar), .val (.int (2 : Int32)), .val (.ref b1), .val (.ref b15), .val (.int (0 : Int32)), .val (.int (0 : Int32)), .val (.ref b3), .val (.double q0), .second, .val (.int (1 : Int32)), .val (.double uf), .second, .val (.int (0 : Int32))]) rfl ?_
  refine own_iload X29 hx hby od_prog_37_method_10_196 (pc' := 198) rfl rfl ?_
  refine own_iloadN X29 hx hby od_prog_37_method_10_198 (pc' := 199) rfl rfl ?_
  refine own_icmpN X29 hx hby od_prog_37_method_10_199 (pc' := 202) rfl (tlt (by decide)).2.1 ?_
  refine own_aloadN X29 hx hby od_prog_37_method_10_202 (pc' := 203) rfl rfl rfl ?_
  refine own_iload X29 hx hby od_prog_37_method_10_203 (pc' := 205) rfl rfl ?_
  refine own_aaD X29 hx hby hZ e29 V_b1 ⟨by decide, by decide⟩ (v := (.ref b9)) rfl od_prog_37_method_10_205 (pc' := 206) rfl ?_
  refine own_iload X29 hx hby od_prog_37_method_10_206 (pc' := 208) rfl rfl ?_
  refine own_dup2 X29 hx hby od_prog_37_method_10_208 (pc' := 209) rfl rfl rfl ?_
  refine own_daD X29 hx hby hZ e29 V_b9 ⟨by decide, by decide⟩ (v := m10) rfl od_prog_37_method_10_209 (pc' := 210) rfl ?_
  refine own_dload X29 hx hby od_prog_37_method_10_210 (pc' := 212) rfl rfl ?_
  refine own_aloadN X29 hx hby od_prog_37_method_10_212 (pc' := 213) rfl rfl rfl ?_
  refine own_iload X29 hx hby od_prog_37_method_10_213 (pc' := 215) rfl rfl ?_
  refine own_aaD X29 hx hby hZ e29 V_b1 ⟨by decide, by decide⟩ (v := (.ref b3)) rfl od_prog_37_method_10_215 (pc' := 216) rfl ?_
  refine own_iload X29 hx hby od_prog_37_method_10_216 (pc' := 218) rfl rfl ?_
  refine own_daD X29 hx hby hZ e29 V_b3 ⟨by decide, by decide⟩ (v := m00) rfl od_prog_37_method_10_218 (pc' := 219) rfl ?_
  refine own_dmul X29 hx hby od_prog_37_method_10_219 (pc' := 220) rfl G2.1 (v := up0) G2.2 ?_
  refine own_dsub X29 hx hby od_prog_37_method_10_220 (pc' := 221) rfl G3.1 (v := ua10) G3.2 ?_
  refine own_dsD X29 hx hby hZ e29 V_b9 ⟨by decide, by decide⟩ 0 rfl (Nat.le_of_ble_eq_true rfl) (ys := [.double ua10, .double m11]) rfl od_prog_37_method_10_221 (pc' := 222) rfl ?_
  intro T31 h31 X31 e31 W31 Q31
  have Ea32 := own_xw Ea30 W31 le10
  replace V_b1 := V_b1.other W31 ne_b1_b9
  replace V_b3 := V_b3.other W31 ne_b3_b9
  replace V_b15 := V_b15.other W31 (Ne.symm ne_b9_b15)
  replace V_b9 := Q31
  have N31 := own_fr1 (sl := ((0 : Int32)).toNatClampNeg) N29 n0_b9
  refine own_iinc X31 hx hby od_prog_37_method_10_222 (pc' := 225) rfl rfl (z := 1) rfl (Ls' := #[.val (.ref aM), .val (.ref ar), .val (.int (2 : Int32)), .val (.ref b1), .val (.ref b15), .val (.int (0 : Int32)), .val (.int (0 : Int32)), .val (.ref b3), .val (.double q0), .second, .val (.int (1 : Int32)), .val (.double uf), .second, .val (.int (1 : Int32))]) rfl ?_
  refine own_goto X31 hx hby od_prog_37_method_10_225 (by decide) (pc' := 196) (by decide) ?_
  refine own_iload X31 hx hby od_prog_37_method_10_196 (pc' := 198) rfl rfl ?_
  refine own_iloadN X31 hx hby od_prog_37_method_10_198 (pc' := 199) rfl rfl ?_
  refine own_icmpN X31 hx hby od_prog_37_method_10_199 (pc' := 202) rfl (tlt (by decide)).2.1 ?_
  refine own_aloadN X31 hx hby od_prog_37_method_10_202 (pc' := 203) rfl rfl rfl ?_
  refine own_iload X31 hx hby od_prog_37_method_10_203 (pc' := 205) rfl rfl ?_
  refine own_aaD X31 hx hby hZ e31 V_b1 ⟨by decide, by decide⟩ (v := (.ref b9)) rfl od_prog_37_method_10_205 (pc' := 206) rfl ?_
  refine own_iload X31 hx hby od_prog_37_method_10_206 (pc' := 208) rfl rfl ?_
  refine own_dup2 X31 hx hby od_prog_37_method_10_208 (pc' := 209) rfl rfl rfl ?_
  refine own_daD X31 hx hby hZ e31 V_b9 ⟨by decide, by decide⟩ (v := m11) rfl od_prog_37_method_10_209 (pc' := 210) rfl ?_
  refine own_dload X31 hx hby od_prog_37_method_10_210 (pc' := 212) rfl rfl ?_
  refine own_aloadN X31 hx hby od_prog_37_method_10_212 (pc' := 213) rfl rfl rfl ?_
  refine own_iload X31 hx hby od_prog_37_method_10_213 (pc' := 215) rfl rfl ?_
  refine own_aaD X31 hx hby hZ e31 V_b1 ⟨by decide, by decide⟩ (v := (.ref b3)) rfl od_prog_37_method_10_215 (pc' := 216) rfl ?_
  refine own_iload X31 hx hby od_prog_37_method_10_216 (pc' := 218) rfl rfl ?_
  refine own_daD X31 hx hby hZ e31 V_b3 ⟨by decide, by decide⟩ (v := m01) rfl od_prog_37_method_10_218 (pc' := 219) rfl ?_
  refine own_dmul X31 hx hby od_prog_37_method_10_219 (pc' := 220) rfl G4.1 (v := up1) G4.2 ?_
  refine own_dsub X31 hx hby od_prog_37_method_10_220 (pc' := 221) rfl G5.1 (v := ua11) G5.2 ?_
  refine own_dsD X31 hx hby hZ e31 V_b9 ⟨by decide, by decide⟩ 1 rfl (Nat.le_of_ble_eq_true rfl) (ys := [.double ua10, .double ua11]) rfl od_prog_37_method_10_221 (pc' := 222) rfl ?_
  intro T33 h33 X33 e33 W33 Q33
  have Ea34 := own_xw Ea32 W33 le10
  replace V_b1 := V_b1.other W33 ne_b1_b9
  replace V_b3 := V_b3.other W33 ne_b3_b9
  replace V_b15 := V_b15.other W33 (Ne.symm ne_b9_b15)
  replace V_b9 := Q33
  have N33 := own_fr1 (sl := ((1 : Int32)).toNatClampNeg) N31 n0_b9
  refine own_iinc X33 hx hby od_prog_37_method_10_222 (pc' := 225) rfl rfl (z := 1) rfl (Ls' := #[.val (.ref aM), .val (.ref ar), .val (.int (2 : Int32)), .val (.ref b1), .val (.ref b15), .val (.int (0 : Int32)), .val (.int (0 : Int32)), .val (.ref b3), .val (.double q0), .second, .val (.int (1 : Int32)), .val (.double uf), .second, .val (.int (2 : Int32))]) rfl ?_
  refine own_goto X33 hx hby od_prog_37_method_10_225 (by decide) (pc' := 196) (by decide) ?_
  refine own_iload X33 hx hby od_prog_37_method_10_196 (pc' := 198) rfl rfl ?_
  refine own_iloadN X33 hx hby od_prog_37_method_10_198 (pc' := 199) rfl rfl ?_
  refine own_icmpY X33 hx hby od_prog_37_method_10_199 (by decide) (pc' := 228) (by decide) (flt (by decide)).2.1 ?_
  refine own_aload X33 hx hby od_prog_37_method_10_228 (pc' := 230) rfl rfl rfl ?_
  refine own_iload X33 hx hby od_prog_37_method_10_230 (pc' := 232) rfl rfl ?_
  refine own_dup2 X33 hx hby od_prog_37_method_10_232 (pc' := 233) rfl rfl rfl ?_
  refine own_daD X33 hx hby hZ e33 V_b15 ⟨by decide, by decide⟩ (v := q1) rfl od_prog_37_method_10_233 (pc' := 234) rfl ?_
  refine own_dload X33 hx hby od_prog_37_method_10_234 (pc' := 236) rfl rfl ?_
  refine own_aload X33 hx hby od_prog_37_method_10_236 (pc' := 238) rfl rfl rfl ?_
  refine own_iload X33 hx hby od_prog_37_method_10_238 (pc' := 240) rfl rfl ?_
  refine own_daD X33 hx hby hZ e33 V_b15 ⟨by decide, by decide⟩ (v := q0) rfl od_prog_37_method_10_240 (pc' := 241) rfl ?_
  refine own_dmul X33 hx hby od_prog_37_method_10_241 (pc' := 242) rfl G6.1 (v := upb) G6.2 ?_
  refine own_dsub X33 hx hby od_prog_37_method_10_242 (pc' := 243) rfl G7.1 (v := ub1) G7.2 ?_
  refine own_dsD X33 hx hby hZ e33 V_b15 ⟨by decide, by decide⟩ 1 rfl (Nat.le_of_ble_eq_true rfl) (ys := [.double q0, .double ub1]) rfl od_prog_37_method_10_243 (pc' := 244) rfl ?_
  intro T35 h35 X35 e35 W35 Q35
  have Ea36 := own_xw Ea34 W35 le16
  replace V_b1 := V_b1.other W35 ne_b1_b15
  replace V_b3 := V_b3.other W35 ne_b3_b15
  replace V_b9 := V_b9.other W35 ne_b9_b15
  replace V_b15 := Q35
  have N35 := own_fr1 (sl := ((1 : Int32)).toNatClampNeg) N33 n0_b15
  refine own_iinc X35 hx hby od_prog_37_method_10_244 (pc' := 247) rfl rfl (z := 1) rfl (Ls' := #[.val (.ref aM), .val (.ref ar), .val (.int (2 : Int32)), .val (.ref b1), .val (.ref b15), .val (.int (0 : Int32)), .val (.int (0 : Int32)), .val (.ref b3), .val (.double q0), .second, .val (.int (2 : Int32)), .val (.double uf), .second, .val (.int (2 : Int32))]) rfl ?_
  refine own_goto X35 hx hby od_prog_37_method_10_247 (by decide) (pc' := 169) (by decide) ?_
  refine own_iload X35 hx hby od_prog_37_method_10_169 (pc' := 171) rfl rfl ?_
  refine own_iloadN X35 hx hby od_prog_37_method_10_171 (pc' := 172) rfl rfl ?_
  refine own_icmpY X35 hx hby od_prog_37_method_10_172 (by decide) (pc' := 250) (by decide) (flt (by decide)).2.1 ?_
  refine own_iinc X35 hx hby od_prog_37_method_10_250 (pc' := 253) rfl rfl (z := 1) rfl (Ls' := #[.val (.ref aM), .val (.ref ar), .val (.int (2 : Int32)), .val (.ref b1), .val (.ref b15), .val (.int (1 : Int32)), .val (.int (0 : Int32)), .val (.ref b3), .val (.double q0), .second, .val (.int (2 : Int32)), .val (.double uf), .second, .val (.int (2 : Int32))]) rfl ?_
  refine own_goto X35 hx hby od_prog_37_method_10_253 (by decide) (pc' := 49) (by decide) ?_
  refine own_iload X35 hx hby od_prog_37_method_10_49 (pc' := 51) rfl rfl ?_
  refine own_iloadN X35 hx hby od_prog_37_method_10_51 (pc' := 52) rfl rfl ?_
  refine own_icmpN X35 hx hby od_prog_37_method_10_52 (pc' := 55) rfl (tlt (by decide)).2.1 ?_
  refine own_iload X35 hx hby od_prog_37_method_10_55 (pc' := 57) rfl rfl ?_
  refine own_istore X35 hx hby od_prog_37_method_10_57 (pc' := 59) rfl (Ls' := #[.val (.ref aM), .val (.ref ar), .val (.int (2 : Int32)), .val (.ref b1), .val (.ref b15), .val (.int (1 : Int32)), .val (.int (1 : Int32)), .val (.ref b3), .val (.double q0), .second, .val (.int (2 : Int32)), .val (.double uf), .second, .val (.int (2 : Int32))]) rfl ?_
  refine own_iload X35 hx hby od_prog_37_method_10_59 (pc' := 61) rfl rfl ?_
  refine own_iconst X35 hx hby od_prog_37_method_10_61 (pc' := 62) rfl (z := 1) rfl ?_
  refine own_iaddE X35 hx hby od_prog_37_method_10_62 (pc' := 63) rfl (v := (2 : Int32)) rfl ?_
  refine own_istore X35 hx hby od_prog_37_method_10_63 (pc' := 65) rfl (Ls' := #[.val (.ref aM), .val (.ref ar), .val (.int (2 : Int32)), .val (.ref b1), .val (.ref b15), .val (.int (1 : Int32)), .val (.int (1 : Int32)), .val (.int (2 : Int32)), .val (.double q0), .second, .val (.int (2 : Int32)), .val (.double uf), .second, .val (.int (2 : Int32))]) rfl ?_
  refine own_iload X35 hx hby od_prog_37_method_10_65 (pc' := 67) rfl rfl ?_
  refine own_iloadN X35 hx hby od_prog_37_method_10_67 (pc' := 68) rfl rfl ?_
  refine own_icmpY X35 hx hby od_prog_37_method_10_68 (by decide) (pc' := 105) (by decide) (flt (by decide)).2.1 ?_
  refine own_aloadN X35 hx hby od_prog_37_method_10_105 (pc' := 106) rfl rfl rfl ?_
  refine own_iload X35 hx hby od_prog_37_method_10_106 (pc' := 108) rfl rfl ?_
  refine own_aaD X35 hx hby hZ e35 V_b1 ⟨by decide, by decide⟩ (v := (.ref b9)) rfl od_prog_37_method_10_108 (pc' := 109) rfl ?_
  refine own_iload X35 hx hby od_prog_37_method_10_109 (pc' := 111) rfl rfl ?_
  refine own_daD X35 hx hby hZ e35 V_b9 ⟨by decide, by decide⟩ (v := ua11) rfl od_prog_37_method_10_111 (pc' := 112) rfl ?_
  refine own_dconst0 X35 hx hby od_prog_37_method_10_112 (pc' := 113) rfl (v := (0 : UInt64)) rfl ?_
  obtain ⟨dv37, hd37, hk37⟩ := G13
  refine own_dcmp X35 hx hby od_prog_37_method_10_113 (pc' := 114) rfl (v := dv37) hd37 ?_
  refine own_ifY X35 hx hby od_prog_37_method_10_114 (by decide) (pc' := 119) (by decide) (feq hk37).2 ?_
  refine own_aloadN X35 hx hby od_prog_37_method_10_119 (pc' := 120) rfl rfl rfl ?_
  refine own_iload X35 hx hby od_prog_37_method_10_120 (pc' := 122) rfl rfl ?_
  refine own_aaD X35 hx hby hZ e35 V_b1 ⟨by decide, by decide⟩ (v := (.ref b9)) rfl od_prog_37_method_10_122 (pc' := 123) rfl ?_
  refine own_astore X35 hx hby od_prog_37_method_10_123 (pc' := 125) rfl rfl (Ls' := #[.val (.ref aM), .val (.ref ar), .val (.int (2 : Int32)), .val (.ref b1), .val (.ref b15), .val (.int (1 : Int32)), .val (.int (1 : Int32)), .val (.ref b9), .val (.double q0), .second, .val (.int (2 : Int32)), .val (.double uf), .second, .val (.int (2 : Int32))]) rfl ?_
  refine own_aloadN X35 hx hby od_prog_37_method_10_125 (pc' := 126) rfl rfl rfl ?_
  refine own_iload X35 hx hby od_prog_37_method_10_126 (pc' := 128) rfl rfl ?_
  refine own_aloadN X35 hx hby od_prog_37_method_10_128 (pc' := 129) rfl rfl rfl ?_
  refine own_iload X35 hx hby od_prog_37_method_10_129 (pc' := 131) rfl rfl ?_
  refine own_aaD X35 hx hby hZ e35 V_b1 ⟨by decide, by decide⟩ (v := (.ref b9)) rfl od_prog_37_method_10_131 (pc' := 132) rfl ?_
  refine own_asD X35 hx hby hZ e35 V_b1 (V_b9.exa) ⟨by decide, by decide⟩ 1 rfl (Nat.le_of_ble_eq_true rfl) (ys := [.ref b3, .ref b9]) rfl od_prog_37_method_10_132 (pc' := 133) rfl ?_
  intro T38 h38 X38 e38 W38 Q38
  have Ea39 := own_xw Ea36 W38 le2
  replace V_b3 := V_b3.other W38 (Ne.symm ne_b1_b3)
  replace V_b9 := V_b9.other W38 (Ne.symm ne_b1_b9)
  replace V_b15 := V_b15.other W38 (Ne.symm ne_b1_b15)
  replace V_b1 := Q38
  have N38 := own_fr1 (sl := ((1 : Int32)).toNatClampNeg) N35 n0_b1
  refine own_aloadN X38 hx hby od_prog_37_method_10_133 (pc' := 134) rfl rfl rfl ?_
  refine own_iload X38 hx hby od_prog_37_method_10_134 (pc' := 136) rfl rfl ?_
  refine own_aload X38 hx hby od_prog_37_method_10_136 (pc' := 138) rfl rfl rfl ?_
  refine own_asD X38 hx hby hZ e38 V_b1 (V_b9.exa) ⟨by decide, by decide⟩ 1 rfl (Nat.le_of_ble_eq_true rfl) (ys := [.ref b3, .ref b9]) rfl od_prog_37_method_10_138 (pc' := 139) rfl ?_
  intro T40 h40 X40 e40 W40 Q40
  have Ea41 := own_xw Ea39 W40 le2
  replace V_b3 := V_b3.other W40 (Ne.symm ne_b1_b3)
  replace V_b9 := V_b9.other W40 (Ne.symm ne_b1_b9)
  replace V_b15 := V_b15.other W40 (Ne.symm ne_b1_b15)
  replace V_b1 := Q40
  have N40 := own_fr1 (sl := ((1 : Int32)).toNatClampNeg) N38 n0_b1
  refine own_aload X40 hx hby od_prog_37_method_10_139 (pc' := 141) rfl rfl rfl ?_
  refine own_iload X40 hx hby od_prog_37_method_10_141 (pc' := 143) rfl rfl ?_
  refine own_daD X40 hx hby hZ e40 V_b15 ⟨by decide, by decide⟩ (v := ub1) rfl od_prog_37_method_10_143 (pc' := 144) rfl ?_
  refine own_dstore X40 hx hby od_prog_37_method_10_144 (pc' := 146) rfl (Ls' := #[.val (.ref aM), .val (.ref ar), .val (.int (2 : Int32)), .val (.ref b1), .val (.ref b15), .val (.int (1 : Int32)), .val (.int (1 : Int32)), .val (.ref b9), .val (.double ub1), .second, .val (.int (2 : Int32)), .val (.double uf), .second, .val (.int (2 : Int32))]) rfl ?_
  refine own_aload X40 hx hby od_prog_37_method_10_146 (pc' := 148) rfl rfl rfl ?_
  refine own_iload X40 hx hby od_prog_37_method_10_148 (pc' := 150) rfl rfl ?_
  refine own_aload X40 hx hby od_prog_37_method_10_150 (pc' := 152) rfl rfl rfl ?_
  refine own_iload X40 hx hby od_prog_37_method_10_152 (pc' := 154) rfl rfl ?_
  refine own_daD X40 hx hby hZ e40 V_b15 ⟨by decide, by decide⟩ (v := ub1) rfl od_prog_37_method_10_154 (pc' := 155) rfl ?_
  refine own_dsD X40 hx hby hZ e40 V_b15 ⟨by decide, by decide⟩ 1 rfl (Nat.le_of_ble_eq_true rfl) (ys := [.double q0, .double ub1]) rfl od_prog_37_method_10_155 (pc' := 156) rfl ?_
  intro T42 h42 X42 e42 W42 Q42
  have Ea43 := own_xw Ea41 W42 le16
  replace V_b1 := V_b1.other W42 ne_b1_b15
  replace V_b3 := V_b3.other W42 ne_b3_b15
  replace V_b9 := V_b9.other W42 ne_b9_b15
  replace V_b15 := Q42
  have N42 := own_fr1 (sl := ((1 : Int32)).toNatClampNeg) N40 n0_b15
  refine own_aload X42 hx hby od_prog_37_method_10_156 (pc' := 158) rfl rfl rfl ?_
  refine own_iload X42 hx hby od_prog_37_method_10_158 (pc' := 160) rfl rfl ?_
  refine own_dload X42 hx hby od_prog_37_method_10_160 (pc' := 162) rfl rfl ?_
  refine own_dsD X42 hx hby hZ e42 V_b15 ⟨by decide, by decide⟩ 1 rfl (Nat.le_of_ble_eq_true rfl) (ys := [.double q0, .double ub1]) rfl od_prog_37_method_10_162 (pc' := 163) rfl ?_
  intro T44 h44 X44 e44 W44 Q44
  have Ea45 := own_xw Ea43 W44 le16
  replace V_b1 := V_b1.other W44 ne_b1_b15
  replace V_b3 := V_b3.other W44 ne_b3_b15
  replace V_b9 := V_b9.other W44 ne_b9_b15
  replace V_b15 := Q44
  have N44 := own_fr1 (sl := ((1 : Int32)).toNatClampNeg) N42 n0_b15
  refine own_iload X44 hx hby od_prog_37_method_10_163 (pc' := 165) rfl rfl ?_
  refine own_iconst X44 hx hby od_prog_37_method_10_165 (pc' := 166) rfl (z := 1) rfl ?_
  refine own_iaddE X44 hx hby od_prog_37_method_10_166 (pc' := 167) rfl (v := (2 : Int32)) rfl ?_
  refine own_istore X44 hx hby od_prog_37_method_10_167 (pc' := 169) rfl (Ls' := #[.val (.ref aM), .val (.ref ar), .val (.int (2 : Int32)), .val (.ref b1), .val (.ref b15), .val (.int (1 : Int32)), .val (.int (1 : Int32)), .val (.ref b9), .val (.double ub1), .second, .val (.int (2 : Int32)), .val (.double uf), .second, .val (.int (2 : Int32))]) rfl ?_
  refine own_iload X44 hx hby od_prog_37_method_10_169 (pc' := 171) rfl rfl ?_
  refine own_iloadN X44 hx hby od_prog_37_method_10_171 (pc' := 172) rfl rfl ?_
  refine own_icmpY X44 hx hby od_prog_37_method_10_172 (by decide) (pc' := 250) (by decide) (flt (by decide)).2.1 ?_
  refine own_iinc X44 hx hby od_prog_37_method_10_250 (pc' := 253) rfl rfl (z := 1) rfl (Ls' := #[.val (.ref aM), .val (.ref ar), .val (.int (2 : Int32)), .val (.ref b1), .val (.ref b15), .val (.int (2 : Int32)), .val (.int (1 : Int32)), .val (.ref b9), .val (.double ub1), .second, .val (.int (2 : Int32)), .val (.double uf), .second, .val (.int (2 : Int32))]) rfl ?_
  refine own_goto X44 hx hby od_prog_37_method_10_253 (by decide) (pc' := 49) (by decide) ?_
  refine own_iload X44 hx hby od_prog_37_method_10_49 (pc' := 51) rfl rfl ?_
  refine own_iloadN X44 hx hby od_prog_37_method_10_51 (pc' := 52) rfl rfl ?_
  refine own_icmpY X44 hx hby od_prog_37_method_10_52 (by decide) (pc' := 256) (by decide) (flt (by decide)).2.1 ?_
  refine own_iloadN X44 hx hby od_prog_37_method_10_256 (pc' := 257) rfl rfl ?_
  refine own_newD X44 hx hby hZ (ow_4 hw) e44 od_prog_37_method_10_257 (pc' := 259) rfl (by decide) (cap := 2) (by decide) (by decide) (by decide) (by decide) (vs := [.double (0 : UInt64), .double (0 : UInt64)]) rfl ?_
  intro T46 h46 b46 g46 X46 e46 E46 V_b46
  have ne_b1_b46 : b1 ≠ b46 := own_nl V_b1.lt g46
  have ne_b3_b46 : b3 ≠ b46 := own_nl V_b3.lt g46
  have ne_b9_b46 : b9 ≠ b46 := own_nl V_b9.lt g46
  have ne_b15_b46 : b15 ≠ b46 := own_nl V_b15.lt g46
  have le47 : h0.size ≤ b46 := Nat.le_trans Ea45.1 (Nat.le_of_eq g46.symm)
  have n0_b46 : n0 ≤ b46 := Nat.le_trans (Nat.le_trans Z0 Ea45.1) (Nat.le_of_eq g46.symm)
  have Ea48 := own_xt Ea45 E46
  replace V_b1 := V_b1.ext E46
  replace V_b3 := V_b3.ext E46
  replace V_b9 := V_b9.ext E46
  replace V_b15 := V_b15.ext E46
  refine own_astore X46 hx hby od_prog_37_method_10_259 (pc' := 261) rfl rfl (Ls' := #[.val (.ref aM), .val (.ref ar), .val (.int (2 : Int32)), .val (.ref b1), .val (.ref b15), .val (.ref b46), .val (.int (1 : Int32)), .val (.ref b9), .val (.double ub1), .second, .val (.int (2 : Int32)), .val (.double uf), .second, .val (.int (2 : Int32))]) rfl ?_
  refine own_iloadN X46 hx hby od_prog_37_method_10_261 (pc' := 262) rfl rfl ?_
  refine own_iconst X46 hx hby od_prog_37_method_10_262 (pc' := 263) rfl (z := 1) rfl ?_
  refine own_isubE X46 hx hby od_prog_37_method_10_263 (pc' := 264) rfl (v := (1 : Int32)) rfl ?_
  refine own_istore X46 hx hby od_prog_37_method_10_264 (pc' := 266) rfl (Ls' := #[.val (.ref aM), .val (.ref ar), .val (.int (2 : Int32)), .val (.ref b1), .val (.ref b15), .val (.ref b46), .val (.int (1 : Int32)), .val (.ref b9), .val (.double ub1), .second, .val (.int (2 : Int32)), .val (.double uf), .second, .val (.int (2 : Int32))]) rfl ?_
  refine own_iload X46 hx hby od_prog_37_method_10_266 (pc' := 268) rfl rfl ?_
  refine own_ifN X46 hx hby od_prog_37_method_10_268 (pc' := 271) rfl (flt (by decide)).1 ?_
  refine own_aload X46 hx hby od_prog_37_method_10_271 (pc' := 273) rfl rfl rfl ?_
  refine own_iload X46 hx hby od_prog_37_method_10_273 (pc' := 275) rfl rfl ?_
  refine own_daD X46 hx hby hZ e46 V_b15 ⟨by decide, by decide⟩ (v := ub1) rfl od_prog_37_method_10_275 (pc' := 276) rfl ?_
  refine own_dstore X46 hx hby od_prog_37_method_10_276 (pc' := 278) rfl (Ls' := #[.val (.ref aM), .val (.ref ar), .val (.int (2 : Int32)), .val (.ref b1), .val (.ref b15), .val (.ref b46), .val (.int (1 : Int32)), .val (.double ub1), .second, .unset, .val (.int (2 : Int32)), .val (.double uf), .second, .val (.int (2 : Int32))]) rfl ?_
  refine own_iload X46 hx hby od_prog_37_method_10_278 (pc' := 280) rfl rfl ?_
  refine own_iconst X46 hx hby od_prog_37_method_10_280 (pc' := 281) rfl (z := 1) rfl ?_
  refine own_iaddE X46 hx hby od_prog_37_method_10_281 (pc' := 282) rfl (v := (2 : Int32)) rfl ?_
  refine own_istore X46 hx hby od_prog_37_method_10_282 (pc' := 284) rfl (Ls' := #[.val (.ref aM), .val (.ref ar), .val (.int (2 : Int32)), .val (.ref b1), .val (.ref b15), .val (.ref b46), .val (.int (1 : Int32)), .val (.double ub1), .second, .val (.int (2 : Int32)), .val (.int (2 : Int32)), .val (.double uf), .second, .val (.int (2 : Int32))]) rfl ?_
  refine own_iload X46 hx hby od_prog_37_method_10_284 (pc' := 286) rfl rfl ?_
  refine own_iloadN X46 hx hby od_prog_37_method_10_286 (pc' := 287) rfl rfl ?_
  refine own_icmpY X46 hx hby od_prog_37_method_10_287 (by decide) (pc' := 314) (by decide) (flt (by decide)).2.1 ?_
  refine own_aload X46 hx hby od_prog_37_method_10_314 (pc' := 316) rfl rfl rfl ?_
  refine own_iload X46 hx hby od_prog_37_method_10_316 (pc' := 318) rfl rfl ?_
  refine own_dload X46 hx hby od_prog_37_method_10_318 (pc' := 320) rfl rfl ?_
  refine own_aloadN X46 hx hby od_prog_37_method_10_320 (pc' := 321) rfl rfl rfl ?_
  refine own_iload X46 hx hby od_prog_37_method_10_321 (pc' := 323) rfl rfl ?_
  refine own_aaD X46 hx hby hZ e46 V_b1 ⟨by decide, by decide⟩ (v := (.ref b9)) rfl od_prog_37_method_10_323 (pc' := 324) rfl ?_
  refine own_iload X46 hx hby od_prog_37_method_10_324 (pc' := 326) rfl rfl ?_
  refine own_daD X46 hx hby hZ e46 V_b9 ⟨by decide, by decide⟩ (v := ua11) rfl od_prog_37_method_10_326 (pc' := 327) rfl ?_
  refine own_ddiv X46 hx hby od_prog_37_method_10_327 (pc' := 328) rfl G8.1 (v := ux1) G8.2 ?_
  refine own_dsD X46 hx hby hZ e46 V_b46 ⟨by decide, by decide⟩ 1 rfl (Nat.le_of_ble_eq_true rfl) (ys := [.double (0 : UInt64), .double ux1]) rfl od_prog_37_method_10_328 (pc' := 329) rfl ?_
  intro T49 h49 X49 e49 W49 Q49
  have Ea50 := own_xw Ea48 W49 le47
  replace V_b1 := V_b1.other W49 ne_b1_b46
  replace V_b3 := V_b3.other W49 ne_b3_b46
  replace V_b9 := V_b9.other W49 ne_b9_b46
  replace V_b15 := V_b15.other W49 ne_b15_b46
  replace V_b46 := Q49
  have N49 := own_fr1 (sl := ((1 : Int32)).toNatClampNeg) N44 n0_b46
  refine own_aload X49 hx hby od_prog_37_method_10_329 (pc' := 331) rfl rfl rfl ?_
  refine own_iload X49 hx hby od_prog_37_method_10_331 (pc' := 333) rfl rfl ?_
  refine own_daD X49 hx hby hZ e49 V_b46 ⟨by decide, by decide⟩ (v := ux1) rfl od_prog_37_method_10_333 (pc' := 334) rfl ?_
  refine own_callM X49 hx hby hml hZ hown (ow_44 hw) (ow_45 hw) (ow_46 hw) (ow_47 hw) (by decide) (cc := 0) (ss := 0) (rm_fin l Z a0 hw ux1 h49 n0 (Nat.le_trans Z0 Ea50.1) G14) 0 rfl rfl (by decide) (by decide) rfl (argsL := [(.double ux1)]) (rest := []) opd_0 rfl rfl (Nat.le_refl _) od_prog_37_method_10_334 (pc' := 337) rfl rfl e49 (by decide) (by decide) ?_
  rintro v51 T51 h51 L51 X51 e51 ⟨rfl, Nq51, rfl⟩
  have N51 := N49.app Nq51
  refine own_ifY X51 hx hby od_prog_37_method_10_337 (by decide) (pc' := 342) (by decide) (feq (by decide)).2 ?_
  refine own_iinc X51 hx hby od_prog_37_method_10_342 (pc' := 345) rfl rfl (z := (-1)) rfl (Ls' := #[.val (.ref aM), .val (.ref ar), .val (.int (2 : Int32)), .val (.ref b1), .val (.ref b15), .val (.ref b46), .val (.int (0 : Int32)), .val (.double ub1), .second, .val (.int (2 : Int32)), .val (.int (2 : Int32)), .val (.double uf), .second, .val (.int (2 : Int32))]) rfl ?_
  refine own_goto X51 hx hby od_prog_37_method_10_345 (by decide) (pc' := 266) (by decide) ?_
  refine own_iload X51 hx hby od_prog_37_method_10_266 (pc' := 268) rfl rfl ?_
  refine own_ifN X51 hx hby od_prog_37_method_10_268 (pc' := 271) rfl (flt (by decide)).1 ?_
  refine own_aload X51 hx hby od_prog_37_method_10_271 (pc' := 273) rfl rfl rfl ?_
  refine own_iload X51 hx hby od_prog_37_method_10_273 (pc' := 275) rfl rfl ?_
  refine own_daD X51 hx hby hZ e51 V_b15 ⟨by decide, by decide⟩ (v := q0) rfl od_prog_37_method_10_275 (pc' := 276) rfl ?_
  refine own_dstore X51 hx hby od_prog_37_method_10_276 (pc' := 278) rfl (Ls' := #[.val (.ref aM), .val (.ref ar), .val (.int (2 : Int32)), .val (.ref b1), .val (.ref b15), .val (.ref b46), .val (.int (0 : Int32)), .val (.double q0), .second, .val (.int (2 : Int32)), .val (.int (2 : Int32)), .val (.double uf), .second, .val (.int (2 : Int32))]) rfl ?_
  refine own_iload X51 hx hby od_prog_37_method_10_278 (pc' := 280) rfl rfl ?_
  refine own_iconst X51 hx hby od_prog_37_method_10_280 (pc' := 281) rfl (z := 1) rfl ?_
  refine own_iaddE X51 hx hby od_prog_37_method_10_281 (pc' := 282) rfl (v := (1 : Int32)) rfl ?_
  refine own_istore X51 hx hby od_prog_37_method_10_282 (pc' := 284) rfl (Ls' := #[.val (.ref aM), .val (.ref ar), .val (.int (2 : Int32)), .val (.ref b1), .val (.ref b15), .val (.ref b46), .val (.int (0 : Int32)), .val (.double q0), .second, .val (.int (1 : Int32)), .val (.int (2 : Int32)), .val (.double uf), .second, .val (.int (2 : Int32))]) rfl ?_
  refine own_iload X51 hx hby od_prog_37_method_10_284 (pc' := 286) rfl rfl ?_
  refine own_iloadN X51 hx hby od_prog_37_method_10_286 (pc' := 287) rfl rfl ?_
  refine own_icmpN X51 hx hby od_prog_37_method_10_287 (pc' := 290) rfl (tlt (by decide)).2.1 ?_
  refine own_dload X51 hx hby od_prog_37_method_10_290 (pc' := 292) rfl rfl ?_
  refine own_aloadN X51 hx hby od_prog_37_method_10_292 (pc' := 293) rfl rfl rfl ?_
  refine own_iload X51 hx hby od_prog_37_method_10_293 (pc' := 295) rfl rfl ?_
  refine own_aaD X51 hx hby hZ e51 V_b1 ⟨by decide, by decide⟩ (v := (.ref b3)) rfl od_prog_37_method_10_295 (pc' := 296) rfl ?_
  refine own_iload X51 hx hby od_prog_37_method_10_296 (pc' := 298) rfl rfl ?_
  refine own_daD X51 hx hby hZ e51 V_b3 ⟨by decide, by decide⟩ (v := m01) rfl od_prog_37_method_10_298 (pc' := 299) rfl ?_
  refine own_aload X51 hx hby od_prog_37_method_10_299 (pc' := 301) rfl rfl rfl ?_
  refine own_iload X51 hx hby od_prog_37_method_10_301 (pc' := 303) rfl rfl ?_
  refine own_daD X51 hx hby hZ e51 V_b46 ⟨by decide, by decide⟩ (v := ux1) rfl od_prog_37_method_10_303 (pc' := 304) rfl ?_
  refine own_dmul X51 hx hby od_prog_37_method_10_304 (pc' := 305) rfl G9.1 (v := uq) G9.2 ?_
  refine own_dsub X51 hx hby od_prog_37_method_10_305 (pc' := 306) rfl G10.1 (v := us0) G10.2 ?_
  refine own_dstore X51 hx hby od_prog_37_method_10_306 (pc' := 308) rfl (Ls' := #[.val (.ref aM), .val (.ref ar), .val (.int (2 : Int32)), .val (.ref b1), .val (.ref b15), .val (.ref b46), .val (.int (0 : Int32)), .val (.double us0), .second, .val (.int (1 : Int32)), .val (.int (2 : Int32)), .val (.double uf), .second, .val (.int (2 : Int32))]) rfl ?_
  refine own_iinc X51 hx hby od_prog_37_method_10_308 (pc' := 311) rfl rfl (z := 1) rfl (Ls' := #[.val (.ref aM), .val (.ref ar), .val (.int (2 : Int32)), .val (.ref b1), .val (.ref b15), .val (.ref b46), .val (.int (0 : Int32)), .val (.double us0), .second, .val (.int (2 : Int32)), .val (.int (2 : Int32)), .val (.double uf), .second, .val (.int (2 : Int32))]) rfl ?_
  refine own_goto X51 hx hby od_prog_37_method_10_311 (by decide) (pc' := 284) (by decide) ?_
  refine own_iload X51 hx hby od_prog_37_method_10_284 (pc' := 286) rfl rfl ?_
  refine own_iloadN X51 hx hby od_prog_37_method_10_286 (pc' := 287) rfl rfl ?_
  refine own_icmpY X51 hx hby od_prog_37_method_10_287 (by decide) (pc' := 314) (by decide) (flt (by decide)).2.1 ?_
  refine own_aload X51 hx hby od_prog_37_method_10_314 (pc' := 316) rfl rfl rfl ?_
  refine own_iload X51 hx hby od_prog_37_method_10_316 (pc' := 318) rfl rfl ?_
  refine own_dload X51 hx hby od_prog_37_method_10_318 (pc' := 320) rfl rfl ?_
  refine own_aloadN X51 hx hby od_prog_37_method_10_320 (pc' := 321) rfl rfl rfl ?_
  refine own_iload X51 hx hby od_prog_37_method_10_321 (pc' := 323) rfl rfl ?_
  refine own_aaD X51 hx hby hZ e51 V_b1 ⟨by decide, by decide⟩ (v := (.ref b3)) rfl od_prog_37_method_10_323 (pc' := 324) rfl ?_
  refine own_iload X51 hx hby od_prog_37_method_10_324 (pc' := 326) rfl rfl ?_
  refine own_daD X51 hx hby hZ e51 V_b3 ⟨by decide, by decide⟩ (v := m00) rfl od_prog_37_method_10_326 (pc' := 327) rfl ?_
  refine own_ddiv X51 hx hby od_prog_37_method_10_327 (pc' := 328) rfl G11.1 (v := ux0) G11.2 ?_
  refine own_dsD X51 hx hby hZ e51 V_b46 ⟨by decide, by decide⟩ 0 rfl (Nat.le_of_ble_eq_true rfl) (ys := [.double ux0, .double ux1]) rfl od_prog_37_method_10_328 (pc' := 329) rfl ?_
  intro T52 h52 X52 e52 W52 Q52
  have Ea53 := own_xw Ea50 W52 le47
  replace V_b1 := V_b1.other W52 ne_b1_b46
  replace V_b3 := V_b3.other W52 ne_b3_b46
  replace V_b9 := V_b9.other W52 ne_b9_b46
  replace V_b15 := V_b15.other W52 ne_b15_b46
  replace V_b46 := Q52
  have N52 := own_fr1 (sl := ((0 : Int32)).toNatClampNeg) N51 n0_b46
  refine own_aload X52 hx hby od_prog_37_method_10_329 (pc' := 331) rfl rfl rfl ?_
  refine own_iload X52 hx hby od_prog_37_method_10_331 (pc' := 333) rfl rfl ?_
  refine own_daD X52 hx hby hZ e52 V_b46 ⟨by decide, by decide⟩ (v := ux0) rfl od_prog_37_method_10_333 (pc' := 334) rfl ?_
  refine own_callM X52 hx hby hml hZ hown (ow_44 hw) (ow_45 hw) (ow_46 hw) (ow_47 hw) (by decide) (cc := 0) (ss := 0) (rm_fin l Z a0 hw ux0 h52 n0 (Nat.le_trans Z0 Ea53.1) G15) 0 rfl rfl (by decide) (by decide) rfl (argsL := [(.double ux0)]) (rest := []) opd_0 rfl rfl (Nat.le_refl _) od_prog_37_method_10_334 (pc' := 337) rfl rfl e52 (by decide) (by decide) ?_
  rintro v54 T54 h54 L54 X54 e54 ⟨rfl, Nq54, rfl⟩
  have N54 := N52.app Nq54
  refine own_ifY X54 hx hby od_prog_37_method_10_337 (by decide) (pc' := 342) (by decide) (feq (by decide)).2 ?_
  refine own_iinc X54 hx hby od_prog_37_method_10_342 (pc' := 345) rfl rfl (z := (-1)) rfl (Ls' := #[.val (.ref aM), .val (.ref ar), .val (.int (2 : Int32)), .val (.ref b1), .val (.ref b15), .val (.ref b46), .val (.int (-1 : Int32)), .val (.double us0), .second, .val (.int (2 : Int32)), .val (.int (2 : Int32)), .val (.double uf), .second, .val (.int (2 : Int32))]) rfl ?_
  refine own_goto X54 hx hby od_prog_37_method_10_345 (by decide) (pc' := 266) (by decide) ?_
  refine own_iload X54 hx hby od_prog_37_method_10_266 (pc' := 268) rfl rfl ?_
  refine own_ifY X54 hx hby od_prog_37_method_10_268 (by decide) (pc' := 348) (by decide) (tlt (by decide)).1 ?_
  refine own_aload X54 hx hby od_prog_37_method_10_348 (pc' := 350) rfl rfl rfl ?_
  exact own_retA X54 hx hby hlk hrt rfl rfl od_prog_37_method_10_350 (by first | exact ⟨b46, rfl, le47, Ea53, N54, V_b46⟩ | (rw [e54]; exact ⟨b46, rfl, le47, Ea53, N54, V_b46⟩)) (by decide) (by decide)
theorem ef_rm_s2_1 (m : MethodId) (x0 : Addr) (x1 : Addr) : entryFrame m #[(.ref x0), (.ref x1)] 14 = mkF m 0 #[.val (.ref x0), .val (.ref x1), .unset, .unset, .unset, .unset, .unset, .unset, .unset, .unset, .unset, .unset, .unset, .unset] [] := by first | (simp [entryFrame, mkF, argsToLocals, Value.category]; done) | rfl
set_option maxRecDepth 65536 in
set_option maxHeartbeats 40000000 in
theorem rm_s2_1 (l : Launch) (Z : State) (a0 : Array Value) (hw : ∀ d ∈ tables_1, d.before a0 Z = true) (aM r0 r1 ar : Addr) (m00 m01 m10 m11 q0 q1 uf up0 ua10 up1 ua11 upb ub1 uq us0 ux0 ux1 : UInt64) (h0 : Heap) (n0 : Nat) (Z0 : n0 ≤ h0.size) (Hn0 : Jvm.Free.Fl.NoNaN64 m00) (Hn1 : Jvm.Free.Fl.NoNaN64 m10) (Hp : own_cg (m10 &&& 0x7fffffffffffffff) (m00 &&& 0x7fffffffffffffff) .l) (G1 : own_op (FP.ddiv m00 m10) uf) (G2 : own_op (FP.dmul uf m10) up0) (G3 : own_op (FP.dsub m00 up0) ua10) (G4 : own_op (FP.dmul uf m11) up1) (G5 : own_op (FP.dsub m01 up1) ua11) (G6 : own_op (FP.dmul uf q1) upb) (G7 : own_op (FP.dsub q0 upb) ub1) (G8 : own_op (FP.ddiv ub1 ua11) ux1) (G9 : own_op (FP.dmul m11 ux1) uq) (G10 : own_op (FP.dsub q1 uq) us0) (G11 : own_op (FP.ddiv us0 m10) ux0) (G12 : own_cnz m10 (0 : UInt64) .l) (G13 : own_cnz ua11 (0 : UInt64) .l) (G14 : Jvm.Free.Fl.Fin64 ux1) (G15 : Jvm.Free.Fl.Fin64 ux0) (V_aM : own_DD Z h0 aM (2 : Int32) [.ref r0, .ref r1]) (V_r0 : own_D Z h0 r0 (2 : Int32) [.double m00, .double m01]) (V_r1 : own_D Z h0 r1 (2 : Int32) [.double m10, .double m11]) (V_ar : own_D Z h0 ar (2 : Int32) [.double q0, .double q1]) :
    own_Met l Z (⟨"com/example/bindery/bindery/selection/BindingMix", "solve", "([[D[D)[D"⟩ : MethodName) prog_37_method_10_code 14 (some (.array .double)) ({ frames := 2, cells := 5, slots := 10, locals := 26 } : Room) #[(.ref aM), (.ref ar)] h0 (fun v h L => ∃ b : Addr, v = some (.ref b) ∧ h0.size ≤ b ∧ Ext h0 h ∧ Fr n0 L ∧ own_D Z h b (2 : Int32) [.double ux0, .double ux1]) := by
  refine own_body (plainFor_of_name (by first | (simp [plainName, overriddenIn]; done) | decide +kernel)) ?_
  intro p e s m below meth c s₁ hx hby hml hown hnm hlk hrt hZ X0 e0
  refine own_enter (ef_rm_s2_1 m aM ar) ?_
  have N0 := Fr.nil n0
  refine own_aloadN X0 hx hby od_prog_37_method_10_0 (pc' := 1) rfl rfl rfl ?_
  refine own_alD X0 hx hby hZ e0 V_ar od_prog_37_method_10_1 (pc' := 2) rfl ?_
  refine own_istoreN X0 hx hby od_prog_37_method_10_2 (pc' := 3) rfl (Ls' := #[.val (.ref aM), .val (.ref ar), .val (.int (2 : Int32)), .unset, .unset, .unset, .unset, .unset, .unset, .unset, .unset, .unset, .unset, .unset]) rfl ?_
  refine own_iloadN X0 hx hby od_prog_37_method_10_3 (pc' := 4) rfl rfl ?_
  refine own_newDD X0 hx hby hZ hown (ow_19 hw) (ow_20 hw) e0 od_prog_37_method_10_4 (pc' := 7) rfl (by decide) (cap := 2) (by decide) (by decide) (by decide) (by decide) (vs := [.null, .null]) rfl ?_
  intro T1 h1 b1 g1 X1 e1 E1 V_b1
  have ne_aM_b1 : aM ≠ b1 := own_nl V_aM.lt g1
  have ne_r0_b1 : r0 ≠ b1 := own_nl V_r0.lt g1
  have ne_r1_b1 : r1 ≠ b1 := own_nl V_r1.lt g1
  have ne_ar_b1 : ar ≠ b1 := own_nl V_ar.lt g1
  have le2 : h0.size ≤ b1 := Nat.le_of_eq g1.symm
  have n0_b1 : n0 ≤ b1 := Nat.le_trans Z0 (Nat.le_of_eq g1.symm)
  replace V_aM := V_aM.ext E1
  replace V_r0 := V_r0.ext E1
  replace V_r1 := V_r1.ext E1
  replace V_ar := V_ar.ext E1
  refine own_astoreN X1 hx hby od_prog_37_method_10_7 (pc' := 8) rfl rfl (Ls' := #[.val (.ref aM), .val (.ref ar), .val (.int (2 : Int32)), .val (.ref b1), .unset, .unset, .unset, .unset, .unset, .unset, .unset, .unset, .unset, .unset]) rfl ?_
  refine own_iconst X1 hx hby od_prog_37_method_10_8 (pc' := 9) rfl (z := 0) rfl ?_
  refine own_istore X1 hx hby od_prog_37_method_10_9 (pc' := 11) rfl (Ls' := #[.val (.ref aM), .val (.ref ar), .val (.int (2 : Int32)), .val (.ref b1), .val (.int (0 : Int32)), .unset, .unset, .unset, .unset, .unset, .unset, .unset, .unset, .unset]) rfl ?_
  refine own_iload X1 hx hby od_prog_37_method_10_11 (pc' := 13) rfl rfl ?_
  refine own_iloadN X1 hx hby od_prog_37_method_10_13 (pc' := 14) rfl rfl ?_
  refine own_icmpN X1 hx hby od_prog_37_method_10_14 (pc' := 17) rfl (tlt (by decide)).2.1 ?_
  refine own_aloadN X1 hx hby od_prog_37_method_10_17 (pc' := 18) rfl rfl rfl ?_
  refine own_iload X1 hx hby od_prog_37_method_10_18 (pc' := 20) rfl rfl ?_
  refine own_aloadN X1 hx hby od_prog_37_method_10_20 (pc' := 21) rfl rfl rfl ?_
  refine own_iload X1 hx hby od_prog_37_method_10_21 (pc' := 23) rfl rfl ?_
  refine own_aaD X1 hx hby hZ e1 V_aM ⟨by decide, by decide⟩ (v := (.ref r0)) rfl od_prog_37_method_10_23 (pc' := 24) rfl ?_
  refine own_cloneD X1 hx hby hZ hml hown (ow_28 hw) (ow_29 hw) (ow_33 hw) (ow_31 hw) (ow_32 hw) (ow_34 hw) e1 V_r0 rfl od_prog_37_method_10_24 (pc' := 27) rfl (by decide) (W := 2) (cap := 2) (Nat.le_refl _) (by decide) (by decide) (by decide) (by decide) ?_
  intro T3 h3 b3 g3 X3 e3 E3 V_b3
  have ne_aM_b3 : aM ≠ b3 := own_nl V_aM.lt g3
  have ne_r0_b3 : r0 ≠ b3 := own_nl V_r0.lt g3
  have ne_r1_b3 : r1 ≠ b3 := own_nl V_r1.lt g3
  have ne_ar_b3 : ar ≠ b3 := own_nl V_ar.lt g3
  have ne_b1_b3 : b1 ≠ b3 := own_nl V_b1.lt g3
  have le4 : h0.size ≤ b3 := Nat.le_trans E1.1 (Nat.le_of_eq g3.symm)
  have n0_b3 : n0 ≤ b3 := Nat.le_trans (Nat.le_trans Z0 E1.1) (Nat.le_of_eq g3.symm)
  have Ea5 := own_xt E1 E3
  replace V_aM := V_aM.ext E3
  replace V_r0 := V_r0.ext E3
  replace V_r1 := V_r1.ext E3
  replace V_ar := V_ar.ext E3
  replace V_b1 := V_b1.ext E3
  refine own_cast X3 hx hby hZ hown (ow_19 hw) e3 (Ins.self V_b3.exa) od_prog_37_method_10_27 (pc' := 30) rfl ?_
  intro T6 X6 e6
  refine own_asD X6 hx hby hZ e6 V_b1 (V_b3.exa) ⟨by decide, by decide⟩ 0 rfl (Nat.le_of_ble_eq_true rfl) (ys := [.ref b3, .null]) rfl od_prog_37_method_10_30 (pc' := 31) rfl ?_
  intro T7 h7 X7 e7 W7 Q7
  have Ea8 := own_xw Ea5 W7 le2
  replace V_aM := V_aM.other W7 ne_aM_b1
  replace V_r0 := V_r0.other W7 ne_r0_b1
  replace V_r1 := V_r1.other W7 ne_r1_b1
  replace V_ar := V_ar.other W7 ne_ar_b1
  replace V_b3 := V_b3.other W7 (Ne.symm ne_b1_b3)
  replace V_b1 := Q7
  have N7 := own_fr1 (sl := ((0 : Int32)).toNatClampNeg) N0 n0_b1
  refine own_iinc X7 hx hby od_prog_37_method_10_31 (pc' := 34) rfl rfl (z := 1) rfl (Ls' := #[.val (.ref aM), .val (.ref ar), .val (.int (2 : Int32)), .val (.ref b1), .val (.int (1 : Int32)), .unset, .unset, .unset, .unset, .unset, .unset, .unset, .unset, .unset]) rfl ?_
  refine own_goto X7 hx hby od_prog_37_method_10_34 (by decide) (pc' := 11) (by decide) ?_
  refine own_iload X7 hx hby od_prog_37_method_10_11 (pc' := 13) rfl rfl ?_
  refine own_iloadN X7 hx hby od_prog_37_method_10_13 (pc' := 14) rfl rfl ?_
  refine own_icmpN X7 hx hby od_prog_37_method_10_14 (pc' := 17) rfl (tlt (by decide)).2.1 ?_
  refine own_aloadN X7 hx hby od_prog_37_method_10_17 (pc' := 18) rfl rfl rfl ?_
  refine own_iload X7 hx hby od_prog_37_method_10_18 (pc' := 20) rfl rfl ?_
  refine own_aloadN X7 hx hby od_prog_37_method_10_20 (pc' := 21) rfl rfl rfl ?_
  refine own_iload X7 hx hby od_prog_37_method_10_21 (pc' := 23) rfl rfl ?_
  refine own_aaD X7 hx hby hZ e7 V_aM ⟨by decide, by decide⟩ (v := (.ref r1)) rfl od_prog_37_method_10_23 (pc' := 24) rfl ?_
  refine own_cloneD X7 hx hby hZ hml hown (ow_28 hw) (ow_29 hw) (ow_33 hw) (ow_31 hw) (ow_32 hw) (ow_34 hw) e7 V_r1 rfl od_prog_37_method_10_24 (pc' := 27) rfl (by decide) (W := 2) (cap := 2) (Nat.le_refl _) (by decide) (by decide) (by decide) (by decide) ?_
  intro T9 h9 b9 g9 X9 e9 E9 V_b9
  have ne_aM_b9 : aM ≠ b9 := own_nl V_aM.lt g9
  have ne_r0_b9 : r0 ≠ b9 := own_nl V_r0.lt g9
  have ne_r1_b9 : r1 ≠ b9 := own_nl V_r1.lt g9
  have ne_ar_b9 : ar ≠ b9 := own_nl V_ar.lt g9
  have ne_b1_b9 : b1 ≠ b9 := own_nl V_b1.lt g9
  have ne_b3_b9 : b3 ≠ b9 := own_nl V_b3.lt g9
  have le10 : h0.size ≤ b9 := Nat.le_trans Ea8.1 (Nat.le_of_eq g9.symm)
  have n0_b9 : n0 ≤ b9 := Nat.le_trans (Nat.le_trans Z0 Ea8.1) (Nat.le_of_eq g9.symm)
  have Ea11 := own_xt Ea8 E9
  replace V_aM := V_aM.ext E9
  replace V_r0 := V_r0.ext E9
  replace V_r1 := V_r1.ext E9
  replace V_ar := V_ar.ext E9
  replace V_b1 := V_b1.ext E9
  replace V_b3 := V_b3.ext E9
  refine own_cast X9 hx hby hZ hown (ow_19 hw) e9 (Ins.self V_b9.exa) od_prog_37_method_10_27 (pc' := 30) rfl ?_
  intro T12 X12 e12
  refine own_asD X12 hx hby hZ e12 V_b1 (V_b9.exa) ⟨by decide, by decide⟩ 1 rfl (Nat.le_of_ble_eq_true rfl) (ys := [.ref b3, .ref b9]) rfl od_prog_37_method_10_30 (pc' := 31) rfl ?_
  intro T13 h13 X13 e13 W13 Q13
  have Ea14 := own_xw Ea11 W13 le2
  replace V_aM := V_aM.other W13 ne_aM_b1
  replace V_r0 := V_r0.other W13 ne_r0_b1
  replace V_r1 := V_r1.other W13 ne_r1_b1
  replace V_ar := V_ar.other W13 ne_ar_b1
  replace V_b3 := V_b3.other W13 (Ne.symm ne_b1_b3)
  replace V_b9 := V_b9.other W13 (Ne.symm ne_b1_b9)
  replace V_b1 := Q13
  have N13 := own_fr1 (sl := ((1 : Int32)).toNatClampNeg) N7 n0_b1
  refine own_iinc X13 hx hby od_prog_37_method_10_31 (pc' := 34) rfl rfl (z := 1) rfl (Ls' := #[.val (.ref aM), .val (.ref ar), .val (.int (2 : Int32)), .val (.ref b1), .val (.int (2 : Int32)), .unset, .unset, .unset, .unset, .unset, .unset, .unset, .unset, .unset]) rfl ?_
  refine own_goto X13 hx hby od_prog_37_method_10_34 (by decide) (pc' := 11) (by decide) ?_
  refine own_iload X13 hx hby od_prog_37_method_10_11 (pc' := 13) rfl rfl ?_
  refine own_iloadN X13 hx hby od_prog_37_method_10_13 (pc' := 14) rfl rfl ?_
  refine own_icmpY X13 hx hby od_prog_37_method_10_14 (by decide) (pc' := 37) (by decide) (flt (by decide)).2.1 ?_
  refine own_aloadN X13 hx hby od_prog_37_method_10_37 (pc' := 38) rfl rfl rfl ?_
  refine own_cloneD X13 hx hby hZ hml hown (ow_28 hw) (ow_29 hw) (ow_33 hw) (ow_31 hw) (ow_32 hw) (ow_34 hw) e13 V_ar rfl od_prog_37_method_10_38 (pc' := 41) rfl (by decide) (W := 0) (cap := 2) (Nat.le_refl _) (by decide) (by decide) (by decide) (by decide) ?_
  intro T15 h15 b15 g15 X15 e15 E15 V_b15
  have ne_aM_b15 : aM ≠ b15 := own_nl V_aM.lt g15
  have ne_r0_b15 : r0 ≠ b15 := own_nl V_r0.lt g15
  have ne_r1_b15 : r1 ≠ b15 := own_nl V_r1.lt g15
  have ne_ar_b15 : ar ≠ b15 := own_nl V_ar.lt g15
  have ne_b1_b15 : b1 ≠ b15 := own_nl V_b1.lt g15
  have ne_b3_b15 : b3 ≠ b15 := own_nl V_b3.lt g15
  have ne_b9_b15 : b9 ≠ b15 := own_nl V_b9.lt g15
  have le16 : h0.size ≤ b15 := Nat.le_trans Ea14.1 (Nat.le_of_eq g15.symm)
  have n0_b15 : n0 ≤ b15 := Nat.le_trans (Nat.le_trans Z0 Ea14.1) (Nat.le_of_eq g15.symm)
  have Ea17 := own_xt Ea14 E15
  replace V_aM := V_aM.ext E15
  replace V_r0 := V_r0.ext E15
  replace V_r1 := V_r1.ext E15
  replace V_ar := V_ar.ext E15
  replace V_b1 := V_b1.ext E15
  replace V_b3 := V_b3.ext E15
  replace V_b9 := V_b9.ext E15
  refine own_cast X15 hx hby hZ hown (ow_19 hw) e15 (Ins.self V_b15.exa) od_prog_37_method_10_41 (pc' := 44) rfl ?_
  intro T18 X18 e18
  refine own_astore X18 hx hby od_prog_37_method_10_44 (pc' := 46) rfl rfl (Ls' := #[.val (.ref aM), .val (.ref ar), .val (.int (2 : Int32)), .val (.ref b1), .val (.ref b15), .unset, .unset, .unset, .unset, .unset, .unset, .unset, .unset, .unset]) rfl ?_
  refine own_iconst X18 hx hby od_prog_37_method_10_46 (pc' := 47) rfl (z := 0) rfl ?_
  refine own_istore X18 hx hby od_prog_37_method_10_47 (pc' := 49) rfl (Ls' := #[.val (.ref aM), .val (.ref ar), .val (.int (2 : Int32)), .val (.ref b1), .val (.ref b15), .val (.int (0 : Int32)), .unset, .unset, .unset, .unset, .unset, .unset, .unset, .unset]) rfl ?_
  refine own_iload X18 hx hby od_prog_37_method_10_49 (pc' := 51) rfl rfl ?_
  refine own_iloadN X18 hx hby od_prog_37_method_10_51 (pc' := 52) rfl rfl ?_
  refine own_icmpN X18 hx hby od_prog_37_method_10_52 (pc' := 55) rfl (tlt (by decide)).2.1 ?_
  refine own_iload X18 hx hby od_prog_37_method_10_55 (pc' := 57) rfl rfl ?_
  refine own_istore X18 hx hby od_prog_37_method_10_57 (pc' := 59) rfl (Ls' := #[.val (.ref aM), .val (.ref ar), .val (.int (2 : Int32)), .val (.ref b1), .val (.ref b15), .val (.int (0 : Int32)), .val (.int (0 : Int32)), .unset, .unset, .unset, .unset, .unset, .unset, .unset]) rfl ?_
  refine own_iload X18 hx hby od_prog_37_method_10_59 (pc' := 61) rfl rfl ?_
  refine own_iconst X18 hx hby od_prog_37_method_10_61 (pc' := 62) rfl (z := 1) rfl ?_
  refine own_iaddE X18 hx hby od_prog_37_method_10_62 (pc' := 63) rfl (v := (1 : Int32)) rfl ?_
  refine own_istore X18 hx hby od_prog_37_method_10_63 (pc' := 65) rfl (Ls' := #[.val (.ref aM), .val (.ref ar), .val (.int (2 : Int32)), .val (.ref b1), .val (.ref b15), .val (.int (0 : Int32)), .val (.int (0 : Int32)), .val (.int (1 : Int32)), .unset, .unset, .unset, .unset, .unset, .unset]) rfl ?_
  refine own_iload X18 hx hby od_prog_37_method_10_65 (pc' := 67) rfl rfl ?_
  refine own_iloadN X18 hx hby od_prog_37_method_10_67 (pc' := 68) rfl rfl ?_
  refine own_icmpN X18 hx hby od_prog_37_method_10_68 (pc' := 71) rfl (tlt (by decide)).2.1 ?_
  refine own_aloadN X18 hx hby od_prog_37_method_10_71 (pc' := 72) rfl rfl rfl ?_
  refine own_iload X18 hx hby od_prog_37_method_10_72 (pc' := 74) rfl rfl ?_
  refine own_aaD X18 hx hby hZ e18 V_b1 ⟨by decide, by decide⟩ (v := (.ref b9)) rfl od_prog_37_method_10_74 (pc' := 75) rfl ?_
  refine own_iload X18 hx hby od_prog_37_method_10_75 (pc' := 77) rfl rfl ?_
  refine own_daD X18 hx hby hZ e18 V_b9 ⟨by decide, by decide⟩ (v := m10) rfl od_prog_37_method_10_77 (pc' := 78) rfl ?_
  refine own_absD X18 hx hby hZ hml hown (ow_64 hw) (ow_49 hw) (ow_50 hw) (ow_51 hw) e18 Hn1 rfl rfl od_prog_37_method_10_78 (pc' := 81) rfl (W := 0) (Nat.le_refl _) (by decide) (by decide) (by decide) (by decide) ?_
  intro T19 X19 e19
  refine own_aloadN X19 hx hby od_prog_37_method_10_81 (pc' := 82) rfl rfl rfl ?_
  refine own_iload X19 hx hby od_prog_37_method_10_82 (pc' := 84) rfl rfl ?_
  refine own_aaD X19 hx hby hZ e19 V_b1 ⟨by decide, by decide⟩ (v := (.ref b3)) rfl od_prog_37_method_10_84 (pc' := 85) rfl ?_
  refine own_iload X19 hx hby od_prog_37_method_10_85 (pc' := 87) rfl rfl ?_
  refine own_daD X19 hx hby hZ e19 V_b3 ⟨by decide, by decide⟩ (v := m00) rfl od_prog_37_method_10_87 (pc' := 88) rfl ?_
  refine own_absD X19 hx hby hZ hml hown (ow_64 hw) (ow_49 hw) (ow_50 hw) (ow_51 hw) e19 Hn0 rfl rfl od_prog_37_method_10_88 (pc' := 91) rfl (W := 2) (Nat.le_refl _) (by decide) (by decide) (by decide) (by decide) ?_
  intro T20 X20 e20
  obtain ⟨dv21, hd21, hk21⟩ := Hp
  refine own_dcmp X20 hx hby od_prog_37_method_10_91 (pc' := 92) rfl (v := dv21) hd21 ?_
  refine own_ifN X20 hx hby od_prog_37_method_10_92 (pc' := 95) rfl (tlt hk21).2.2.2 ?_
  refine own_iload X20 hx hby od_prog_37_method_10_95 (pc' := 97) rfl rfl ?_
  refine own_istore X20 hx hby od_prog_37_method_10_97 (pc' := 99) rfl (Ls' := #[.val (.ref aM), .val (.ref ar), .val (.int (2 : Int32)), .val (.ref b1), .val (.ref b15), .val (.int (0 : Int32)), .val (.int (1 : Int32)), .val (.int (1 : Int32)), .unset, .unset, .unset, .unset, .unset, .unset]) rfl ?_
  refine own_iinc X20 hx hby od_prog_37_method_10_99 (pc' := 102) rfl rfl (z := 1) rfl (Ls' := #[.val (.ref aM), .val (.ref ar), .val (.int (2 : Int32)), .val (.ref b1), .val (.ref b15), .val (.int (0 : Int32)), .val (.int (1 : Int32)), .val (.int (2 : Int32)), .unset, .unset, .unset, .unset, .unset, .unset]) rfl ?_
  refine own_goto X20 hx hby od_prog_37_method_10_102 (by decide) (pc' := 65) (by decide) ?_
  refine own_iload X20 hx hby od_prog_37_method_10_65 (pc' := 67) rfl rfl ?_
  refine own_iloadN X20 hx hby od_prog_37_method_10_67 (pc' := 68) rfl rfl ?_
  refine own_icmpY X20 hx hby od_prog_37_method_10_68 (by decide) (pc' := 105) (by decide) (flt (by decide)).2.1 ?_
  refine own_aloadN X20 hx hby od_prog_37_method_10_105 (pc' := 106) rfl rfl rfl ?_
  refine own_iload X20 hx hby od_prog_37_method_10_106 (pc' := 108) rfl rfl ?_
  refine own_aaD X20 hx hby hZ e20 V_b1 ⟨by decide, by decide⟩ (v := (.ref b9)) rfl od_prog_37_method_10_108 (pc' := 109) rfl ?_
  refine own_iload X20 hx hby od_prog_37_method_10_109 (pc' := 111) rfl rfl ?_
  refine own_daD X20 hx hby hZ e20 V_b9 ⟨by decide, by decide⟩ (v := m10) rfl od_prog_37_method_10_111 (pc' := 112) rfl ?_
  refine own_dconst0 X20 hx hby od_prog_37_method_10_112 (pc' := 113) rfl (v := (0 : UInt64)) rfl ?_
  obtain ⟨dv22, hd22, hk22⟩ := G12
  refine own_dcmp X20 hx hby od_prog_37_method_10_113 (pc' := 114) rfl (v := dv22) hd22 ?_
  refine own_ifY X20 hx hby od_prog_37_method_10_114 (by decide) (pc' := 119) (by decide) (feq hk22).2 ?_
  refine own_aloadN X20 hx hby od_prog_37_method_10_119 (pc' := 120) rfl rfl rfl ?_
  refine own_iload X20 hx hby od_prog_37_method_10_120 (pc' := 122) rfl rfl ?_
  refine own_aaD X20 hx hby hZ e20 V_b1 ⟨by decide, by decide⟩ (v := (.ref b3)) rfl od_prog_37_method_10_122 (pc' := 123) rfl ?_
  refine own_astore X20 hx hby od_prog_37_method_10_123 (pc' := 125) rfl rfl (Ls' := #[.val (.ref aM), .val (.ref ar), .val (.int (2 : Int32)), .val (.ref b1), .val (.ref b15), .val (.int (0 : Int32)), .val (.int (1 : Int32)), .val (.ref b3), .unset, .unset, .unset, .unset, .unset, .unset]) rfl ?_
  refine own_aloadN X20 hx hby od_prog_37_method_10_125 (pc' := 126) rfl rfl rfl ?_
  refine own_iload X20 hx hby od_prog_37_method_10_126 (pc' := 128) rfl rfl ?_
  refine own_aloadN X20 hx hby od_prog_37_method_10_128 (pc' := 129) rfl rfl rfl ?_
  refine own_iload X20 hx hby od_prog_37_method_10_129 (pc' := 131) rfl rfl ?_
  refine own_aaD X20 hx hby hZ e20 V_b1 ⟨by decide, by decide⟩ (v := (.ref b9)) rfl od_prog_37_method_10_131 (pc' := 132) rfl ?_
  refine own_asD X20 hx hby hZ e20 V_b1 (V_b9.exa) ⟨by decide, by decide⟩ 0 rfl (Nat.le_of_ble_eq_true rfl) (ys := [.ref b9, .ref b9]) rfl od_prog_37_method_10_132 (pc' := 133) rfl ?_
  intro T23 h23 X23 e23 W23 Q23
  have Ea24 := own_xw Ea17 W23 le2
  replace V_b3 := V_b3.other W23 (Ne.symm ne_b1_b3)
  replace V_b9 := V_b9.other W23 (Ne.symm ne_b1_b9)
  replace V_b15 := V_b15.other W23 (Ne.symm ne_b1_b15)
  replace V_b1 := Q23
  have N23 := own_fr1 (sl := ((0 : Int32)).toNatClampNeg) N13 n0_b1
  refine own_aloadN X23 hx hby od_prog_37_method_10_133 (pc' := 134) rfl rfl rfl ?_
  refine own_iload X23 hx hby od_prog_37_method_10_134 (pc' := 136) rfl rfl ?_
  refine own_aload X23 hx hby od_prog_37_method_10_136 (pc' := 138) rfl rfl rfl ?_
  refine own_asD X23 hx hby hZ e23 V_b1 (V_b3.exa) ⟨by decide, by decide⟩ 1 rfl (Nat.le_of_ble_eq_true rfl) (ys := [.ref b9, .ref b3]) rfl od_prog_37_method_10_138 (pc' := 139) rfl ?_
  intro T25 h25 X25 e25 W25 Q25
  have Ea26 := own_xw Ea24 W25 le2
  replace V_b3 := V_b3.other W25 (Ne.symm ne_b1_b3)
  replace V_b9 := V_b9.other W25 (Ne.symm ne_b1_b9)
  replace V_b15 := V_b15.other W25 (Ne.symm ne_b1_b15)
  replace V_b1 := Q25
  have N25 := own_fr1 (sl := ((1 : Int32)).toNatClampNeg) N23 n0_b1
  refine own_aload X25 hx hby od_prog_37_method_10_139 (pc' := 141) rfl rfl rfl ?_
  refine own_iload X25 hx hby od_prog_37_method_10_141 (pc' := 143) rfl rfl ?_
  refine own_daD X25 hx hby hZ e25 V_b15 ⟨by decide, by decide⟩ (v := q0) rfl od_prog_37_method_10_143 (pc' := 144) rfl ?_
  refine own_dstore X25 hx hby od_prog_37_method_10_144 (pc' := 146) rfl (Ls' := #[.val (.ref aM), .val (.ref ar), .val (.int (2 : Int32)), .val (.ref b1), .val (.ref b15), .val (.int (0 : Int32)), .val (.int (1 : Int32)), .val (.ref b3), .val (.double q0), .second, .unset, .unset, .unset, .unset]) rfl ?_
  refine own_aload X25 hx hby od_prog_37_method_10_146 (pc' := 148) rfl rfl rfl ?_
  refine own_iload X25 hx hby od_prog_37_method_10_148 (pc' := 150) rfl rfl ?_
  refine own_aload X25 hx hby od_prog_37_method_10_150 (pc' := 152) rfl rfl rfl ?_
  refine own_iload X25 hx hby od_prog_37_method_10_152 (pc' := 154) rfl rfl ?_
  refine own_daD X25 hx hby hZ e25 V_b15 ⟨by decide, by decide⟩ (v := q1) rfl od_prog_37_method_10_154 (pc' := 155) rfl ?_
  refine own_dsD X25 hx hby hZ e25 V_b15 ⟨by decide, by decide⟩ 0 rfl (Nat.le_of_ble_eq_true rfl) (ys := [.double q1, .double q1]) rfl od_prog_37_method_10_155 (pc' := 156) rfl ?_
  intro T27 h27 X27 e27 W27 Q27
  have Ea28 := own_xw Ea26 W27 le16
  replace V_b1 := V_b1.other W27 ne_b1_b15
  replace V_b3 := V_b3.other W27 ne_b3_b15
  replace V_b9 := V_b9.other W27 ne_b9_b15
  replace V_b15 := Q27
  have N27 := own_fr1 (sl := ((0 : Int32)).toNatClampNeg) N25 n0_b15
  refine own_aload X27 hx hby od_prog_37_method_10_156 (pc' := 158) rfl rfl rfl ?_
  refine own_iload X27 hx hby od_prog_37_method_10_158 (pc' := 160) rfl rfl ?_
  refine own_dload X27 hx hby od_prog_37_method_10_160 (pc' := 162) rfl rfl ?_
  refine own_dsD X27 hx hby hZ e27 V_b15 ⟨by decide, by decide⟩ 1 rfl (Nat.le_of_ble_eq_true rfl) (ys := [.double q1, .double q0]) rfl od_prog_37_method_10_162 (pc' := 163) rfl ?_
  intro T29 h29 X29 e29 W29 Q29
  have Ea30 := own_xw Ea28 W29 le16
  replace V_b1 := V_b1.other W29 ne_b1_b15
  replace V_b3 := V_b3.other W29 ne_b3_b15
  replace V_b9 := V_b9.other W29 ne_b9_b15
  replace V_b15 := Q29
  have N29 := own_fr1 (sl := ((1 : Int32)).toNatClampNeg) N27 n0_b15
  refine own_iload X29 hx hby od_prog_37_method_10_163 (pc' := 165) rfl rfl ?_
  refine own_iconst X29 hx hby od_prog_37_method_10_165 (pc' := 166) rfl (z := 1) rfl ?_
  refine own_iaddE X29 hx hby od_prog_37_method_10_166 (pc' := 167) rfl (v := (1 : Int32)) rfl ?_
  refine own_istore X29 hx hby od_prog_37_method_10_167 (pc' := 169) rfl (Ls' := #[.val (.ref aM), .val (.ref ar), .val (.int (2 : Int32)), .val (.ref b1), .val (.ref b15), .val (.int (0 : Int32)), .val (.int (1 : Int32)), .val (.ref b3), .val (.double q0), .second, .val (.int (1 : Int32)), .unset, .unset, .unset]) rfl ?_
  refine own_iload X29 hx hby od_prog_37_method_10_169 (pc' := 171) rfl rfl ?_
  refine own_iloadN X29 hx hby od_prog_37_method_10_171 (pc' := 172) rfl rfl ?_
  refine own_icmpN X29 hx hby od_prog_37_method_10_172 (pc' := 175) rfl (tlt (by decide)).2.1 ?_
  refine own_aloadN X29 hx hby od_prog_37_method_10_175 (pc' := 176) rfl rfl rfl ?_
  refine own_iload X29 hx hby od_prog_37_method_10_176 (pc' := 178) rfl rfl ?_
  refine own_aaD X29 hx hby hZ e29 V_b1 ⟨by decide, by decide⟩ (v := (.ref b3)) rfl od_prog_37_method_10_178 (pc' := 179) rfl ?_
  refine own_iload X29 hx hby od_prog_37_method_10_179 (pc' := 181) rfl rfl ?_
  refine own_daD X29 hx hby hZ e29 V_b3 ⟨by decide, by decide⟩ (v := m00) rfl od_prog_37_method_10_181 (pc' := 182) rfl ?_
  refine own_aloadN X29 hx hby od_prog_37_method_10_182 (pc' := 183) rfl rfl rfl ?_
  refine own_iload X29 hx hby od_prog_37_method_10_183 (pc' := 185) rfl rfl ?_
  refine own_aaD X29 hx hby hZ e29 V_b1 ⟨by decide, by decide⟩ (v := (.ref b9)) rfl od_prog_37_method_10_185 (pc' := 186) rfl ?_
  refine own_iload X29 hx hby od_prog_37_method_10_186 (pc' := 188) rfl rfl ?_
  refine own_daD X29 hx hby hZ e29 V_b9 ⟨by decide, by decide⟩ (v := m10) rfl od_prog_37_method_10_188 (pc' := 189) rfl ?_
  refine own_ddiv X29 hx hby od_prog_37_method_10_189 (pc' := 190) rfl G1.1 (v := uf) G1.2 ?_
  refine own_dstore X29 hx hby od_prog_37_method_10_190 (pc' := 192) rfl (Ls' := #[.val (.ref aM), .val (.ref ar), .val (.int (2 : Int32)), .val (.ref b1), .val (.ref b15), .val (.int (0 : Int32)), .val (.int (1 : Int32)), .val (.ref b3), .val (.double q0), .second, .val (.int (1 : Int32)), .val (.double uf), .second, .unset]) rfl ?_
  refine own_iload X29 hx hby od_prog_37_method_10_192 (pc' := 194) rfl rfl ?_
  refine own_istore X29 hx hby od_prog_37_method_10_194 (pc' := 196) rfl (Ls' := #[.val (.ref aM), .val (.ref ar), .val (.int (2 : Int32)), .val (.ref b1), .val (.ref b15), .val (.int (0 : Int32)), .val (.int (1 : Int32)), .val (.ref b3), .val (.double q0), .second, .val (.int (1 : Int32)), .val (.double uf), .second, .val (.int (0 : Int32))]) rfl ?_
  refine own_iload X29 hx hby od_prog_37_method_10_196 (pc' := 198) rfl rfl ?_
  refine own_iloadN X29 hx hby od_prog_37_method_10_198 (pc' := 199) rfl rfl ?_
  refine own_icmpN X29 hx hby od_prog_37_method_10_199 (pc' := 202) rfl (tlt (by decide)).2.1 ?_
  refine own_aloadN X29 hx hby od_prog_37_method_10_202 (pc' := 203) rfl rfl rfl ?_
  refine own_iload X29 hx hby od_prog_37_method_10_203 (pc' := 205) rfl rfl ?_
  refine own_aaD X29 hx hby hZ e29 V_b1 ⟨by decide, by decide⟩ (v := (.ref b3)) rfl od_prog_37_method_10_205 (pc' := 206) rfl ?_
  refine own_iload X29 hx hby od_prog_37_method_10_206 (pc' := 208) rfl rfl ?_
  refine own_dup2 X29 hx hby od_prog_37_method_10_208 (pc' := 209) rfl rfl rfl ?_
  refine own_daD X29 hx hby hZ e29 V_b3 ⟨by decide, by decide⟩ (v := m00) rfl od_prog_37_method_10_209 (pc' := 210) rfl ?_
  refine own_dload X29 hx hby od_prog_37_method_10_210 (pc' := 212) rfl rfl ?_
  refine own_aloadN X29 hx hby od_prog_37_method_10_212 (pc' := 213) rfl rfl rfl ?_
  refine own_iload X29 hx hby od_prog_37_method_10_213 (pc' := 215) rfl rfl ?_
  refine own_aaD X29 hx hby hZ e29 V_b1 ⟨by decide, by decide⟩ (v := (.ref b9)) rfl od_prog_37_method_10_215 (pc' := 216) rfl ?_
  refine own_iload X29 hx hby od_prog_37_method_10_216 (pc' := 218) rfl rfl ?_
  refine own_daD X29 hx hby hZ e29 V_b9 ⟨by decide, by decide⟩ (v := m10) rfl od_prog_37_method_10_218 (pc' := 219) rfl ?_
  refine own_dmul X29 hx hby od_prog_37_method_10_219 (pc' := 220) rfl G2.1 (v := up0) G2.2 ?_
  refine own_dsub X29 hx hby od_prog_37_method_10_220 (pc' := 221) rfl G3.1 (v := ua10) G3.2 ?_
  refine own_dsD X29 hx hby hZ e29 V_b3 ⟨by decide, by decide⟩ 0 rfl (Nat.le_of_ble_eq_true rfl) (ys := [.double ua10, .double m01]) rfl od_prog_37_method_10_221 (pc' := 222) rfl ?_
  intro T31 h31 X31 e31 W31 Q31
  have Ea32 := own_xw Ea30 W31 le4
  replace V_b1 := V_b1.other W31 ne_b1_b3
  replace V_b9 := V_b9.other W31 (Ne.symm ne_b3_b9)
  replace V_b15 := V_b15.other W31 (Ne.symm ne_b3_b15)
  replace V_b3 := Q31
  have N31 := own_fr1 (sl := ((0 : Int32)).toNatClampNeg) N29 n0_b3
  refine own_iinc X31 hx hby od_prog_37_method_10_222 (pc' := 225) rfl rfl (z := 1) rfl (Ls' := #[.val (.ref aM), .val (.ref ar), .val (.int (2 : Int32)), .val (.ref b1), .val (.ref b15), .val (.int (0 : Int32)), .val (.int (1 : Int32)), .val (.ref b3), .val (.double q0), .second, .val (.int (1 : Int32)), .val (.double uf), .second, .val (.int (1 : Int32))]) rfl ?_
  refine own_goto X31 hx hby od_prog_37_method_10_225 (by decide) (pc' := 196) (by decide) ?_
  refine own_iload X31 hx hby od_prog_37_method_10_196 (pc' := 198) rfl rfl ?_
  refine own_iloadN X31 hx hby od_prog_37_method_10_198 (pc' := 199) rfl rfl ?_
  refine own_icmpN X31 hx hby od_prog_37_method_10_199 (pc' := 202) rfl (tlt (by decide)).2.1 ?_
  refine own_aloadN X31 hx hby od_prog_37_method_10_202 (pc' := 203) rfl rfl rfl ?_
  refine own_iload X31 hx hby od_prog_37_method_10_203 (pc' := 205) rfl rfl ?_
  refine own_aaD X31 hx hby hZ e31 V_b1 ⟨by decide, by decide⟩ (v := (.ref b3)) rfl od_prog_37_method_10_205 (pc' := 206) rfl ?_
  refine own_iload X31 hx hby od_prog_37_method_10_206 (pc' := 208) rfl rfl ?_
  refine own_dup2 X31 hx hby od_prog_37_method_10_208 (pc' := 209) rfl rfl rfl ?_
  refine own_daD X31 hx hby hZ e31 V_b3 ⟨by decide, by decide⟩ (v := m01) rfl od_prog_37_method_10_209 (pc' := 210) rfl ?_
  refine own_dload X31 hx hby od_prog_37_method_10_210 (pc' := 212) rfl rfl ?_
  refine own_aloadN X31 hx hby od_prog_37_method_10_212 (pc' := 213) rfl rfl rfl ?_
  refine own_iload X31 hx hby od_prog_37_method_10_213 (pc' := 215) rfl rfl ?_
  refine own_aaD X31 hx hby hZ e31 V_b1 ⟨by decide, by decide⟩ (v := (.ref b9)) rfl od_prog_37_method_10_215 (pc' := 216) rfl ?_
  refine own_iload X31 hx hby od_prog_37_method_10_216 (pc' := 218) rfl rfl ?_
  refine own_daD X31 hx hby hZ e31 V_b9 ⟨by decide, by decide⟩ (v := m11) rfl od_prog_37_method_10_218 (pc' := 219) rfl ?_
  refine own_dmul X31 hx hby od_prog_37_method_10_219 (pc' := 220) rfl G4.1 (v := up1) G4.2 ?_
  refine own_dsub X31 hx hby od_prog_37_method_10_220 (pc' := 221) rfl G5.1 (v := ua11) G5.2 ?_
  refine own_dsD X31 hx hby hZ e31 V_b3 ⟨by decide, by decide⟩ 1 rfl (Nat.le_of_ble_eq_true rfl) (ys := [.double ua10, .double ua11]) rfl od_prog_37_method_10_221 (pc' := 222) rfl ?_
  intro T33 h33 X33 e33 W33 Q33
  have Ea34 := own_xw Ea32 W33 le4
  replace V_b1 := V_b1.other W33 ne_b1_b3
  replace V_b9 := V_b9.other W33 (Ne.symm ne_b3_b9)
  replace V_b15 := V_b15.other W33 (Ne.symm ne_b3_b15)
  replace V_b3 := Q33
  have N33 := own_fr1 (sl := ((1 : Int32)).toNatClampNeg) N31 n0_b3
  refine own_iinc X33 hx hby od_prog_37_method_10_222 (pc' := 225) rfl rfl (z := 1) rfl (Ls' := #[.val (.ref aM), .val (.ref ar), .val (.int (2 : Int32)), .val (.ref b1), .val (.ref b15), .val (.int (0 : Int32)), .val (.int (1 : Int32)), .val (.ref b3), .val (.double q0), .second, .val (.int (1 : Int32)), .val (.double uf), .second, .val (.int (2 : Int32))]) rfl ?_
  refine own_goto X33 hx hby od_prog_37_method_10_225 (by decide) (pc' := 196) (by decide) ?_
  refine own_iload X33 hx hby od_prog_37_method_10_196 (pc' := 198) rfl rfl ?_
  refine own_iloadN X33 hx hby od_prog_37_method_10_198 (pc' := 199) rfl rfl ?_
  refine own_icmpY X33 hx hby od_prog_37_method_10_199 (by decide) (pc' := 228) (by decide) (flt (by decide)).2.1 ?_
  refine own_aload X33 hx hby od_prog_37_method_10_228 (pc' := 230) rfl rfl rfl ?_
  refine own_iload X33 hx hby od_prog_37_method_10_230 (pc' := 232) rfl rfl ?_
  refine own_dup2 X33 hx hby od_prog_37_method_10_232 (pc' := 233) rfl rfl rfl ?_
  refine own_daD X33 hx hby hZ e33 V_b15 ⟨by decide, by decide⟩ (v := q0) rfl od_prog_37_method_10_233 (pc' := 234) rfl ?_
  refine own_dload X33 hx hby od_prog_37_method_10_234 (pc' := 236) rfl rfl ?_
  refine own_aload X33 hx hby od_prog_37_method_10_236 (pc' := 238) rfl rfl rfl ?_
  refine own_iload X33 hx hby od_prog_37_method_10_238 (pc' := 240) rfl rfl ?_
  refine own_daD X33 hx hby hZ e33 V_b15 ⟨by decide, by decide⟩ (v := q1) rfl od_prog_37_method_10_240 (pc' := 241) rfl ?_
  refine own_dmul X33 hx hby od_prog_37_method_10_241 (pc' := 242) rfl G6.1 (v := upb) G6.2 ?_
  refine own_dsub X33 hx hby od_prog_37_method_10_242 (pc' := 243) rfl G7.1 (v := ub1) G7.2 ?_
  refine own_dsD X33 hx hby hZ e33 V_b15 ⟨by decide, by decide⟩ 1 rfl (Nat.le_of_ble_eq_true rfl) (ys := [.double q1, .double ub1]) rfl od_prog_37_method_10_243 (pc' := 244) rfl ?_
  intro T35 h35 X35 e35 W35 Q35
  have Ea36 := own_xw Ea34 W35 le16
  replace V_b1 := V_b1.other W35 ne_b1_b15
  replace V_b3 := V_b3.other W35 ne_b3_b15
  replace V_b9 := V_b9.other W35 ne_b9_b15
  replace V_b15 := Q35
  have N35 := own_fr1 (sl := ((1 : Int32)).toNatClampNeg) N33 n0_b15
  refine own_iinc X35 hx hby od_prog_37_method_10_244 (pc' := 247) rfl rfl (z := 1) rfl (Ls' := #[.val (.ref aM), .val (.ref ar), .val (.int (2 : Int32)), .val (.ref b1), .val (.ref b15), .val (.int (0 : Int32)), .val (.int (1 : Int32)), .val (.ref b3), .val (.double q0), .second, .val (.int (2 : Int32)), .val (.double uf), .second, .val (.int (2 : Int32))]) rfl ?_
  refine own_goto X35 hx hby od_prog_37_method_10_247 (by decide) (pc' := 169) (by decide) ?_
  refine own_iload X35 hx hby od_prog_37_method_10_169 (pc' := 171) rfl rfl ?_
  refine own_iloadN X35 hx hby od_prog_37_method_10_171 (pc' := 172) rfl rfl ?_
  refine own_icmpY X35 hx hby od_prog_37_method_10_172 (by decide) (pc' := 250) (by decide) (flt (by decide)).2.1 ?_
  refine own_iinc X35 hx hby od_prog_37_method_10_250 (pc' := 253) rfl rfl (z := 1) rfl (Ls' := #[.val (.ref aM), .val (.ref ar), .val (.int (2 : Int32)), .val (.ref b1), .val (.ref b15), .val (.int (1 : Int32)), .val (.int (1 : Int32)), .val (.ref b3), .val (.double q0), .second, .val (.int (2 : Int32)), .val (.double uf), .second, .val (.int (2 : Int32))]) rfl ?_
  refine own_goto X35 hx hby od_prog_37_method_10_253 (by decide) (pc' := 49) (by decide) ?_
  refine own_iload X35 hx hby od_prog_37_method_10_49 (pc' := 51) rfl rfl ?_
  refine own_iloadN X35 hx hby od_prog_37_method_10_51 (pc' := 52) rfl rfl ?_
  refine own_icmpN X35 hx hby od_prog_37_method_10_52 (pc' := 55) rfl (tlt (by decide)).2.1 ?_
  refine own_iload X35 hx hby od_prog_37_method_10_55 (pc' := 57) rfl rfl ?_
  refine own_istore X35 hx hby od_prog_37_method_10_57 (pc' := 59) rfl (Ls' := #[.val (.ref aM), .val (.ref ar), .val (.int (2 : Int32)), .val (.ref b1), .val (.ref b15), .val (.int (1 : Int32)), .val (.int (1 : Int32)), .val (.ref b3), .val (.double q0), .second, .val (.int (2 : Int32)), .val (.double uf), .second, .val (.int (2 : Int32))]) rfl ?_
  refine own_iload X35 hx hby od_prog_37_method_10_59 (pc' := 61) rfl rfl ?_
  refine own_iconst X35 hx hby od_prog_37_method_10_61 (pc' := 62) rfl (z := 1) rfl ?_
  refine own_iaddE X35 hx hby od_prog_37_method_10_62 (pc' := 63) rfl (v := (2 : Int32)) rfl ?_
  refine own_istore X35 hx hby od_prog_37_method_10_63 (pc' := 65) rfl (Ls' := #[.val (.ref aM), .val (.ref ar), .val (.int (2 : Int32)), .val (.ref b1), .val (.ref b15), .val (.int (1 : Int32)), .val (.int (1 : Int32)), .val (.int (2 : Int32)), .val (.double q0), .second, .val (.int (2 : Int32)), .val (.double uf), .second, .val (.int (2 : Int32))]) rfl ?_
  refine own_iload X35 hx hby od_prog_37_method_10_65 (pc' := 67) rfl rfl ?_
  refine own_iloadN X35 hx hby od_prog_37_method_10_67 (pc' := 68) rfl rfl ?_
  refine own_icmpY X35 hx hby od_prog_37_method_10_68 (by decide) (pc' := 105) (by decide) (flt (by decide)).2.1 ?_
  refine own_aloadN X35 hx hby od_prog_37_method_10_105 (pc' := 106) rfl rfl rfl ?_
  refine own_iload X35 hx hby od_prog_37_method_10_106 (pc' := 108) rfl rfl ?_
  refine own_aaD X35 hx hby hZ e35 V_b1 ⟨by decide, by decide⟩ (v := (.ref b3)) rfl od_prog_37_method_10_108 (pc' := 109) rfl ?_
  refine own_iload X35 hx hby od_prog_37_method_10_109 (pc' := 111) rfl rfl ?_
  refine own_daD X35 hx hby hZ e35 V_b3 ⟨by decide, by decide⟩ (v := ua11) rfl od_prog_37_method_10_111 (pc' := 112) rfl ?_
  refine own_dconst0 X35 hx hby od_prog_37_method_10_112 (pc' := 113) rfl (v := (0 : UInt64)) rfl ?_
  obtain ⟨dv37, hd37, hk37⟩ := G13
  refine own_dcmp X35 hx hby od_prog_37_method_10_113 (pc' := 114) rfl (v := dv37) hd37 ?_
  refine own_ifY X35 hx hby od_prog_37_method_10_114 (by decide) (pc' := 119) (by decide) (feq hk37).2 ?_
  refine own_aloadN X35 hx hby od_prog_37_method_10_119 (pc' := 120) rfl rfl rfl ?_
  refine own_iload X35 hx hby od_prog_37_method_10_120 (pc' := 122) rfl rfl ?_
  refine own_aaD X35 hx hby hZ e35 V_b1 ⟨by decide, by decide⟩ (v := (.ref b3)) rfl od_prog_37_method_10_122 (pc' := 123) rfl ?_
  refine own_astore X35 hx hby od_prog_37_method_10_123 (pc' := 125) rfl rfl (Ls' := #[.val (.ref aM), .val (.ref ar), .val (.int (2 : Int32)), .val (.ref b1), .val (.ref b15), .val (.int (1 : Int32)), .val (.int (1 : Int32)), .val (.ref b3), .val (.double q0), .second, .val (.int (2 : Int32)), .val (.double uf), .second, .val (.int (2 : Int32))]) rfl ?_
  refine own_aloadN X35 hx hby od_prog_37_method_10_125 (pc' := 126) rfl rfl rfl ?_
  refine own_iload X35 hx hby od_prog_37_method_10_126 (pc' := 128) rfl rfl ?_
  refine own_aloadN X35 hx hby od_prog_37_method_10_128 (pc' := 129) rfl rfl rfl ?_
  refine own_iload X35 hx hby od_prog_37_method_10_129 (pc' := 131) rfl rfl ?_
  refine own_aaD X35 hx hby hZ e35 V_b1 ⟨by decide, by decide⟩ (v := (.ref b3)) rfl od_prog_37_method_10_131 (pc' := 132) rfl ?_
  refine own_asD X35 hx hby hZ e35 V_b1 (V_b3.exa) ⟨by decide, by decide⟩ 1 rfl (Nat.le_of_ble_eq_true rfl) (ys := [.ref b9, .ref b3]) rfl od_prog_37_method_10_132 (pc' := 133) rfl ?_
  intro T38 h38 X38 e38 W38 Q38
  have Ea39 := own_xw Ea36 W38 le2
  replace V_b3 := V_b3.other W38 (Ne.symm ne_b1_b3)
  replace V_b9 := V_b9.other W38 (Ne.symm ne_b1_b9)
  replace V_b15 := V_b15.other W38 (Ne.symm ne_b1_b15)
  replace V_b1 := Q38
  have N38 := own_fr1 (sl := ((1 : Int32)).toNatClampNeg) N35 n0_b1
  refine own_aloadN X38 hx hby od_prog_37_method_10_133 (pc' := 134) rfl rfl rfl ?_
  refine own_iload X38 hx hby od_prog_37_method_10_134 (pc' := 136) rfl rfl ?_
  refine own_aload X38 hx hby od_prog_37_method_10_136 (pc' := 138) rfl rfl rfl ?_
  refine own_asD X38 hx hby hZ e38 V_b1 (V_b3.exa) ⟨by decide, by decide⟩ 1 rfl (Nat.le_of_ble_eq_true rfl) (ys := [.ref b9, .ref b3]) rfl od_prog_37_method_10_138 (pc' := 139) rfl ?_
  intro T40 h40 X40 e40 W40 Q40
  have Ea41 := own_xw Ea39 W40 le2
  replace V_b3 := V_b3.other W40 (Ne.symm ne_b1_b3)
  replace V_b9 := V_b9.other W40 (Ne.symm ne_b1_b9)
  replace V_b15 := V_b15.other W40 (Ne.symm ne_b1_b15)
  replace V_b1 := Q40
  have N40 := own_fr1 (sl := ((1 : Int32)).toNatClampNeg) N38 n0_b1
  refine own_aload X40 hx hby od_prog_37_method_10_139 (pc' := 141) rfl rfl rfl ?_
  refine own_iload X40 hx hby od_prog_37_method_10_141 (pc' := 143) rfl rfl ?_
  refine own_daD X40 hx hby hZ e40 V_b15 ⟨by decide, by decide⟩ (v := ub1) rfl od_prog_37_method_10_143 (pc' := 144) rfl ?_
  refine own_dstore X40 hx hby od_prog_37_method_10_144 (pc' := 146) rfl (Ls' := #[.val (.ref aM), .val (.ref ar), .val (.int (2 : Int32)), .val (.ref b1), .val (.ref b15), .val (.int (1 : Int32)), .val (.int (1 : Int32)), .val (.ref b3), .val (.double ub1), .second, .val (.int (2 : Int32)), .val (.double uf), .second, .val (.int (2 : Int32))]) rfl ?_
  refine own_aload X40 hx hby od_prog_37_method_10_146 (pc' := 148) rfl rfl rfl ?_
  refine own_iload X40 hx hby od_prog_37_method_10_148 (pc' := 150) rfl rfl ?_
  refine own_aload X40 hx hby od_prog_37_method_10_150 (pc' := 152) rfl rfl rfl ?_
  refine own_iload X40 hx hby od_prog_37_method_10_152 (pc' := 154) rfl rfl ?_
  refine own_daD X40 hx hby hZ e40 V_b15 ⟨by decide, by decide⟩ (v := ub1) rfl od_prog_37_method_10_154 (pc' := 155) rfl ?_
  refine own_dsD X40 hx hby hZ e40 V_b15 ⟨by decide, by decide⟩ 1 rfl (Nat.le_of_ble_eq_true rfl) (ys := [.double q1, .double ub1]) rfl od_prog_37_method_10_155 (pc' := 156) rfl ?_
  intro T42 h42 X42 e42 W42 Q42
  have Ea43 := own_xw Ea41 W42 le16
  replace V_b1 := V_b1.other W42 ne_b1_b15
  replace V_b3 := V_b3.other W42 ne_b3_b15
  replace V_b9 := V_b9.other W42 ne_b9_b15
  replace V_b15 := Q42
  have N42 := own_fr1 (sl := ((1 : Int32)).toNatClampNeg) N40 n0_b15
  refine own_aload X42 hx hby od_prog_37_method_10_156 (pc' := 158) rfl rfl rfl ?_
  refine own_iload X42 hx hby od_prog_37_method_10_158 (pc' := 160) rfl rfl ?_
  refine own_dload X42 hx hby od_prog_37_method_10_160 (pc' := 162) rfl rfl ?_
  refine own_dsD X42 hx hby hZ e42 V_b15 ⟨by decide, by decide⟩ 1 rfl (Nat.le_of_ble_eq_true rfl) (ys := [.double q1, .double ub1]) rfl od_prog_37_method_10_162 (pc' := 163) rfl ?_
  intro T44 h44 X44 e44 W44 Q44
  have Ea45 := own_xw Ea43 W44 le16
  replace V_b1 := V_b1.other W44 ne_b1_b15
  replace V_b3 := V_b3.other W44 ne_b3_b15
  replace V_b9 := V_b9.other W44 ne_b9_b15
  replace V_b15 := Q44
  have N44 := own_fr1 (sl := ((1 : Int32)).toNatClampNeg) N42 n0_b15
  refine own_iload X44 hx hby od_prog_37_method_10_163 (pc' := 165) rfl rfl ?_
  refine own_iconst X44 hx hby od_prog_37_method_10_165 (pc' := 166) rfl (z := 1) rfl ?_
  refine own_iaddE X44 hx hby od_prog_37_method_10_166 (pc' := 167) rfl (v := (2 : Int32)) rfl ?_
  refine own_istore X44 hx hby od_prog_37_method_10_167 (pc' := 169) rfl (Ls' := #[.val (.ref aM), .val (.ref ar), .val (.int (2 : Int32)), .val (.ref b1), .val (.ref b15), .val (.int (1 : Int32)), .val (.int (1 : Int32)), .val (.ref b3), .val (.double ub1), .second, .val (.int (2 : Int32)), .val (.double uf), .second, .val (.int (2 : Int32))]) rfl ?_
  refine own_iload X44 hx hby od_prog_37_method_10_169 (pc' := 171) rfl rfl ?_
  refine own_iloadN X44 hx hby od_prog_37_method_10_171 (pc' := 172) rfl rfl ?_
  refine own_icmpY X44 hx hby od_prog_37_method_10_172 (by decide) (pc' := 250) (by decide) (flt (by decide)).2.1 ?_
  refine own_iinc X44 hx hby od_prog_37_method_10_250 (pc' := 253) rfl rfl (z := 1) rfl (Ls' := #[.val (.ref aM), .val (.ref ar), .val (.int (2 : Int32)), .val (.ref b1), .val (.ref b15), .val (.int (2 : Int32)), .val (.int (1 : Int32)), .val (.ref b3), .val (.double ub1), .second, .val (.int (2 : Int32)), .val (.double uf), .second, .val (.int (2 : Int32))]) rfl ?_
  refine own_goto X44 hx hby od_prog_37_method_10_253 (by decide) (pc' := 49) (by decide) ?_
  refine own_iload X44 hx hby od_prog_37_method_10_49 (pc' := 51) rfl rfl ?_
  refine own_iloadN X44 hx hby od_prog_37_method_10_51 (pc' := 52) rfl rfl ?_
  refine own_icmpY X44 hx hby od_prog_37_method_10_52 (by decide) (pc' := 256) (by decide) (flt (by decide)).2.1 ?_
  refine own_iloadN X44 hx hby od_prog_37_method_10_256 (pc' := 257) rfl rfl ?_
  refine own_newD X44 hx hby hZ (ow_4 hw) e44 od_prog_37_method_10_257 (pc' := 259) rfl (by decide) (cap := 2) (by decide) (by decide) (by decide) (by decide) (vs := [.double (0 : UInt64), .double (0 : UInt64)]) rfl ?_
  intro T46 h46 b46 g46 X46 e46 E46 V_b46
  have ne_b1_b46 : b1 ≠ b46 := own_nl V_b1.lt g46
  have ne_b3_b46 : b3 ≠ b46 := own_nl V_b3.lt g46
  have ne_b9_b46 : b9 ≠ b46 := own_nl V_b9.lt g46
  have ne_b15_b46 : b15 ≠ b46 := own_nl V_b15.lt g46
  have le47 : h0.size ≤ b46 := Nat.le_trans Ea45.1 (Nat.le_of_eq g46.symm)
  have n0_b46 : n0 ≤ b46 := Nat.le_trans (Nat.le_trans Z0 Ea45.1) (Nat.le_of_eq g46.symm)
  have Ea48 := own_xt Ea45 E46
  replace V_b1 := V_b1.ext E46
  replace V_b3 := V_b3.ext E46
  replace V_b9 := V_b9.ext E46
  replace V_b15 := V_b15.ext E46
  refine own_astore X46 hx hby od_prog_37_method_10_259 (pc' := 261) rfl rfl (Ls' := #[.val (.ref aM), .val (.ref ar), .val (.int (2 : Int32)), .val (.ref b1), .val (.ref b15), .val (.ref b46), .val (.int (1 : Int32)), .val (.ref b3), .val (.double ub1), .second, .val (.int (2 : Int32)), .val (.double uf), .second, .val (.int (2 : Int32))]) rfl ?_
  refine own_iloadN X46 hx hby od_prog_37_method_10_261 (pc' := 262) rfl rfl ?_
  refine own_iconst X46 hx hby od_prog_37_method_10_262 (pc' := 263) rfl (z := 1) rfl ?_
  refine own_isubE X46 hx hby od_prog_37_method_10_263 (pc' := 264) rfl (v := (1 : Int32)) rfl ?_
  refine own_istore X46 hx hby od_prog_37_method_10_264 (pc' := 266) rfl (Ls' := #[.val (.ref aM), .val (.ref ar), .val (.int (2 : Int32)), .val (.ref b1), .val (.ref b15), .val (.ref b46), .val (.int (1 : Int32)), .val (.ref b3), .val (.double ub1), .second, .val (.int (2 : Int32)), .val (.double uf), .second, .val (.int (2 : Int32))]) rfl ?_
  refine own_iload X46 hx hby od_prog_37_method_10_266 (pc' := 268) rfl rfl ?_
  refine own_ifN X46 hx hby od_prog_37_method_10_268 (pc' := 271) rfl (flt (by decide)).1 ?_
  refine own_aload X46 hx hby od_prog_37_method_10_271 (pc' := 273) rfl rfl rfl ?_
  refine own_iload X46 hx hby od_prog_37_method_10_273 (pc' := 275) rfl rfl ?_
  refine own_daD X46 hx hby hZ e46 V_b15 ⟨by decide, by decide⟩ (v := ub1) rfl od_prog_37_method_10_275 (pc' := 276) rfl ?_
  refine own_dstore X46 hx hby od_prog_37_method_10_276 (pc' := 278) rfl (Ls' := #[.val (.ref aM), .val (.ref ar), .val (.int (2 : Int32)), .val (.ref b1), .val (.ref b15), .val (.ref b46), .val (.int (1 : Int32)), .val (.double ub1), .second, .unset, .val (.int (2 : Int32)), .val (.double uf), .second, .val (.int (2 : Int32))]) rfl ?_
  refine own_iload X46 hx hby od_prog_37_method_10_278 (pc' := 280) rfl rfl ?_
  refine own_iconst X46 hx hby od_prog_37_method_10_280 (pc' := 281) rfl (z := 1) rfl ?_
  refine own_iaddE X46 hx hby od_prog_37_method_10_281 (pc' := 282) rfl (v := (2 : Int32)) rfl ?_
  refine own_istore X46 hx hby od_prog_37_method_10_282 (pc' := 284) rfl (Ls' := #[.val (.ref aM), .val (.ref ar), .val (.int (2 : Int32)), .val (.ref b1), .val (.ref b15), .val (.ref b46), .val (.int (1 : Int32)), .val (.double ub1), .second, .val (.int (2 : Int32)), .val (.int (2 : Int32)), .val (.double uf), .second, .val (.int (2 : Int32))]) rfl ?_
  refine own_iload X46 hx hby od_prog_37_method_10_284 (pc' := 286) rfl rfl ?_
  refine own_iloadN X46 hx hby od_prog_37_method_10_286 (pc' := 287) rfl rfl ?_
  refine own_icmpY X46 hx hby od_prog_37_method_10_287 (by decide) (pc' := 314) (by decide) (flt (by decide)).2.1 ?_
  refine own_aload X46 hx hby od_prog_37_method_10_314 (pc' := 316) rfl rfl rfl ?_
  refine own_iload X46 hx hby od_prog_37_method_10_316 (pc' := 318) rfl rfl ?_
  refine own_dload X46 hx hby od_prog_37_method_10_318 (pc' := 320) rfl rfl ?_
  refine own_aloadN X46 hx hby od_prog_37_method_10_320 (pc' := 321) rfl rfl rfl ?_
  refine own_iload X46 hx hby od_prog_37_method_10_321 (pc' := 323) rfl rfl ?_
  refine own_aaD X46 hx hby hZ e46 V_b1 ⟨by decide, by decide⟩ (v := (.ref b3)) rfl od_prog_37_method_10_323 (pc' := 324) rfl ?_
  refine own_iload X46 hx hby od_prog_37_method_10_324 (pc' := 326) rfl rfl ?_
  refine own_daD X46 hx hby hZ e46 V_b3 ⟨by decide, by decide⟩ (v := ua11) rfl od_prog_37_method_10_326 (pc' := 327) rfl ?_
  refine own_ddiv X46 hx hby od_prog_37_method_10_327 (pc' := 328) rfl G8.1 (v := ux1) G8.2 ?_
  refine own_dsD X46 hx hby hZ e46 V_b46 ⟨by decide, by decide⟩ 1 rfl (Nat.le_of_ble_eq_true rfl) (ys := [.double (0 : UInt64), .double ux1]) rfl od_prog_37_method_10_328 (pc' := 329) rfl ?_
  intro T49 h49 X49 e49 W49 Q49
  have Ea50 := own_xw Ea48 W49 le47
  replace V_b1 := V_b1.other W49 ne_b1_b46
  replace V_b3 := V_b3.other W49 ne_b3_b46
  replace V_b9 := V_b9.other W49 ne_b9_b46
  replace V_b15 := V_b15.other W49 ne_b15_b46
  replace V_b46 := Q49
  have N49 := own_fr1 (sl := ((1 : Int32)).toNatClampNeg) N44 n0_b46
  refine own_aload X49 hx hby od_prog_37_method_10_329 (pc' := 331) rfl rfl rfl ?_
  refine own_iload X49 hx hby od_prog_37_method_10_331 (pc' := 333) rfl rfl ?_
  refine own_daD X49 hx hby hZ e49 V_b46 ⟨by decide, by decide⟩ (v := ux1) rfl od_prog_37_method_10_333 (pc' := 334) rfl ?_
  refine own_callM X49 hx hby hml hZ hown (ow_44 hw) (ow_45 hw) (ow_46 hw) (ow_47 hw) (by decide) (cc := 0) (ss := 0) (rm_fin l Z a0 hw ux1 h49 n0 (Nat.le_trans Z0 Ea50.1) G14) 0 rfl rfl (by decide) (by decide) rfl (argsL := [(.double ux1)]) (rest := []) opd_0 rfl rfl (Nat.le_refl _) od_prog_37_method_10_334 (pc' := 337) rfl rfl e49 (by decide) (by decide) ?_
  rintro v51 T51 h51 L51 X51 e51 ⟨rfl, Nq51, rfl⟩
  have N51 := N49.app Nq51
  refine own_ifY X51 hx hby od_prog_37_method_10_337 (by decide) (pc' := 342) (by decide) (feq (by decide)).2 ?_
  refine own_iinc X51 hx hby od_prog_37_method_10_342 (pc' := 345) rfl rfl (z := (-1)) rfl (Ls' := #[.val (.ref aM), .val (.ref ar), .val (.int (2 : Int32)), .val (.ref b1), .val (.ref b15), .val (.ref b46), .val (.int (0 : Int32)), .val (.double ub1), .second, .val (.int (2 : Int32)), .val (.int (2 : Int32)), .val (.double uf), .second, .val (.int (2 : Int32))]) rfl ?_
  refine own_goto X51 hx hby od_prog_37_method_10_345 (by decide) (pc' := 266) (by decide) ?_
  refine own_iload X51 hx hby od_prog_37_method_10_266 (pc' := 268) rfl rfl ?_
  refine own_ifN X51 hx hby od_prog_37_method_10_268 (pc' := 271) rfl (flt (by decide)).1 ?_
  refine own_aload X51 hx hby od_prog_37_method_10_271 (pc' := 273) rfl rfl rfl ?_
  refine own_iload X51 hx hby od_prog_37_method_10_273 (pc' := 275) rfl rfl ?_
  refine own_daD X51 hx hby hZ e51 V_b15 ⟨by decide, by decide⟩ (v := q1) rfl od_prog_37_method_10_275 (pc' := 276) rfl ?_
  refine own_dstore X51 hx hby od_prog_37_method_10_276 (pc' := 278) rfl (Ls' := #[.val (.ref aM), .val (.ref ar), .val (.int (2 : Int32)), .val (.ref b1), .val (.ref b15), .val (.ref b46), .val (.int (0 : Int32)), .val (.double q1), .second, .val (.int (2 : Int32)), .val (.int (2 : Int32)), .val (.double uf), .second, .val (.int (2 : Int32))]) rfl ?_
  refine own_iload X51 hx hby od_prog_37_method_10_278 (pc' := 280) rfl rfl ?_
  refine own_iconst X51 hx hby od_prog_37_method_10_280 (pc' := 281) rfl (z := 1) rfl ?_
  refine own_iaddE X51 hx hby od_prog_37_method_10_281 (pc' := 282) rfl (v := (1 : Int32)) rfl ?_
  refine own_istore X51 hx hby od_prog_37_method_10_282 (pc' := 284) rfl (Ls' := #[.val (.ref aM), .val (.ref ar), .val (.int (2 : Int32)), .val (.ref b1), .val (.ref b15), .val (.ref b46), .val (.int (0 : Int32)), .val (.double q1), .second, .val (.int (1 : Int32)), .val (.int (2 : Int32)), .val (.double uf), .second, .val (.int (2 : Int32))]) rfl ?_
  refine own_iload X51 hx hby od_prog_37_method_10_284 (pc' := 286) rfl rfl ?_
  refine own_iloadN X51 hx hby od_prog_37_method_10_286 (pc' := 287) rfl rfl ?_
  refine own_icmpN X51 hx hby od_prog_37_method_10_287 (pc' := 290) rfl (tlt (by decide)).2.1 ?_
  refine own_dload X51 hx hby od_prog_37_method_10_290 (pc' := 292) rfl rfl ?_
  refine own_aloadN X51 hx hby od_prog_37_method_10_292 (pc' := 293) rfl rfl rfl ?_
  refine own_iload X51 hx hby od_prog_37_method_10_293 (pc' := 295) rfl rfl ?_
  refine own_aaD X51 hx hby hZ e51 V_b1 ⟨by decide, by decide⟩ (v := (.ref b9)) rfl od_prog_37_method_10_295 (pc' := 296) rfl ?_
  refine own_iload X51 hx hby od_prog_37_method_10_296 (pc' := 298) rfl rfl ?_
  refine own_daD X51 hx hby hZ e51 V_b9 ⟨by decide, by decide⟩ (v := m11) rfl od_prog_37_method_10_298 (pc' := 299) rfl ?_
  refine own_aload X51 hx hby od_prog_37_method_10_299 (pc' := 301) rfl rfl rfl ?_
  refine own_iload X51 hx hby od_prog_37_method_10_301 (pc' := 303) rfl rfl ?_
  refine own_daD X51 hx hby hZ e51 V_b46 ⟨by decide, by decide⟩ (v := ux1) rfl od_prog_37_method_10_303 (pc' := 304) rfl ?_
  refine own_dmul X51 hx hby od_prog_37_method_10_304 (pc' := 305) rfl G9.1 (v := uq) G9.2 ?_
  refine own_dsub X51 hx hby od_prog_37_method_10_305 (pc' := 306) rfl G10.1 (v := us0) G10.2 ?_
  refine own_dstore X51 hx hby od_prog_37_method_10_306 (pc' := 308) rfl (Ls' := #[.val (.ref aM), .val (.ref ar), .val (.int (2 : Int32)), .val (.ref b1), .val (.ref b15), .val (.ref b46), .val (.int (0 : Int32)), .val (.double us0), .second, .val (.int (1 : Int32)), .val (.int (2 : Int32)), .val (.double uf), .second, .val (.int (2 : Int32))]) rfl ?_
  refine own_iinc X51 hx hby od_prog_37_method_10_308 (pc' := 311) rfl rfl (z := 1) rfl (Ls' := #[.val (.ref aM), .val (.ref ar), .val (.int (2 : Int32)), .val (.ref b1), .val (.ref b15), .val (.ref b46), .val (.int (0 : Int32)), .val (.double us0), .second, .val (.int (2 : Int32)), .val (.int (2 : Int32)), .val (.double uf), .second, .val (.int (2 : Int32))]) rfl ?_
  refine own_goto X51 hx hby od_prog_37_method_10_311 (by decide) (pc' := 284) (by decide) ?_
  refine own_iload X51 hx hby od_prog_37_method_10_284 (pc' := 286) rfl rfl ?_
  refine own_iloadN X51 hx hby od_prog_37_method_10_286 (pc' := 287) rfl rfl ?_
  refine own_icmpY X51 hx hby od_prog_37_method_10_287 (by decide) (pc' := 314) (by decide) (flt (by decide)).2.1 ?_
  refine own_aload X51 hx hby od_prog_37_method_10_314 (pc' := 316) rfl rfl rfl ?_
  refine own_iload X51 hx hby od_prog_37_method_10_316 (pc' := 318) rfl rfl ?_
  refine own_dload X51 hx hby od_prog_37_method_10_318 (pc' := 320) rfl rfl ?_
  refine own_aloadN X51 hx hby od_prog_37_method_10_320 (pc' := 321) rfl rfl rfl ?_
  refine own_iload X51 hx hby od_prog_37_method_10_321 (pc' := 323) rfl rfl ?_
  refine own_aaD X51 hx hby hZ e51 V_b1 ⟨by decide, by decide⟩ (v := (.ref b9)) rfl od_prog_37_method_10_323 (pc' := 324) rfl ?_
  refine own_iload X51 hx hby od_prog_37_method_10_324 (pc' := 326) rfl rfl ?_
  refine own_daD X51 hx hby hZ e51 V_b9 ⟨by decide, by decide⟩ (v := m10) rfl od_prog_37_method_10_326 (pc' := 327) rfl ?_
  refine own_ddiv X51 hx hby od_prog_37_method_10_327 (pc' := 328) rfl G11.1 (v := ux0) G11.2 ?_
  refine own_dsD X51 hx hby hZ e51 V_b46 ⟨by decide, by decide⟩ 0 rfl (Nat.le_of_ble_eq_true rfl) (ys := [.double ux0, .double ux1]) rfl od_prog_37_method_10_328 (pc' := 329) rfl ?_
  intro T52 h52 X52 e52 W52 Q52
  have Ea53 := own_xw Ea50 W52 le47
  replace V_b1 := V_b1.other W52 ne_b1_b46
  replace V_b3 := V_b3.other W52 ne_b3_b46
  replace V_b9 := V_b9.other W52 ne_b9_b46
  replace V_b15 := V_b15.other W52 ne_b15_b46
  replace V_b46 := Q52
  have N52 := own_fr1 (sl := ((0 : Int32)).toNatClampNeg) N51 n0_b46
  refine own_aload X52 hx hby od_prog_37_method_10_329 (pc' := 331) rfl rfl rfl ?_
  refine own_iload X52 hx hby od_prog_37_method_10_331 (pc' := 333) rfl rfl ?_
  refine own_daD X52 hx hby hZ e52 V_b46 ⟨by decide, by decide⟩ (v := ux0) rfl od_prog_37_method_10_333 (pc' := 334) rfl ?_
  refine own_callM X52 hx hby hml hZ hown (ow_44 hw) (ow_45 hw) (ow_46 hw) (ow_47 hw) (by decide) (cc := 0) (ss := 0) (rm_fin l Z a0 hw ux0 h52 n0 (Nat.le_trans Z0 Ea53.1) G15) 0 rfl rfl (by decide) (by decide) rfl (argsL := [(.double ux0)]) (rest := []) opd_0 rfl rfl (Nat.le_refl _) od_prog_37_method_10_334 (pc' := 337) rfl rfl e52 (by decide) (by decide) ?_
  rintro v54 T54 h54 L54 X54 e54 ⟨rfl, Nq54, rfl⟩
  have N54 := N52.app Nq54
  refine own_ifY X54 hx hby od_prog_37_method_10_337 (by decide) (pc' := 342) (by decide) (feq (by decide)).2 ?_
  refine own_iinc X54 hx hby od_prog_37_method_10_342 (pc' := 345) rfl rfl (z := (-1)) rfl (Ls' := #[.val (.ref aM), .val (.ref ar), .val (.int (2 : Int32)), .val (.ref b1), .val (.ref b15), .val (.ref b46), .val (.int (-1 : Int32)), .val (.double us0), .second, .val (.int (2 : Int32)), .val (.int (2 : Int32)), .val (.double uf), .second, .val (.int (2 : Int32))]) rfl ?_
  refine own_goto X54 hx hby od_prog_37_method_10_345 (by decide) (pc' := 266) (by decide) ?_
  refine own_iload X54 hx hby od_prog_37_method_10_266 (pc' := 268) rfl rfl ?_
  refine own_ifY X54 hx hby od_prog_37_method_10_268 (by decide) (pc' := 348) (by decide) (tlt (by decide)).1 ?_
  refine own_aload X54 hx hby od_prog_37_method_10_348 (pc' := 350) rfl rfl rfl ?_
  exact own_retA X54 hx hby hlk hrt rfl rfl od_prog_37_method_10_350 (by first | exact ⟨b46, rfl, le47, Ea53, N54, V_b46⟩ | (rw [e54]; exact ⟨b46, rfl, le47, Ea53, N54, V_b46⟩)) (by decide) (by decide)
theorem rm_solve2 (l : Launch) (Z : State) (a0 : Array Value) (hw : ∀ d ∈ tables_1, d.before a0 Z = true) (aM r0 r1 ar : Addr) (m00 m01 m10 m11 q0 q1 ux0 ux1 : UInt64) (h0 : Heap) (n0 : Nat) (Z0 : n0 ≤ h0.size) (HS : own_Sol2 m00 m01 m10 m11 q0 q1 ux0 ux1) (V_aM : own_DD Z h0 aM (2 : Int32) [.ref r0, .ref r1]) (V_r0 : own_D Z h0 r0 (2 : Int32) [.double m00, .double m01]) (V_r1 : own_D Z h0 r1 (2 : Int32) [.double m10, .double m11]) (V_ar : own_D Z h0 ar (2 : Int32) [.double q0, .double q1]) :
    own_Met l Z (⟨"com/example/bindery/bindery/selection/BindingMix", "solve", "([[D[D)[D"⟩ : MethodName) prog_37_method_10_code 14 (some (.array .double)) ({ frames := 2, cells := 5, slots := 10, locals := 26 } : Room) #[(.ref aM), (.ref ar)] h0 (fun v h L => ∃ b : Addr, v = some (.ref b) ∧ h0.size ≤ b ∧ Ext h0 h ∧ Fr n0 L ∧ own_D Z h b (2 : Int32) [.double ux0, .double ux1]) := by
  obtain ⟨Hn0, Hn1, ⟨Hp, uf, up0, ua10, up1, ua11, upb, ub1, uq, us0, G1, G2, G3, G4, G5, G6, G7, G8, G9, G10, G11, G12, G13, G14, G15⟩ | ⟨Hp, uf, up0, ua10, up1, ua11, upb, ub1, uq, us0, G1, G2, G3, G4, G5, G6, G7, G8, G9, G10, G11, G12, G13, G14, G15⟩⟩ := HS
  · exact rm_s2_0 l Z a0 hw aM r0 r1 ar m00 m01 m10 m11 q0 q1 uf up0 ua10 up1 ua11 upb ub1 uq us0 ux0 ux1 h0 n0 Z0 Hn0 Hn1 Hp G1 G2 G3 G4 G5 G6 G7 G8 G9 G10 G11 G12 G13 G14 G15 V_aM V_r0 V_r1 V_ar
  · exact rm_s2_1 l Z a0 hw aM r0 r1 ar m00 m01 m10 m11 q0 q1 uf up0 ua10 up1 ua11 upb ub1 uq us0 ux0 ux1 h0 n0 Z0 Hn0 Hn1 Hp G1 G2 G3 G4 G5 G6 G7 G8 G9 G10 G11 G12 G13 G14 G15 V_aM V_r0 V_r1 V_ar
theorem ef_rm_duals1 (m : MethodId) (x0 : Addr) : entryFrame m #[(.ref x0)] 1 = mkF m 0 #[.val (.ref x0)] [] := by first | (simp [entryFrame, mkF, argsToLocals, Value.category]; done) | rfl
set_option maxRecDepth 65536 in
set_option maxHeartbeats 40000000 in
theorem rm_duals1 (l : Launch) (Z : State) (a0 : Array Value) (hw : ∀ d ∈ tables_1, d.before a0 Z = true) (a1 aM r0 ar : Addr) (h0 : Heap) (n0 : Nat) (Z0 : n0 ≤ h0.size)  (F_basis : Fld Z h0 a1 "com/example/bindery/bindery/selection/BindingMix" "basis" "[[D" (.ref aM)) (F_values : Fld Z h0 a1 "com/example/bindery/bindery/selection/BindingMix" "values" "[D" (.ref ar)) (V_aM : own_DD Z h0 aM (1 : Int32) [.ref r0]) (V_r0 : own_D Z h0 r0 (1 : Int32) [.double (4607182418800017408 : UInt64)]) (V_ar : own_D Z h0 ar (1 : Int32) [.double (13830554455654793216 : UInt64)]) :
    own_Met l Z (⟨"com/example/bindery/bindery/selection/BindingMix", "duals", "()[D"⟩ : MethodName) prog_37_method_9_code 1 (some (.array .double)) ({ frames := 3, cells := 4, slots := 4, locals := 51 } : Room) #[(.ref a1)] h0 (fun v h L => ∃ b : Addr, v = some (.ref b) ∧ h0.size ≤ b ∧ Ext h0 h ∧ Fr n0 L ∧ own_D Z h b (1 : Int32) [.double (13830554455654793216 : UInt64)]) := by
  refine own_body (plainFor_of_name (by first | (simp [plainName, overriddenIn]; done) | decide +kernel)) ?_
  intro p e s m below meth c s₁ hx hby hml hown hnm hlk hrt hZ X0 e0
  refine own_enter (ef_rm_duals1 m a1) ?_
  have N0 := Fr.nil n0
  refine own_aloadN X0 hx hby od_prog_37_method_9_0 (pc' := 1) rfl rfl rfl ?_
  refine own_getF X0 hx hby hZ hown (host := "") (Or.inl (ow_21 hw)) Via.refl e0 F_basis od_prog_37_method_9_1 (pc' := 4) rfl ?_
  intro T1 X1 e1
  refine own_aloadN X1 hx hby od_prog_37_method_9_4 (pc' := 5) rfl rfl rfl ?_
  refine own_getF X1 hx hby hZ hown (host := "") (Or.inl (ow_23 hw)) Via.refl e1 F_values od_prog_37_method_9_5 (pc' := 8) rfl ?_
  intro T2 X2 e2
  refine own_callM X2 hx hby hml hZ hown (ow_41 hw) (ow_42 hw) (ow_3 hw) (ow_43 hw) (by decide) (cc := 4) (ss := 4) (rm_solve1 l Z a0 hw aM r0 ar  h0 n0 Z0  V_aM V_r0 V_ar) 0 rfl rfl (by decide) (by decide) rfl (argsL := [(.ref aM), (.ref ar)]) (rest := []) opd_1 rfl rfl (Nat.le_refl _) od_prog_37_method_9_8 (pc' := 11) rfl rfl e2 (by decide) (by decide) ?_
  rintro v3 T3 h3 L3 X3 e3 ⟨ox, rfl, lb3, Eq3, Nq3, V_ox⟩
  have ne_a1_ox : a1 ≠ ox := Nat.ne_of_lt (Nat.lt_of_lt_of_le F_basis.lt lb3)
  have ne_aM_ox : aM ≠ ox := Nat.ne_of_lt (Nat.lt_of_lt_of_le V_aM.lt lb3)
  have ne_r0_ox : r0 ≠ ox := Nat.ne_of_lt (Nat.lt_of_lt_of_le V_r0.lt lb3)
  have ne_ar_ox : ar ≠ ox := Nat.ne_of_lt (Nat.lt_of_lt_of_le V_ar.lt lb3)
  have n0_ox : n0 ≤ ox := Nat.le_trans Z0 lb3
  have le4 : h0.size ≤ ox := lb3
  have N3 := N0.app Nq3
  replace F_basis := F_basis.ext Eq3
  replace F_values := F_values.ext Eq3
  replace V_aM := V_aM.ext Eq3
  replace V_r0 := V_r0.ext Eq3
  replace V_ar := V_ar.ext Eq3
  exact own_retA X3 hx hby hlk hrt rfl rfl od_prog_37_method_9_11 (by first | exact ⟨ox, rfl, le4, Eq3, N3, V_ox⟩ | (rw [e3]; exact ⟨ox, rfl, le4, Eq3, N3, V_ox⟩)) (by decide) (by decide)
theorem ef_rm_duals3 (m : MethodId) (x0 : Addr) : entryFrame m #[(.ref x0)] 1 = mkF m 0 #[.val (.ref x0)] [] := by first | (simp [entryFrame, mkF, argsToLocals, Value.category]; done) | rfl
set_option maxRecDepth 65536 in
set_option maxHeartbeats 40000000 in
theorem rm_duals3 (l : Launch) (Z : State) (a0 : Array Value) (hw : ∀ d ∈ tables_1, d.before a0 Z = true) (a1 aM r0 r1 r2 ar : Addr) (dc dl : UInt64) (h0 : Heap) (n0 : Nat) (Z0 : n0 ≤ h0.size) (Zc : own_nb dc = true ∧ own_nb (FP.dmul (0 : UInt64) dc) = true ∧ FP.dmul (0 : UInt64) dc = 0 ∧ own_nb (FP.dmul dc (0 : UInt64)) = true ∧ FP.dmul dc (0 : UInt64) = 0) (Zl : own_nb dl = true ∧ own_nb (FP.dmul (0 : UInt64) dl) = true ∧ FP.dmul (0 : UInt64) dl = 0 ∧ own_nb (FP.dmul dl (0 : UInt64)) = true ∧ FP.dmul dl (0 : UInt64) = 0) (F_basis : Fld Z h0 a1 "com/example/bindery/bindery/selection/BindingMix" "basis" "[[D" (.ref aM)) (F_values : Fld Z h0 a1 "com/example/bindery/bindery/selection/BindingMix" "values" "[D" (.ref ar)) (V_aM : own_DD Z h0 aM (3 : Int32) [.ref r0, .ref r1, .ref r2]) (V_r0 : own_D Z h0 r0 (3 : Int32) [.double (4607182418800017408 : UInt64), .double dc, .double dl]) (V_r1 : own_D Z h0 r1 (3 : Int32) [.double (0 : UInt64), .double (4607182418800017408 : UInt64), .double (0 : UInt64)]) (V_r2 : own_D Z h0 r2 (3 : Int32) [.double (0 : UInt64), .double (0 : UInt64), .double (4607182418800017408 : UInt64)]) (V_ar : own_D Z h0 ar (3 : Int32) [.double (13830554455654793216 : UInt64), .double (0 : UInt64), .double (0 : UInt64)]) :
    own_Met l Z (⟨"com/example/bindery/bindery/selection/BindingMix", "duals", "()[D"⟩ : MethodName) prog_37_method_9_code 1 (some (.array .double)) ({ frames := 3, cells := 6, slots := 18, locals := 51 } : Room) #[(.ref a1)] h0 (fun v h L => ∃ b : Addr, v = some (.ref b) ∧ h0.size ≤ b ∧ Ext h0 h ∧ Fr n0 L ∧ own_D Z h b (3 : Int32) [.double (13830554455654793216 : UInt64), .double (0 : UInt64), .double (0 : UInt64)]) := by
  refine own_body (plainFor_of_name (by first | (simp [plainName, overriddenIn]; done) | decide +kernel)) ?_
  intro p e s m below meth c s₁ hx hby hml hown hnm hlk hrt hZ X0 e0
  refine own_enter (ef_rm_duals3 m a1) ?_
  have N0 := Fr.nil n0
  refine own_aloadN X0 hx hby od_prog_37_method_9_0 (pc' := 1) rfl rfl rfl ?_
  refine own_getF X0 hx hby hZ hown (host := "") (Or.inl (ow_21 hw)) Via.refl e0 F_basis od_prog_37_method_9_1 (pc' := 4) rfl ?_
  intro T1 X1 e1
  refine own_aloadN X1 hx hby od_prog_37_method_9_4 (pc' := 5) rfl rfl rfl ?_
  refine own_getF X1 hx hby hZ hown (host := "") (Or.inl (ow_23 hw)) Via.refl e1 F_values od_prog_37_method_9_5 (pc' := 8) rfl ?_
  intro T2 X2 e2
  refine own_callM X2 hx hby hml hZ hown (ow_41 hw) (ow_42 hw) (ow_3 hw) (ow_43 hw) (by decide) (cc := 6) (ss := 18) (rm_solve3 l Z a0 hw aM r0 r1 r2 ar dc dl h0 n0 Z0 Zc Zl V_aM V_r0 V_r1 V_r2 V_ar) 0 rfl rfl (by decide) (by decide) rfl (argsL := [(.ref aM), (.ref ar)]) (rest := []) opd_1 rfl rfl (Nat.le_refl _) od_prog_37_method_9_8 (pc' := 11) rfl rfl e2 (by decide) (by decide) ?_
  rintro v3 T3 h3 L3 X3 e3 ⟨ox, rfl, lb3, Eq3, Nq3, V_ox⟩
  have ne_a1_ox : a1 ≠ ox := Nat.ne_of_lt (Nat.lt_of_lt_of_le F_basis.lt lb3)
  have ne_aM_ox : aM ≠ ox := Nat.ne_of_lt (Nat.lt_of_lt_of_le V_aM.lt lb3)
  have ne_r0_ox : r0 ≠ ox := Nat.ne_of_lt (Nat.lt_of_lt_of_le V_r0.lt lb3)
  have ne_r1_ox : r1 ≠ ox := Nat.ne_of_lt (Nat.lt_of_lt_of_le V_r1.lt lb3)
  have ne_r2_ox : r2 ≠ ox := Nat.ne_of_lt (Nat.lt_of_lt_of_le V_r2.lt lb3)
  have ne_ar_ox : ar ≠ ox := Nat.ne_of_lt (Nat.lt_of_lt_of_le V_ar.lt lb3)
  have n0_ox : n0 ≤ ox := Nat.le_trans Z0 lb3
  have le4 : h0.size ≤ ox := lb3
  have N3 := N0.app Nq3
  replace F_basis := F_basis.ext Eq3
  replace F_values := F_values.ext Eq3
  replace V_aM := V_aM.ext Eq3
  replace V_r0 := V_r0.ext Eq3
  replace V_r1 := V_r1.ext Eq3
  replace V_r2 := V_r2.ext Eq3
  replace V_ar := V_ar.ext Eq3
  exact own_retA X3 hx hby hlk hrt rfl rfl od_prog_37_method_9_11 (by first | exact ⟨ox, rfl, le4, Eq3, N3, V_ox⟩ | (rw [e3]; exact ⟨ox, rfl, le4, Eq3, N3, V_ox⟩)) (by decide) (by decide)
theorem ef_rm_duals2 (m : MethodId) (x0 : Addr) : entryFrame m #[(.ref x0)] 1 = mkF m 0 #[.val (.ref x0)] [] := by first | (simp [entryFrame, mkF, argsToLocals, Value.category]; done) | rfl
set_option maxRecDepth 65536 in
set_option maxHeartbeats 40000000 in
theorem rm_duals2 (l : Launch) (Z : State) (a0 : Array Value) (hw : ∀ d ∈ tables_1, d.before a0 Z = true) (a1 aM r0 r1 ar : Addr) (m00 m01 m10 m11 q0 q1 ux0 ux1 : UInt64) (h0 : Heap) (n0 : Nat) (Z0 : n0 ≤ h0.size) (HS : own_Sol2 m00 m01 m10 m11 q0 q1 ux0 ux1) (F_basis : Fld Z h0 a1 "com/example/bindery/bindery/selection/BindingMix" "basis" "[[D" (.ref aM)) (F_values : Fld Z h0 a1 "com/example/bindery/bindery/selection/BindingMix" "values" "[D" (.ref ar)) (V_aM : own_DD Z h0 aM (2 : Int32) [.ref r0, .ref r1]) (V_r0 : own_D Z h0 r0 (2 : Int32) [.double m00, .double m01]) (V_r1 : own_D Z h0 r1 (2 : Int32) [.double m10, .double m11]) (V_ar : own_D Z h0 ar (2 : Int32) [.double q0, .double q1]) :
    own_Met l Z (⟨"com/example/bindery/bindery/selection/BindingMix", "duals", "()[D"⟩ : MethodName) prog_37_method_9_code 1 (some (.array .double)) ({ frames := 3, cells := 5, slots := 10, locals := 51 } : Room) #[(.ref a1)] h0 (fun v h L => ∃ b : Addr, v = some (.ref b) ∧ h0.size ≤ b ∧ Ext h0 h ∧ Fr n0 L ∧ own_D Z h b (2 : Int32) [.double ux0, .double ux1]) := by
  refine own_body (plainFor_of_name (by first | (simp [plainName, overriddenIn]; done) | decide +kernel)) ?_
  intro p e s m below meth c s₁ hx hby hml hown hnm hlk hrt hZ X0 e0
  refine own_enter (ef_rm_duals2 m a1) ?_
  have N0 := Fr.nil n0
  refine own_aloadN X0 hx hby od_prog_37_method_9_0 (pc' := 1) rfl rfl rfl ?_
  refine own_getF X0 hx hby hZ hown (host := "") (Or.inl (ow_21 hw)) Via.refl e0 F_basis od_prog_37_method_9_1 (pc' := 4) rfl ?_
  intro T1 X1 e1
  refine own_aloadN X1 hx hby od_prog_37_method_9_4 (pc' := 5) rfl rfl rfl ?_
  refine own_getF X1 hx hby hZ hown (host := "") (Or.inl (ow_23 hw)) Via.refl e1 F_values od_prog_37_method_9_5 (pc' := 8) rfl ?_
  intro T2 X2 e2
  refine own_callM X2 hx hby hml hZ hown (ow_41 hw) (ow_42 hw) (ow_3 hw) (ow_43 hw) (by decide) (cc := 5) (ss := 10) (rm_solve2 l Z a0 hw aM r0 r1 ar m00 m01 m10 m11 q0 q1 ux0 ux1 h0 n0 Z0 HS V_aM V_r0 V_r1 V_ar) 0 rfl rfl (by decide) (by decide) rfl (argsL := [(.ref aM), (.ref ar)]) (rest := []) opd_1 rfl rfl (Nat.le_refl _) od_prog_37_method_9_8 (pc' := 11) rfl rfl e2 (by decide) (by decide) ?_
  rintro v3 T3 h3 L3 X3 e3 ⟨ox, rfl, lb3, Eq3, Nq3, V_ox⟩
  have ne_a1_ox : a1 ≠ ox := Nat.ne_of_lt (Nat.lt_of_lt_of_le F_basis.lt lb3)
  have ne_aM_ox : aM ≠ ox := Nat.ne_of_lt (Nat.lt_of_lt_of_le V_aM.lt lb3)
  have ne_r0_ox : r0 ≠ ox := Nat.ne_of_lt (Nat.lt_of_lt_of_le V_r0.lt lb3)
  have ne_r1_ox : r1 ≠ ox := Nat.ne_of_lt (Nat.lt_of_lt_of_le V_r1.lt lb3)
  have ne_ar_ox : ar ≠ ox := Nat.ne_of_lt (Nat.lt_of_lt_of_le V_ar.lt lb3)
  have n0_ox : n0 ≤ ox := Nat.le_trans Z0 lb3
  have le4 : h0.size ≤ ox := lb3
  have N3 := N0.app Nq3
  replace F_basis := F_basis.ext Eq3
  replace F_values := F_values.ext Eq3
  replace V_aM := V_aM.ext Eq3
  replace V_r0 := V_r0.ext Eq3
  replace V_r1 := V_r1.ext Eq3
  replace V_ar := V_ar.ext Eq3
  exact own_retA X3 hx hby hlk hrt rfl rfl od_prog_37_method_9_11 (by first | exact ⟨ox, rfl, le4, Eq3, N3, V_ox⟩ | (rw [e3]; exact ⟨ox, rfl, le4, Eq3, N3, V_ox⟩)) (by decide) (by decide)
theorem ef_rm_slack_2_0 (m : MethodId) (x0 : Addr) (x1 : Int32) : entryFrame m #[(.ref x0), (.int x1)] 3 = mkF m 0 #[.val (.ref x0), .val (.int x1), .unset] [] := by first | (simp [entryFrame, mkF, argsToLocals, Value.category]; done) | rfl
set_option maxRecDepth 65536 in
set_option maxHeartbeats 40000000 in
theorem rm_slack_2_0 (l : Launch) (Z : State) (a0 : Array Value) (hw : ∀ d ∈ tables_1, d.before a0 Z = true) (a1 : Addr) (h0 : Heap) (n0 : Nat) (Z0 : n0 ≤ h0.size) (F_size : Fld Z h0 a1 "com/example/bindery/bindery/selection/BindingMix" "size" "I" (.int (2 : Int32))) :
    own_Met l Z (⟨"com/example/bindery/bindery/selection/BindingMix", "slack", "(I)[D"⟩ : MethodName) prog_37_method_7_code 3 (some (.array .double)) ({ frames := 0, cells := 1, slots := 2, locals := 0 } : Room) #[(.ref a1), (.int (0 : Int32))] h0 (fun v h L => ∃ b : Addr, v = some (.ref b) ∧ h0.size ≤ b ∧ Ext h0 h ∧ Fr n0 L ∧ own_D Z h b (2 : Int32) [.double (0 : UInt64), .double (4607182418800017408 : UInt64)]) := by
  refine own_body (plainFor_of_name (by first | (simp [plainName, overriddenIn]; done) | decide +kernel)) ?_
  intro p e s m below meth c s₁ hx hby hml hown hnm hlk hrt hZ X0 e0
  refine own_enter (ef_rm_slack_2_0 m a1 (0 : Int32)) ?_
  have N0 := Fr.nil n0
  refine own_aloadN X0 hx hby od_prog_37_method_7_0 (pc' := 1) rfl rfl rfl ?_
  refine own_getF X0 hx hby hZ hown (host := "") (Or.inl (ow_11 hw)) Via.refl e0 F_size od_prog_37_method_7_1 (pc' := 4) rfl ?_
  intro T1 X1 e1
  refine own_newD X1 hx hby hZ (ow_4 hw) e1 od_prog_37_method_7_4 (pc' := 6) rfl (by decide) (cap := 2) (by decide) (by decide) (by decide) (by decide) (vs := [.double (0 : UInt64), .double (0 : UInt64)]) rfl ?_
  intro T2 h2 b2 g2 X2 e2 E2 V_b2
  have ne_a1_b2 : a1 ≠ b2 := own_nl F_size.lt g2
  have le3 : h0.size ≤ b2 := Nat.le_of_eq g2.symm
  have n0_b2 : n0 ≤ b2 := Nat.le_trans Z0 (Nat.le_of_eq g2.symm)
  replace F_size := F_size.ext E2
  refine own_astoreN X2 hx hby od_prog_37_method_7_6 (pc' := 7) rfl rfl (Ls' := #[.val (.ref a1), .val (.int (0 : Int32)), .val (.ref b2)]) rfl ?_
  refine own_aloadN X2 hx hby od_prog_37_method_7_7 (pc' := 8) rfl rfl rfl ?_
  refine own_iloadN X2 hx hby od_prog_37_method_7_8 (pc' := 9) rfl rfl ?_
  refine own_iconst X2 hx hby od_prog_37_method_7_9 (pc' := 10) rfl (z := 1) rfl ?_
  refine own_iaddE X2 hx hby od_prog_37_method_7_10 (pc' := 11) rfl (v := (1 : Int32)) rfl ?_
  refine own_dconst1 X2 hx hby od_prog_37_method_7_11 (pc' := 12) rfl (v := (4607182418800017408 : UInt64)) rfl ?_
  refine own_dsD X2 hx hby hZ e2 V_b2 ⟨by decide, by decide⟩ 1 rfl (Nat.le_of_ble_eq_true rfl) (ys := [.double (0 : UInt64), .double (4607182418800017408 : UInt64)]) rfl od_prog_37_method_7_12 (pc' := 13) rfl ?_
  intro T4 h4 X4 e4 W4 Q4
  have Ea5 := own_xw E2 W4 le3
  replace F_size := F_size.other W4 (Or.inl ne_a1_b2)
  replace V_b2 := Q4
  have N4 := own_fr1 (sl := ((1 : Int32)).toNatClampNeg) N0 n0_b2
  refine own_aloadN X4 hx hby od_prog_37_method_7_13 (pc' := 14) rfl rfl rfl ?_
  exact own_retA X4 hx hby hlk hrt rfl rfl od_prog_37_method_7_14 (by first | exact ⟨b2, rfl, le3, Ea5, N4, V_b2⟩ | (rw [e4]; exact ⟨b2, rfl, le3, Ea5, N4, V_b2⟩)) (by decide) (by decide)
theorem ef_rm_slack_3_0 (m : MethodId) (x0 : Addr) (x1 : Int32) : entryFrame m #[(.ref x0), (.int x1)] 3 = mkF m 0 #[.val (.ref x0), .val (.int x1), .unset] [] := by first | (simp [entryFrame, mkF, argsToLocals, Value.category]; done) | rfl
set_option maxRecDepth 65536 in
set_option maxHeartbeats 40000000 in
theorem rm_slack_3_0 (l : Launch) (Z : State) (a0 : Array Value) (hw : ∀ d ∈ tables_1, d.before a0 Z = true) (a1 : Addr) (h0 : Heap) (n0 : Nat) (Z0 : n0 ≤ h0.size) (F_size : Fld Z h0 a1 "com/example/bindery/bindery/selection/BindingMix" "size" "I" (.int (3 : Int32))) :
    own_Met l Z (⟨"com/example/bindery/bindery/selection/BindingMix", "slack", "(I)[D"⟩ : MethodName) prog_37_method_7_code 3 (some (.array .double)) ({ frames := 0, cells := 1, slots := 3, locals := 0 } : Room) #[(.ref a1), (.int (0 : Int32))] h0 (fun v h L => ∃ b : Addr, v = some (.ref b) ∧ h0.size ≤ b ∧ Ext h0 h ∧ Fr n0 L ∧ own_D Z h b (3 : Int32) [.double (0 : UInt64), .double (4607182418800017408 : UInt64), .double (0 : UInt64)]) := by
  refine own_body (plainFor_of_name (by first | (simp [plainName, overriddenIn]; done) | decide +kernel)) ?_
  intro p e s m below meth c s₁ hx hby hml hown hnm hlk hrt hZ X0 e0
  refine own_enter (ef_rm_slack_3_0 m a1 (0 : Int32)) ?_
  have N0 := Fr.nil n0
  refine own_aloadN X0 hx hby od_prog_37_method_7_0 (pc' := 1) rfl rfl rfl ?_
  refine own_getF X0 hx hby hZ hown (host := "") (Or.inl (ow_11 hw)) Via.refl e0 F_size od_prog_37_method_7_1 (pc' := 4) rfl ?_
  intro T1 X1 e1
  refine own_newD X1 hx hby hZ (ow_4 hw) e1 od_prog_37_method_7_4 (pc' := 6) rfl (by decide) (cap := 3) (by decide) (by decide) (by decide) (by decide) (vs := [.double (0 : UInt64), .double (0 : UInt64), .double (0 : UInt64)]) rfl ?_
  intro T2 h2 b2 g2 X2 e2 E2 V_b2
  have ne_a1_b2 : a1 ≠ b2 := own_nl F_size.lt g2
  have le3 : h0.size ≤ b2 := Nat.le_of_eq g2.symm
  have n0_b2 : n0 ≤ b2 := Nat.le_trans Z0 (Nat.le_of_eq g2.symm)
  replace F_size := F_size.ext E2
  refine own_astoreN X2 hx hby od_prog_37_method_7_6 (pc' := 7) rfl rfl (Ls' := #[.val (.ref a1), .val (.int (0 : Int32)), .val (.ref b2)]) rfl ?_
  refine own_aloadN X2 hx hby od_prog_37_method_7_7 (pc' := 8) rfl rfl rfl ?_
  refine own_iloadN X2 hx hby od_prog_37_method_7_8 (pc' := 9) rfl rfl ?_
  refine own_iconst X2 hx hby od_prog_37_method_7_9 (pc' := 10) rfl (z := 1) rfl ?_
  refine own_iaddE X2 hx hby od_prog_37_method_7_10 (pc' := 11) rfl (v := (1 : Int32)) rfl ?_
  refine own_dconst1 X2 hx hby od_prog_37_method_7_11 (pc' := 12) rfl (v := (4607182418800017408 : UInt64)) rfl ?_
  refine own_dsD X2 hx hby hZ e2 V_b2 ⟨by decide, by decide⟩ 1 rfl (Nat.le_of_ble_eq_true rfl) (ys := [.double (0 : UInt64), .double (4607182418800017408 : UInt64), .double (0 : UInt64)]) rfl od_prog_37_method_7_12 (pc' := 13) rfl ?_
  intro T4 h4 X4 e4 W4 Q4
  have Ea5 := own_xw E2 W4 le3
  replace F_size := F_size.other W4 (Or.inl ne_a1_b2)
  replace V_b2 := Q4
  have N4 := own_fr1 (sl := ((1 : Int32)).toNatClampNeg) N0 n0_b2
  refine own_aloadN X4 hx hby od_prog_37_method_7_13 (pc' := 14) rfl rfl rfl ?_
  exact own_retA X4 hx hby hlk hrt rfl rfl od_prog_37_method_7_14 (by first | exact ⟨b2, rfl, le3, Ea5, N4, V_b2⟩ | (rw [e4]; exact ⟨b2, rfl, le3, Ea5, N4, V_b2⟩)) (by decide) (by decide)
theorem ef_rm_slack_3_1 (m : MethodId) (x0 : Addr) (x1 : Int32) : entryFrame m #[(.ref x0), (.int x1)] 3 = mkF m 0 #[.val (.ref x0), .val (.int x1), .unset] [] := by first | (simp [entryFrame, mkF, argsToLocals, Value.category]; done) | rfl
set_option maxRecDepth 65536 in
set_option maxHeartbeats 40000000 in
theorem rm_slack_3_1 (l : Launch) (Z : State) (a0 : Array Value) (hw : ∀ d ∈ tables_1, d.before a0 Z = true) (a1 : Addr) (h0 : Heap) (n0 : Nat) (Z0 : n0 ≤ h0.size) (F_size : Fld Z h0 a1 "com/example/bindery/bindery/selection/BindingMix" "size" "I" (.int (3 : Int32))) :
    own_Met l Z (⟨"com/example/bindery/bindery/selection/BindingMix", "slack", "(I)[D"⟩ : MethodName) prog_37_method_7_code 3 (some (.array .double)) ({ frames := 0, cells := 1, slots := 3, locals := 0 } : Room) #[(.ref a1), (.int (1 : Int32))] h0 (fun v h L => ∃ b : Addr, v = some (.ref b) ∧ h0.size ≤ b ∧ Ext h0 h ∧ Fr n0 L ∧ own_D Z h b (3 : Int32) [.double (0 : UInt64), .double (0 : UInt64), .double (4607182418800017408 : UInt64)]) := by
  refine own_body (plainFor_of_name (by first | (simp [plainName, overriddenIn]; done) | decide +kernel)) ?_
  intro p e s m below meth c s₁ hx hby hml hown hnm hlk hrt hZ X0 e0
  refine own_enter (ef_rm_slack_3_1 m a1 (1 : Int32)) ?_
  have N0 := Fr.nil n0
  refine own_aloadN X0 hx hby od_prog_37_method_7_0 (pc' := 1) rfl rfl rfl ?_
  refine own_getF X0 hx hby hZ hown (host := "") (Or.inl (ow_11 hw)) Via.refl e0 F_size od_prog_37_method_7_1 (pc' := 4) rfl ?_
  intro T1 X1 e1
  refine own_newD X1 hx hby hZ (ow_4 hw) e1 od_prog_37_method_7_4 (pc' := 6) rfl (by decide) (cap := 3) (by decide) (by decide) (by decide) (by decide) (vs := [.double (0 : UInt64), .double (0 : UInt64), .double (0 : UInt64)]) rfl ?_
  intro T2 h2 b2 g2 X2 e2 E2 V_b2
  have ne_a1_b2 : a1 ≠ b2 := own_nl F_size.lt g2
  have le3 : h0.size ≤ b2 := Nat.le_of_eq g2.symm
  have n0_b2 : n0 ≤ b2 := Nat.le_trans Z0 (Nat.le_of_eq g2.symm)
  replace F_size := F_size.ext E2
  refine own_astoreN X2 hx hby od_prog_37_method_7_6 (pc' := 7) rfl rfl (Ls' := #[.val (.ref a1), .val (.int (1 : Int32)), .val (.ref b2)]) rfl ?_
  refine own_aloadN X2 hx hby od_prog_37_method_7_7 (pc' := 8) rfl rfl rfl ?_
  refine own_iloadN X2 hx hby od_prog_37_method_7_8 (pc' := 9) rfl rfl ?_
  refine own_iconst X2 hx hby od_prog_37_method_7_9 (pc' := 10) rfl (z := 1) rfl ?_
  refine own_iaddE X2 hx hby od_prog_37_method_7_10 (pc' := 11) rfl (v := (2 : Int32)) rfl ?_
  refine own_dconst1 X2 hx hby od_prog_37_method_7_11 (pc' := 12) rfl (v := (4607182418800017408 : UInt64)) rfl ?_
  refine own_dsD X2 hx hby hZ e2 V_b2 ⟨by decide, by decide⟩ 2 rfl (Nat.le_of_ble_eq_true rfl) (ys := [.double (0 : UInt64), .double (0 : UInt64), .double (4607182418800017408 : UInt64)]) rfl od_prog_37_method_7_12 (pc' := 13) rfl ?_
  intro T4 h4 X4 e4 W4 Q4
  have Ea5 := own_xw E2 W4 le3
  replace F_size := F_size.other W4 (Or.inl ne_a1_b2)
  replace V_b2 := Q4
  have N4 := own_fr1 (sl := ((2 : Int32)).toNatClampNeg) N0 n0_b2
  refine own_aloadN X4 hx hby od_prog_37_method_7_13 (pc' := 14) rfl rfl rfl ?_
  exact own_retA X4 hx hby hlk hrt rfl rfl od_prog_37_method_7_14 (by first | exact ⟨b2, rfl, le3, Ea5, N4, V_b2⟩ | (rw [e4]; exact ⟨b2, rfl, le3, Ea5, N4, V_b2⟩)) (by decide) (by decide)
theorem ef_rm_init1 (m : MethodId) (x0 : Addr) (x1 : Addr) : entryFrame m #[(.ref x0), (.ref x1)] 3 = mkF m 0 #[.val (.ref x0), .val (.ref x1), .unset] [] := by first | (simp [entryFrame, mkF, argsToLocals, Value.category]; done) | rfl
set_option maxRecDepth 65536 in
set_option maxHeartbeats 40000000 in
theorem rm_init1 (l : Launch) (Z : State) (a0 : Array Value) (hw : ∀ d ∈ tables_1, d.before a0 Z = true) (a1 ca : Addr) (h0 : Heap) (n0 : Nat) (Z0 : n0 ≤ h0.size)  (n0_a1 : n0 ≤ a1) (ne_a1_ca : a1 ≠ ca) (A1 : Exa Z h0 a1 "com/example/bindery/bindery/selection/BindingMix") (F_size : Fld Z h0 a1 "com/example/bindery/bindery/selection/BindingMix" "size" "I" (.int (0 : Int32))) (F_rightHandSide : Fld Z h0 a1 "com/example/bindery/bindery/selection/BindingMix" "rightHandSide" "[D" .null) (F_basis : Fld Z h0 a1 "com/example/bindery/bindery/selection/BindingMix" "basis" "[[D" .null) (F_values : Fld Z h0 a1 "com/example/bindery/bindery/selection/BindingMix" "values" "[D" .null) (F_slackOf : Fld Z h0 a1 "com/example/bindery/bindery/selection/BindingMix" "slackOf" "[I" .null) (F_duals : Fld Z h0 a1 "com/example/bindery/bindery/selection/BindingMix" "duals" "[D" .null) (V_ca : own_D Z h0 ca (0 : Int32) []) :
    own_Met l Z (⟨"com/example/bindery/bindery/selection/BindingMix", "<init>", "([D)V"⟩ : MethodName) prog_37_method_1_code 3 none ({ frames := 4, cells := 9, slots := 9, locals := 64 } : Room) #[(.ref a1), (.ref ca)] h0 (fun v h L => v = none ∧ Fr n0 L ∧ Keep h0 h [a1] ∧ ∃ du : Addr, h0.size ≤ du ∧ Exa Z h a1 "com/example/bindery/bindery/selection/BindingMix" ∧ Fld Z h a1 "com/example/bindery/bindery/selection/BindingMix" "size" "I" (.int (1 : Int32)) ∧ Fld Z h a1 "com/example/bindery/bindery/selection/BindingMix" "duals" "[D" (.ref du) ∧ own_D Z h du (1 : Int32) [.double (13830554455654793216 : UInt64)]) := by
  refine own_body (plainFor_of_name (by first | (simp [plainName, overriddenIn]; done) | decide +kernel)) ?_
  intro p e s m below meth c s₁ hx hby hml hown hnm hlk hrt hZ X0 e0
  refine own_enter (ef_rm_init1 m a1 ca) ?_
  have N0 := Fr.nil n0
  have K0 := Keep.refl h0 [a1]
  refine own_aloadN X0 hx hby od_prog_37_method_1_0 (pc' := 1) rfl rfl rfl ?_
  refine own_initO X0 hx hby hZ hml hown (ow_8 hw) (ow_9 hw) (ow_10 hw) e0 rfl od_prog_37_method_1_1 (pc' := 4) rfl (by decide) (W := 0) (Nat.le_refl _) (by decide) ?_
  intro T1 X1 e1
  refine own_aloadN X1 hx hby od_prog_37_method_1_4 (pc' := 5) rfl rfl rfl ?_
  refine own_aloadN X1 hx hby od_prog_37_method_1_5 (pc' := 6) rfl rfl rfl ?_
  refine own_alD X1 hx hby hZ e1 V_ca od_prog_37_method_1_6 (pc' := 7) rfl ?_
  refine own_iconst X1 hx hby od_prog_37_method_1_7 (pc' := 8) rfl (z := 1) rfl ?_
  refine own_iaddE X1 hx hby od_prog_37_method_1_8 (pc' := 9) rfl (v := (1 : Int32)) rfl ?_
  refine own_putF X1 hx hby hZ hown (host := "") (Or.inl (ow_11 hw)) Via.refl e1 F_size A1 (Or.inr ⟨(ow_12 hw), rfl, hnm⟩) (ow_2 hw) (ty := .int) (by decide) rfl rfl od_prog_37_method_1_9 (pc' := 12) rfl ?_
  intro T2 h2 X2 e2 W2 F2_size_a1 A2_a1
  replace F_rightHandSide := F_rightHandSide.other W2 (Or.inr (slot_ne (Or.inr (ow_14 hw)) (Or.inr (ow_12 hw)) (by decide) (t := (.array .double)) (t' := .int) (by decide) (by decide)))
  replace F_basis := F_basis.other W2 (Or.inr (slot_ne (Or.inr (ow_22 hw)) (Or.inr (ow_12 hw)) (by decide) (t := (.array (.array .double))) (t' := .int) (by decide) (by decide)))
  replace F_values := F_values.other W2 (Or.inr (slot_ne (Or.inr (ow_24 hw)) (Or.inr (ow_12 hw)) (by decide) (t := (.array .double)) (t' := .int) (by decide) (by decide)))
  replace F_slackOf := F_slackOf.other W2 (Or.inr (slot_ne (Or.inr (ow_27 hw)) (Or.inr (ow_12 hw)) (by decide) (t := (.array .int)) (t' := .int) (by decide) (by decide)))
  replace F_duals := F_duals.other W2 (Or.inr (slot_ne (Or.inl (ow_54 hw)) (Or.inr (ow_12 hw)) (by decide) (t := (.array .double)) (t' := .int) (by decide) (by decide)))
  have K3 := K0.wr W2 (Or.inl (List.mem_of_getElem? (i := 0) rfl))
  replace V_ca := V_ca.other W2 (Ne.symm ne_a1_ca)
  have N2 := own_fr1 (sl := Jvm.RoadKit.slotOf Z "com/example/bindery/bindery/selection/BindingMix" "size" "I") N0 n0_a1
  refine own_aloadN X2 hx hby od_prog_37_method_1_12 (pc' := 13) rfl rfl rfl ?_
  refine own_aloadN X2 hx hby od_prog_37_method_1_13 (pc' := 14) rfl rfl rfl ?_
  refine own_getF X2 hx hby hZ hown (host := "") (Or.inl (ow_11 hw)) Via.refl e2 F2_size_a1 od_prog_37_method_1_14 (pc' := 17) rfl ?_
  intro T4 X4 e4
  refine own_newD X4 hx hby hZ (ow_4 hw) e4 od_prog_37_method_1_17 (pc' := 19) rfl (by decide) (cap := 1) (by decide) (by decide) (by decide) (by decide) (vs := [.double (0 : UInt64)]) rfl ?_
  intro T5 h5 b5 g5 X5 e5 E5 V_b5
  have ne_a1_b5 : a1 ≠ b5 := own_nl A2_a1.lt g5
  have ne_ca_b5 : ca ≠ b5 := own_nl V_ca.lt g5
  have n0_b5 : n0 ≤ b5 := Nat.le_trans (Nat.le_trans Z0 K3.1) (Nat.le_of_eq g5.symm)
  have le6 : h0.size ≤ b5 := Nat.le_trans K3.1 (Nat.le_of_eq g5.symm)
  have K7 := K3.ext E5
  replace A2_a1 := A2_a1.ext E5
  replace F2_size_a1 := F2_size_a1.ext E5
  replace F_rightHandSide := F_rightHandSide.ext E5
  replace F_basis := F_basis.ext E5
  replace F_values := F_values.ext E5
  replace F_slackOf := F_slackOf.ext E5
  replace F_duals := F_duals.ext E5
  replace V_ca := V_ca.ext E5
  refine own_putF X5 hx hby hZ hown (host := "") (Or.inl (ow_13 hw)) Via.refl e5 F_rightHandSide A2_a1 (Or.inr ⟨(ow_14 hw), rfl, hnm⟩) (ow_2 hw) (ty := (.array .double)) (by decide) rfl rfl od_prog_37_method_1_19 (pc' := 22) rfl ?_
  intro T8 h8 X8 e8 W8 F8_rightHandSide_a1 A8_a1
  replace F2_size_a1 := F2_size_a1.other W8 (Or.inr (slot_ne (Or.inr (ow_12 hw)) (Or.inr (ow_14 hw)) (by decide) (t := .int) (t' := (.array .double)) (by decide) (by decide)))
  replace F_basis := F_basis.other W8 (Or.inr (slot_ne (Or.inr (ow_22 hw)) (Or.inr (ow_14 hw)) (by decide) (t := (.array (.array .double))) (t' := (.array .double)) (by decide) (by decide)))
  replace F_values := F_values.other W8 (Or.inr (slot_ne (Or.inr (ow_24 hw)) (Or.inr (ow_14 hw)) (by decide) (t := (.array .double)) (t' := (.array .double)) (by decide) (by decide)))
  replace F_slackOf := F_slackOf.other W8 (Or.inr (slot_ne (Or.inr (ow_27 hw)) (Or.inr (ow_14 hw)) (by decide) (t := (.array .int)) (t' := (.array .double)) (by decide) (by decide)))
  replace F_duals := F_duals.other W8 (Or.inr (slot_ne (Or.inl (ow_54 hw)) (Or.inr (ow_14 hw)) (by decide) (t := (.array .double)) (t' := (.array .double)) (by decide) (by decide)))
  have K9 := K7.wr W8 (Or.inl (List.mem_of_getElem? (i := 0) rfl))
  replace V_ca := V_ca.other W8 (Ne.symm ne_a1_ca)
  replace V_b5 := V_b5.other W8 (Ne.symm ne_a1_b5)
  have N8 := own_fr1 (sl := Jvm.RoadKit.slotOf Z "com/example/bindery/bindery/selection/BindingMix" "rightHandSide" "[D") N2 n0_a1
  refine own_aloadN X8 hx hby od_prog_37_method_1_22 (pc' := 23) rfl rfl rfl ?_
  refine own_getF X8 hx hby hZ hown (host := "") (Or.inl (ow_13 hw)) Via.refl e8 F8_rightHandSide_a1 od_prog_37_method_1_23 (pc' := 26) rfl ?_
  intro T10 X10 e10
  refine own_iconst X10 hx hby od_prog_37_method_1_26 (pc' := 27) rfl (z := 0) rfl ?_
  refine own_dconst1 X10 hx hby od_prog_37_method_1_27 (pc' := 28) rfl (v := (4607182418800017408 : UInt64)) rfl ?_
  refine own_dsD X10 hx hby hZ e10 V_b5 ⟨by decide, by decide⟩ 0 rfl (Nat.le_of_ble_eq_true rfl) (ys := [.double (4607182418800017408 : UInt64)]) rfl od_prog_37_method_1_28 (pc' := 29) rfl ?_
  intro T11 h11 X11 e11 W11 Q11
  have K12 := K9.wr W11 (Or.inr le6)
  replace A8_a1 := A8_a1.wr W11
  replace F2_size_a1 := F2_size_a1.other W11 (Or.inl ne_a1_b5)
  replace F8_rightHandSide_a1 := F8_rightHandSide_a1.other W11 (Or.inl ne_a1_b5)
  replace F_basis := F_basis.other W11 (Or.inl ne_a1_b5)
  replace F_values := F_values.other W11 (Or.inl ne_a1_b5)
  replace F_slackOf := F_slackOf.other W11 (Or.inl ne_a1_b5)
  replace F_duals := F_duals.other W11 (Or.inl ne_a1_b5)
  replace V_ca := V_ca.other W11 ne_ca_b5
  replace V_b5 := Q11
  have N11 := own_fr1 (sl := ((0 : Int32)).toNatClampNeg) N8 n0_b5
  refine own_aloadN X11 hx hby od_prog_37_method_1_29 (pc' := 30) rfl rfl rfl ?_
  refine own_iconst X11 hx hby od_prog_37_method_1_30 (pc' := 31) rfl (z := 0) rfl ?_
  refine own_aloadN X11 hx hby od_prog_37_method_1_31 (pc' := 32) rfl rfl rfl ?_
  refine own_getF X11 hx hby hZ hown (host := "") (Or.inl (ow_13 hw)) Via.refl e11 F8_rightHandSide_a1 od_prog_37_method_1_32 (pc' := 35) rfl ?_
  intro T13 X13 e13
  refine own_iconst X13 hx hby od_prog_37_method_1_35 (pc' := 36) rfl (z := 1) rfl ?_
  refine own_aloadN X13 hx hby od_prog_37_method_1_36 (pc' := 37) rfl rfl rfl ?_
  refine own_alD X13 hx hby hZ e13 V_ca od_prog_37_method_1_37 (pc' := 38) rfl ?_
  refine own_cpD X13 hx hby hZ hml hown (ow_15 hw) (ow_18 hw) (ow_16 hw) (ow_17 hw) e13 V_ca V_b5 (by decide) (by decide) (by decide) (by decide) (by decide) (us := []) rfl (Nat.le_of_ble_eq_true rfl) (ws := [.double (4607182418800017408 : UInt64)]) rfl (n0 := n0) N11 n0_b5 rfl od_prog_37_method_1_38 (pc' := 41) rfl (by decide) (W := 0) (Nat.le_refl _) (by decide) ?_
  intro T14 h14 L14 X14 e14 N14 K_14 Q14
  have K15 := K12.trans K_14 (allS (Or.inr le6) all0)
  replace A8_a1 := A8_a1.keep K_14
  replace F2_size_a1 := F2_size_a1.keep K_14 (own_niS ne_a1_b5 own_ni0)
  replace F8_rightHandSide_a1 := F8_rightHandSide_a1.keep K_14 (own_niS ne_a1_b5 own_ni0)
  replace F_basis := F_basis.keep K_14 (own_niS ne_a1_b5 own_ni0)
  replace F_values := F_values.keep K_14 (own_niS ne_a1_b5 own_ni0)
  replace F_slackOf := F_slackOf.keep K_14 (own_niS ne_a1_b5 own_ni0)
  replace F_duals := F_duals.keep K_14 (own_niS ne_a1_b5 own_ni0)
  replace V_ca := V_ca.keep K_14 (own_niS ne_ca_b5 own_ni0)
  refine own_aloadN X14 hx hby od_prog_37_method_1_41 (pc' := 42) rfl rfl rfl ?_
  refine own_aloadN X14 hx hby od_prog_37_method_1_42 (pc' := 43) rfl rfl rfl ?_
  refine own_getF X14 hx hby hZ hown (host := "") (Or.inl (ow_11 hw)) Via.refl e14 F2_size_a1 od_prog_37_method_1_43 (pc' := 46) rfl ?_
  intro T16 X16 e16
  refine own_newDD X16 hx hby hZ hown (ow_19 hw) (ow_20 hw) e16 od_prog_37_method_1_46 (pc' := 49) rfl (by decide) (cap := 1) (by decide) (by decide) (by decide) (by decide) (vs := [.null]) rfl ?_
  intro T17 h17 b17 g17 X17 e17 E17 V_b17
  have ne_a1_b17 : a1 ≠ b17 := own_nl A8_a1.lt g17
  have ne_ca_b17 : ca ≠ b17 := own_nl V_ca.lt g17
  have ne_b5_b17 : b5 ≠ b17 := own_nl Q14.lt g17
  have n0_b17 : n0 ≤ b17 := Nat.le_trans (Nat.le_trans Z0 K15.1) (Nat.le_of_eq g17.symm)
  have le18 : h0.size ≤ b17 := Nat.le_trans K15.1 (Nat.le_of_eq g17.symm)
  have K19 := K15.ext E17
  replace A8_a1 := A8_a1.ext E17
  replace F2_size_a1 := F2_size_a1.ext E17
  replace F8_rightHandSide_a1 := F8_rightHandSide_a1.ext E17
  replace F_basis := F_basis.ext E17
  replace F_values := F_values.ext E17
  replace F_slackOf := F_slackOf.ext E17
  replace F_duals := F_duals.ext E17
  replace V_ca := V_ca.ext E17
  replace Q14 := Q14.ext E17
  refine own_putF X17 hx hby hZ hown (host := "") (Or.inl (ow_21 hw)) Via.refl e17 F_basis A8_a1 (Or.inr ⟨(ow_22 hw), rfl, hnm⟩) (ow_2 hw) (ty := (.array (.array .double))) (by decide) rfl rfl od_prog_37_method_1_49 (pc' := 52) rfl ?_
  intro T20 h20 X20 e20 W20 F20_basis_a1 A20_a1
  replace F2_size_a1 := F2_size_a1.other W20 (Or.inr (slot_ne (Or.inr (ow_12 hw)) (Or.inr (ow_22 hw)) (by decide) (t := .int) (t' := (.array (.array .double))) (by decide) (by decide)))
  replace F8_rightHandSide_a1 := F8_rightHandSide_a1.other W20 (Or.inr (slot_ne (Or.inr (ow_14 hw)) (Or.inr (ow_22 hw)) (by decide) (t := (.array .double)) (t' := (.array (.array .double))) (by decide) (by decide)))
  replace F_values := F_values.other W20 (Or.inr (slot_ne (Or.inr (ow_24 hw)) (Or.inr (ow_22 hw)) (by decide) (t := (.array .double)) (t' := (.array (.array .double))) (by decide) (by decide)))
  replace F_slackOf := F_slackOf.other W20 (Or.inr (slot_ne (Or.inr (ow_27 hw)) (Or.inr (ow_22 hw)) (by decide) (t := (.array .int)) (t' := (.array (.array .double))) (by decide) (by decide)))
  replace F_duals := F_duals.other W20 (Or.inr (slot_ne (Or.inl (ow_54 hw)) (Or.inr (ow_22 hw)) (by decide) (t := (.array .double)) (t' := (.array (.array .double))) (by decide) (by decide)))
  have K21 := K19.wr W20 (Or.inl (List.mem_of_getElem? (i := 0) rfl))
  replace V_ca := V_ca.other W20 (Ne.symm ne_a1_ca)
  replace Q14 := Q14.other W20 (Ne.symm ne_a1_b5)
  replace V_b17 := V_b17.other W20 (Ne.symm ne_a1_b17)
  have N20 := own_fr1 (sl := Jvm.RoadKit.slotOf Z "com/example/bindery/bindery/selection/BindingMix" "basis" "[[D") N14 n0_a1
  refine own_aloadN X20 hx hby od_prog_37_method_1_52 (pc' := 53) rfl rfl rfl ?_
  refine own_aloadN X20 hx hby od_prog_37_method_1_53 (pc' := 54) rfl rfl rfl ?_
  refine own_getF X20 hx hby hZ hown (host := "") (Or.inl (ow_11 hw)) Via.refl e20 F2_size_a1 od_prog_37_method_1_54 (pc' := 57) rfl ?_
  intro T22 X22 e22
  refine own_newD X22 hx hby hZ (ow_4 hw) e22 od_prog_37_method_1_57 (pc' := 59) rfl (by decide) (cap := 1) (by decide) (by decide) (by decide) (by decide) (vs := [.double (0 : UInt64)]) rfl ?_
  intro T23 h23 b23 g23 X23 e23 E23 V_b23
  have ne_a1_b23 : a1 ≠ b23 := own_nl A20_a1.lt g23
  have ne_ca_b23 : ca ≠ b23 := own_nl V_ca.lt g23
  have ne_b5_b23 : b5 ≠ b23 := own_nl Q14.lt g23
  have ne_b17_b23 : b17 ≠ b23 := own_nl V_b17.lt g23
  have n0_b23 : n0 ≤ b23 := Nat.le_trans (Nat.le_trans Z0 K21.1) (Nat.le_of_eq g23.symm)
  have le24 : h0.size ≤ b23 := Nat.le_trans K21.1 (Nat.le_of_eq g23.symm)
  have K25 := K21.ext E23
  replace A20_a1 := A20_a1.ext E23
  replace F2_size_a1 := F2_size_a1.ext E23
  replace F8_rightHandSide_a1 := F8_rightHandSide_a1.ext E23
  replace F20_basis_a1 := F20_basis_a1.ext E23
  replace F_values := F_values.ext E23
  replace F_slackOf := F_slackOf.ext E23
  replace F_duals := F_duals.ext E23
  replace V_ca := V_ca.ext E23
  replace Q14 := Q14.ext E23
  replace V_b17 := V_b17.ext E23
  refine own_putF X23 hx hby hZ hown (host := "") (Or.inl (ow_23 hw)) Via.refl e23 F_values A20_a1 (Or.inr ⟨(ow_24 hw), rfl, hnm⟩) (ow_2 hw) (ty := (.array .double)) (by decide) rfl rfl od_prog_37_method_1_59 (pc' := 62) rfl ?_
  intro T26 h26 X26 e26 W26 F26_values_a1 A26_a1
  replace F2_size_a1 := F2_size_a1.other W26 (Or.inr (slot_ne (Or.inr (ow_12 hw)) (Or.inr (ow_24 hw)) (by decide) (t := .int) (t' := (.array .double)) (by decide) (by decide)))
  replace F8_rightHandSide_a1 := F8_rightHandSide_a1.other W26 (Or.inr (slot_ne (Or.inr (ow_14 hw)) (Or.inr (ow_24 hw)) (by decide) (t := (.array .double)) (t' := (.array .double)) (by decide) (by decide)))
  replace F20_basis_a1 := F20_basis_a1.other W26 (Or.inr (slot_ne (Or.inr (ow_22 hw)) (Or.inr (ow_24 hw)) (by decide) (t := (.array (.array .double))) (t' := (.array .double)) (by decide) (by decide)))
  replace F_slackOf := F_slackOf.other W26 (Or.inr (slot_ne (Or.inr (ow_27 hw)) (Or.inr (ow_24 hw)) (by decide) (t := (.array .int)) (t' := (.array .double)) (by decide) (by decide)))
  replace F_duals := F_duals.other W26 (Or.inr (slot_ne (Or.inl (ow_54 hw)) (Or.inr (ow_24 hw)) (by decide) (t := (.array .double)) (t' := (.array .double)) (by decide) (by decide)))
  have K27 := K25.wr W26 (Or.inl (List.mem_of_getElem? (i := 0) rfl))
  replace V_ca := V_ca.other W26 (Ne.symm ne_a1_ca)
  replace Q14 := Q14.other W26 (Ne.symm ne_a1_b5)
  replace V_b17 := V_b17.other W26 (Ne.symm ne_a1_b17)
  replace V_b23 := V_b23.other W26 (Ne.symm ne_a1_b23)
  have N26 := own_fr1 (sl := Jvm.RoadKit.slotOf Z "com/example/bindery/bindery/selection/BindingMix" "values" "[D") N20 n0_a1
  refine own_aloadN X26 hx hby od_prog_37_method_1_62 (pc' := 63) rfl rfl rfl ?_
  refine own_aloadN X26 hx hby od_prog_37_method_1_63 (pc' := 64) rfl rfl rfl ?_
  refine own_getF X26 hx hby hZ hown (host := "") (Or.inl (ow_11 hw)) Via.refl e26 F2_size_a1 od_prog_37_method_1_64 (pc' := 67) rfl ?_
  intro T28 X28 e28
  refine own_newIA X28 hx hby hZ (ow_25 hw) e28 od_prog_37_method_1_67 (pc' := 69) rfl (by decide) (cap := 1) (by decide) (by decide) (by decide) (by decide) (vs := [.int (0 : Int32)]) rfl ?_
  intro T29 h29 b29 g29 X29 e29 E29 V_b29
  have ne_a1_b29 : a1 ≠ b29 := own_nl A26_a1.lt g29
  have ne_ca_b29 : ca ≠ b29 := own_nl V_ca.lt g29
  have ne_b5_b29 : b5 ≠ b29 := own_nl Q14.lt g29
  have ne_b17_b29 : b17 ≠ b29 := own_nl V_b17.lt g29
  have ne_b23_b29 : b23 ≠ b29 := own_nl V_b23.lt g29
  have n0_b29 : n0 ≤ b29 := Nat.le_trans (Nat.le_trans Z0 K27.1) (Nat.le_of_eq g29.symm)
  have le30 : h0.size ≤ b29 := Nat.le_trans K27.1 (Nat.le_of_eq g29.symm)
  have K31 := K27.ext E29
  replace A26_a1 := A26_a1.ext E29
  replace F2_size_a1 := F2_size_a1.ext E29
  replace F8_rightHandSide_a1 := F8_rightHandSide_a1.ext E29
  replace F20_basis_a1 := F20_basis_a1.ext E29
  replace F26_values_a1 := F26_values_a1.ext E29
  replace F_slackOf := F_slackOf.ext E29
  replace F_duals := F_duals.ext E29
  replace V_ca := V_ca.ext E29
  replace Q14 := Q14.ext E29
  replace V_b17 := V_b17.ext E29
  replace V_b23 := V_b23.ext E29
  refine own_putF X29 hx hby hZ hown (host := "") (Or.inl (ow_26 hw)) Via.refl e29 F_slackOf A26_a1 (Or.inr ⟨(ow_27 hw), rfl, hnm⟩) (ow_2 hw) (ty := (.array .int)) (by decide) rfl rfl od_prog_37_method_1_69 (pc' := 72) rfl ?_
  intro T32 h32 X32 e32 W32 F32_slackOf_a1 A32_a1
  replace F2_size_a1 := F2_size_a1.other W32 (Or.inr (slot_ne (Or.inr (ow_12 hw)) (Or.inr (ow_27 hw)) (by decide) (t := .int) (t' := (.array .int)) (by decide) (by decide)))
  replace F8_rightHandSide_a1 := F8_rightHandSide_a1.other W32 (Or.inr (slot_ne (Or.inr (ow_14 hw)) (Or.inr (ow_27 hw)) (by decide) (t := (.array .double)) (t' := (.array .int)) (by decide) (by decide)))
  replace F20_basis_a1 := F20_basis_a1.other W32 (Or.inr (slot_ne (Or.inr (ow_22 hw)) (Or.inr (ow_27 hw)) (by decide) (t := (.array (.array .double))) (t' := (.array .int)) (by decide) (by decide)))
  replace F26_values_a1 := F26_values_a1.other W32 (Or.inr (slot_ne (Or.inr (ow_24 hw)) (Or.inr (ow_27 hw)) (by decide) (t := (.array .double)) (t' := (.array .int)) (by decide) (by decide)))
  replace F_duals := F_duals.other W32 (Or.inr (slot_ne (Or.inl (ow_54 hw)) (Or.inr (ow_27 hw)) (by decide) (t := (.array .double)) (t' := (.array .int)) (by decide) (by decide)))
  have K33 := K31.wr W32 (Or.inl (List.mem_of_getElem? (i := 0) rfl))
  replace V_ca := V_ca.other W32 (Ne.symm ne_a1_ca)
  replace Q14 := Q14.other W32 (Ne.symm ne_a1_b5)
  replace V_b17 := V_b17.other W32 (Ne.symm ne_a1_b17)
  replace V_b23 := V_b23.other W32 (Ne.symm ne_a1_b23)
  replace V_b29 := V_b29.other W32 (Ne.symm ne_a1_b29)
  have N32 := own_fr1 (sl := Jvm.RoadKit.slotOf Z "com/example/bindery/bindery/selection/BindingMix" "slackOf" "[I") N26 n0_a1
  refine own_aloadN X32 hx hby od_prog_37_method_1_72 (pc' := 73) rfl rfl rfl ?_
  refine own_getF X32 hx hby hZ hown (host := "") (Or.inl (ow_21 hw)) Via.refl e32 F20_basis_a1 od_prog_37_method_1_73 (pc' := 76) rfl ?_
  intro T34 X34 e34
  refine own_iconst X34 hx hby od_prog_37_method_1_76 (pc' := 77) rfl (z := 0) rfl ?_
  refine own_aloadN X34 hx hby od_prog_37_method_1_77 (pc' := 78) rfl rfl rfl ?_
  refine own_getF X34 hx hby hZ hown (host := "") (Or.inl (ow_13 hw)) Via.refl e34 F8_rightHandSide_a1 od_prog_37_method_1_78 (pc' := 81) rfl ?_
  intro T35 X35 e35
  refine own_cloneD X35 hx hby hZ hml hown (ow_28 hw) (ow_29 hw) (ow_33 hw) (ow_31 hw) (ow_32 hw) (ow_34 hw) e35 Q14 rfl od_prog_37_method_1_81 (pc' := 84) rfl (by decide) (W := 2) (cap := 1) (Nat.le_refl _) (by decide) (by decide) (by decide) (by decide) ?_
  intro T36 h36 b36 g36 X36 e36 E36 V_b36
  have ne_a1_b36 : a1 ≠ b36 := own_nl A32_a1.lt g36
  have ne_ca_b36 : ca ≠ b36 := own_nl V_ca.lt g36
  have ne_b5_b36 : b5 ≠ b36 := own_nl Q14.lt g36
  have ne_b17_b36 : b17 ≠ b36 := own_nl V_b17.lt g36
  have ne_b23_b36 : b23 ≠ b36 := own_nl V_b23.lt g36
  have ne_b29_b36 : b29 ≠ b36 := own_nl V_b29.lt g36
  have n0_b36 : n0 ≤ b36 := Nat.le_trans (Nat.le_trans Z0 K33.1) (Nat.le_of_eq g36.symm)
  have le37 : h0.size ≤ b36 := Nat.le_trans K33.1 (Nat.le_of_eq g36.symm)
  have K38 := K33.ext E36
  replace A32_a1 := A32_a1.ext E36
  replace F2_size_a1 := F2_size_a1.ext E36
  replace F8_rightHandSide_a1 := F8_rightHandSide_a1.ext E36
  replace F20_basis_a1 := F20_basis_a1.ext E36
  replace F26_values_a1 := F26_values_a1.ext E36
  replace F32_slackOf_a1 := F32_slackOf_a1.ext E36
  replace F_duals := F_duals.ext E36
  replace V_ca := V_ca.ext E36
  replace Q14 := Q14.ext E36
  replace V_b17 := V_b17.ext E36
  replace V_b23 := V_b23.ext E36
  replace V_b29 := V_b29.ext E36
  refine own_cast X36 hx hby hZ hown (ow_19 hw) e36 (Ins.self V_b36.exa) od_prog_37_method_1_84 (pc' := 87) rfl ?_
  intro T39 X39 e39
  refine own_asD X39 hx hby hZ e39 V_b17 (V_b36.exa) ⟨by decide, by decide⟩ 0 rfl (Nat.le_of_ble_eq_true rfl) (ys := [.ref b36]) rfl od_prog_37_method_1_87 (pc' := 88) rfl ?_
  intro T40 h40 X40 e40 W40 Q40
  have K41 := K38.wr W40 (Or.inr le18)
  replace A32_a1 := A32_a1.wr W40
  replace F2_size_a1 := F2_size_a1.other W40 (Or.inl ne_a1_b17)
  replace F8_rightHandSide_a1 := F8_rightHandSide_a1.other W40 (Or.inl ne_a1_b17)
  replace F20_basis_a1 := F20_basis_a1.other W40 (Or.inl ne_a1_b17)
  replace F26_values_a1 := F26_values_a1.other W40 (Or.inl ne_a1_b17)
  replace F32_slackOf_a1 := F32_slackOf_a1.other W40 (Or.inl ne_a1_b17)
  replace F_duals := F_duals.other W40 (Or.inl ne_a1_b17)
  replace V_ca := V_ca.other W40 ne_ca_b17
  replace Q14 := Q14.other W40 ne_b5_b17
  replace V_b23 := V_b23.other W40 (Ne.symm ne_b17_b23)
  replace V_b29 := V_b29.other W40 (Ne.symm ne_b17_b29)
  replace V_b36 := V_b36.other W40 (Ne.symm ne_b17_b36)
  replace V_b17 := Q40
  have N40 := own_fr1 (sl := ((0 : Int32)).toNatClampNeg) N32 n0_b17
  refine own_aloadN X40 hx hby od_prog_37_method_1_88 (pc' := 89) rfl rfl rfl ?_
  refine own_getF X40 hx hby hZ hown (host := "") (Or.inl (ow_23 hw)) Via.refl e40 F26_values_a1 od_prog_37_method_1_89 (pc' := 92) rfl ?_
  intro T42 X42 e42
  refine own_iconst X42 hx hby od_prog_37_method_1_92 (pc' := 93) rfl (z := 0) rfl ?_
  refine own_ldcD X42 hx hby hZ hown (ow_36 hw) od_prog_37_method_1_93 (pc' := 96) rfl ?_
  refine own_dsD X42 hx hby hZ e42 V_b23 ⟨by decide, by decide⟩ 0 rfl (Nat.le_of_ble_eq_true rfl) (ys := [.double (13830554455654793216 : UInt64)]) rfl od_prog_37_method_1_96 (pc' := 97) rfl ?_
  intro T43 h43 X43 e43 W43 Q43
  have K44 := K41.wr W43 (Or.inr le24)
  replace A32_a1 := A32_a1.wr W43
  replace F2_size_a1 := F2_size_a1.other W43 (Or.inl ne_a1_b23)
  replace F8_rightHandSide_a1 := F8_rightHandSide_a1.other W43 (Or.inl ne_a1_b23)
  replace F20_basis_a1 := F20_basis_a1.other W43 (Or.inl ne_a1_b23)
  replace F26_values_a1 := F26_values_a1.other W43 (Or.inl ne_a1_b23)
  replace F32_slackOf_a1 := F32_slackOf_a1.other W43 (Or.inl ne_a1_b23)
  replace F_duals := F_duals.other W43 (Or.inl ne_a1_b23)
  replace V_ca := V_ca.other W43 ne_ca_b23
  replace Q14 := Q14.other W43 ne_b5_b23
  replace V_b17 := V_b17.other W43 ne_b17_b23
  replace V_b29 := V_b29.other W43 (Ne.symm ne_b23_b29)
  replace V_b36 := V_b36.other W43 (Ne.symm ne_b23_b36)
  replace V_b23 := Q43
  have N43 := own_fr1 (sl := ((0 : Int32)).toNatClampNeg) N40 n0_b23
  refine own_aloadN X43 hx hby od_prog_37_method_1_97 (pc' := 98) rfl rfl rfl ?_
  refine own_getF X43 hx hby hZ hown (host := "") (Or.inl (ow_26 hw)) Via.refl e43 F32_slackOf_a1 od_prog_37_method_1_98 (pc' := 101) rfl ?_
  intro T45 X45 e45
  refine own_iconst X45 hx hby od_prog_37_method_1_101 (pc' := 102) rfl (z := 0) rfl ?_
  refine own_iconst X45 hx hby od_prog_37_method_1_102 (pc' := 103) rfl (z := (-1)) rfl ?_
  refine own_isI X45 hx hby hZ e45 V_b29 ⟨by decide, by decide⟩ 0 rfl (Nat.le_of_ble_eq_true rfl) (ys := [.int (-1 : Int32)]) rfl od_prog_37_method_1_103 (pc' := 104) rfl ?_
  intro T46 h46 X46 e46 W46 Q46
  have K47 := K44.wr W46 (Or.inr le30)
  replace A32_a1 := A32_a1.wr W46
  replace F2_size_a1 := F2_size_a1.other W46 (Or.inl ne_a1_b29)
  replace F8_rightHandSide_a1 := F8_rightHandSide_a1.other W46 (Or.inl ne_a1_b29)
  replace F20_basis_a1 := F20_basis_a1.other W46 (Or.inl ne_a1_b29)
  replace F26_values_a1 := F26_values_a1.other W46 (Or.inl ne_a1_b29)
  replace F32_slackOf_a1 := F32_slackOf_a1.other W46 (Or.inl ne_a1_b29)
  replace F_duals := F_duals.other W46 (Or.inl ne_a1_b29)
  replace V_ca := V_ca.other W46 ne_ca_b29
  replace Q14 := Q14.other W46 ne_b5_b29
  replace V_b17 := V_b17.other W46 ne_b17_b29
  replace V_b23 := V_b23.other W46 ne_b23_b29
  replace V_b36 := V_b36.other W46 (Ne.symm ne_b29_b36)
  replace V_b29 := Q46
  have N46 := own_fr1 (sl := ((0 : Int32)).toNatClampNeg) N43 n0_b29
  refine own_iconst X46 hx hby od_prog_37_method_1_104 (pc' := 105) rfl (z := 0) rfl ?_
  refine own_istoreN X46 hx hby od_prog_37_method_1_105 (pc' := 106) rfl (Ls' := #[.val (.ref a1), .val (.ref ca), .val (.int (0 : Int32))]) rfl ?_
  refine own_iloadN X46 hx hby od_prog_37_method_1_106 (pc' := 107) rfl rfl ?_
  refine own_aloadN X46 hx hby od_prog_37_method_1_107 (pc' := 108) rfl rfl rfl ?_
  refine own_alD X46 hx hby hZ e46 V_ca od_prog_37_method_1_108 (pc' := 109) rfl ?_
  refine own_icmpY X46 hx hby od_prog_37_method_1_109 (by decide) (pc' := 140) (by decide) (flt (by decide)).2.1 ?_
  refine own_aloadN X46 hx hby od_prog_37_method_1_140 (pc' := 141) rfl rfl rfl ?_
  refine own_aloadN X46 hx hby od_prog_37_method_1_141 (pc' := 142) rfl rfl rfl ?_
  refine own_privM X46 hx hby hml hZ hown (ow_37 hw) (ow_38 hw) (own_selP (ow_38 hw) (ow_39 hw) (ow_58 hw) rfl (by decide)) (ow_39 hw) (ow_3 hw) (ow_40 hw) (by decide) (cc := 4) (ss := 4) (rm_duals1 l Z a0 hw a1 b17 b36 b23  h46 n0 (Nat.le_trans Z0 K47.1)  F20_basis_a1 F26_values_a1 V_b17 V_b36 V_b23) 1 rfl rfl (by decide) (by decide) rfl A32_a1 (argsL := []) (rest := [(.ref a1)]) opd_2 rfl rfl (Nat.le_refl _) od_prog_37_method_1_142 (pc' := 145) rfl rfl e46 (by decide) (by decide) ?_
  rintro v48 T48 h48 L48 X48 e48 ⟨od, rfl, lb48, Eq48, Nq48, V_od⟩
  have ne_a1_od : a1 ≠ od := Nat.ne_of_lt (Nat.lt_of_lt_of_le A32_a1.lt lb48)
  have ne_ca_od : ca ≠ od := Nat.ne_of_lt (Nat.lt_of_lt_of_le V_ca.lt lb48)
  have ne_b5_od : b5 ≠ od := Nat.ne_of_lt (Nat.lt_of_lt_of_le Q14.lt lb48)
  have ne_b17_od : b17 ≠ od := Nat.ne_of_lt (Nat.lt_of_lt_of_le V_b17.lt lb48)
  have ne_b23_od : b23 ≠ od := Nat.ne_of_lt (Nat.lt_of_lt_of_le V_b23.lt lb48)
  have ne_b29_od : b29 ≠ od := Nat.ne_of_lt (Nat.lt_of_lt_of_le V_b29.lt lb48)
  have ne_b36_od : b36 ≠ od := Nat.ne_of_lt (Nat.lt_of_lt_of_le V_b36.lt lb48)
  have n0_od : n0 ≤ od := Nat.le_trans (Nat.le_trans Z0 K47.1) lb48
  have le49 : h0.size ≤ od := Nat.le_trans K47.1 lb48
  have N48 := N46.app Nq48
  have K50 := K47.ext Eq48
  replace A32_a1 := A32_a1.ext Eq48
  replace F2_size_a1 := F2_size_a1.ext Eq48
  replace F8_rightHandSide_a1 := F8_rightHandSide_a1.ext Eq48
  replace F20_basis_a1 := F20_basis_a1.ext Eq48
  replace F26_values_a1 := F26_values_a1.ext Eq48
  replace F32_slackOf_a1 := F32_slackOf_a1.ext Eq48
  replace F_duals := F_duals.ext Eq48
  replace V_ca := V_ca.ext Eq48
  replace Q14 := Q14.ext Eq48
  replace V_b17 := V_b17.ext Eq48
  replace V_b23 := V_b23.ext Eq48
  replace V_b29 := V_b29.ext Eq48
  replace V_b36 := V_b36.ext Eq48
  refine own_putF X48 hx hby hZ hown (host := "") (Or.inl (ow_53 hw)) Via.refl e48 F_duals A32_a1 (Or.inl (ow_54 hw)) (ow_2 hw) (ty := (.array .double)) (by decide) rfl rfl od_prog_37_method_1_145 (pc' := 148) rfl ?_
  intro T51 h51 X51 e51 W51 F51_duals_a1 A51_a1
  replace F2_size_a1 := F2_size_a1.other W51 (Or.inr (slot_ne (Or.inr (ow_12 hw)) (Or.inl (ow_54 hw)) (by decide) (t := .int) (t' := (.array .double)) (by decide) (by decide)))
  replace F8_rightHandSide_a1 := F8_rightHandSide_a1.other W51 (Or.inr (slot_ne (Or.inr (ow_14 hw)) (Or.inl (ow_54 hw)) (by decide) (t := (.array .double)) (t' := (.array .double)) (by decide) (by decide)))
  replace F20_basis_a1 := F20_basis_a1.other W51 (Or.inr (slot_ne (Or.inr (ow_22 hw)) (Or.inl (ow_54 hw)) (by decide) (t := (.array (.array .double))) (t' := (.array .double)) (by decide) (by decide)))
  replace F26_values_a1 := F26_values_a1.other W51 (Or.inr (slot_ne (Or.inr (ow_24 hw)) (Or.inl (ow_54 hw)) (by decide) (t := (.array .double)) (t' := (.array .double)) (by decide) (by decide)))
  replace F32_slackOf_a1 := F32_slackOf_a1.other W51 (Or.inr (slot_ne (Or.inr (ow_27 hw)) (Or.inl (ow_54 hw)) (by decide) (t := (.array .int)) (t' := (.array .double)) (by decide) (by decide)))
  have K52 := K50.wr W51 (Or.inl (List.mem_of_getElem? (i := 0) rfl))
  replace V_ca := V_ca.other W51 (Ne.symm ne_a1_ca)
  replace Q14 := Q14.other W51 (Ne.symm ne_a1_b5)
  replace V_b17 := V_b17.other W51 (Ne.symm ne_a1_b17)
  replace V_b23 := V_b23.other W51 (Ne.symm ne_a1_b23)
  replace V_b29 := V_b29.other W51 (Ne.symm ne_a1_b29)
  replace V_b36 := V_b36.other W51 (Ne.symm ne_a1_b36)
  replace V_od := V_od.other W51 (Ne.symm ne_a1_od)
  have N51 := own_fr1 (sl := Jvm.RoadKit.slotOf Z "com/example/bindery/bindery/selection/BindingMix" "duals" "[D") N48 n0_a1
  exact own_ret0 X51 hx hby hlk hrt od_prog_37_method_1_148 (by first | exact ⟨rfl, N51, K52, od, le49, A51_a1, F2_size_a1, F51_duals_a1, V_od⟩ | (rw [e51]; exact ⟨rfl, N51, K52, od, le49, A51_a1, F2_size_a1, F51_duals_a1, V_od⟩)) (by decide) (by decide)
theorem ef_rm_init3 (m : MethodId) (x0 : Addr) (x1 : Addr) : entryFrame m #[(.ref x0), (.ref x1)] 3 = mkF m 0 #[.val (.ref x0), .val (.ref x1), .unset] [] := by first | (simp [entryFrame, mkF, argsToLocals, Value.category]; done) | rfl
set_option maxRecDepth 65536 in
set_option maxHeartbeats 40000000 in
theorem rm_init3 (l : Launch) (Z : State) (a0 : Array Value) (hw : ∀ d ∈ tables_1, d.before a0 Z = true) (a1 ca : Addr) (dc dl : UInt64) (h0 : Heap) (n0 : Nat) (Z0 : n0 ≤ h0.size) (Zc : own_nb dc = true ∧ own_nb (FP.dmul (0 : UInt64) dc) = true ∧ FP.dmul (0 : UInt64) dc = 0 ∧ own_nb (FP.dmul dc (0 : UInt64)) = true ∧ FP.dmul dc (0 : UInt64) = 0) (Zl : own_nb dl = true ∧ own_nb (FP.dmul (0 : UInt64) dl) = true ∧ FP.dmul (0 : UInt64) dl = 0 ∧ own_nb (FP.dmul dl (0 : UInt64)) = true ∧ FP.dmul dl (0 : UInt64) = 0) (n0_a1 : n0 ≤ a1) (ne_a1_ca : a1 ≠ ca) (A1 : Exa Z h0 a1 "com/example/bindery/bindery/selection/BindingMix") (F_size : Fld Z h0 a1 "com/example/bindery/bindery/selection/BindingMix" "size" "I" (.int (0 : Int32))) (F_rightHandSide : Fld Z h0 a1 "com/example/bindery/bindery/selection/BindingMix" "rightHandSide" "[D" .null) (F_basis : Fld Z h0 a1 "com/example/bindery/bindery/selection/BindingMix" "basis" "[[D" .null) (F_values : Fld Z h0 a1 "com/example/bindery/bindery/selection/BindingMix" "values" "[D" .null) (F_slackOf : Fld Z h0 a1 "com/example/bindery/bindery/selection/BindingMix" "slackOf" "[I" .null) (F_duals : Fld Z h0 a1 "com/example/bindery/bindery/selection/BindingMix" "duals" "[D" .null) (V_ca : own_D Z h0 ca (2 : Int32) [.double dc, .double dl]) :
    own_Met l Z (⟨"com/example/bindery/bindery/selection/BindingMix", "<init>", "([D)V"⟩ : MethodName) prog_37_method_1_code 3 none ({ frames := 4, cells := 13, slots := 39, locals := 64 } : Room) #[(.ref a1), (.ref ca)] h0 (fun v h L => v = none ∧ Fr n0 L ∧ Keep h0 h [a1] ∧ ∃ du : Addr, h0.size ≤ du ∧ Exa Z h a1 "com/example/bindery/bindery/selection/BindingMix" ∧ Fld Z h a1 "com/example/bindery/bindery/selection/BindingMix" "size" "I" (.int (3 : Int32)) ∧ Fld Z h a1 "com/example/bindery/bindery/selection/BindingMix" "duals" "[D" (.ref du) ∧ own_D Z h du (3 : Int32) [.double (13830554455654793216 : UInt64), .double (0 : UInt64), .double (0 : UInt64)]) := by
  refine own_body (plainFor_of_name (by first | (simp [plainName, overriddenIn]; done) | decide +kernel)) ?_
  intro p e s m below meth c s₁ hx hby hml hown hnm hlk hrt hZ X0 e0
  refine own_enter (ef_rm_init3 m a1 ca) ?_
  have N0 := Fr.nil n0
  have K0 := Keep.refl h0 [a1]
  refine own_aloadN X0 hx hby od_prog_37_method_1_0 (pc' := 1) rfl rfl rfl ?_
  refine own_initO X0 hx hby hZ hml hown (ow_8 hw) (ow_9 hw) (ow_10 hw) e0 rfl od_prog_37_method_1_1 (pc' := 4) rfl (by decide) (W := 0) (Nat.le_refl _) (by decide) ?_
  intro T1 X1 e1
  refine own_aloadN X1 hx hby od_prog_37_method_1_4 (pc' := 5) rfl rfl rfl ?_
  refine own_aloadN X1 hx hby od_prog_37_method_1_5 (pc' := 6) rfl rfl rfl ?_
  refine own_alD X1 hx hby hZ e1 V_ca od_prog_37_method_1_6 (pc' := 7) rfl ?_
  refine own_iconst X1 hx hby od_prog_37_method_1_7 (pc' := 8) rfl (z := 1) rfl ?_
  refine own_iaddE X1 hx hby od_prog_37_method_1_8 (pc' := 9) rfl (v := (3 : Int32)) rfl ?_
  refine own_putF X1 hx hby hZ hown (host := "") (Or.inl (ow_11 hw)) Via.refl e1 F_size A1 (Or.inr ⟨(ow_12 hw), rfl, hnm⟩) (ow_2 hw) (ty := .int) (by decide) rfl rfl od_prog_37_method_1_9 (pc' := 12) rfl ?_
  intro T2 h2 X2 e2 W2 F2_size_a1 A2_a1
  replace F_rightHandSide := F_rightHandSide.other W2 (Or.inr (slot_ne (Or.inr (ow_14 hw)) (Or.inr (ow_12 hw)) (by decide) (t := (.array .double)) (t' := .int) (by decide) (by decide)))
  replace F_basis := F_basis.other W2 (Or.inr (slot_ne (Or.inr (ow_22 hw)) (Or.inr (ow_12 hw)) (by decide) (t := (.array (.array .double))) (t' := .int) (by decide) (by decide)))
  replace F_values := F_values.other W2 (Or.inr (slot_ne (Or.inr (ow_24 hw)) (Or.inr (ow_12 hw)) (by decide) (t := (.array .double)) (t' := .int) (by decide) (by decide)))
  replace F_slackOf := F_slackOf.other W2 (Or.inr (slot_ne (Or.inr (ow_27 hw)) (Or.inr (ow_12 hw)) (by decide) (t := (.array .int)) (t' := .int) (by decide) (by decide)))
  replace F_duals := F_duals.other W2 (Or.inr (slot_ne (Or.inl (ow_54 hw)) (Or.inr (ow_12 hw)) (by decide) (t := (.array .double)) (t' := .int) (by decide) (by decide)))
  have K3 := K0.wr W2 (Or.inl (List.mem_of_getElem? (i := 0) rfl))
  replace V_ca := V_ca.other W2 (Ne.symm ne_a1_ca)
  have N2 := own_fr1 (sl := Jvm.RoadKit.slotOf Z "com/example/bindery/bindery/selection/BindingMix" "size" "I") N0 n0_a1
  refine own_aloadN X2 hx hby od_prog_37_method_1_12 (pc' := 13) rfl rfl rfl ?_
  refine own_aloadN X2 hx hby od_prog_37_method_1_13 (pc' := 14) rfl rfl rfl ?_
  refine own_getF X2 hx hby hZ hown (host := "") (Or.inl (ow_11 hw)) Via.refl e2 F2_size_a1 od_prog_37_method_1_14 (pc' := 17) rfl ?_
  intro T4 X4 e4
  refine own_newD X4 hx hby hZ (ow_4 hw) e4 od_prog_37_method_1_17 (pc' := 19) rfl (by decide) (cap := 3) (by decide) (by decide) (by decide) (by decide) (vs := [.double (0 : UInt64), .double (0 : UInt64), .double (0 : UInt64)]) rfl ?_
  intro T5 h5 b5 g5 X5 e5 E5 V_b5
  have ne_a1_b5 : a1 ≠ b5 := own_nl A2_a1.lt g5
  have ne_ca_b5 : ca ≠ b5 := own_nl V_ca.lt g5
  have n0_b5 : n0 ≤ b5 := Nat.le_trans (Nat.le_trans Z0 K3.1) (Nat.le_of_eq g5.symm)
  have le6 : h0.size ≤ b5 := Nat.le_trans K3.1 (Nat.le_of_eq g5.symm)
  have K7 := K3.ext E5
  replace A2_a1 := A2_a1.ext E5
  replace F2_size_a1 := F2_size_a1.ext E5
  replace F_rightHandSide := F_rightHandSide.ext E5
  replace F_basis := F_basis.ext E5
  replace F_values := F_values.ext E5
  replace F_slackOf := F_slackOf.ext E5
  replace F_duals := F_duals.ext E5
  replace V_ca := V_ca.ext E5
  refine own_putF X5 hx hby hZ hown (host := "") (Or.inl (ow_13 hw)) Via.refl e5 F_rightHandSide A2_a1 (Or.inr ⟨(ow_14 hw), rfl, hnm⟩) (ow_2 hw) (ty := (.array .double)) (by decide) rfl rfl od_prog_37_method_1_19 (pc' := 22) rfl ?_
  intro T8 h8 X8 e8 W8 F8_rightHandSide_a1 A8_a1
  replace F2_size_a1 := F2_size_a1.other W8 (Or.inr (slot_ne (Or.inr (ow_12 hw)) (Or.inr (ow_14 hw)) (by decide) (t := .int) (t' := (.array .double)) (by decide) (by decide)))
  replace F_basis := F_basis.other W8 (Or.inr (slot_ne (Or.inr (ow_22 hw)) (Or.inr (ow_14 hw)) (by decide) (t := (.array (.array .double))) (t' := (.array .double)) (by decide) (by decide)))
  replace F_values := F_values.other W8 (Or.inr (slot_ne (Or.inr (ow_24 hw)) (Or.inr (ow_14 hw)) (by decide) (t := (.array .double)) (t' := (.array .double)) (by decide) (by decide)))
  replace F_slackOf := F_slackOf.other W8 (Or.inr (slot_ne (Or.inr (ow_27 hw)) (Or.inr (ow_14 hw)) (by decide) (t := (.array .int)) (t' := (.array .double)) (by decide) (by decide)))
  replace F_duals := F_duals.other W8 (Or.inr (slot_ne (Or.inl (ow_54 hw)) (Or.inr (ow_14 hw)) (by decide) (t := (.array .double)) (t' := (.array .double)) (by decide) (by decide)))
  have K9 := K7.wr W8 (Or.inl (List.mem_of_getElem? (i := 0) rfl))
  replace V_ca := V_ca.other W8 (Ne.symm ne_a1_ca)
  replace V_b5 := V_b5.other W8 (Ne.symm ne_a1_b5)
  have N8 := own_fr1 (sl := Jvm.RoadKit.slotOf Z "com/example/bindery/bindery/selection/BindingMix" "rightHandSide" "[D") N2 n0_a1
  refine own_aloadN X8 hx hby od_prog_37_method_1_22 (pc' := 23) rfl rfl rfl ?_
  refine own_getF X8 hx hby hZ hown (host := "") (Or.inl (ow_13 hw)) Via.refl e8 F8_rightHandSide_a1 od_prog_37_method_1_23 (pc' := 26) rfl ?_
  intro T10 X10 e10
  refine own_iconst X10 hx hby od_prog_37_method_1_26 (pc' := 27) rfl (z := 0) rfl ?_
  refine own_dconst1 X10 hx hby od_prog_37_method_1_27 (pc' := 28) rfl (v := (4607182418800017408 : UInt64)) rfl ?_
  refine own_dsD X10 hx hby hZ e10 V_b5 ⟨by decide, by decide⟩ 0 rfl (Nat.le_of_ble_eq_true rfl) (ys := [.double (4607182418800017408 : UInt64), .double (0 : UInt64), .double (0 : UInt64)]) rfl od_prog_37_method_1_28 (pc' := 29) rfl ?_
  intro T11 h11 X11 e11 W11 Q11
  have K12 := K9.wr W11 (Or.inr le6)
  replace A8_a1 := A8_a1.wr W11
  replace F2_size_a1 := F2_size_a1.other W11 (Or.inl ne_a1_b5)
  replace F8_rightHandSide_a1 := F8_rightHandSide_a1.other W11 (Or.inl ne_a1_b5)
  replace F_basis := F_basis.other W11 (Or.inl ne_a1_b5)
  replace F_values := F_values.other W11 (Or.inl ne_a1_b5)
  replace F_slackOf := F_slackOf.other W11 (Or.inl ne_a1_b5)
  replace F_duals := F_duals.other W11 (Or.inl ne_a1_b5)
  replace V_ca := V_ca.other W11 ne_ca_b5
  replace V_b5 := Q11
  have N11 := own_fr1 (sl := ((0 : Int32)).toNatClampNeg) N8 n0_b5
  refine own_aloadN X11 hx hby od_prog_37_method_1_29 (pc' := 30) rfl rfl rfl ?_
  refine own_iconst X11 hx hby od_prog_37_method_1_30 (pc' := 31) rfl (z := 0) rfl ?_
  refine own_aloadN X11 hx hby od_prog_37_method_1_31 (pc' := 32) rfl rfl rfl ?_
  refine own_getF X11 hx hby hZ hown (host := "") (Or.inl (ow_13 hw)) Via.refl e11 F8_rightHandSide_a1 od_prog_37_method_1_32 (pc' := 35) rfl ?_
  intro T13 X13 e13
  refine own_iconst X13 hx hby od_prog_37_method_1_35 (pc' := 36) rfl (z := 1) rfl ?_
  refine own_aloadN X13 hx hby od_prog_37_method_1_36 (pc' := 37) rfl rfl rfl ?_
  refine own_alD X13 hx hby hZ e13 V_ca od_prog_37_method_1_37 (pc' := 38) rfl ?_
  refine own_cpD X13 hx hby hZ hml hown (ow_15 hw) (ow_18 hw) (ow_16 hw) (ow_17 hw) e13 V_ca V_b5 (by decide) (by decide) (by decide) (by decide) (by decide) (us := [.double dc, .double dl]) rfl (Nat.le_of_ble_eq_true rfl) (ws := [.double (4607182418800017408 : UInt64), .double dc, .double dl]) rfl (n0 := n0) N11 n0_b5 rfl od_prog_37_method_1_38 (pc' := 41) rfl (by decide) (W := 0) (Nat.le_refl _) (by decide) ?_
  intro T14 h14 L14 X14 e14 N14 K_14 Q14
  have K15 := K12.trans K_14 (allS (Or.inr le6) all0)
  replace A8_a1 := A8_a1.keep K_14
  replace F2_size_a1 := F2_size_a1.keep K_14 (own_niS ne_a1_b5 own_ni0)
  replace F8_rightHandSide_a1 := F8_rightHandSide_a1.keep K_14 (own_niS ne_a1_b5 own_ni0)
  replace F_basis := F_basis.keep K_14 (own_niS ne_a1_b5 own_ni0)
  replace F_values := F_values.keep K_14 (own_niS ne_a1_b5 own_ni0)
  replace F_slackOf := F_slackOf.keep K_14 (own_niS ne_a1_b5 own_ni0)
  replace F_duals := F_duals.keep K_14 (own_niS ne_a1_b5 own_ni0)
  replace V_ca := V_ca.keep K_14 (own_niS ne_ca_b5 own_ni0)
  refine own_aloadN X14 hx hby od_prog_37_method_1_41 (pc' := 42) rfl rfl rfl ?_
  refine own_aloadN X14 hx hby od_prog_37_method_1_42 (pc' := 43) rfl rfl rfl ?_
  refine own_getF X14 hx hby hZ hown (host := "") (Or.inl (ow_11 hw)) Via.refl e14 F2_size_a1 od_prog_37_method_1_43 (pc' := 46) rfl ?_
  intro T16 X16 e16
  refine own_newDD X16 hx hby hZ hown (ow_19 hw) (ow_20 hw) e16 od_prog_37_method_1_46 (pc' := 49) rfl (by decide) (cap := 3) (by decide) (by decide) (by decide) (by decide) (vs := [.null, .null, .null]) rfl ?_
  intro T17 h17 b17 g17 X17 e17 E17 V_b17
  have ne_a1_b17 : a1 ≠ b17 := own_nl A8_a1.lt g17
  have ne_ca_b17 : ca ≠ b17 := own_nl V_ca.lt g17
  have ne_b5_b17 : b5 ≠ b17 := own_nl Q14.lt g17
  have n0_b17 : n0 ≤ b17 := Nat.le_trans (Nat.le_trans Z0 K15.1) (Nat.le_of_eq g17.symm)
  have le18 : h0.size ≤ b17 := Nat.le_trans K15.1 (Nat.le_of_eq g17.symm)
  have K19 := K15.ext E17
  replace A8_a1 := A8_a1.ext E17
  replace F2_size_a1 := F2_size_a1.ext E17
  replace F8_rightHandSide_a1 := F8_rightHandSide_a1.ext E17
  replace F_basis := F_basis.ext E17
  replace F_values := F_values.ext E17
  replace F_slackOf := F_slackOf.ext E17
  replace F_duals := F_duals.ext E17
  replace V_ca := V_ca.ext E17
  replace Q14 := Q14.ext E17
  refine own_putF X17 hx hby hZ hown (host := "") (Or.inl (ow_21 hw)) Via.refl e17 F_basis A8_a1 (Or.inr ⟨(ow_22 hw), rfl, hnm⟩) (ow_2 hw) (ty := (.array (.array .double))) (by decide) rfl rfl od_prog_37_method_1_49 (pc' := 52) rfl ?_
  intro T20 h20 X20 e20 W20 F20_basis_a1 A20_a1
  replace F2_size_a1 := F2_size_a1.other W20 (Or.inr (slot_ne (Or.inr (ow_12 hw)) (Or.inr (ow_22 hw)) (by decide) (t := .int) (t' := (.array (.array .double))) (by decide) (by decide)))
  replace F8_rightHandSide_a1 := F8_rightHandSide_a1.other W20 (Or.inr (slot_ne (Or.inr (ow_14 hw)) (Or.inr (ow_22 hw)) (by decide) (t := (.array .double)) (t' := (.array (.array .double))) (by decide) (by decide)))
  replace F_values := F_values.other W20 (Or.inr (slot_ne (Or.inr (ow_24 hw)) (Or.inr (ow_22 hw)) (by decide) (t := (.array .double)) (t' := (.array (.array .double))) (by decide) (by decide)))
  replace F_slackOf := F_slackOf.other W20 (Or.inr (slot_ne (Or.inr (ow_27 hw)) (Or.inr (ow_22 hw)) (by decide) (t := (.array .int)) (t' := (.array (.array .double))) (by decide) (by decide)))
  replace F_duals := F_duals.other W20 (Or.inr (slot_ne (Or.inl (ow_54 hw)) (Or.inr (ow_22 hw)) (by decide) (t := (.array .double)) (t' := (.array (.array .double))) (by decide) (by decide)))
  have K21 := K19.wr W20 (Or.inl (List.mem_of_getElem? (i := 0) rfl))
  replace V_ca := V_ca.other W20 (Ne.symm ne_a1_ca)
  replace Q14 := Q14.other W20 (Ne.symm ne_a1_b5)
  replace V_b17 := V_b17.other W20 (Ne.symm ne_a1_b17)
  have N20 := own_fr1 (sl := Jvm.RoadKit.slotOf Z "com/example/bindery/bindery/selection/BindingMix" "basis" "[[D") N14 n0_a1
  refine own_aloadN X20 hx hby od_prog_37_method_1_52 (pc' := 53) rfl rfl rfl ?_
  refine own_aloadN X20 hx hby od_prog_37_method_1_53 (pc' := 54) rfl rfl rfl ?_
  refine own_getF X20 hx hby hZ hown (host := "") (Or.inl (ow_11 hw)) Via.refl e20 F2_size_a1 od_prog_37_method_1_54 (pc' := 57) rfl ?_
  intro T22 X22 e22
  refine own_newD X22 hx hby hZ (ow_4 hw) e22 od_prog_37_method_1_57 (pc' := 59) rfl (by decide) (cap := 3) (by decide) (by decide) (by decide) (by decide) (vs := [.double (0 : UInt64), .double (0 : UInt64), .double (0 : UInt64)]) rfl ?_
  intro T23 h23 b23 g23 X23 e23 E23 V_b23
  have ne_a1_b23 : a1 ≠ b23 := own_nl A20_a1.lt g23
  have ne_ca_b23 : ca ≠ b23 := own_nl V_ca.lt g23
  have ne_b5_b23 : b5 ≠ b23 := own_nl Q14.lt g23
  have ne_b17_b23 : b17 ≠ b23 := own_nl V_b17.lt g23
  have n0_b23 : n0 ≤ b23 := Nat.le_trans (Nat.le_trans Z0 K21.1) (Nat.le_of_eq g23.symm)
  have le24 : h0.size ≤ b23 := Nat.le_trans K21.1 (Nat.le_of_eq g23.symm)
  have K25 := K21.ext E23
  replace A20_a1 := A20_a1.ext E23
  replace F2_size_a1 := F2_size_a1.ext E23
  replace F8_rightHandSide_a1 := F8_rightHandSide_a1.ext E23
  replace F20_basis_a1 := F20_basis_a1.ext E23
  replace F_values := F_values.ext E23
  replace F_slackOf := F_slackOf.ext E23
  replace F_duals := F_duals.ext E23
  replace V_ca := V_ca.ext E23
  replace Q14 := Q14.ext E23
  replace V_b17 := V_b17.ext E23
  refine own_putF X23 hx hby hZ hown (host := "") (Or.inl (ow_23 hw)) Via.refl e23 F_values A20_a1 (Or.inr ⟨(ow_24 hw), rfl, hnm⟩) (ow_2 hw) (ty := (.array .double)) (by decide) rfl rfl od_prog_37_method_1_59 (pc' := 62) rfl ?_
  intro T26 h26 X26 e26 W26 F26_values_a1 A26_a1
  replace F2_size_a1 := F2_size_a1.other W26 (Or.inr (slot_ne (Or.inr (ow_12 hw)) (Or.inr (ow_24 hw)) (by decide) (t := .int) (t' := (.array .double)) (by decide) (by decide)))
  replace F8_rightHandSide_a1 := F8_rightHandSide_a1.other W26 (Or.inr (slot_ne (Or.inr (ow_14 hw)) (Or.inr (ow_24 hw)) (by decide) (t := (.array .double)) (t' := (.array .double)) (by decide) (by decide)))
  replace F20_basis_a1 := F20_basis_a1.other W26 (Or.inr (slot_ne (Or.inr (ow_22 hw)) (Or.inr (ow_24 hw)) (by decide) (t := (.array (.array .double))) (t' := (.array .double)) (by decide) (by decide)))
  replace F_slackOf := F_slackOf.other W26 (Or.inr (slot_ne (Or.inr (ow_27 hw)) (Or.inr (ow_24 hw)) (by decide) (t := (.array .int)) (t' := (.array .double)) (by decide) (by decide)))
  replace F_duals := F_duals.other W26 (Or.inr (slot_ne (Or.inl (ow_54 hw)) (Or.inr (ow_24 hw)) (by decide) (t := (.array .double)) (t' := (.array .double)) (by decide) (by decide)))
  have K27 := K25.wr W26 (Or.inl (List.mem_of_getElem? (i := 0) rfl))
  replace V_ca := V_ca.other W26 (Ne.symm ne_a1_ca)
  replace Q14 := Q14.other W26 (Ne.symm ne_a1_b5)
  replace V_b17 := V_b17.other W26 (Ne.symm ne_a1_b17)
  replace V_b23 := V_b23.other W26 (Ne.symm ne_a1_b23)
  have N26 := own_fr1 (sl := Jvm.RoadKit.slotOf Z "com/example/bindery/bindery/selection/BindingMix" "values" "[D") N20 n0_a1
  refine own_aloadN X26 hx hby od_prog_37_method_1_62 (pc' := 63) rfl rfl rfl ?_
  refine own_aloadN X26 hx hby od_prog_37_method_1_63 (pc' := 64) rfl rfl rfl ?_
  refine own_getF X26 hx hby hZ hown (host := "") (Or.inl (ow_11 hw)) Via.refl e26 F2_size_a1 od_prog_37_method_1_64 (pc' := 67) rfl ?_
  intro T28 X28 e28
  refine own_newIA X28 hx hby hZ (ow_25 hw) e28 od_prog_37_method_1_67 (pc' := 69) rfl (by decide) (cap := 3) (by decide) (by decide) (by decide) (by decide) (vs := [.int (0 : Int32), .int (0 : Int32), .int (0 : Int32)]) rfl ?_
  intro T29 h29 b29 g29 X29 e29 E29 V_b29
  have ne_a1_b29 : a1 ≠ b29 := own_nl A26_a1.lt g29
  have ne_ca_b29 : ca ≠ b29 := own_nl V_ca.lt g29
  have ne_b5_b29 : b5 ≠ b29 := own_nl Q14.lt g29
  have ne_b17_b29 : b17 ≠ b29 := own_nl V_b17.lt g29
  have ne_b23_b29 : b23 ≠ b29 := own_nl V_b23.lt g29
  have n0_b29 : n0 ≤ b29 := Nat.le_trans (Nat.le_trans Z0 K27.1) (Nat.le_of_eq g29.symm)
  have le30 : h0.size ≤ b29 := Nat.le_trans K27.1 (Nat.le_of_eq g29.symm)
  have K31 := K27.ext E29
  replace A26_a1 := A26_a1.ext E29
  replace F2_size_a1 := F2_size_a1.ext E29
  replace F8_rightHandSide_a1 := F8_rightHandSide_a1.ext E29
  replace F20_basis_a1 := F20_basis_a1.ext E29
  replace F26_values_a1 := F26_values_a1.ext E29
  replace F_slackOf := F_slackOf.ext E29
  replace F_duals := F_duals.ext E29
  replace V_ca := V_ca.ext E29
  replace Q14 := Q14.ext E29
  replace V_b17 := V_b17.ext E29
  replace V_b23 := V_b23.ext E29
  refine own_putF X29 hx hby hZ hown (host := "") (Or.inl (ow_26 hw)) Via.refl e29 F_slackOf A26_a1 (Or.inr ⟨(ow_27 hw), rfl, hnm⟩) (ow_2 hw) (ty := (.array .int)) (by decide) rfl rfl od_prog_37_method_1_69 (pc' := 72) rfl ?_
  intro T32 h32 X32 e32 W32 F32_slackOf_a1 A32_a1
  replace F2_size_a1 := F2_size_a1.other W32 (Or.inr (slot_ne (Or.inr (ow_12 hw)) (Or.inr (ow_27 hw)) (by decide) (t := .int) (t' := (.array .int)) (by decide) (by decide)))
  replace F8_rightHandSide_a1 := F8_rightHandSide_a1.other W32 (Or.inr (slot_ne (Or.inr (ow_14 hw)) (Or.inr (ow_27 hw)) (by decide) (t := (.array .double)) (t' := (.array .int)) (by decide) (by decide)))
  replace F20_basis_a1 := F20_basis_a1.other W32 (Or.inr (slot_ne (Or.inr (ow_22 hw)) (Or.inr (ow_27 hw)) (by decide) (t := (.array (.array .double))) (t' := (.array .int)) (by decide) (by decide)))
  replace F26_values_a1 := F26_values_a1.other W32 (Or.inr (slot_ne (Or.inr (ow_24 hw)) (Or.inr (ow_27 hw)) (by decide) (t := (.array .double)) (t' := (.array .int)) (by decide) (by decide)))
  replace F_duals := F_duals.other W32 (Or.inr (slot_ne (Or.inl (ow_54 hw)) (Or.inr (ow_27 hw)) (by decide) (t := (.array .double)) (t' := (.array .int)) (by decide) (by decide)))
  have K33 := K31.wr W32 (Or.inl (List.mem_of_getElem? (i := 0) rfl))
  replace V_ca := V_ca.other W32 (Ne.symm ne_a1_ca)
  replace Q14 := Q14.other W32 (Ne.symm ne_a1_b5)
  replace V_b17 := V_b17.other W32 (Ne.symm ne_a1_b17)
  replace V_b23 := V_b23.other W32 (Ne.symm ne_a1_b23)
  replace V_b29 := V_b29.other W32 (Ne.symm ne_a1_b29)
  have N32 := own_fr1 (sl := Jvm.RoadKit.slotOf Z "com/example/bindery/bindery/selection/BindingMix" "slackOf" "[I") N26 n0_a1
  refine own_aloadN X32 hx hby od_prog_37_method_1_72 (pc' := 73) rfl rfl rfl ?_
  refine own_getF X32 hx hby hZ hown (host := "") (Or.inl (ow_21 hw)) Via.refl e32 F20_basis_a1 od_prog_37_method_1_73 (pc' := 76) rfl ?_
  intro T34 X34 e34
  refine own_iconst X34 hx hby od_prog_37_method_1_76 (pc' := 77) rfl (z := 0) rfl ?_
  refine own_aloadN X34 hx hby od_prog_37_method_1_77 (pc' := 78) rfl rfl rfl ?_
  refine own_getF X34 hx hby hZ hown (host := "") (Or.inl (ow_13 hw)) Via.refl e34 F8_rightHandSide_a1 od_prog_37_method_1_78 (pc' := 81) rfl ?_
  intro T35 X35 e35
  refine own_cloneD X35 hx hby hZ hml hown (ow_28 hw) (ow_29 hw) (ow_33 hw) (ow_31 hw) (ow_32 hw) (ow_34 hw) e35 Q14 rfl od_prog_37_method_1_81 (pc' := 84) rfl (by decide) (W := 2) (cap := 3) (Nat.le_refl _) (by decide) (by decide) (by decide) (by decide) ?_
  intro T36 h36 b36 g36 X36 e36 E36 V_b36
  have ne_a1_b36 : a1 ≠ b36 := own_nl A32_a1.lt g36
  have ne_ca_b36 : ca ≠ b36 := own_nl V_ca.lt g36
  have ne_b5_b36 : b5 ≠ b36 := own_nl Q14.lt g36
  have ne_b17_b36 : b17 ≠ b36 := own_nl V_b17.lt g36
  have ne_b23_b36 : b23 ≠ b36 := own_nl V_b23.lt g36
  have ne_b29_b36 : b29 ≠ b36 := own_nl V_b29.lt g36
  have n0_b36 : n0 ≤ b36 := Nat.le_trans (Nat.le_trans Z0 K33.1) (Nat.le_of_eq g36.symm)
  have le37 : h0.size ≤ b36 := Nat.le_trans K33.1 (Nat.le_of_eq g36.symm)
  have K38 := K33.ext E36
  replace A32_a1 := A32_a1.ext E36
  replace F2_size_a1 := F2_size_a1.ext E36
  replace F8_rightHandSide_a1 := F8_rightHandSide_a1.ext E36
  replace F20_basis_a1 := F20_basis_a1.ext E36
  replace F26_values_a1 := F26_values_a1.ext E36
  replace F32_slackOf_a1 := F32_slackOf_a1.ext E36
  replace F_duals := F_duals.ext E36
  replace V_ca := V_ca.ext E36
  replace Q14 := Q14.ext E36
  replace V_b17 := V_b17.ext E36
  replace V_b23 := V_b23.ext E36
  replace V_b29 := V_b29.ext E36
  refine own_cast X36 hx hby hZ hown (ow_19 hw) e36 (Ins.self V_b36.exa) od_prog_37_method_1_84 (pc' := 87) rfl ?_
  intro T39 X39 e39
  refine own_asD X39 hx hby hZ e39 V_b17 (V_b36.exa) ⟨by decide, by decide⟩ 0 rfl (Nat.le_of_ble_eq_true rfl) (ys := [.ref b36, .null, .null]) rfl od_prog_37_method_1_87 (pc' := 88) rfl ?_
  intro T40 h40 X40 e40 W40 Q40
  have K41 := K38.wr W40 (Or.inr le18)
  replace A32_a1 := A32_a1.wr W40
  replace F2_size_a1 := F2_size_a1.other W40 (Or.inl ne_a1_b17)
  replace F8_rightHandSide_a1 := F8_rightHandSide_a1.other W40 (Or.inl ne_a1_b17)
  replace F20_basis_a1 := F20_basis_a1.other W40 (Or.inl ne_a1_b17)
  replace F26_values_a1 := F26_values_a1.other W40 (Or.inl ne_a1_b17)
  replace F32_slackOf_a1 := F32_slackOf_a1.other W40 (Or.inl ne_a1_b17)
  replace F_duals := F_duals.other W40 (Or.inl ne_a1_b17)
  replace V_ca := V_ca.other W40 ne_ca_b17
  replace Q14 := Q14.other W40 ne_b5_b17
  replace V_b23 := V_b23.other W40 (Ne.symm ne_b17_b23)
  replace V_b29 := V_b29.other W40 (Ne.symm ne_b17_b29)
  replace V_b36 := V_b36.other W40 (Ne.symm ne_b17_b36)
  replace V_b17 := Q40
  have N40 := own_fr1 (sl := ((0 : Int32)).toNatClampNeg) N32 n0_b17
  refine own_aloadN X40 hx hby od_prog_37_method_1_88 (pc' := 89) rfl rfl rfl ?_
  refine own_getF X40 hx hby hZ hown (host := "") (Or.inl (ow_23 hw)) Via.refl e40 F26_values_a1 od_prog_37_method_1_89 (pc' := 92) rfl ?_
  intro T42 X42 e42
  refine own_iconst X42 hx hby od_prog_37_method_1_92 (pc' := 93) rfl (z := 0) rfl ?_
  refine own_ldcD X42 hx hby hZ hown (ow_36 hw) od_prog_37_method_1_93 (pc' := 96) rfl ?_
  refine own_dsD X42 hx hby hZ e42 V_b23 ⟨by decide, by decide⟩ 0 rfl (Nat.le_of_ble_eq_true rfl) (ys := [.double (13830554455654793216 : UInt64), .double (0 : UInt64), .double (0 : UInt64)]) rfl od_prog_37_method_1_96 (pc' := 97) rfl ?_
  intro T43 h43 X43 e43 W43 Q43
  have K44 := K41.wr W43 (Or.inr le24)
  replace A32_a1 := A32_a1.wr W43
  replace F2_size_a1 := F2_size_a1.other W43 (Or.inl ne_a1_b23)
  replace F8_rightHandSide_a1 := F8_rightHandSide_a1.other W43 (Or.inl ne_a1_b23)
  replace F20_basis_a1 := F20_basis_a1.other W43 (Or.inl ne_a1_b23)
  replace F26_values_a1 := F26_values_a1.other W43 (Or.inl ne_a1_b23)
  replace F32_slackOf_a1 := F32_slackOf_a1.other W43 (Or.inl ne_a1_b23)
  replace F_duals := F_duals.other W43 (Or.inl ne_a1_b23)
  replace V_ca := V_ca.other W43 ne_ca_b23
  replace Q14 := Q14.other W43 ne_b5_b23
  replace V_b17 := V_b17.other W43 ne_b17_b23
  replace V_b29 := V_b29.other W43 (Ne.symm ne_b23_b29)
  replace V_b36 := V_b36.other W43 (Ne.symm ne_b23_b36)
  replace V_b23 := Q43
  have N43 := own_fr1 (sl := ((0 : Int32)).toNatClampNeg) N40 n0_b23
  refine own_aloadN X43 hx hby od_prog_37_method_1_97 (pc' := 98) rfl rfl rfl ?_
  refine own_getF X43 hx hby hZ hown (host := "") (Or.inl (ow_26 hw)) Via.refl e43 F32_slackOf_a1 od_prog_37_method_1_98 (pc' := 101) rfl ?_
  intro T45 X45 e45
  refine own_iconst X45 hx hby od_prog_37_method_1_101 (pc' := 102) rfl (z := 0) rfl ?_
  refine own_iconst X45 hx hby od_prog_37_method_1_102 (pc' := 103) rfl (z := (-1)) rfl ?_
  refine own_isI X45 hx hby hZ e45 V_b29 ⟨by decide, by decide⟩ 0 rfl (Nat.le_of_ble_eq_true rfl) (ys := [.int (-1 : Int32), .int (0 : Int32), .int (0 : Int32)]) rfl od_prog_37_method_1_103 (pc' := 104) rfl ?_
  intro T46 h46 X46 e46 W46 Q46
  have K47 := K44.wr W46 (Or.inr le30)
  replace A32_a1 := A32_a1.wr W46
  replace F2_size_a1 := F2_size_a1.other W46 (Or.inl ne_a1_b29)
  replace F8_rightHandSide_a1 := F8_rightHandSide_a1.other W46 (Or.inl ne_a1_b29)
  replace F20_basis_a1 := F20_basis_a1.other W46 (Or.inl ne_a1_b29)
  replace F26_values_a1 := F26_values_a1.other W46 (Or.inl ne_a1_b29)
  replace F32_slackOf_a1 := F32_slackOf_a1.other W46 (Or.inl ne_a1_b29)
  replace F_duals := F_duals.other W46 (Or.inl ne_a1_b29)
  replace V_ca := V_ca.other W46 ne_ca_b29
  replace Q14 := Q14.other W46 ne_b5_b29
  replace V_b17 := V_b17.other W46 ne_b17_b29
  replace V_b23 := V_b23.other W46 ne_b23_b29
  replace V_b36 := V_b36.other W46 (Ne.symm ne_b29_b36)
  replace V_b29 := Q46
  have N46 := own_fr1 (sl := ((0 : Int32)).toNatClampNeg) N43 n0_b29
  refine own_iconst X46 hx hby od_prog_37_method_1_104 (pc' := 105) rfl (z := 0) rfl ?_
  refine own_istoreN X46 hx hby od_prog_37_method_1_105 (pc' := 106) rfl (Ls' := #[.val (.ref a1), .val (.ref ca), .val (.int (0 : Int32))]) rfl ?_
  refine own_iloadN X46 hx hby od_prog_37_method_1_106 (pc' := 107) rfl rfl ?_
  refine own_aloadN X46 hx hby od_prog_37_method_1_107 (pc' := 108) rfl rfl rfl ?_
  refine own_alD X46 hx hby hZ e46 V_ca od_prog_37_method_1_108 (pc' := 109) rfl ?_
  refine own_icmpN X46 hx hby od_prog_37_method_1_109 (pc' := 112) rfl (tlt (by decide)).2.1 ?_
  refine own_aloadN X46 hx hby od_prog_37_method_1_112 (pc' := 113) rfl rfl rfl ?_
  refine own_getF X46 hx hby hZ hown (host := "") (Or.inl (ow_21 hw)) Via.refl e46 F20_basis_a1 od_prog_37_method_1_113 (pc' := 116) rfl ?_
  intro T48 X48 e48
  refine own_iloadN X48 hx hby od_prog_37_method_1_116 (pc' := 117) rfl rfl ?_
  refine own_iconst X48 hx hby od_prog_37_method_1_117 (pc' := 118) rfl (z := 1) rfl ?_
  refine own_iaddE X48 hx hby od_prog_37_method_1_118 (pc' := 119) rfl (v := (1 : Int32)) rfl ?_
  refine own_aloadN X48 hx hby od_prog_37_method_1_119 (pc' := 120) rfl rfl rfl ?_
  refine own_iloadN X48 hx hby od_prog_37_method_1_120 (pc' := 121) rfl rfl ?_
  refine own_privM X48 hx hby hml hZ hown (ow_60 hw) (ow_61 hw) (own_selP (ow_61 hw) (ow_62 hw) (ow_58 hw) rfl (by decide)) (ow_62 hw) (ow_3 hw) (ow_63 hw) (by decide) (cc := 1) (ss := 3) (rm_slack_3_0 l Z a0 hw a1 h46 n0 (Nat.le_trans Z0 K47.1) F2_size_a1) 2 rfl rfl (by decide) (by decide) rfl A32_a1 (argsL := [(.int (0 : Int32))]) (rest := [(.int (1 : Int32)), (.ref b17)]) opd_3 rfl rfl (Nat.le_refl _) od_prog_37_method_1_121 (pc' := 124) rfl rfl e48 (by decide) (by decide) ?_
  rintro v49 T49 h49 L49 X49 e49 ⟨sl0, rfl, lb49, Eq49, Nq49, V_sl0⟩
  have ne_a1_sl0 : a1 ≠ sl0 := Nat.ne_of_lt (Nat.lt_of_lt_of_le A32_a1.lt lb49)
  have ne_ca_sl0 : ca ≠ sl0 := Nat.ne_of_lt (Nat.lt_of_lt_of_le V_ca.lt lb49)
  have ne_b5_sl0 : b5 ≠ sl0 := Nat.ne_of_lt (Nat.lt_of_lt_of_le Q14.lt lb49)
  have ne_b17_sl0 : b17 ≠ sl0 := Nat.ne_of_lt (Nat.lt_of_lt_of_le V_b17.lt lb49)
  have ne_b23_sl0 : b23 ≠ sl0 := Nat.ne_of_lt (Nat.lt_of_lt_of_le V_b23.lt lb49)
  have ne_b29_sl0 : b29 ≠ sl0 := Nat.ne_of_lt (Nat.lt_of_lt_of_le V_b29.lt lb49)
  have ne_b36_sl0 : b36 ≠ sl0 := Nat.ne_of_lt (Nat.lt_of_lt_of_le V_b36.lt lb49)
  have n0_sl0 : n0 ≤ sl0 := Nat.le_trans (Nat.le_trans Z0 K47.1) lb49
  have le50 : h0.size ≤ sl0 := Nat.le_trans K47.1 lb49
  have N49 := N46.app Nq49
  have K51 := K47.ext Eq49
  replace A32_a1 := A32_a1.ext Eq49
  replace F2_size_a1 := F2_size_a1.ext Eq49
  replace F8_rightHandSide_a1 := F8_rightHandSide_a1.ext Eq49
  replace F20_basis_a1 := F20_basis_a1.ext Eq49
  replace F26_values_a1 := F26_values_a1.ext Eq49
  replace F32_slackOf_a1 := F32_slackOf_a1.ext Eq49
  replace F_duals := F_duals.ext Eq49
  replace V_ca := V_ca.ext Eq49
  replace Q14 := Q14.ext Eq49
  replace V_b17 := V_b17.ext Eq49
  replace V_b23 := V_b23.ext Eq49
  replace V_b29 := V_b29.ext Eq49
  replace V_b36 := V_b36.ext Eq49
  refine own_asD X49 hx hby hZ e49 V_b17 (V_sl0.exa) ⟨by decide, by decide⟩ 1 rfl (Nat.le_of_ble_eq_true rfl) (ys := [.ref b36, .ref sl0, .null]) rfl od_prog_37_method_1_124 (pc' := 125) rfl ?_
  intro T52 h52 X52 e52 W52 Q52
  have K53 := K51.wr W52 (Or.inr le18)
  replace A32_a1 := A32_a1.wr W52
  replace F2_size_a1 := F2_size_a1.other W52 (Or.inl ne_a1_b17)
  replace F8_rightHandSide_a1 := F8_rightHandSide_a1.other W52 (Or.inl ne_a1_b17)
  replace F20_basis_a1 := F20_basis_a1.other W52 (Or.inl ne_a1_b17)
  replace F26_values_a1 := F26_values_a1.other W52 (Or.inl ne_a1_b17)
  replace F32_slackOf_a1 := F32_slackOf_a1.other W52 (Or.inl ne_a1_b17)
  replace F_duals := F_duals.other W52 (Or.inl ne_a1_b17)
  replace V_ca := V_ca.other W52 ne_ca_b17
  replace Q14 := Q14.other W52 ne_b5_b17
  replace V_b23 := V_b23.other W52 (Ne.symm ne_b17_b23)
  replace V_b29 := V_b29.other W52 (Ne.symm ne_b17_b29)
  replace V_b36 := V_b36.other W52 (Ne.symm ne_b17_b36)
  replace V_sl0 := V_sl0.other W52 (Ne.symm ne_b17_sl0)
  replace V_b17 := Q52
  have N52 := own_fr1 (sl := ((1 : Int32)).toNatClampNeg) N49 n0_b17
  refine own_aloadN X52 hx hby od_prog_37_method_1_125 (pc' := 126) rfl rfl rfl ?_
  refine own_getF X52 hx hby hZ hown (host := "") (Or.inl (ow_26 hw)) Via.refl e52 F32_slackOf_a1 od_prog_37_method_1_126 (pc' := 129) rfl ?_
  intro T54 X54 e54
  refine own_iloadN X54 hx hby od_prog_37_method_1_129 (pc' := 130) rfl rfl ?_
  refine own_iconst X54 hx hby od_prog_37_method_1_130 (pc' := 131) rfl (z := 1) rfl ?_
  refine own_iaddE X54 hx hby od_prog_37_method_1_131 (pc' := 132) rfl (v := (1 : Int32)) rfl ?_
  refine own_iloadN X54 hx hby od_prog_37_method_1_132 (pc' := 133) rfl rfl ?_
  refine own_isI X54 hx hby hZ e54 V_b29 ⟨by decide, by decide⟩ 1 rfl (Nat.le_of_ble_eq_true rfl) (ys := [.int (-1 : Int32), .int (0 : Int32), .int (0 : Int32)]) rfl od_prog_37_method_1_133 (pc' := 134) rfl ?_
  intro T55 h55 X55 e55 W55 Q55
  have K56 := K53.wr W55 (Or.inr le30)
  replace A32_a1 := A32_a1.wr W55
  replace F2_size_a1 := F2_size_a1.other W55 (Or.inl ne_a1_b29)
  replace F8_rightHandSide_a1 := F8_rightHandSide_a1.other W55 (Or.inl ne_a1_b29)
  replace F20_basis_a1 := F20_basis_a1.other W55 (Or.inl ne_a1_b29)
  replace F26_values_a1 := F26_values_a1.other W55 (Or.inl ne_a1_b29)
  replace F32_slackOf_a1 := F32_slackOf_a1.other W55 (Or.inl ne_a1_b29)
  replace F_duals := F_duals.other W55 (Or.inl ne_a1_b29)
  replace V_ca := V_ca.other W55 ne_ca_b29
  replace Q14 := Q14.other W55 ne_b5_b29
  replace V_b17 := V_b17.other W55 ne_b17_b29
  replace V_b23 := V_b23.other W55 ne_b23_b29
  replace V_b36 := V_b36.other W55 (Ne.symm ne_b29_b36)
  replace V_sl0 := V_sl0.other W55 (Ne.symm ne_b29_sl0)
  replace V_b29 := Q55
  have N55 := own_fr1 (sl := ((1 : Int32)).toNatClampNeg) N52 n0_b29
  refine own_iinc X55 hx hby od_prog_37_method_1_134 (pc' := 137) rfl rfl (z := 1) rfl (Ls' := #[.val (.ref a1), .val (.ref ca), .val (.int (1 : Int32))]) rfl ?_
  refine own_goto X55 hx hby od_prog_37_method_1_137 (by decide) (pc' := 106) (by decide) ?_
  refine own_iloadN X55 hx hby od_prog_37_method_1_106 (pc' := 107) rfl rfl ?_
  refine own_aloadN X55 hx hby od_prog_37_method_1_107 (pc' := 108) rfl rfl rfl ?_
  refine own_alD X55 hx hby hZ e55 V_ca od_prog_37_method_1_108 (pc' := 109) rfl ?_
  refine own_icmpN X55 hx hby od_prog_37_method_1_109 (pc' := 112) rfl (tlt (by decide)).2.1 ?_
  refine own_aloadN X55 hx hby od_prog_37_method_1_112 (pc' := 113) rfl rfl rfl ?_
  refine own_getF X55 hx hby hZ hown (host := "") (Or.inl (ow_21 hw)) Via.refl e55 F20_basis_a1 od_prog_37_method_1_113 (pc' := 116) rfl ?_
  intro T57 X57 e57
  refine own_iloadN X57 hx hby od_prog_37_method_1_116 (pc' := 117) rfl rfl ?_
  refine own_iconst X57 hx hby od_prog_37_method_1_117 (pc' := 118) rfl (z := 1) rfl ?_
  refine own_iaddE X57 hx hby od_prog_37_method_1_118 (pc' := 119) rfl (v := (2 : Int32)) rfl ?_
  refine own_aloadN X57 hx hby od_prog_37_method_1_119 (pc' := 120) rfl rfl rfl ?_
  refine own_iloadN X57 hx hby od_prog_37_method_1_120 (pc' := 121) rfl rfl ?_
  refine own_privM X57 hx hby hml hZ hown (ow_60 hw) (ow_61 hw) (own_selP (ow_61 hw) (ow_62 hw) (ow_58 hw) rfl (by decide)) (ow_62 hw) (ow_3 hw) (ow_63 hw) (by decide) (cc := 1) (ss := 3) (rm_slack_3_1 l Z a0 hw a1 h55 n0 (Nat.le_trans Z0 K56.1) F2_size_a1) 2 rfl rfl (by decide) (by decide) rfl A32_a1 (argsL := [(.int (1 : Int32))]) (rest := [(.int (2 : Int32)), (.ref b17)]) opd_3 rfl rfl (Nat.le_refl _) od_prog_37_method_1_121 (pc' := 124) rfl rfl e57 (by decide) (by decide) ?_
  rintro v58 T58 h58 L58 X58 e58 ⟨sl1, rfl, lb58, Eq58, Nq58, V_sl1⟩
  have ne_a1_sl1 : a1 ≠ sl1 := Nat.ne_of_lt (Nat.lt_of_lt_of_le A32_a1.lt lb58)
  have ne_ca_sl1 : ca ≠ sl1 := Nat.ne_of_lt (Nat.lt_of_lt_of_le V_ca.lt lb58)
  have ne_b5_sl1 : b5 ≠ sl1 := Nat.ne_of_lt (Nat.lt_of_lt_of_le Q14.lt lb58)
  have ne_b17_sl1 : b17 ≠ sl1 := Nat.ne_of_lt (Nat.lt_of_lt_of_le V_b17.lt lb58)
  have ne_b23_sl1 : b23 ≠ sl1 := Nat.ne_of_lt (Nat.lt_of_lt_of_le V_b23.lt lb58)
  have ne_b29_sl1 : b29 ≠ sl1 := Nat.ne_of_lt (Nat.lt_of_lt_of_le V_b29.lt lb58)
  have ne_b36_sl1 : b36 ≠ sl1 := Nat.ne_of_lt (Nat.lt_of_lt_of_le V_b36.lt lb58)
  have ne_sl0_sl1 : sl0 ≠ sl1 := Nat.ne_of_lt (Nat.lt_of_lt_of_le V_sl0.lt lb58)
  have n0_sl1 : n0 ≤ sl1 := Nat.le_trans (Nat.le_trans Z0 K56.1) lb58
  have le59 : h0.size ≤ sl1 := Nat.le_trans K56.1 lb58
  have N58 := N55.app Nq58
  have K60 := K56.ext Eq58
  replace A32_a1 := A32_a1.ext Eq58
  replace F2_size_a1 := F2_size_a1.ext Eq58
  replace F8_rightHandSide_a1 := F8_rightHandSide_a1.ext Eq58
  replace F20_basis_a1 := F20_basis_a1.ext Eq58
  replace F26_values_a1 := F26_values_a1.ext Eq58
  replace F32_slackOf_a1 := F32_slackOf_a1.ext Eq58
  replace F_duals := F_duals.ext Eq58
  replace V_ca := V_ca.ext Eq58
  replace Q14 := Q14.ext Eq58
  replace V_b17 := V_b17.ext Eq58
  replace V_b23 := V_b23.ext Eq58
  replace V_b29 := V_b29.ext Eq58
  replace V_b36 := V_b36.ext Eq58
  replace V_sl0 := V_sl0.ext Eq58
  refine own_asD X58 hx hby hZ e58 V_b17 (V_sl1.exa) ⟨by decide, by decide⟩ 2 rfl (Nat.le_of_ble_eq_true rfl) (ys := [.ref b36, .ref sl0, .ref sl1]) rfl od_prog_37_method_1_124 (pc' := 125) rfl ?_
  intro T61 h61 X61 e61 W61 Q61
  have K62 := K60.wr W61 (Or.inr le18)
  replace A32_a1 := A32_a1.wr W61
  replace F2_size_a1 := F2_size_a1.other W61 (Or.inl ne_a1_b17)
  replace F8_rightHandSide_a1 := F8_rightHandSide_a1.other W61 (Or.inl ne_a1_b17)
  replace F20_basis_a1 := F20_basis_a1.other W61 (Or.inl ne_a1_b17)
  replace F26_values_a1 := F26_values_a1.other W61 (Or.inl ne_a1_b17)
  replace F32_slackOf_a1 := F32_slackOf_a1.other W61 (Or.inl ne_a1_b17)
  replace F_duals := F_duals.other W61 (Or.inl ne_a1_b17)
  replace V_ca := V_ca.other W61 ne_ca_b17
  replace Q14 := Q14.other W61 ne_b5_b17
  replace V_b23 := V_b23.other W61 (Ne.symm ne_b17_b23)
  replace V_b29 := V_b29.other W61 (Ne.symm ne_b17_b29)
  replace V_b36 := V_b36.other W61 (Ne.symm ne_b17_b36)
  replace V_sl0 := V_sl0.other W61 (Ne.symm ne_b17_sl0)
  replace V_sl1 := V_sl1.other W61 (Ne.symm ne_b17_sl1)
  replace V_b17 := Q61
  have N61 := own_fr1 (sl := ((2 : Int32)).toNatClampNeg) N58 n0_b17
  refine own_aloadN X61 hx hby od_prog_37_method_1_125 (pc' := 126) rfl rfl rfl ?_
  refine own_getF X61 hx hby hZ hown (host := "") (Or.inl (ow_26 hw)) Via.refl e61 F32_slackOf_a1 od_prog_37_method_1_126 (pc' := 129) rfl ?_
  intro T63 X63 e63
  refine own_iloadN X63 hx hby od_prog_37_method_1_129 (pc' := 130) rfl rfl ?_
  refine own_iconst X63 hx hby od_prog_37_method_1_130 (pc' := 131) rfl (z := 1) rfl ?_
  refine own_iaddE X63 hx hby od_prog_37_method_1_131 (pc' := 132) rfl (v := (2 : Int32)) rfl ?_
  refine own_iloadN X63 hx hby od_prog_37_method_1_132 (pc' := 133) rfl rfl ?_
  refine own_isI X63 hx hby hZ e63 V_b29 ⟨by decide, by decide⟩ 2 rfl (Nat.le_of_ble_eq_true rfl) (ys := [.int (-1 : Int32), .int (0 : Int32), .int (1 : Int32)]) rfl od_prog_37_method_1_133 (pc' := 134) rfl ?_
  intro T64 h64 X64 e64 W64 Q64
  have K65 := K62.wr W64 (Or.inr le30)
  replace A32_a1 := A32_a1.wr W64
  replace F2_size_a1 := F2_size_a1.other W64 (Or.inl ne_a1_b29)
  replace F8_rightHandSide_a1 := F8_rightHandSide_a1.other W64 (Or.inl ne_a1_b29)
  replace F20_basis_a1 := F20_basis_a1.other W64 (Or.inl ne_a1_b29)
  replace F26_values_a1 := F26_values_a1.other W64 (Or.inl ne_a1_b29)
  replace F32_slackOf_a1 := F32_slackOf_a1.other W64 (Or.inl ne_a1_b29)
  replace F_duals := F_duals.other W64 (Or.inl ne_a1_b29)
  replace V_ca := V_ca.other W64 ne_ca_b29
  replace Q14 := Q14.other W64 ne_b5_b29
  replace V_b17 := V_b17.other W64 ne_b17_b29
  replace V_b23 := V_b23.other W64 ne_b23_b29
  replace V_b36 := V_b36.other W64 (Ne.symm ne_b29_b36)
  replace V_sl0 := V_sl0.other W64 (Ne.symm ne_b29_sl0)
  replace V_sl1 := V_sl1.other W64 (Ne.symm ne_b29_sl1)
  replace V_b29 := Q64
  have N64 := own_fr1 (sl := ((2 : Int32)).toNatClampNeg) N61 n0_b29
  refine own_iinc X64 hx hby od_prog_37_method_1_134 (pc' := 137) rfl rfl (z := 1) rfl (Ls' := #[.val (.ref a1), .val (.ref ca), .val (.int (2 : Int32))]) rfl ?_
  refine own_goto X64 hx hby od_prog_37_method_1_137 (by decide) (pc' := 106) (by decide) ?_
  refine own_iloadN X64 hx hby od_prog_37_method_1_106 (pc' := 107) rfl rfl ?_
  refine own_aloadN X64 hx hby od_prog_37_method_1_107 (pc' := 108) rfl rfl rfl ?_
  refine own_alD X64 hx hby hZ e64 V_ca od_prog_37_method_1_108 (pc' := 109) rfl ?_
  refine own_icmpY X64 hx hby od_prog_37_method_1_109 (by decide) (pc' := 140) (by decide) (flt (by decide)).2.1 ?_
  refine own_aloadN X64 hx hby od_prog_37_method_1_140 (pc' := 141) rfl rfl rfl ?_
  refine own_aloadN X64 hx hby od_prog_37_method_1_141 (pc' := 142) rfl rfl rfl ?_
  refine own_privM X64 hx hby hml hZ hown (ow_37 hw) (ow_38 hw) (own_selP (ow_38 hw) (ow_39 hw) (ow_58 hw) rfl (by decide)) (ow_39 hw) (ow_3 hw) (ow_40 hw) (by decide) (cc := 6) (ss := 18) (rm_duals3 l Z a0 hw a1 b17 b36 sl0 sl1 b23 dc dl h64 n0 (Nat.le_trans Z0 K65.1) Zc Zl F20_basis_a1 F26_values_a1 V_b17 V_b36 V_sl0 V_sl1 V_b23) 1 rfl rfl (by decide) (by decide) rfl A32_a1 (argsL := []) (rest := [(.ref a1)]) opd_2 rfl rfl (Nat.le_refl _) od_prog_37_method_1_142 (pc' := 145) rfl rfl e64 (by decide) (by decide) ?_
  rintro v66 T66 h66 L66 X66 e66 ⟨od, rfl, lb66, Eq66, Nq66, V_od⟩
  have ne_a1_od : a1 ≠ od := Nat.ne_of_lt (Nat.lt_of_lt_of_le A32_a1.lt lb66)
  have ne_ca_od : ca ≠ od := Nat.ne_of_lt (Nat.lt_of_lt_of_le V_ca.lt lb66)
  have ne_b5_od : b5 ≠ od := Nat.ne_of_lt (Nat.lt_of_lt_of_le Q14.lt lb66)
  have ne_b17_od : b17 ≠ od := Nat.ne_of_lt (Nat.lt_of_lt_of_le V_b17.lt lb66)
  have ne_b23_od : b23 ≠ od := Nat.ne_of_lt (Nat.lt_of_lt_of_le V_b23.lt lb66)
  have ne_b29_od : b29 ≠ od := Nat.ne_of_lt (Nat.lt_of_lt_of_le V_b29.lt lb66)
  have ne_b36_od : b36 ≠ od := Nat.ne_of_lt (Nat.lt_of_lt_of_le V_b36.lt lb66)
  have ne_sl0_od : sl0 ≠ od := Nat.ne_of_lt (Nat.lt_of_lt_of_le V_sl0.lt lb66)
  have ne_sl1_od : sl1 ≠ od := Nat.ne_of_lt (Nat.lt_of_lt_of_le V_sl1.lt lb66)
  have n0_od : n0 ≤ od := Nat.le_trans (Nat.le_trans Z0 K65.1) lb66
  have le67 : h0.size ≤ od := Nat.le_trans K65.1 lb66
  have N66 := N64.app Nq66
  have K68 := K65.ext Eq66
  replace A32_a1 := A32_a1.ext Eq66
  replace F2_size_a1 := F2_size_a1.ext Eq66
  replace F8_rightHandSide_a1 := F8_rightHandSide_a1.ext Eq66
  replace F20_basis_a1 := F20_basis_a1.ext Eq66
  replace F26_values_a1 := F26_values_a1.ext Eq66
  replace F32_slackOf_a1 := F32_slackOf_a1.ext Eq66
  replace F_duals := F_duals.ext Eq66
  replace V_ca := V_ca.ext Eq66
  replace Q14 := Q14.ext Eq66
  replace V_b17 := V_b17.ext Eq66
  replace V_b23 := V_b23.ext Eq66
  replace V_b29 := V_b29.ext Eq66
  replace V_b36 := V_b36.ext Eq66
  replace V_sl0 := V_sl0.ext Eq66
  replace V_sl1 := V_sl1.ext Eq66
  refine own_putF X66 hx hby hZ hown (host := "") (Or.inl (ow_53 hw)) Via.refl e66 F_duals A32_a1 (Or.inl (ow_54 hw)) (ow_2 hw) (ty := (.array .double)) (by decide) rfl rfl od_prog_37_method_1_145 (pc' := 148) rfl ?_
  intro T69 h69 X69 e69 W69 F69_duals_a1 A69_a1
  replace F2_size_a1 := F2_size_a1.other W69 (Or.inr (slot_ne (Or.inr (ow_12 hw)) (Or.inl (ow_54 hw)) (by decide) (t := .int) (t' := (.array .double)) (by decide) (by decide)))
  replace F8_rightHandSide_a1 := F8_rightHandSide_a1.other W69 (Or.inr (slot_ne (Or.inr (ow_14 hw)) (Or.inl (ow_54 hw)) (by decide) (t := (.array .double)) (t' := (.array .double)) (by decide) (by decide)))
  replace F20_basis_a1 := F20_basis_a1.other W69 (Or.inr (slot_ne (Or.inr (ow_22 hw)) (Or.inl (ow_54 hw)) (by decide) (t := (.array (.array .double))) (t' := (.array .double)) (by decide) (by decide)))
  replace F26_values_a1 := F26_values_a1.other W69 (Or.inr (slot_ne (Or.inr (ow_24 hw)) (Or.inl (ow_54 hw)) (by decide) (t := (.array .double)) (t' := (.array .double)) (by decide) (by decide)))
  replace F32_slackOf_a1 := F32_slackOf_a1.other W69 (Or.inr (slot_ne (Or.inr (ow_27 hw)) (Or.inl (ow_54 hw)) (by decide) (t := (.array .int)) (t' := (.array .double)) (by decide) (by decide)))
  have K70 := K68.wr W69 (Or.inl (List.mem_of_getElem? (i := 0) rfl))
  replace V_ca := V_ca.other W69 (Ne.symm ne_a1_ca)
  replace Q14 := Q14.other W69 (Ne.symm ne_a1_b5)
  replace V_b17 := V_b17.other W69 (Ne.symm ne_a1_b17)
  replace V_b23 := V_b23.other W69 (Ne.symm ne_a1_b23)
  replace V_b29 := V_b29.other W69 (Ne.symm ne_a1_b29)
  replace V_b36 := V_b36.other W69 (Ne.symm ne_a1_b36)
  replace V_sl0 := V_sl0.other W69 (Ne.symm ne_a1_sl0)
  replace V_sl1 := V_sl1.other W69 (Ne.symm ne_a1_sl1)
  replace V_od := V_od.other W69 (Ne.symm ne_a1_od)
  have N69 := own_fr1 (sl := Jvm.RoadKit.slotOf Z "com/example/bindery/bindery/selection/BindingMix" "duals" "[D") N66 n0_a1
  exact own_ret0 X69 hx hby hlk hrt od_prog_37_method_1_148 (by first | exact ⟨rfl, N69, K70, od, le67, A69_a1, F2_size_a1, F69_duals_a1, V_od⟩ | (rw [e69]; exact ⟨rfl, N69, K70, od, le67, A69_a1, F2_size_a1, F69_duals_a1, V_od⟩)) (by decide) (by decide)
theorem ef_rm_init2 (m : MethodId) (x0 : Addr) (x1 : Addr) : entryFrame m #[(.ref x0), (.ref x1)] 3 = mkF m 0 #[.val (.ref x0), .val (.ref x1), .unset] [] := by first | (simp [entryFrame, mkF, argsToLocals, Value.category]; done) | rfl
set_option maxRecDepth 65536 in
set_option maxHeartbeats 40000000 in
theorem rm_init2 (l : Launch) (Z : State) (a0 : Array Value) (hw : ∀ d ∈ tables_1, d.before a0 Z = true) (a1 ca : Addr) (dc : UInt64) (h0 : Heap) (n0 : Nat) (Z0 : n0 ≤ h0.size) (HI : own_Sol2 (4607182418800017408 : UInt64) dc (0 : UInt64) (4607182418800017408 : UInt64) (13830554455654793216 : UInt64) (0 : UInt64) (13830554455654793216 : UInt64) (0 : UInt64)) (n0_a1 : n0 ≤ a1) (ne_a1_ca : a1 ≠ ca) (A1 : Exa Z h0 a1 "com/example/bindery/bindery/selection/BindingMix") (F_size : Fld Z h0 a1 "com/example/bindery/bindery/selection/BindingMix" "size" "I" (.int (0 : Int32))) (F_rightHandSide : Fld Z h0 a1 "com/example/bindery/bindery/selection/BindingMix" "rightHandSide" "[D" .null) (F_basis : Fld Z h0 a1 "com/example/bindery/bindery/selection/BindingMix" "basis" "[[D" .null) (F_values : Fld Z h0 a1 "com/example/bindery/bindery/selection/BindingMix" "values" "[D" .null) (F_slackOf : Fld Z h0 a1 "com/example/bindery/bindery/selection/BindingMix" "slackOf" "[I" .null) (F_duals : Fld Z h0 a1 "com/example/bindery/bindery/selection/BindingMix" "duals" "[D" .null) (V_ca : own_D Z h0 ca (1 : Int32) [.double dc]) :
    own_Met l Z (⟨"com/example/bindery/bindery/selection/BindingMix", "<init>", "([D)V"⟩ : MethodName) prog_37_method_1_code 3 none ({ frames := 4, cells := 11, slots := 22, locals := 64 } : Room) #[(.ref a1), (.ref ca)] h0 (fun v h L => v = none ∧ Fr n0 L ∧ Keep h0 h [a1] ∧ ∃ rh ba va so r0 r1 du : Addr, h0.size ≤ rh ∧ h0.size ≤ ba ∧ h0.size ≤ va ∧ h0.size ≤ so ∧ h0.size ≤ r0 ∧ h0.size ≤ r1 ∧ h0.size ≤ du ∧ a1 ≠ rh ∧ a1 ≠ ba ∧ a1 ≠ va ∧ a1 ≠ so ∧ a1 ≠ r0 ∧ a1 ≠ r1 ∧ a1 ≠ du ∧ rh ≠ ba ∧ rh ≠ va ∧ rh ≠ so ∧ rh ≠ r0 ∧ rh ≠ r1 ∧ rh ≠ du ∧ ba ≠ va ∧ ba ≠ so ∧ ba ≠ r0 ∧ ba ≠ r1 ∧ ba ≠ du ∧ va ≠ so ∧ va ≠ r0 ∧ va ≠ r1 ∧ va ≠ du ∧ so ≠ r0 ∧ so ≠ r1 ∧ so ≠ du ∧ r0 ≠ r1 ∧ r0 ≠ du ∧ r1 ≠ du ∧ Exa Z h a1 "com/example/bindery/bindery/selection/BindingMix" ∧ Fld Z h a1 "com/example/bindery/bindery/selection/BindingMix" "size" "I" (.int (2 : Int32)) ∧ Fld Z h a1 "com/example/bindery/bindery/selection/BindingMix" "rightHandSide" "[D" (.ref rh) ∧ Fld Z h a1 "com/example/bindery/bindery/selection/BindingMix" "basis" "[[D" (.ref ba) ∧ Fld Z h a1 "com/example/bindery/bindery/selection/BindingMix" "values" "[D" (.ref va) ∧ Fld Z h a1 "com/example/bindery/bindery/selection/BindingMix" "slackOf" "[I" (.ref so) ∧ Fld Z h a1 "com/example/bindery/bindery/selection/BindingMix" "duals" "[D" (.ref du) ∧ own_D Z h rh (2 : Int32) [.double (4607182418800017408 : UInt64), .double dc] ∧ own_DD Z h ba (2 : Int32) [.ref r0, .ref r1] ∧ own_D Z h va (2 : Int32) [.double (13830554455654793216 : UInt64), .double (0 : UInt64)] ∧ own_IA Z h so (2 : Int32) [.int (-1 : Int32), .int (0 : Int32)] ∧ own_D Z h r0 (2 : Int32) [.double (4607182418800017408 : UInt64), .double dc] ∧ own_D Z h r1 (2 : Int32) [.double (0 : UInt64), .double (4607182418800017408 : UInt64)] ∧ own_D Z h du (2 : Int32) [.double (13830554455654793216 : UInt64), .double (0 : UInt64)]) := by
  refine own_body (plainFor_of_name (by first | (simp [plainName, overriddenIn]; done) | decide +kernel)) ?_
  intro p e s m below meth c s₁ hx hby hml hown hnm hlk hrt hZ X0 e0
  refine own_enter (ef_rm_init2 m a1 ca) ?_
  have N0 := Fr.nil n0
  have K0 := Keep.refl h0 [a1]
  refine own_aloadN X0 hx hby od_prog_37_method_1_0 (pc' := 1) rfl rfl rfl ?_
  refine own_initO X0 hx hby hZ hml hown (ow_8 hw) (ow_9 hw) (ow_10 hw) e0 rfl od_prog_37_method_1_1 (pc' := 4) rfl (by decide) (W := 0) (Nat.le_refl _) (by decide) ?_
  intro T1 X1 e1
  refine own_aloadN X1 hx hby od_prog_37_method_1_4 (pc' := 5) rfl rfl rfl ?_
  refine own_aloadN X1 hx hby od_prog_37_method_1_5 (pc' := 6) rfl rfl rfl ?_
  refine own_alD X1 hx hby hZ e1 V_ca od_prog_37_method_1_6 (pc' := 7) rfl ?_
  refine own_iconst X1 hx hby od_prog_37_method_1_7 (pc' := 8) rfl (z := 1) rfl ?_
  refine own_iaddE X1 hx hby od_prog_37_method_1_8 (pc' := 9) rfl (v := (2 : Int32)) rfl ?_
  refine own_putF X1 hx hby hZ hown (host := "") (Or.inl (ow_11 hw)) Via.refl e1 F_size A1 (Or.inr ⟨(ow_12 hw), rfl, hnm⟩) (ow_2 hw) (ty := .int) (by decide) rfl rfl od_prog_37_method_1_9 (pc' := 12) rfl ?_
  intro T2 h2 X2 e2 W2 F2_size_a1 A2_a1
  replace F_rightHandSide := F_rightHandSide.other W2 (Or.inr (slot_ne (Or.inr (ow_14 hw)) (Or.inr (ow_12 hw)) (by decide) (t := (.array .double)) (t' := .int) (by decide) (by decide)))
  replace F_basis := F_basis.other W2 (Or.inr (slot_ne (Or.inr (ow_22 hw)) (Or.inr (ow_12 hw)) (by decide) (t := (.array (.array .double))) (t' := .int) (by decide) (by decide)))
  replace F_values := F_values.other W2 (Or.inr (slot_ne (Or.inr (ow_24 hw)) (Or.inr (ow_12 hw)) (by decide) (t := (.array .double)) (t' := .int) (by decide) (by decide)))
  replace F_slackOf := F_slackOf.other W2 (Or.inr (slot_ne (Or.inr (ow_27 hw)) (Or.inr (ow_12 hw)) (by decide) (t := (.array .int)) (t' := .int) (by decide) (by decide)))
  replace F_duals := F_duals.other W2 (Or.inr (slot_ne (Or.inl (ow_54 hw)) (Or.inr (ow_12 hw)) (by decide) (t := (.array .double)) (t' := .int) (by decide) (by decide)))
  have K3 := K0.wr W2 (Or.inl (List.mem_of_getElem? (i := 0) rfl))
  replace V_ca := V_ca.other W2 (Ne.symm ne_a1_ca)
  have N2 := own_fr1 (sl := Jvm.RoadKit.slotOf Z "com/example/bindery/bindery/selection/BindingMix" "size" "I") N0 n0_a1
  refine own_aloadN X2 hx hby od_prog_37_method_1_12 (pc' := 13) rfl rfl rfl ?_
  refine own_aloadN X2 hx hby od_prog_37_method_1_13 (pc' := 14) rfl rfl rfl ?_
  refine own_getF X2 hx hby hZ hown (host := "") (Or.inl (ow_11 hw)) Via.refl e2 F2_size_a1 od_prog_37_method_1_14 (pc' := 17) rfl ?_
  intro T4 X4 e4
  refine own_newD X4 hx hby hZ (ow_4 hw) e4 od_prog_37_method_1_17 (pc' := 19) rfl (by decide) (cap := 2) (by decide) (by decide) (by decide) (by decide) (vs := [.double (0 : UInt64), .double (0 : UInt64)]) rfl ?_
  intro T5 h5 b5 g5 X5 e5 E5 V_b5
  have ne_a1_b5 : a1 ≠ b5 := own_nl A2_a1.lt g5
  have ne_ca_b5 : ca ≠ b5 := own_nl V_ca.lt g5
  have n0_b5 : n0 ≤ b5 := Nat.le_trans (Nat.le_trans Z0 K3.1) (Nat.le_of_eq g5.symm)
  have le6 : h0.size ≤ b5 := Nat.le_trans K3.1 (Nat.le_of_eq g5.symm)
  have K7 := K3.ext E5
  replace A2_a1 := A2_a1.ext E5
  replace F2_size_a1 := F2_size_a1.ext E5
  replace F_rightHandSide := F_rightHandSide.ext E5
  replace F_basis := F_basis.ext E5
  replace F_values := F_values.ext E5
  replace F_slackOf := F_slackOf.ext E5
  replace F_duals := F_duals.ext E5
  replace V_ca := V_ca.ext E5
  refine own_putF X5 hx hby hZ hown (host := "") (Or.inl (ow_13 hw)) Via.refl e5 F_rightHandSide A2_a1 (Or.inr ⟨(ow_14 hw), rfl, hnm⟩) (ow_2 hw) (ty := (.array .double)) (by decide) rfl rfl od_prog_37_method_1_19 (pc' := 22) rfl ?_
  intro T8 h8 X8 e8 W8 F8_rightHandSide_a1 A8_a1
  replace F2_size_a1 := F2_size_a1.other W8 (Or.inr (slot_ne (Or.inr (ow_12 hw)) (Or.inr (ow_14 hw)) (by decide) (t := .int) (t' := (.array .double)) (by decide) (by decide)))
  replace F_basis := F_basis.other W8 (Or.inr (slot_ne (Or.inr (ow_22 hw)) (Or.inr (ow_14 hw)) (by decide) (t := (.array (.array .double))) (t' := (.array .double)) (by decide) (by decide)))
  replace F_values := F_values.other W8 (Or.inr (slot_ne (Or.inr (ow_24 hw)) (Or.inr (ow_14 hw)) (by decide) (t := (.array .double)) (t' := (.array .double)) (by decide) (by decide)))
  replace F_slackOf := F_slackOf.other W8 (Or.inr (slot_ne (Or.inr (ow_27 hw)) (Or.inr (ow_14 hw)) (by decide) (t := (.array .int)) (t' := (.array .double)) (by decide) (by decide)))
  replace F_duals := F_duals.other W8 (Or.inr (slot_ne (Or.inl (ow_54 hw)) (Or.inr (ow_14 hw)) (by decide) (t := (.array .double)) (t' := (.array .double)) (by decide) (by decide)))
  have K9 := K7.wr W8 (Or.inl (List.mem_of_getElem? (i := 0) rfl))
  replace V_ca := V_ca.other W8 (Ne.symm ne_a1_ca)
  replace V_b5 := V_b5.other W8 (Ne.symm ne_a1_b5)
  have N8 := own_fr1 (sl := Jvm.RoadKit.slotOf Z "com/example/bindery/bindery/selection/BindingMix" "rightHandSide" "[D") N2 n0_a1
  refine own_aloadN X8 hx hby od_prog_37_method_1_22 (pc' := 23) rfl rfl rfl ?_
  refine own_getF X8 hx hby hZ hown (host := "") (Or.inl (ow_13 hw)) Via.refl e8 F8_rightHandSide_a1 od_prog_37_method_1_23 (pc' := 26) rfl ?_
  intro T10 X10 e10
  refine own_iconst X10 hx hby od_prog_37_method_1_26 (pc' := 27) rfl (z := 0) rfl ?_
  refine own_dconst1 X10 hx hby od_prog_37_method_1_27 (pc' := 28) rfl (v := (4607182418800017408 : UInt64)) rfl ?_
  refine own_dsD X10 hx hby hZ e10 V_b5 ⟨by decide, by decide⟩ 0 rfl (Nat.le_of_ble_eq_true rfl) (ys := [.double (4607182418800017408 : UInt64), .double (0 : UInt64)]) rfl od_prog_37_method_1_28 (pc' := 29) rfl ?_
  intro T11 h11 X11 e11 W11 Q11
  have K12 := K9.wr W11 (Or.inr le6)
  replace A8_a1 := A8_a1.wr W11
  replace F2_size_a1 := F2_size_a1.other W11 (Or.inl ne_a1_b5)
  replace F8_rightHandSide_a1 := F8_rightHandSide_a1.other W11 (Or.inl ne_a1_b5)
  replace F_basis := F_basis.other W11 (Or.inl ne_a1_b5)
  replace F_values := F_values.other W11 (Or.inl ne_a1_b5)
  replace F_slackOf := F_slackOf.other W11 (Or.inl ne_a1_b5)
  replace F_duals := F_duals.other W11 (Or.inl ne_a1_b5)
  replace V_ca := V_ca.other W11 ne_ca_b5
  replace V_b5 := Q11
  have N11 := own_fr1 (sl := ((0 : Int32)).toNatClampNeg) N8 n0_b5
  refine own_aloadN X11 hx hby od_prog_37_method_1_29 (pc' := 30) rfl rfl rfl ?_
  refine own_iconst X11 hx hby od_prog_37_method_1_30 (pc' := 31) rfl (z := 0) rfl ?_
  refine own_aloadN X11 hx hby od_prog_37_method_1_31 (pc' := 32) rfl rfl rfl ?_
  refine own_getF X11 hx hby hZ hown (host := "") (Or.inl (ow_13 hw)) Via.refl e11 F8_rightHandSide_a1 od_prog_37_method_1_32 (pc' := 35) rfl ?_
  intro T13 X13 e13
  refine own_iconst X13 hx hby od_prog_37_method_1_35 (pc' := 36) rfl (z := 1) rfl ?_
  refine own_aloadN X13 hx hby od_prog_37_method_1_36 (pc' := 37) rfl rfl rfl ?_
  refine own_alD X13 hx hby hZ e13 V_ca od_prog_37_method_1_37 (pc' := 38) rfl ?_
  refine own_cpD X13 hx hby hZ hml hown (ow_15 hw) (ow_18 hw) (ow_16 hw) (ow_17 hw) e13 V_ca V_b5 (by decide) (by decide) (by decide) (by decide) (by decide) (us := [.double dc]) rfl (Nat.le_of_ble_eq_true rfl) (ws := [.double (4607182418800017408 : UInt64), .double dc]) rfl (n0 := n0) N11 n0_b5 rfl od_prog_37_method_1_38 (pc' := 41) rfl (by decide) (W := 0) (Nat.le_refl _) (by decide) ?_
  intro T14 h14 L14 X14 e14 N14 K_14 Q14
  have K15 := K12.trans K_14 (allS (Or.inr le6) all0)
  replace A8_a1 := A8_a1.keep K_14
  replace F2_size_a1 := F2_size_a1.keep K_14 (own_niS ne_a1_b5 own_ni0)
  replace F8_rightHandSide_a1 := F8_rightHandSide_a1.keep K_14 (own_niS ne_a1_b5 own_ni0)
  replace F_basis := F_basis.keep K_14 (own_niS ne_a1_b5 own_ni0)
  replace F_values := F_values.keep K_14 (own_niS ne_a1_b5 own_ni0)
  replace F_slackOf := F_slackOf.keep K_14 (own_niS ne_a1_b5 own_ni0)
  replace F_duals := F_duals.keep K_14 (own_niS ne_a1_b5 own_ni0)
  replace V_ca := V_ca.keep K_14 (own_niS ne_ca_b5 own_ni0)
  refine own_aloadN X14 hx hby od_prog_37_method_1_41 (pc' := 42) rfl rfl rfl ?_
  refine own_aloadN X14 hx hby od_prog_37_method_1_42 (pc' := 43) rfl rfl rfl ?_
  refine own_getF X14 hx hby hZ hown (host := "") (Or.inl (ow_11 hw)) Via.refl e14 F2_size_a1 od_prog_37_method_1_43 (pc' := 46) rfl ?_
  intro T16 X16 e16
  refine own_newDD X16 hx hby hZ hown (ow_19 hw) (ow_20 hw) e16 od_prog_37_method_1_46 (pc' := 49) rfl (by decide) (cap := 2) (by decide) (by decide) (by decide) (by decide) (vs := [.null, .null]) rfl ?_
  intro T17 h17 b17 g17 X17 e17 E17 V_b17
  have ne_a1_b17 : a1 ≠ b17 := own_nl A8_a1.lt g17
  have ne_ca_b17 : ca ≠ b17 := own_nl V_ca.lt g17
  have ne_b5_b17 : b5 ≠ b17 := own_nl Q14.lt g17
  have n0_b17 : n0 ≤ b17 := Nat.le_trans (Nat.le_trans Z0 K15.1) (Nat.le_of_eq g17.symm)
  have le18 : h0.size ≤ b17 := Nat.le_trans K15.1 (Nat.le_of_eq g17.symm)
  have K19 := K15.ext E17
  replace A8_a1 := A8_a1.ext E17
  replace F2_size_a1 := F2_size_a1.ext E17
  replace F8_rightHandSide_a1 := F8_rightHandSide_a1.ext E17
  replace F_basis := F_basis.ext E17
  replace F_values := F_values.ext E17
  replace F_slackOf := F_slackOf.ext E17
  replace F_duals := F_duals.ext E17
  replace V_ca := V_ca.ext E17
  replace Q14 := Q14.ext E17
  refine own_putF X17 hx hby hZ hown (host := "") (Or.inl (ow_21 hw)) Via.refl e17 F_basis A8_a1 (Or.inr ⟨(ow_22 hw), rfl, hnm⟩) (ow_2 hw) (ty := (.array (.array .double))) (by decide) rfl rfl od_prog_37_method_1_49 (pc' := 52) rfl ?_
  intro T20 h20 X20 e20 W20 F20_basis_a1 A20_a1
  replace F2_size_a1 := F2_size_a1.other W20 (Or.inr (slot_ne (Or.inr (ow_12 hw)) (Or.inr (ow_22 hw)) (by decide) (t := .int) (t' := (.array (.array .double))) (by decide) (by decide)))
  replace F8_rightHandSide_a1 := F8_rightHandSide_a1.other W20 (Or.inr (slot_ne (Or.inr (ow_14 hw)) (Or.inr (ow_22 hw)) (by decide) (t := (.array .double)) (t' := (.array (.array .double))) (by decide) (by decide)))
  replace F_values := F_values.other W20 (Or.inr (slot_ne (Or.inr (ow_24 hw)) (Or.inr (ow_22 hw)) (by decide) (t := (.array .double)) (t' := (.array (.array .double))) (by decide) (by decide)))
  replace F_slackOf := F_slackOf.other W20 (Or.inr (slot_ne (Or.inr (ow_27 hw)) (Or.inr (ow_22 hw)) (by decide) (t := (.array .int)) (t' := (.array (.array .double))) (by decide) (by decide)))
  replace F_duals := F_duals.other W20 (Or.inr (slot_ne (Or.inl (ow_54 hw)) (Or.inr (ow_22 hw)) (by decide) (t := (.array .double)) (t' := (.array (.array .double))) (by decide) (by decide)))
  have K21 := K19.wr W20 (Or.inl (List.mem_of_getElem? (i := 0) rfl))
  replace V_ca := V_ca.other W20 (Ne.symm ne_a1_ca)
  replace Q14 := Q14.other W20 (Ne.symm ne_a1_b5)
  replace V_b17 := V_b17.other W20 (Ne.symm ne_a1_b17)
  have N20 := own_fr1 (sl := Jvm.RoadKit.slotOf Z "com/example/bindery/bindery/selection/BindingMix" "basis" "[[D") N14 n0_a1
  refine own_aloadN X20 hx hby od_prog_37_method_1_52 (pc' := 53) rfl rfl rfl ?_
  refine own_aloadN X20 hx hby od_prog_37_method_1_53 (pc' := 54) rfl rfl rfl ?_
  refine own_getF X20 hx hby hZ hown (host := "") (Or.inl (ow_11 hw)) Via.refl e20 F2_size_a1 od_prog_37_method_1_54 (pc' := 57) rfl ?_
  intro T22 X22 e22
  refine own_newD X22 hx hby hZ (ow_4 hw) e22 od_prog_37_method_1_57 (pc' := 59) rfl (by decide) (cap := 2) (by decide) (by decide) (by decide) (by decide) (vs := [.double (0 : UInt64), .double (0 : UInt64)]) rfl ?_
  intro T23 h23 b23 g23 X23 e23 E23 V_b23
  have ne_a1_b23 : a1 ≠ b23 := own_nl A20_a1.lt g23
  have ne_ca_b23 : ca ≠ b23 := own_nl V_ca.lt g23
  have ne_b5_b23 : b5 ≠ b23 := own_nl Q14.lt g23
  have ne_b17_b23 : b17 ≠ b23 := own_nl V_b17.lt g23
  have n0_b23 : n0 ≤ b23 := Nat.le_trans (Nat.le_trans Z0 K21.1) (Nat.le_of_eq g23.symm)
  have le24 : h0.size ≤ b23 := Nat.le_trans K21.1 (Nat.le_of_eq g23.symm)
  have K25 := K21.ext E23
  replace A20_a1 := A20_a1.ext E23
  replace F2_size_a1 := F2_size_a1.ext E23
  replace F8_rightHandSide_a1 := F8_rightHandSide_a1.ext E23
  replace F20_basis_a1 := F20_basis_a1.ext E23
  replace F_values := F_values.ext E23
  replace F_slackOf := F_slackOf.ext E23
  replace F_duals := F_duals.ext E23
  replace V_ca := V_ca.ext E23
  replace Q14 := Q14.ext E23
  replace V_b17 := V_b17.ext E23
  refine own_putF X23 hx hby hZ hown (host := "") (Or.inl (ow_23 hw)) Via.refl e23 F_values A20_a1 (Or.inr ⟨(ow_24 hw), rfl, hnm⟩) (ow_2 hw) (ty := (.array .double)) (by decide) rfl rfl od_prog_37_method_1_59 (pc' := 62) rfl ?_
  intro T26 h26 X26 e26 W26 F26_values_a1 A26_a1
  replace F2_size_a1 := F2_size_a1.other W26 (Or.inr (slot_ne (Or.inr (ow_12 hw)) (Or.inr (ow_24 hw)) (by decide) (t := .int) (t' := (.array .double)) (by decide) (by decide)))
  replace F8_rightHandSide_a1 := F8_rightHandSide_a1.other W26 (Or.inr (slot_ne (Or.inr (ow_14 hw)) (Or.inr (ow_24 hw)) (by decide) (t := (.array .double)) (t' := (.array .double)) (by decide) (by decide)))
  replace F20_basis_a1 := F20_basis_a1.other W26 (Or.inr (slot_ne (Or.inr (ow_22 hw)) (Or.inr (ow_24 hw)) (by decide) (t := (.array (.array .double))) (t' := (.array .double)) (by decide) (by decide)))
  replace F_slackOf := F_slackOf.other W26 (Or.inr (slot_ne (Or.inr (ow_27 hw)) (Or.inr (ow_24 hw)) (by decide) (t := (.array .int)) (t' := (.array .double)) (by decide) (by decide)))
  replace F_duals := F_duals.other W26 (Or.inr (slot_ne (Or.inl (ow_54 hw)) (Or.inr (ow_24 hw)) (by decide) (t := (.array .double)) (t' := (.array .double)) (by decide) (by decide)))
  have K27 := K25.wr W26 (Or.inl (List.mem_of_getElem? (i := 0) rfl))
  replace V_ca := V_ca.other W26 (Ne.symm ne_a1_ca)
  replace Q14 := Q14.other W26 (Ne.symm ne_a1_b5)
  replace V_b17 := V_b17.other W26 (Ne.symm ne_a1_b17)
  replace V_b23 := V_b23.other W26 (Ne.symm ne_a1_b23)
  have N26 := own_fr1 (sl := Jvm.RoadKit.slotOf Z "com/example/bindery/bindery/selection/BindingMix" "values" "[D") N20 n0_a1
  refine own_aloadN X26 hx hby od_prog_37_method_1_62 (pc' := 63) rfl rfl rfl ?_
  refine own_aloadN X26 hx hby od_prog_37_method_1_63 (pc' := 64) rfl rfl rfl ?_
  refine own_getF X26 hx hby hZ hown (host := "") (Or.inl (ow_11 hw)) Via.refl e26 F2_size_a1 od_prog_37_method_1_64 (pc' := 67) rfl ?_
  intro T28 X28 e28
  refine own_newIA X28 hx hby hZ (ow_25 hw) e28 od_prog_37_method_1_67 (pc' := 69) rfl (by decide) (cap := 2) (by decide) (by decide) (by decide) (by decide) (vs := [.int (0 : Int32), .int (0 : Int32)]) rfl ?_
  intro T29 h29 b29 g29 X29 e29 E29 V_b29
  have ne_a1_b29 : a1 ≠ b29 := own_nl A26_a1.lt g29
  have ne_ca_b29 : ca ≠ b29 := own_nl V_ca.lt g29
  have ne_b5_b29 : b5 ≠ b29 := own_nl Q14.lt g29
  have ne_b17_b29 : b17 ≠ b29 := own_nl V_b17.lt g29
  have ne_b23_b29 : b23 ≠ b29 := own_nl V_b23.lt g29
  have n0_b29 : n0 ≤ b29 := Nat.le_trans (Nat.le_trans Z0 K27.1) (Nat.le_of_eq g29.symm)
  have le30 : h0.size ≤ b29 := Nat.le_trans K27.1 (Nat.le_of_eq g29.symm)
  have K31 := K27.ext E29
  replace A26_a1 := A26_a1.ext E29
  replace F2_size_a1 := F2_size_a1.ext E29
  replace F8_rightHandSide_a1 := F8_rightHandSide_a1.ext E29
  replace F20_basis_a1 := F20_basis_a1.ext E29
  replace F26_values_a1 := F26_values_a1.ext E29
  replace F_slackOf := F_slackOf.ext E29
  replace F_duals := F_duals.ext E29
  replace V_ca := V_ca.ext E29
  replace Q14 := Q14.ext E29
  replace V_b17 := V_b17.ext E29
  replace V_b23 := V_b23.ext E29
  refine own_putF X29 hx hby hZ hown (host := "") (Or.inl (ow_26 hw)) Via.refl e29 F_slackOf A26_a1 (Or.inr ⟨(ow_27 hw), rfl, hnm⟩) (ow_2 hw) (ty := (.array .int)) (by decide) rfl rfl od_prog_37_method_1_69 (pc' := 72) rfl ?_
  intro T32 h32 X32 e32 W32 F32_slackOf_a1 A32_a1
  replace F2_size_a1 := F2_size_a1.other W32 (Or.inr (slot_ne (Or.inr (ow_12 hw)) (Or.inr (ow_27 hw)) (by decide) (t := .int) (t' := (.array .int)) (by decide) (by decide)))
  replace F8_rightHandSide_a1 := F8_rightHandSide_a1.other W32 (Or.inr (slot_ne (Or.inr (ow_14 hw)) (Or.inr (ow_27 hw)) (by decide) (t := (.array .double)) (t' := (.array .int)) (by decide) (by decide)))
  replace F20_basis_a1 := F20_basis_a1.other W32 (Or.inr (slot_ne (Or.inr (ow_22 hw)) (Or.inr (ow_27 hw)) (by decide) (t := (.array (.array .double))) (t' := (.array .int)) (by decide) (by decide)))
  replace F26_values_a1 := F26_values_a1.other W32 (Or.inr (slot_ne (Or.inr (ow_24 hw)) (Or.inr (ow_27 hw)) (by decide) (t := (.array .double)) (t' := (.array .int)) (by decide) (by decide)))
  replace F_duals := F_duals.other W32 (Or.inr (slot_ne (Or.inl (ow_54 hw)) (Or.inr (ow_27 hw)) (by decide) (t := (.array .double)) (t' := (.array .int)) (by decide) (by decide)))
  have K33 := K31.wr W32 (Or.inl (List.mem_of_getElem? (i := 0) rfl))
  replace V_ca := V_ca.other W32 (Ne.symm ne_a1_ca)
  replace Q14 := Q14.other W32 (Ne.symm ne_a1_b5)
  replace V_b17 := V_b17.other W32 (Ne.symm ne_a1_b17)
  replace V_b23 := V_b23.other W32 (Ne.symm ne_a1_b23)
  replace V_b29 := V_b29.other W32 (Ne.symm ne_a1_b29)
  have N32 := own_fr1 (sl := Jvm.RoadKit.slotOf Z "com/example/bindery/bindery/selection/BindingMix" "slackOf" "[I") N26 n0_a1
  refine own_aloadN X32 hx hby od_prog_37_method_1_72 (pc' := 73) rfl rfl rfl ?_
  refine own_getF X32 hx hby hZ hown (host := "") (Or.inl (ow_21 hw)) Via.refl e32 F20_basis_a1 od_prog_37_method_1_73 (pc' := 76) rfl ?_
  intro T34 X34 e34
  refine own_iconst X34 hx hby od_prog_37_method_1_76 (pc' := 77) rfl (z := 0) rfl ?_
  refine own_aloadN X34 hx hby od_prog_37_method_1_77 (pc' := 78) rfl rfl rfl ?_
  refine own_getF X34 hx hby hZ hown (host := "") (Or.inl (ow_13 hw)) Via.refl e34 F8_rightHandSide_a1 od_prog_37_method_1_78 (pc' := 81) rfl ?_
  intro T35 X35 e35
  refine own_cloneD X35 hx hby hZ hml hown (ow_28 hw) (ow_29 hw) (ow_33 hw) (ow_31 hw) (ow_32 hw) (ow_34 hw) e35 Q14 rfl od_prog_37_method_1_81 (pc' := 84) rfl (by decide) (W := 2) (cap := 2) (Nat.le_refl _) (by decide) (by decide) (by decide) (by decide) ?_
  intro T36 h36 b36 g36 X36 e36 E36 V_b36
  have ne_a1_b36 : a1 ≠ b36 := own_nl A32_a1.lt g36
  have ne_ca_b36 : ca ≠ b36 := own_nl V_ca.lt g36
  have ne_b5_b36 : b5 ≠ b36 := own_nl Q14.lt g36
  have ne_b17_b36 : b17 ≠ b36 := own_nl V_b17.lt g36
  have ne_b23_b36 : b23 ≠ b36 := own_nl V_b23.lt g36
  have ne_b29_b36 : b29 ≠ b36 := own_nl V_b29.lt g36
  have n0_b36 : n0 ≤ b36 := Nat.le_trans (Nat.le_trans Z0 K33.1) (Nat.le_of_eq g36.symm)
  have le37 : h0.size ≤ b36 := Nat.le_trans K33.1 (Nat.le_of_eq g36.symm)
  have K38 := K33.ext E36
  replace A32_a1 := A32_a1.ext E36
  replace F2_size_a1 := F2_size_a1.ext E36
  replace F8_rightHandSide_a1 := F8_rightHandSide_a1.ext E36
  replace F20_basis_a1 := F20_basis_a1.ext E36
  replace F26_values_a1 := F26_values_a1.ext E36
  replace F32_slackOf_a1 := F32_slackOf_a1.ext E36
  replace F_duals := F_duals.ext E36
  replace V_ca := V_ca.ext E36
  replace Q14 := Q14.ext E36
  replace V_b17 := V_b17.ext E36
  replace V_b23 := V_b23.ext E36
  replace V_b29 := V_b29.ext E36
  refine own_cast X36 hx hby hZ hown (ow_19 hw) e36 (Ins.self V_b36.exa) od_prog_37_method_1_84 (pc' := 87) rfl ?_
  intro T39 X39 e39
  refine own_asD X39 hx hby hZ e39 V_b17 (V_b36.exa) ⟨by decide, by decide⟩ 0 rfl (Nat.le_of_ble_eq_true rfl) (ys := [.ref b36, .null]) rfl od_prog_37_method_1_87 (pc' := 88) rfl ?_
  intro T40 h40 X40 e40 W40 Q40
  have K41 := K38.wr W40 (Or.inr le18)
  replace A32_a1 := A32_a1.wr W40
  replace F2_size_a1 := F2_size_a1.other W40 (Or.inl ne_a1_b17)
  replace F8_rightHandSide_a1 := F8_rightHandSide_a1.other W40 (Or.inl ne_a1_b17)
  replace F20_basis_a1 := F20_basis_a1.other W40 (Or.inl ne_a1_b17)
  replace F26_values_a1 := F26_values_a1.other W40 (Or.inl ne_a1_b17)
  replace F32_slackOf_a1 := F32_slackOf_a1.other W40 (Or.inl ne_a1_b17)
  replace F_duals := F_duals.other W40 (Or.inl ne_a1_b17)
  replace V_ca := V_ca.other W40 ne_ca_b17
  replace Q14 := Q14.other W40 ne_b5_b17
  replace V_b23 := V_b23.other W40 (Ne.symm ne_b17_b23)
  replace V_b29 := V_b29.other W40 (Ne.symm ne_b17_b29)
  replace V_b36 := V_b36.other W40 (Ne.symm ne_b17_b36)
  replace V_b17 := Q40
  have N40 := own_fr1 (sl := ((0 : Int32)).toNatClampNeg) N32 n0_b17
  refine own_aloadN X40 hx hby od_prog_37_method_1_88 (pc' := 89) rfl rfl rfl ?_
  refine own_getF X40 hx hby hZ hown (host := "") (Or.inl (ow_23 hw)) Via.refl e40 F26_values_a1 od_prog_37_method_1_89 (pc' := 92) rfl ?_
  intro T42 X42 e42
  refine own_iconst X42 hx hby od_prog_37_method_1_92 (pc' := 93) rfl (z := 0) rfl ?_
  refine own_ldcD X42 hx hby hZ hown (ow_36 hw) od_prog_37_method_1_93 (pc' := 96) rfl ?_
  refine own_dsD X42 hx hby hZ e42 V_b23 ⟨by decide, by decide⟩ 0 rfl (Nat.le_of_ble_eq_true rfl) (ys := [.double (13830554455654793216 : UInt64), .double (0 : UInt64)]) rfl od_prog_37_method_1_96 (pc' := 97) rfl ?_
  intro T43 h43 X43 e43 W43 Q43
  have K44 := K41.wr W43 (Or.inr le24)
  replace A32_a1 := A32_a1.wr W43
  replace F2_size_a1 := F2_size_a1.other W43 (Or.inl ne_a1_b23)
  replace F8_rightHandSide_a1 := F8_rightHandSide_a1.other W43 (Or.inl ne_a1_b23)
  replace F20_basis_a1 := F20_basis_a1.other W43 (Or.inl ne_a1_b23)
  replace F26_values_a1 := F26_values_a1.other W43 (Or.inl ne_a1_b23)
  replace F32_slackOf_a1 := F32_slackOf_a1.other W43 (Or.inl ne_a1_b23)
  replace F_duals := F_duals.other W43 (Or.inl ne_a1_b23)
  replace V_ca := V_ca.other W43 ne_ca_b23
  replace Q14 := Q14.other W43 ne_b5_b23
  replace V_b17 := V_b17.other W43 ne_b17_b23
  replace V_b29 := V_b29.other W43 (Ne.symm ne_b23_b29)
  replace V_b36 := V_b36.other W43 (Ne.symm ne_b23_b36)
  replace V_b23 := Q43
  have N43 := own_fr1 (sl := ((0 : Int32)).toNatClampNeg) N40 n0_b23
  refine own_aloadN X43 hx hby od_prog_37_method_1_97 (pc' := 98) rfl rfl rfl ?_
  refine own_getF X43 hx hby hZ hown (host := "") (Or.inl (ow_26 hw)) Via.refl e43 F32_slackOf_a1 od_prog_37_method_1_98 (pc' := 101) rfl ?_
  intro T45 X45 e45
  refine own_iconst X45 hx hby od_prog_37_method_1_101 (pc' := 102) rfl (z := 0) rfl ?_
  refine own_iconst X45 hx hby od_prog_37_method_1_102 (pc' := 103) rfl (z := (-1)) rfl ?_
  refine own_isI X45 hx hby hZ e45 V_b29 ⟨by decide, by decide⟩ 0 rfl (Nat.le_of_ble_eq_true rfl) (ys := [.int (-1 : Int32), .int (0 : Int32)]) rfl od_prog_37_method_1_103 (pc' := 104) rfl ?_
  intro T46 h46 X46 e46 W46 Q46
  have K47 := K44.wr W46 (Or.inr le30)
  replace A32_a1 := A32_a1.wr W46
  replace F2_size_a1 := F2_size_a1.other W46 (Or.inl ne_a1_b29)
  replace F8_rightHandSide_a1 := F8_rightHandSide_a1.other W46 (Or.inl ne_a1_b29)
  replace F20_basis_a1 := F20_basis_a1.other W46 (Or.inl ne_a1_b29)
  replace F26_values_a1 := F26_values_a1.other W46 (Or.inl ne_a1_b29)
  replace F32_slackOf_a1 := F32_slackOf_a1.other W46 (Or.inl ne_a1_b29)
  replace F_duals := F_duals.other W46 (Or.inl ne_a1_b29)
  replace V_ca := V_ca.other W46 ne_ca_b29
  replace Q14 := Q14.other W46 ne_b5_b29
  replace V_b17 := V_b17.other W46 ne_b17_b29
  replace V_b23 := V_b23.other W46 ne_b23_b29
  replace V_b36 := V_b36.other W46 (Ne.symm ne_b29_b36)
  replace V_b29 := Q46
  have N46 := own_fr1 (sl := ((0 : Int32)).toNatClampNeg) N43 n0_b29
  refine own_iconst X46 hx hby od_prog_37_method_1_104 (pc' := 105) rfl (z := 0) rfl ?_
  refine own_istoreN X46 hx hby od_prog_37_method_1_105 (pc' := 106) rfl (Ls' := #[.val (.ref a1), .val (.ref ca), .val (.int (0 : Int32))]) rfl ?_
  refine own_iloadN X46 hx hby od_prog_37_method_1_106 (pc' := 107) rfl rfl ?_
  refine own_aloadN X46 hx hby od_prog_37_method_1_107 (pc' := 108) rfl rfl rfl ?_
  refine own_alD X46 hx hby hZ e46 V_ca od_prog_37_method_1_108 (pc' := 109) rfl ?_
  refine own_icmpN X46 hx hby od_prog_37_method_1_109 (pc' := 112) rfl (tlt (by decide)).2.1 ?_
  refine own_aloadN X46 hx hby od_prog_37_method_1_112 (pc' := 113) rfl rfl rfl ?_
  refine own_getF X46 hx hby hZ hown (host := "") (Or.inl (ow_21 hw)) Via.refl e46 F20_basis_a1 od_prog_37_method_1_113 (pc' := 116) rfl ?_
  intro T48 X48 e48
  refine own_iloadN X48 hx hby od_prog_37_method_1_116 (pc' := 117) rfl rfl ?_
  refine own_iconst X48 hx hby od_prog_37_method_1_117 (pc' := 118) rfl (z := 1) rfl ?_
  refine own_iaddE X48 hx hby od_prog_37_method_1_118 (pc' := 119) rfl (v := (1 : Int32)) rfl ?_
  refine own_aloadN X48 hx hby od_prog_37_method_1_119 (pc' := 120) rfl rfl rfl ?_
  refine own_iloadN X48 hx hby od_prog_37_method_1_120 (pc' := 121) rfl rfl ?_
  refine own_privM X48 hx hby hml hZ hown (ow_60 hw) (ow_61 hw) (own_selP (ow_61 hw) (ow_62 hw) (ow_58 hw) rfl (by decide)) (ow_62 hw) (ow_3 hw) (ow_63 hw) (by decide) (cc := 1) (ss := 2) (rm_slack_2_0 l Z a0 hw a1 h46 n0 (Nat.le_trans Z0 K47.1) F2_size_a1) 2 rfl rfl (by decide) (by decide) rfl A32_a1 (argsL := [(.int (0 : Int32))]) (rest := [(.int (1 : Int32)), (.ref b17)]) opd_3 rfl rfl (Nat.le_refl _) od_prog_37_method_1_121 (pc' := 124) rfl rfl e48 (by decide) (by decide) ?_
  rintro v49 T49 h49 L49 X49 e49 ⟨sl0, rfl, lb49, Eq49, Nq49, V_sl0⟩
  have ne_a1_sl0 : a1 ≠ sl0 := Nat.ne_of_lt (Nat.lt_of_lt_of_le A32_a1.lt lb49)
  have ne_ca_sl0 : ca ≠ sl0 := Nat.ne_of_lt (Nat.lt_of_lt_of_le V_ca.lt lb49)
  have ne_b5_sl0 : b5 ≠ sl0 := Nat.ne_of_lt (Nat.lt_of_lt_of_le Q14.lt lb49)
  have ne_b17_sl0 : b17 ≠ sl0 := Nat.ne_of_lt (Nat.lt_of_lt_of_le V_b17.lt lb49)
  have ne_b23_sl0 : b23 ≠ sl0 := Nat.ne_of_lt (Nat.lt_of_lt_of_le V_b23.lt lb49)
  have ne_b29_sl0 : b29 ≠ sl0 := Nat.ne_of_lt (Nat.lt_of_lt_of_le V_b29.lt lb49)
  have ne_b36_sl0 : b36 ≠ sl0 := Nat.ne_of_lt (Nat.lt_of_lt_of_le V_b36.lt lb49)
  have n0_sl0 : n0 ≤ sl0 := Nat.le_trans (Nat.le_trans Z0 K47.1) lb49
  have le50 : h0.size ≤ sl0 := Nat.le_trans K47.1 lb49
  have N49 := N46.app Nq49
  have K51 := K47.ext Eq49
  replace A32_a1 := A32_a1.ext Eq49
  replace F2_size_a1 := F2_size_a1.ext Eq49
  replace F8_rightHandSide_a1 := F8_rightHandSide_a1.ext Eq49
  replace F20_basis_a1 := F20_basis_a1.ext Eq49
  replace F26_values_a1 := F26_values_a1.ext Eq49
  replace F32_slackOf_a1 := F32_slackOf_a1.ext Eq49
  replace F_duals := F_duals.ext Eq49
  replace V_ca := V_ca.ext Eq49
  replace Q14 := Q14.ext Eq49
  replace V_b17 := V_b17.ext Eq49
  replace V_b23 := V_b23.ext Eq49
  replace V_b29 := V_b29.ext Eq49
  replace V_b36 := V_b36.ext Eq49
  refine own_asD X49 hx hby hZ e49 V_b17 (V_sl0.exa) ⟨by decide, by decide⟩ 1 rfl (Nat.le_of_ble_eq_true rfl) (ys := [.ref b36, .ref sl0]) rfl od_prog_37_method_1_124 (pc' := 125) rfl ?_
  intro T52 h52 X52 e52 W52 Q52
  have K53 := K51.wr W52 (Or.inr le18)
  replace A32_a1 := A32_a1.wr W52
  replace F2_size_a1 := F2_size_a1.other W52 (Or.inl ne_a1_b17)
  replace F8_rightHandSide_a1 := F8_rightHandSide_a1.other W52 (Or.inl ne_a1_b17)
  replace F20_basis_a1 := F20_basis_a1.other W52 (Or.inl ne_a1_b17)
  replace F26_values_a1 := F26_values_a1.other W52 (Or.inl ne_a1_b17)
  replace F32_slackOf_a1 := F32_slackOf_a1.other W52 (Or.inl ne_a1_b17)
  replace F_duals := F_duals.other W52 (Or.inl ne_a1_b17)
  replace V_ca := V_ca.other W52 ne_ca_b17
  replace Q14 := Q14.other W52 ne_b5_b17
  replace V_b23 := V_b23.other W52 (Ne.symm ne_b17_b23)
  replace V_b29 := V_b29.other W52 (Ne.symm ne_b17_b29)
  replace V_b36 := V_b36.other W52 (Ne.symm ne_b17_b36)
  replace V_sl0 := V_sl0.other W52 (Ne.symm ne_b17_sl0)
  replace V_b17 := Q52
  have N52 := own_fr1 (sl := ((1 : Int32)).toNatClampNeg) N49 n0_b17
  refine own_aloadN X52 hx hby od_prog_37_method_1_125 (pc' := 126) rfl rfl rfl ?_
  refine own_getF X52 hx hby hZ hown (host := "") (Or.inl (ow_26 hw)) Via.refl e52 F32_slackOf_a1 od_prog_37_method_1_126 (pc' := 129) rfl ?_
  intro T54 X54 e54
  refine own_iloadN X54 hx hby od_prog_37_method_1_129 (pc' := 130) rfl rfl ?_
  refine own_iconst X54 hx hby od_prog_37_method_1_130 (pc' := 131) rfl (z := 1) rfl ?_
  refine own_iaddE X54 hx hby od_prog_37_method_1_131 (pc' := 132) rfl (v := (1 : Int32)) rfl ?_
  refine own_iloadN X54 hx hby od_prog_37_method_1_132 (pc' := 133) rfl rfl ?_
  refine own_isI X54 hx hby hZ e54 V_b29 ⟨by decide, by decide⟩ 1 rfl (Nat.le_of_ble_eq_true rfl) (ys := [.int (-1 : Int32), .int (0 : Int32)]) rfl od_prog_37_method_1_133 (pc' := 134) rfl ?_
  intro T55 h55 X55 e55 W55 Q55
  have K56 := K53.wr W55 (Or.inr le30)
  replace A32_a1 := A32_a1.wr W55
  replace F2_size_a1 := F2_size_a1.other W55 (Or.inl ne_a1_b29)
  replace F8_rightHandSide_a1 := F8_rightHandSide_a1.other W55 (Or.inl ne_a1_b29)
  replace F20_basis_a1 := F20_basis_a1.other W55 (Or.inl ne_a1_b29)
  replace F26_values_a1 := F26_values_a1.other W55 (Or.inl ne_a1_b29)
  replace F32_slackOf_a1 := F32_slackOf_a1.other W55 (Or.inl ne_a1_b29)
  replace F_duals := F_duals.other W55 (Or.inl ne_a1_b29)
  replace V_ca := V_ca.other W55 ne_ca_b29
  replace Q14 := Q14.other W55 ne_b5_b29
  replace V_b17 := V_b17.other W55 ne_b17_b29
  replace V_b23 := V_b23.other W55 ne_b23_b29
  replace V_b36 := V_b36.other W55 (Ne.symm ne_b29_b36)
  replace V_sl0 := V_sl0.other W55 (Ne.symm ne_b29_sl0)
  replace V_b29 := Q55
  have N55 := own_fr1 (sl := ((1 : Int32)).toNatClampNeg) N52 n0_b29
  refine own_iinc X55 hx hby od_prog_37_method_1_134 (pc' := 137) rfl rfl (z := 1) rfl (Ls' := #[.val (.ref a1), .val (.ref ca), .val (.int (1 : Int32))]) rfl ?_
  refine own_goto X55 hx hby od_prog_37_method_1_137 (by decide) (pc' := 106) (by decide) ?_
  refine own_iloadN X55 hx hby od_prog_37_method_1_106 (pc' := 107) rfl rfl ?_
  refine own_aloadN X55 hx hby od_prog_37_method_1_107 (pc' := 108) rfl rfl rfl ?_
  refine own_alD X55 hx hby hZ e55 V_ca od_prog_37_method_1_108 (pc' := 109) rfl ?_
  refine own_icmpY X55 hx hby od_prog_37_method_1_109 (by decide) (pc' := 140) (by decide) (flt (by decide)).2.1 ?_
  refine own_aloadN X55 hx hby od_prog_37_method_1_140 (pc' := 141) rfl rfl rfl ?_
  refine own_aloadN X55 hx hby od_prog_37_method_1_141 (pc' := 142) rfl rfl rfl ?_
  refine own_privM X55 hx hby hml hZ hown (ow_37 hw) (ow_38 hw) (own_selP (ow_38 hw) (ow_39 hw) (ow_58 hw) rfl (by decide)) (ow_39 hw) (ow_3 hw) (ow_40 hw) (by decide) (cc := 5) (ss := 10) (rm_duals2 l Z a0 hw a1 b17 b36 sl0 b23 (4607182418800017408 : UInt64) dc (0 : UInt64) (4607182418800017408 : UInt64) (13830554455654793216 : UInt64) (0 : UInt64) (13830554455654793216 : UInt64) (0 : UInt64) h55 n0 (Nat.le_trans Z0 K56.1) HI F20_basis_a1 F26_values_a1 V_b17 V_b36 V_sl0 V_b23) 1 rfl rfl (by decide) (by decide) rfl A32_a1 (argsL := []) (rest := [(.ref a1)]) opd_2 rfl rfl (Nat.le_refl _) od_prog_37_method_1_142 (pc' := 145) rfl rfl e55 (by decide) (by decide) ?_
  rintro v57 T57 h57 L57 X57 e57 ⟨od, rfl, lb57, Eq57, Nq57, V_od⟩
  have ne_a1_od : a1 ≠ od := Nat.ne_of_lt (Nat.lt_of_lt_of_le A32_a1.lt lb57)
  have ne_ca_od : ca ≠ od := Nat.ne_of_lt (Nat.lt_of_lt_of_le V_ca.lt lb57)
  have ne_b5_od : b5 ≠ od := Nat.ne_of_lt (Nat.lt_of_lt_of_le Q14.lt lb57)
  have ne_b17_od : b17 ≠ od := Nat.ne_of_lt (Nat.lt_of_lt_of_le V_b17.lt lb57)
  have ne_b23_od : b23 ≠ od := Nat.ne_of_lt (Nat.lt_of_lt_of_le V_b23.lt lb57)
  have ne_b29_od : b29 ≠ od := Nat.ne_of_lt (Nat.lt_of_lt_of_le V_b29.lt lb57)
  have ne_b36_od : b36 ≠ od := Nat.ne_of_lt (Nat.lt_of_lt_of_le V_b36.lt lb57)
  have ne_sl0_od : sl0 ≠ od := Nat.ne_of_lt (Nat.lt_of_lt_of_le V_sl0.lt lb57)
  have n0_od : n0 ≤ od := Nat.le_trans (Nat.le_trans Z0 K56.1) lb57
  have le58 : h0.size ≤ od := Nat.le_trans K56.1 lb57
  have N57 := N55.app Nq57
  have K59 := K56.ext Eq57
  replace A32_a1 := A32_a1.ext Eq57
  replace F2_size_a1 := F2_size_a1.ext Eq57
  replace F8_rightHandSide_a1 := F8_rightHandSide_a1.ext Eq57
  replace F20_basis_a1 := F20_basis_a1.ext Eq57
  replace F26_values_a1 := F26_values_a1.ext Eq57
  replace F32_slackOf_a1 := F32_slackOf_a1.ext Eq57
  replace F_duals := F_duals.ext Eq57
  replace V_ca := V_ca.ext Eq57
  replace Q14 := Q14.ext Eq57
  replace V_b17 := V_b17.ext Eq57
  replace V_b23 := V_b23.ext Eq57
  replace V_b29 := V_b29.ext Eq57
  replace V_b36 := V_b36.ext Eq57
  replace V_sl0 := V_sl0.ext Eq57
  refine own_putF X57 hx hby hZ hown (host := "") (Or.inl (ow_53 hw)) Via.refl e57 F_duals A32_a1 (Or.inl (ow_54 hw)) (ow_2 hw) (ty := (.array .double)) (by decide) rfl rfl od_prog_37_method_1_145 (pc' := 148) rfl ?_
  intro T60 h60 X60 e60 W60 F60_duals_a1 A60_a1
  replace F2_size_a1 := F2_size_a1.other W60 (Or.inr (slot_ne (Or.inr (ow_12 hw)) (Or.inl (ow_54 hw)) (by decide) (t := .int) (t' := (.array .double)) (by decide) (by decide)))
  replace F8_rightHandSide_a1 := F8_rightHandSide_a1.other W60 (Or.inr (slot_ne (Or.inr (ow_14 hw)) (Or.inl (ow_54 hw)) (by decide) (t := (.array .double)) (t' := (.array .double)) (by decide) (by decide)))
  replace F20_basis_a1 := F20_basis_a1.other W60 (Or.inr (slot_ne (Or.inr (ow_22 hw)) (Or.inl (ow_54 hw)) (by decide) (t := (.array (.array .double))) (t' := (.array .double)) (by decide) (by decide)))
  replace F26_values_a1 := F26_values_a1.other W60 (Or.inr (slot_ne (Or.inr (ow_24 hw)) (Or.inl (ow_54 hw)) (by decide) (t := (.array .double)) (t' := (.array .double)) (by decide) (by decide)))
  replace F32_slackOf_a1 := F32_slackOf_a1.other W60 (Or.inr (slot_ne (Or.inr (ow_27 hw)) (Or.inl (ow_54 hw)) (by decide) (t := (.array .int)) (t' := (.array .double)) (by decide) (by decide)))
  have K61 := K59.wr W60 (Or.inl (List.mem_of_getElem? (i := 0) rfl))
  replace V_ca := V_ca.other W60 (Ne.symm ne_a1_ca)
  replace Q14 := Q14.other W60 (Ne.symm ne_a1_b5)
  replace V_b17 := V_b17.other W60 (Ne.symm ne_a1_b17)
  replace V_b23 := V_b23.other W60 (Ne.symm ne_a1_b23)
  replace V_b29 := V_b29.other W60 (Ne.symm ne_a1_b29)
  replace V_b36 := V_b36.other W60 (Ne.symm ne_a1_b36)
  replace V_sl0 := V_sl0.other W60 (Ne.symm ne_a1_sl0)
  replace V_od := V_od.other W60 (Ne.symm ne_a1_od)
  have N60 := own_fr1 (sl := Jvm.RoadKit.slotOf Z "com/example/bindery/bindery/selection/BindingMix" "duals" "[D") N57 n0_a1
  exact own_ret0 X60 hx hby hlk hrt od_prog_37_method_1_148 (by first | exact ⟨rfl, N60, K61, b5, b17, b23, b29, b36, sl0, od, le6, le18, le24, le30, le37, le50, le58, ne_a1_b5, ne_a1_b17, ne_a1_b23, ne_a1_b29, ne_a1_b36, ne_a1_sl0, ne_a1_od, ne_b5_b17, ne_b5_b23, ne_b5_b29, ne_b5_b36, ne_b5_sl0, ne_b5_od, ne_b17_b23, ne_b17_b29, ne_b17_b36, ne_b17_sl0, ne_b17_od, ne_b23_b29, ne_b23_b36, ne_b23_sl0, ne_b23_od, ne_b29_b36, ne_b29_sl0, ne_b29_od, ne_b36_sl0, ne_b36_od, ne_sl0_od, A60_a1, F2_size_a1, F8_rightHandSide_a1, F20_basis_a1, F26_values_a1, F32_slackOf_a1, F60_duals_a1, Q14, V_b17, V_b23, V_b29, V_b36, V_sl0, V_od⟩ | (rw [e60]; exact ⟨rfl, N60, K61, b5, b17, b23, b29, b36, sl0, od, le6, le18, le24, le30, le37, le50, le58, ne_a1_b5, ne_a1_b17, ne_a1_b23, ne_a1_b29, ne_a1_b36, ne_a1_sl0, ne_a1_od, ne_b5_b17, ne_b5_b23, ne_b5_b29, ne_b5_b36, ne_b5_sl0, ne_b5_od, ne_b17_b23, ne_b17_b29, ne_b17_b36, ne_b17_sl0, ne_b17_od, ne_b23_b29, ne_b23_b36, ne_b23_sl0, ne_b23_od, ne_b29_b36, ne_b29_sl0, ne_b29_od, ne_b36_sl0, ne_b36_od, ne_sl0_od, A60_a1, F2_size_a1, F8_rightHandSide_a1, F20_basis_a1, F26_values_a1, F32_slackOf_a1, F60_duals_a1, Q14, V_b17, V_b23, V_b29, V_b36, V_sl0, V_od⟩)) (by decide) (by decide)
theorem ef_rm_prices1 (m : MethodId) (x0 : Addr) : entryFrame m #[(.ref x0)] 3 = mkF m 0 #[.val (.ref x0), .unset, .unset] [] := by first | (simp [entryFrame, mkF, argsToLocals, Value.category]; done) | rfl
set_option maxRecDepth 65536 in
set_option maxHeartbeats 40000000 in
theorem rm_prices1 (l : Launch) (Z : State) (a0 : Array Value) (hw : ∀ d ∈ tables_1, d.before a0 Z = true) (a1 du : Addr) (h0 : Heap) (n0 : Nat) (Z0 : n0 ≤ h0.size)  (F_size : Fld Z h0 a1 "com/example/bindery/bindery/selection/BindingMix" "size" "I" (.int (1 : Int32))) (F_duals : Fld Z h0 a1 "com/example/bindery/bindery/selection/BindingMix" "duals" "[D" (.ref du)) (V_du : own_D Z h0 du (1 : Int32) [.double (13830554455654793216 : UInt64)]) :
    own_Met l Z (⟨"com/example/bindery/bindery/selection/BindingMix", "prices", "()[D"⟩ : MethodName) prog_37_method_2_code 3 (some (.array .double)) ({ frames := 0, cells := 1, slots := 0, locals := 0 } : Room) #[(.ref a1)] h0 (fun v h L => ∃ b : Addr, v = some (.ref b) ∧ h0.size ≤ b ∧ Ext h0 h ∧ Fr n0 L ∧ own_D Z h b (0 : Int32) []) := by
  refine own_body (plainFor_of_name (by first | (simp [plainName, overriddenIn]; done) | decide +kernel)) ?_
  intro p e s m below meth c s₁ hx hby hml hown hnm hlk hrt hZ X0 e0
  refine own_enter (ef_rm_prices1 m a1) ?_
  have N0 := Fr.nil n0
  refine own_aloadN X0 hx hby od_prog_37_method_2_0 (pc' := 1) rfl rfl rfl ?_
  refine own_getF X0 hx hby hZ hown (host := "") (Or.inl (ow_11 hw)) Via.refl e0 F_size od_prog_37_method_2_1 (pc' := 4) rfl ?_
  intro T1 X1 e1
  refine own_iconst X1 hx hby od_prog_37_method_2_4 (pc' := 5) rfl (z := 1) rfl ?_
  refine own_isubE X1 hx hby od_prog_37_method_2_5 (pc' := 6) rfl (v := (0 : Int32)) rfl ?_
  refine own_newD X1 hx hby hZ (ow_4 hw) e1 od_prog_37_method_2_6 (pc' := 8) rfl (by decide) (cap := 0) (by decide) (by decide) (by decide) (by decide) (vs := []) rfl ?_
  intro T2 h2 b2 g2 X2 e2 E2 V_b2
  have ne_a1_b2 : a1 ≠ b2 := own_nl F_size.lt g2
  have ne_du_b2 : du ≠ b2 := own_nl V_du.lt g2
  have le3 : h0.size ≤ b2 := Nat.le_of_eq g2.symm
  have n0_b2 : n0 ≤ b2 := Nat.le_trans Z0 (Nat.le_of_eq g2.symm)
  replace F_size := F_size.ext E2
  replace F_duals := F_duals.ext E2
  replace V_du := V_du.ext E2
  refine own_astoreN X2 hx hby od_prog_37_method_2_8 (pc' := 9) rfl rfl (Ls' := #[.val (.ref a1), .val (.ref b2), .unset]) rfl ?_
  refine own_iconst X2 hx hby od_prog_37_method_2_9 (pc' := 10) rfl (z := 0) rfl ?_
  refine own_istoreN X2 hx hby od_prog_37_method_2_10 (pc' := 11) rfl (Ls' := #[.val (.ref a1), .val (.ref b2), .val (.int (0 : Int32))]) rfl ?_
  refine own_iloadN X2 hx hby od_prog_37_method_2_11 (pc' := 12) rfl rfl ?_
  refine own_aloadN X2 hx hby od_prog_37_method_2_12 (pc' := 13) rfl rfl rfl ?_
  refine own_alD X2 hx hby hZ e2 V_b2 od_prog_37_method_2_13 (pc' := 14) rfl ?_
  refine own_icmpY X2 hx hby od_prog_37_method_2_14 (by decide) (pc' := 38) (by decide) (flt (by decide)).2.1 ?_
  refine own_aloadN X2 hx hby od_prog_37_method_2_38 (pc' := 39) rfl rfl rfl ?_
  exact own_retA X2 hx hby hlk hrt rfl rfl od_prog_37_method_2_39 (by first | exact ⟨b2, rfl, le3, E2, N0, V_b2⟩ | (rw [e2]; exact ⟨b2, rfl, le3, E2, N0, V_b2⟩)) (by decide) (by decide)
theorem ef_rm_prices3 (m : MethodId) (x0 : Addr) : entryFrame m #[(.ref x0)] 3 = mkF m 0 #[.val (.ref x0), .unset, .unset] [] := by first | (simp [entryFrame, mkF, argsToLocals, Value.category]; done) | rfl
set_option maxRecDepth 65536 in
set_option maxHeartbeats 40000000 in
theorem rm_prices3 (l : Launch) (Z : State) (a0 : Array Value) (hw : ∀ d ∈ tables_1, d.before a0 Z = true) (a1 du : Addr) (h0 : Heap) (n0 : Nat) (Z0 : n0 ≤ h0.size)  (F_size : Fld Z h0 a1 "com/example/bindery/bindery/selection/BindingMix" "size" "I" (.int (3 : Int32))) (F_duals : Fld Z h0 a1 "com/example/bindery/bindery/selection/BindingMix" "duals" "[D" (.ref du)) (V_du : own_D Z h0 du (3 : Int32) [.double (13830554455654793216 : UInt64), .double (0 : UInt64), .double (0 : UInt64)]) :
    own_Met l Z (⟨"com/example/bindery/bindery/selection/BindingMix", "prices", "()[D"⟩ : MethodName) prog_37_method_2_code 3 (some (.array .double)) ({ frames := 1, cells := 1, slots := 2, locals := 17 } : Room) #[(.ref a1)] h0 (fun v h L => ∃ b : Addr, v = some (.ref b) ∧ h0.size ≤ b ∧ Ext h0 h ∧ Fr n0 L ∧ own_D Z h b (2 : Int32) [.double (0 : UInt64), .double (0 : UInt64)]) := by
  refine own_body (plainFor_of_name (by first | (simp [plainName, overriddenIn]; done) | decide +kernel)) ?_
  intro p e s m below meth c s₁ hx hby hml hown hnm hlk hrt hZ X0 e0
  refine own_enter (ef_rm_prices3 m a1) ?_
  have N0 := Fr.nil n0
  refine own_aloadN X0 hx hby od_prog_37_method_2_0 (pc' := 1) rfl rfl rfl ?_
  refine own_getF X0 hx hby hZ hown (host := "") (Or.inl (ow_11 hw)) Via.refl e0 F_size od_prog_37_method_2_1 (pc' := 4) rfl ?_
  intro T1 X1 e1
  refine own_iconst X1 hx hby od_prog_37_method_2_4 (pc' := 5) rfl (z := 1) rfl ?_
  refine own_isubE X1 hx hby od_prog_37_method_2_5 (pc' := 6) rfl (v := (2 : Int32)) rfl ?_
  refine own_newD X1 hx hby hZ (ow_4 hw) e1 od_prog_37_method_2_6 (pc' := 8) rfl (by decide) (cap := 2) (by decide) (by decide) (by decide) (by decide) (vs := [.double (0 : UInt64), .double (0 : UInt64)]) rfl ?_
  intro T2 h2 b2 g2 X2 e2 E2 V_b2
  have ne_a1_b2 : a1 ≠ b2 := own_nl F_size.lt g2
  have ne_du_b2 : du ≠ b2 := own_nl V_du.lt g2
  have le3 : h0.size ≤ b2 := Nat.le_of_eq g2.symm
  have n0_b2 : n0 ≤ b2 := Nat.le_trans Z0 (Nat.le_of_eq g2.symm)
  replace F_size := F_size.ext E2
  replace F_duals := F_duals.ext E2
  replace V_du := V_du.ext E2
  refine own_astoreN X2 hx hby od_prog_37_method_2_8 (pc' := 9) rfl rfl (Ls' := #[.val (.ref a1), .val (.ref b2), .unset]) rfl ?_
  refine own_iconst X2 hx hby od_prog_37_method_2_9 (pc' := 10) rfl (z := 0) rfl ?_
  refine own_istoreN X2 hx hby od_prog_37_method_2_10 (pc' := 11) rfl (Ls' := #[.val (.ref a1), .val (.ref b2), .val (.int (0 : Int32))]) rfl ?_
  refine own_iloadN X2 hx hby od_prog_37_method_2_11 (pc' := 12) rfl rfl ?_
  refine own_aloadN X2 hx hby od_prog_37_method_2_12 (pc' := 13) rfl rfl rfl ?_
  refine own_alD X2 hx hby hZ e2 V_b2 od_prog_37_method_2_13 (pc' := 14) rfl ?_
  refine own_icmpN X2 hx hby od_prog_37_method_2_14 (pc' := 17) rfl (tlt (by decide)).2.1 ?_
  refine own_aloadN X2 hx hby od_prog_37_method_2_17 (pc' := 18) rfl rfl rfl ?_
  refine own_iloadN X2 hx hby od_prog_37_method_2_18 (pc' := 19) rfl rfl ?_
  refine own_dconst0 X2 hx hby od_prog_37_method_2_19 (pc' := 20) rfl (v := (0 : UInt64)) rfl ?_
  refine own_aloadN X2 hx hby od_prog_37_method_2_20 (pc' := 21) rfl rfl rfl ?_
  refine own_getF X2 hx hby hZ hown (host := "") (Or.inl (ow_53 hw)) Via.refl e2 F_duals od_prog_37_method_2_21 (pc' := 24) rfl ?_
  intro T4 X4 e4
  refine own_iloadN X4 hx hby od_prog_37_method_2_24 (pc' := 25) rfl rfl ?_
  refine own_iconst X4 hx hby od_prog_37_method_2_25 (pc' := 26) rfl (z := 1) rfl ?_
  refine own_iaddE X4 hx hby od_prog_37_method_2_26 (pc' := 27) rfl (v := (1 : Int32)) rfl ?_
  refine own_daD X4 hx hby hZ e4 V_du ⟨by decide, by decide⟩ (v := (0 : UInt64)) rfl od_prog_37_method_2_27 (pc' := 28) rfl ?_
  refine own_maxD X4 hx hby hZ hml hown (ow_65 hw) (ow_66 hw) (ow_50 hw) (ow_67 hw) e4 okl_3 okl_3 (v := (0 : UInt64)) okl_15 rfl od_prog_37_method_2_28 (pc' := 31) rfl (W := 2) (Nat.le_refl _) (by decide) (by decide) (by decide) (by decide) ?_
  intro T5 X5 e5
  refine own_dsD X5 hx hby hZ e5 V_b2 ⟨by decide, by decide⟩ 0 rfl (Nat.le_of_ble_eq_true rfl) (ys := [.double (0 : UInt64), .double (0 : UInt64)]) rfl od_prog_37_method_2_31 (pc' := 32) rfl ?_
  intro T6 h6 X6 e6 W6 Q6
  have Ea7 := own_xw E2 W6 le3
  replace F_size := F_size.other W6 (Or.inl ne_a1_b2)
  replace F_duals := F_duals.other W6 (Or.inl ne_a1_b2)
  replace V_du := V_du.other W6 ne_du_b2
  replace V_b2 := Q6
  have N6 := own_fr1 (sl := ((0 : Int32)).toNatClampNeg) N0 n0_b2
  refine own_iinc X6 hx hby od_prog_37_method_2_32 (pc' := 35) rfl rfl (z := 1) rfl (Ls' := #[.val (.ref a1), .val (.ref b2), .val (.int (1 : Int32))]) rfl ?_
  refine own_goto X6 hx hby od_prog_37_method_2_35 (by decide) (pc' := 11) (by decide) ?_
  refine own_iloadN X6 hx hby od_prog_37_method_2_11 (pc' := 12) rfl rfl ?_
  refine own_aloadN X6 hx hby od_prog_37_method_2_12 (pc' := 13) rfl rfl rfl ?_
  refine own_alD X6 hx hby hZ e6 V_b2 od_prog_37_method_2_13 (pc' := 14) rfl ?_
  refine own_icmpN X6 hx hby od_prog_37_method_2_14 (pc' := 17) rfl (tlt (by decide)).2.1 ?_
  refine own_aloadN X6 hx hby od_prog_37_method_2_17 (pc' := 18) rfl rfl rfl ?_
  refine own_iloadN X6 hx hby od_prog_37_method_2_18 (pc' := 19) rfl rfl ?_
  refine own_dconst0 X6 hx hby od_prog_37_method_2_19 (pc' := 20) rfl (v := (0 : UInt64)) rfl ?_
  refine own_aloadN X6 hx hby od_prog_37_method_2_20 (pc' := 21) rfl rfl rfl ?_
  refine own_getF X6 hx hby hZ hown (host := "") (Or.inl (ow_53 hw)) Via.refl e6 F_duals od_prog_37_method_2_21 (pc' := 24) rfl ?_
  intro T8 X8 e8
  refine own_iloadN X8 hx hby od_prog_37_method_2_24 (pc' := 25) rfl rfl ?_
  refine own_iconst X8 hx hby od_prog_37_method_2_25 (pc' := 26) rfl (z := 1) rfl ?_
  refine own_iaddE X8 hx hby od_prog_37_method_2_26 (pc' := 27) rfl (v := (2 : Int32)) rfl ?_
  refine own_daD X8 hx hby hZ e8 V_du ⟨by decide, by decide⟩ (v := (0 : UInt64)) rfl od_prog_37_method_2_27 (pc' := 28) rfl ?_
  refine own_maxD X8 hx hby hZ hml hown (ow_65 hw) (ow_66 hw) (ow_50 hw) (ow_67 hw) e8 okl_3 okl_3 (v := (0 : UInt64)) okl_15 rfl od_prog_37_method_2_28 (pc' := 31) rfl (W := 2) (Nat.le_refl _) (by decide) (by decide) (by decide) (by decide) ?_
  intro T9 X9 e9
  refine own_dsD X9 hx hby hZ e9 V_b2 ⟨by decide, by decide⟩ 1 rfl (Nat.le_of_ble_eq_true rfl) (ys := [.double (0 : UInt64), .double (0 : UInt64)]) rfl od_prog_37_method_2_31 (pc' := 32) rfl ?_
  intro T10 h10 X10 e10 W10 Q10
  have Ea11 := own_xw Ea7 W10 le3
  replace F_size := F_size.other W10 (Or.inl ne_a1_b2)
  replace F_duals := F_duals.other W10 (Or.inl ne_a1_b2)
  replace V_du := V_du.other W10 ne_du_b2
  replace V_b2 := Q10
  have N10 := own_fr1 (sl := ((1 : Int32)).toNatClampNeg) N6 n0_b2
  refine own_iinc X10 hx hby od_prog_37_method_2_32 (pc' := 35) rfl rfl (z := 1) rfl (Ls' := #[.val (.ref a1), .val (.ref b2), .val (.int (2 : Int32))]) rfl ?_
  refine own_goto X10 hx hby od_prog_37_method_2_35 (by decide) (pc' := 11) (by decide) ?_
  refine own_iloadN X10 hx hby od_prog_37_method_2_11 (pc' := 12) rfl rfl ?_
  refine own_aloadN X10 hx hby od_prog_37_method_2_12 (pc' := 13) rfl rfl rfl ?_
  refine own_alD X10 hx hby hZ e10 V_b2 od_prog_37_method_2_13 (pc' := 14) rfl ?_
  refine own_icmpY X10 hx hby od_prog_37_method_2_14 (by decide) (pc' := 38) (by decide) (flt (by decide)).2.1 ?_
  refine own_aloadN X10 hx hby od_prog_37_method_2_38 (pc' := 39) rfl rfl rfl ?_
  exact own_retA X10 hx hby hlk hrt rfl rfl od_prog_37_method_2_39 (by first | exact ⟨b2, rfl, le3, Ea11, N10, V_b2⟩ | (rw [e10]; exact ⟨b2, rfl, le3, Ea11, N10, V_b2⟩)) (by decide) (by decide)
theorem ef_rm_prices2 (m : MethodId) (x0 : Addr) : entryFrame m #[(.ref x0)] 3 = mkF m 0 #[.val (.ref x0), .unset, .unset] [] := by first | (simp [entryFrame, mkF, argsToLocals, Value.category]; done) | rfl
set_option maxRecDepth 65536 in
set_option maxHeartbeats 40000000 in
theorem rm_prices2 (l : Launch) (Z : State) (a0 : Array Value) (hw : ∀ d ∈ tables_1, d.before a0 Z = true) (a1 du : Addr) (uy0 uy1 uz : UInt64) (h0 : Heap) (n0 : Nat) (Z0 : n0 ≤ h0.size) (Hn : Jvm.Free.Fl.NoNaN64 uy1) (Hm : Jvm.Native.java_lang_Math.nans.pick64 true (0 : UInt64) uy1 = uz) (F_size : Fld Z h0 a1 "com/example/bindery/bindery/selection/BindingMix" "size" "I" (.int (2 : Int32))) (F_duals : Fld Z h0 a1 "com/example/bindery/bindery/selection/BindingMix" "duals" "[D" (.ref du)) (V_du : own_D Z h0 du (2 : Int32) [.double uy0, .double uy1]) :
    own_Met l Z (⟨"com/example/bindery/bindery/selection/BindingMix", "prices", "()[D"⟩ : MethodName) prog_37_method_2_code 3 (some (.array .double)) ({ frames := 1, cells := 1, slots := 1, locals := 17 } : Room) #[(.ref a1)] h0 (fun v h L => ∃ b : Addr, v = some (.ref b) ∧ h0.size ≤ b ∧ Ext h0 h ∧ Fr n0 L ∧ own_D Z h b (1 : Int32) [.double uz]) := by
  refine own_body (plainFor_of_name (by first | (simp [plainName, overriddenIn]; done) | decide +kernel)) ?_
  intro p e s m below meth c s₁ hx hby hml hown hnm hlk hrt hZ X0 e0
  refine own_enter (ef_rm_prices2 m a1) ?_
  have N0 := Fr.nil n0
  refine own_aloadN X0 hx hby od_prog_37_method_2_0 (pc' := 1) rfl rfl rfl ?_
  refine own_getF X0 hx hby hZ hown (host := "") (Or.inl (ow_11 hw)) Via.refl e0 F_size od_prog_37_method_2_1 (pc' := 4) rfl ?_
  intro T1 X1 e1
  refine own_iconst X1 hx hby od_prog_37_method_2_4 (pc' := 5) rfl (z := 1) rfl ?_
  refine own_isubE X1 hx hby od_prog_37_method_2_5 (pc' := 6) rfl (v := (1 : Int32)) rfl ?_
  refine own_newD X1 hx hby hZ (ow_4 hw) e1 od_prog_37_method_2_6 (pc' := 8) rfl (by decide) (cap := 1) (by decide) (by decide) (by decide) (by decide) (vs := [.double (0 : UInt64)]) rfl ?_
  intro T2 h2 b2 g2 X2 e2 E2 V_b2
  have ne_a1_b2 : a1 ≠ b2 := own_nl F_size.lt g2
  have ne_du_b2 : du ≠ b2 := own_nl V_du.lt g2
  have le3 : h0.size ≤ b2 := Nat.le_of_eq g2.symm
  have n0_b2 : n0 ≤ b2 := Nat.le_trans Z0 (Nat.le_of_eq g2.symm)
  replace F_size := F_size.ext E2
  replace F_duals := F_duals.ext E2
  replace V_du := V_du.ext E2
  refine own_astoreN X2 hx hby od_prog_37_method_2_8 (pc' := 9) rfl rfl (Ls' := #[.val (.ref a1), .val (.ref b2), .unset]) rfl ?_
  refine own_iconst X2 hx hby od_prog_37_method_2_9 (pc' := 10) rfl (z := 0) rfl ?_
  refine own_istoreN X2 hx hby od_prog_37_method_2_10 (pc' := 11) rfl (Ls' := #[.val (.ref a1), .val (.ref b2), .val (.int (0 : Int32))]) rfl ?_
  refine own_iloadN X2 hx hby od_prog_37_method_2_11 (pc' := 12) rfl rfl ?_
  refine own_aloadN X2 hx hby od_prog_37_method_2_12 (pc' := 13) rfl rfl rfl ?_
  refine own_alD X2 hx hby hZ e2 V_b2 od_prog_37_method_2_13 (pc' := 14) rfl ?_
  refine own_icmpN X2 hx hby od_prog_37_method_2_14 (pc' := 17) rfl (tlt (by decide)).2.1 ?_
  refine own_aloadN X2 hx hby od_prog_37_method_2_17 (pc' := 18) rfl rfl rfl ?_
  refine own_iloadN X2 hx hby od_prog_37_method_2_18 (pc' := 19) rfl rfl ?_
  refine own_dconst0 X2 hx hby od_prog_37_method_2_19 (pc' := 20) rfl (v := (0 : UInt64)) rfl ?_
  refine own_aloadN X2 hx hby od_prog_37_method_2_20 (pc' := 21) rfl rfl rfl ?_
  refine own_getF X2 hx hby hZ hown (host := "") (Or.inl (ow_53 hw)) Via.refl e2 F_duals od_prog_37_method_2_21 (pc' := 24) rfl ?_
  intro T4 X4 e4
  refine own_iloadN X4 hx hby od_prog_37_method_2_24 (pc' := 25) rfl rfl ?_
  refine own_iconst X4 hx hby od_prog_37_method_2_25 (pc' := 26) rfl (z := 1) rfl ?_
  refine own_iaddE X4 hx hby od_prog_37_method_2_26 (pc' := 27) rfl (v := (1 : Int32)) rfl ?_
  refine own_daD X4 hx hby hZ e4 V_du ⟨by decide, by decide⟩ (v := uy1) rfl od_prog_37_method_2_27 (pc' := 28) rfl ?_
  refine own_maxD X4 hx hby hZ hml hown (ow_65 hw) (ow_66 hw) (ow_50 hw) (ow_67 hw) e4 okl_3 Hn (v := uz) Hm rfl od_prog_37_method_2_28 (pc' := 31) rfl (W := 2) (Nat.le_refl _) (by decide) (by decide) (by decide) (by decide) ?_
  intro T5 X5 e5
  refine own_dsD X5 hx hby hZ e5 V_b2 ⟨by decide, by decide⟩ 0 rfl (Nat.le_of_ble_eq_true rfl) (ys := [.double uz]) rfl od_prog_37_method_2_31 (pc' := 32) rfl ?_
  intro T6 h6 X6 e6 W6 Q6
  have Ea7 := own_xw E2 W6 le3
  replace F_size := F_size.other W6 (Or.inl ne_a1_b2)
  replace F_duals := F_duals.other W6 (Or.inl ne_a1_b2)
  replace V_du := V_du.other W6 ne_du_b2
  replace V_b2 := Q6
  have N6 := own_fr1 (sl := ((0 : Int32)).toNatClampNeg) N0 n0_b2
  refine own_iinc X6 hx hby od_prog_37_method_2_32 (pc' := 35) rfl rfl (z := 1) rfl (Ls' := #[.val (.ref a1), .val (.ref b2), .val (.int (1 : Int32))]) rfl ?_
  refine own_goto X6 hx hby od_prog_37_method_2_35 (by decide) (pc' := 11) (by decide) ?_
  refine own_iloadN X6 hx hby od_prog_37_method_2_11 (pc' := 12) rfl rfl ?_
  refine own_aloadN X6 hx hby od_prog_37_method_2_12 (pc' := 13) rfl rfl rfl ?_
  refine own_alD X6 hx hby hZ e6 V_b2 od_prog_37_method_2_13 (pc' := 14) rfl ?_
  refine own_icmpY X6 hx hby od_prog_37_method_2_14 (by decide) (pc' := 38) (by decide) (flt (by decide)).2.1 ?_
  refine own_aloadN X6 hx hby od_prog_37_method_2_38 (pc' := 39) rfl rfl rfl ?_
  exact own_retA X6 hx hby hlk hrt rfl rfl od_prog_37_method_2_39 (by first | exact ⟨b2, rfl, le3, Ea7, N6, V_b2⟩ | (rw [e6]; exact ⟨b2, rfl, le3, Ea7, N6, V_b2⟩)) (by decide) (by decide)
theorem ef_rm_mat (m : MethodId) (x0 : Addr) : entryFrame m #[(.ref x0)] 4 = mkF m 0 #[.val (.ref x0), .unset, .unset, .unset] [] := by first | (simp [entryFrame, mkF, argsToLocals, Value.category]; done) | rfl
set_option maxRecDepth 65536 in
set_option maxHeartbeats 40000000 in
theorem rm_mat (l : Launch) (Z : State) (a0 : Array Value) (hw : ∀ d ∈ tables_1, d.before a0 Z = true) (a1 ba r0 r1 : Addr) (m00 m01 m10 m11 : UInt64) (h0 : Heap) (n0 : Nat) (Z0 : n0 ≤ h0.size) (F_size : Fld Z h0 a1 "com/example/bindery/bindery/selection/BindingMix" "size" "I" (.int (2 : Int32))) (F_basis : Fld Z h0 a1 "com/example/bindery/bindery/selection/BindingMix" "basis" "[[D" (.ref ba)) (V_ba : own_DD Z h0 ba (2 : Int32) [.ref r0, .ref r1]) (V_r0 : own_D Z h0 r0 (2 : Int32) [.double m00, .double m01]) (V_r1 : own_D Z h0 r1 (2 : Int32) [.double m10, .double m11]) :
    own_Met l Z (⟨"com/example/bindery/bindery/selection/BindingMix", "basisMatrix", "()[[D"⟩ : MethodName) prog_37_method_8_code 4 (some (.array (.array .double))) ({ frames := 0, cells := 3, slots := 6, locals := 0 } : Room) #[(.ref a1)] h0 (fun v h L => ∃ b x y : Addr, h0.size ≤ b ∧ h0.size ≤ x ∧ h0.size ≤ y ∧ v = some (.ref b) ∧ b ≠ x ∧ b ≠ y ∧ x ≠ y ∧ Ext h0 h ∧ Fr n0 L ∧ own_DD Z h b (2 : Int32) [.ref x, .ref y] ∧ own_D Z h x (2 : Int32) [.double m00, .double m10] ∧ own_D Z h y (2 : Int32) [.double m01, .double m11]) := by
  refine own_body (plainFor_of_name (by first | (simp [plainName, overriddenIn]; done) | decide +kernel)) ?_
  intro p e s m below meth c s₁ hx hby hml hown hnm hlk hrt hZ X0 e0
  refine own_enter (ef_rm_mat m a1) ?_
  have N0 := Fr.nil n0
  refine own_aloadN X0 hx hby od_prog_37_method_8_0 (pc' := 1) rfl rfl rfl ?_
  refine own_getF X0 hx hby hZ hown (host := "") (Or.inl (ow_11 hw)) Via.refl e0 F_size od_prog_37_method_8_1 (pc' := 4) rfl ?_
  intro T1 X1 e1
  refine own_aloadN X1 hx hby od_prog_37_method_8_4 (pc' := 5) rfl rfl rfl ?_
  refine own_getF X1 hx hby hZ hown (host := "") (Or.inl (ow_11 hw)) Via.refl e1 F_size od_prog_37_method_8_5 (pc' := 8) rfl ?_
  intro T2 X2 e2
  refine own_gridD X2 hx hby hZ hown (ow_81 hw) (ow_20 hw) (ow_4 hw) e2 od_prog_37_method_8_8 (pc' := 12) rfl (by decide) (by decide) ?_
  intro T3 h3 b3 bx3 by3 g3 gx3 gy3 X3 e3 E3 V_b3 V_bx3 V_by3
  have ne_a1_b3 : a1 ≠ b3 := own_nl F_size.lt g3
  have ne_ba_b3 : ba ≠ b3 := own_nl V_ba.lt g3
  have ne_r0_b3 : r0 ≠ b3 := own_nl V_r0.lt g3
  have ne_r1_b3 : r1 ≠ b3 := own_nl V_r1.lt g3
  have n0_b3 : n0 ≤ b3 := Nat.le_trans Z0 (own_g0 g3)
  have le4 : h0.size ≤ b3 := Nat.le_trans (Nat.le_refl _) (own_g0 g3)
  have ne_a1_bx3 : a1 ≠ bx3 := own_nl1 F_size.lt gx3
  have ne_ba_bx3 : ba ≠ bx3 := own_nl1 V_ba.lt gx3
  have ne_r0_bx3 : r0 ≠ bx3 := own_nl1 V_r0.lt gx3
  have ne_r1_bx3 : r1 ≠ bx3 := own_nl1 V_r1.lt gx3
  have n0_bx3 : n0 ≤ bx3 := Nat.le_trans Z0 (own_g1 gx3)
  have le5 : h0.size ≤ bx3 := Nat.le_trans (Nat.le_refl _) (own_g1 gx3)
  have ne_a1_by3 : a1 ≠ by3 := own_nl2 F_size.lt gy3
  have ne_ba_by3 : ba ≠ by3 := own_nl2 V_ba.lt gy3
  have ne_r0_by3 : r0 ≠ by3 := own_nl2 V_r0.lt gy3
  have ne_r1_by3 : r1 ≠ by3 := own_nl2 V_r1.lt gy3
  have n0_by3 : n0 ≤ by3 := Nat.le_trans Z0 (own_g2 gy3)
  have le6 : h0.size ≤ by3 := Nat.le_trans (Nat.le_refl _) (own_g2 gy3)
  have ne_b3_bx3 : b3 ≠ bx3 := own_g01 g3 gx3
  have ne_b3_by3 : b3 ≠ by3 := own_g02 g3 gy3
  have ne_bx3_by3 : bx3 ≠ by3 := own_g12 gx3 gy3
  replace F_size := F_size.ext E3
  replace F_basis := F_basis.ext E3
  replace V_ba := V_ba.ext E3
  replace V_r0 := V_r0.ext E3
  replace V_r1 := V_r1.ext E3
  refine own_astoreN X3 hx hby od_prog_37_method_8_12 (pc' := 13) rfl rfl (Ls' := #[.val (.ref a1), .val (.ref b3), .unset, .unset]) rfl ?_
  refine own_iconst X3 hx hby od_prog_37_method_8_13 (pc' := 14) rfl (z := 0) rfl ?_
  refine own_istoreN X3 hx hby od_prog_37_method_8_14 (pc' := 15) rfl (Ls' := #[.val (.ref a1), .val (.ref b3), .val (.int (0 : Int32)), .unset]) rfl ?_
  refine own_iloadN X3 hx hby od_prog_37_method_8_15 (pc' := 16) rfl rfl ?_
  refine own_aloadN X3 hx hby od_prog_37_method_8_16 (pc' := 17) rfl rfl rfl ?_
  refine own_getF X3 hx hby hZ hown (host := "") (Or.inl (ow_11 hw)) Via.refl e3 F_size od_prog_37_method_8_17 (pc' := 20) rfl ?_
  intro T7 X7 e7
  refine own_icmpN X7 hx hby od_prog_37_method_8_20 (pc' := 23) rfl (tlt (by decide)).2.1 ?_
  refine own_iconst X7 hx hby od_prog_37_method_8_23 (pc' := 24) rfl (z := 0) rfl ?_
  refine own_istoreN X7 hx hby od_prog_37_method_8_24 (pc' := 25) rfl (Ls' := #[.val (.ref a1), .val (.ref b3), .val (.int (0 : Int32)), .val (.int (0 : Int32))]) rfl ?_
  refine own_iloadN X7 hx hby od_prog_37_method_8_25 (pc' := 26) rfl rfl ?_
  refine own_aloadN X7 hx hby od_prog_37_method_8_26 (pc' := 27) rfl rfl rfl ?_
  refine own_getF X7 hx hby hZ hown (host := "") (Or.inl (ow_11 hw)) Via.refl e7 F_size od_prog_37_method_8_27 (pc' := 30) rfl ?_
  intro T8 X8 e8
  refine own_icmpN X8 hx hby od_prog_37_method_8_30 (pc' := 33) rfl (tlt (by decide)).2.1 ?_
  refine own_aloadN X8 hx hby od_prog_37_method_8_33 (pc' := 34) rfl rfl rfl ?_
  refine own_iloadN X8 hx hby od_prog_37_method_8_34 (pc' := 35) rfl rfl ?_
  refine own_aaD X8 hx hby hZ e8 V_b3 ⟨by decide, by decide⟩ (v := (.ref bx3)) rfl od_prog_37_method_8_35 (pc' := 36) rfl ?_
  refine own_iloadN X8 hx hby od_prog_37_method_8_36 (pc' := 37) rfl rfl ?_
  refine own_aloadN X8 hx hby od_prog_37_method_8_37 (pc' := 38) rfl rfl rfl ?_
  refine own_getF X8 hx hby hZ hown (host := "") (Or.inl (ow_21 hw)) Via.refl e8 F_basis od_prog_37_method_8_38 (pc' := 41) rfl ?_
  intro T9 X9 e9
  refine own_iloadN X9 hx hby od_prog_37_method_8_41 (pc' := 42) rfl rfl ?_
  refine own_aaD X9 hx hby hZ e9 V_ba ⟨by decide, by decide⟩ (v := (.ref r0)) rfl od_prog_37_method_8_42 (pc' := 43) rfl ?_
  refine own_iloadN X9 hx hby od_prog_37_method_8_43 (pc' := 44) rfl rfl ?_
  refine own_daD X9 hx hby hZ e9 V_r0 ⟨by decide, by decide⟩ (v := m00) rfl od_prog_37_method_8_44 (pc' := 45) rfl ?_
  refine own_dsD X9 hx hby hZ e9 V_bx3 ⟨by decide, by decide⟩ 0 rfl (Nat.le_of_ble_eq_true rfl) (ys := [.double m00, .double (0 : UInt64)]) rfl od_prog_37_method_8_45 (pc' := 46) rfl ?_
  intro T10 h10 X10 e10 W10 Q10
  have Ea11 := own_xw E3 W10 le5
  replace F_size := F_size.other W10 (Or.inl ne_a1_bx3)
  replace F_basis := F_basis.other W10 (Or.inl ne_a1_bx3)
  replace V_ba := V_ba.other W10 ne_ba_bx3
  replace V_r0 := V_r0.other W10 ne_r0_bx3
  replace V_r1 := V_r1.other W10 ne_r1_bx3
  replace V_b3 := V_b3.other W10 ne_b3_bx3
  replace V_by3 := V_by3.other W10 (Ne.symm ne_bx3_by3)
  replace V_bx3 := Q10
  have N10 := own_fr1 (sl := ((0 : Int32)).toNatClampNeg) N0 n0_bx3
  refine own_iinc X10 hx hby od_prog_37_method_8_46 (pc' := 49) rfl rfl (z := 1) rfl (Ls' := #[.val (.ref a1), .val (.ref b3), .val (.int (0 : Int32)), .val (.int (1 : Int32))]) rfl ?_
  refine own_goto X10 hx hby od_prog_37_method_8_49 (by decide) (pc' := 25) (by decide) ?_
  refine own_iloadN X10 hx hby od_prog_37_method_8_25 (pc' := 26) rfl rfl ?_
  refine own_aloadN X10 hx hby od_prog_37_method_8_26 (pc' := 27) rfl rfl rfl ?_
  refine own_getF X10 hx hby hZ hown (host := "") (Or.inl (ow_11 hw)) Via.refl e10 F_size od_prog_37_method_8_27 (pc' := 30) rfl ?_
  intro T12 X12 e12
  refine own_icmpN X12 hx hby od_prog_37_method_8_30 (pc' := 33) rfl (tlt (by decide)).2.1 ?_
  refine own_aloadN X12 hx hby od_prog_37_method_8_33 (pc' := 34) rfl rfl rfl ?_
  refine own_iloadN X12 hx hby od_prog_37_method_8_34 (pc' := 35) rfl rfl ?_
  refine own_aaD X12 hx hby hZ e12 V_b3 ⟨by decide, by decide⟩ (v := (.ref by3)) rfl od_prog_37_method_8_35 (pc' := 36) rfl ?_
  refine own_iloadN X12 hx hby od_prog_37_method_8_36 (pc' := 37) rfl rfl ?_
  refine own_aloadN X12 hx hby od_prog_37_method_8_37 (pc' := 38) rfl rfl rfl ?_
  refine own_getF X12 hx hby hZ hown (host := "") (Or.inl (ow_21 hw)) Via.refl e12 F_basis od_prog_37_method_8_38 (pc' := 41) rfl ?_
  intro T13 X13 e13
  refine own_iloadN X13 hx hby od_prog_37_method_8_41 (pc' := 42) rfl rfl ?_
  refine own_aaD X13 hx hby hZ e13 V_ba ⟨by decide, by decide⟩ (v := (.ref r0)) rfl od_prog_37_method_8_42 (pc' := 43) rfl ?_
  refine own_iloadN X13 hx hby od_prog_37_method_8_43 (pc' := 44) rfl rfl ?_
  refine own_daD X13 hx hby hZ e13 V_r0 ⟨by decide, by decide⟩ (v := m01) rfl od_prog_37_method_8_44 (pc' := 45) rfl ?_
  refine own_dsD X13 hx hby hZ e13 V_by3 ⟨by decide, by decide⟩ 0 rfl (Nat.le_of_ble_eq_true rfl) (ys := [.double m01, .double (0 : UInt64)]) rfl od_prog_37_method_8_45 (pc' := 46) rfl ?_
  intro T14 h14 X14 e14 W14 Q14
  have Ea15 := own_xw Ea11 W14 le6
  replace F_size := F_size.other W14 (Or.inl ne_a1_by3)
  replace F_basis := F_basis.other W14 (Or.inl ne_a1_by3)
  replace V_ba := V_ba.other W14 ne_ba_by3
  replace V_r0 := V_r0.other W14 ne_r0_by3
  replace V_r1 := V_r1.other W14 ne_r1_by3
  replace V_b3 := V_b3.other W14 ne_b3_by3
  replace V_bx3 := V_bx3.other W14 ne_bx3_by3
  replace V_by3 := Q14
  have N14 := own_fr1 (sl := ((0 : Int32)).toNatClampNeg) N10 n0_by3
  refine own_iinc X14 hx hby od_prog_37_method_8_46 (pc' := 49) rfl rfl (z := 1) rfl (Ls' := #[.val (.ref a1), .val (.ref b3), .val (.int (0 : Int32)), .val (.int (2 : Int32))]) rfl ?_
  refine own_goto X14 hx hby od_prog_37_method_8_49 (by decide) (pc' := 25) (by decide) ?_
  refine own_iloadN X14 hx hby od_prog_37_method_8_25 (pc' := 26) rfl rfl ?_
  refine own_aloadN X14 hx hby od_prog_37_method_8_26 (pc' := 27) rfl rfl rfl ?_
  refine own_getF X14 hx hby hZ hown (host := "") (Or.inl (ow_11 hw)) Via.refl e14 F_size od_prog_37_method_8_27 (pc' := 30) rfl ?_
  intro T16 X16 e16
  refine own_icmpY X16 hx hby od_prog_37_method_8_30 (by decide) (pc' := 52) (by decide) (flt (by decide)).2.1 ?_
  refine own_iinc X16 hx hby od_prog_37_method_8_52 (pc' := 55) rfl rfl (z := 1) rfl (Ls' := #[.val (.ref a1), .val (.ref b3), .val (.int (1 : Int32)), .val (.int (2 : Int32))]) rfl ?_
  refine own_goto X16 hx hby od_prog_37_method_8_55 (by decide) (pc' := 15) (by decide) ?_
  refine own_iloadN X16 hx hby od_prog_37_method_8_15 (pc' := 16) rfl rfl ?_
  refine own_aloadN X16 hx hby od_prog_37_method_8_16 (pc' := 17) rfl rfl rfl ?_
  refine own_getF X16 hx hby hZ hown (host := "") (Or.inl (ow_11 hw)) Via.refl e16 F_size od_prog_37_method_8_17 (pc' := 20) rfl ?_
  intro T17 X17 e17
  refine own_icmpN X17 hx hby od_prog_37_method_8_20 (pc' := 23) rfl (tlt (by decide)).2.1 ?_
  refine own_iconst X17 hx hby od_prog_37_method_8_23 (pc' := 24) rfl (z := 0) rfl ?_
  refine own_istoreN X17 hx hby od_prog_37_method_8_24 (pc' := 25) rfl (Ls' := #[.val (.ref a1), .val (.ref b3), .val (.int (1 : Int32)), .val (.int (0 : Int32))]) rfl ?_
  refine own_iloadN X17 hx hby od_prog_37_method_8_25 (pc' := 26) rfl rfl ?_
  refine own_aloadN X17 hx hby od_prog_37_method_8_26 (pc' := 27) rfl rfl rfl ?_
  refine own_getF X17 hx hby hZ hown (host := "") (Or.inl (ow_11 hw)) Via.refl e17 F_size od_prog_37_method_8_27 (pc' := 30) rfl ?_
  intro T18 X18 e18
  refine own_icmpN X18 hx hby od_prog_37_method_8_30 (pc' := 33) rfl (tlt (by decide)).2.1 ?_
  refine own_aloadN X18 hx hby od_prog_37_method_8_33 (pc' := 34) rfl rfl rfl ?_
  refine own_iloadN X18 hx hby od_prog_37_method_8_34 (pc' := 35) rfl rfl ?_
  refine own_aaD X18 hx hby hZ e18 V_b3 ⟨by decide, by decide⟩ (v := (.ref bx3)) rfl od_prog_37_method_8_35 (pc' := 36) rfl ?_
  refine own_iloadN X18 hx hby od_prog_37_method_8_36 (pc' := 37) rfl rfl ?_
  refine own_aloadN X18 hx hby od_prog_37_method_8_37 (pc' := 38) rfl rfl rfl ?_
  refine own_getF X18 hx hby hZ hown (host := "") (Or.inl (ow_21 hw)) Via.refl e18 F_basis od_prog_37_method_8_38 (pc' := 41) rfl ?_
  intro T19 X19 e19
  refine own_iloadN X19 hx hby od_prog_37_method_8_41 (pc' := 42) rfl rfl ?_
  refine own_aaD X19 hx hby hZ e19 V_ba ⟨by decide, by decide⟩ (v := (.ref r1)) rfl od_prog_37_method_8_42 (pc' := 43) rfl ?_
  refine own_iloadN X19 hx hby od_prog_37_method_8_43 (pc' := 44) rfl rfl ?_
  refine own_daD X19 hx hby hZ e19 V_r1 ⟨by decide, by decide⟩ (v := m10) rfl od_prog_37_method_8_44 (pc' := 45) rfl ?_
  refine own_dsD X19 hx hby hZ e19 V_bx3 ⟨by decide, by decide⟩ 1 rfl (Nat.le_of_ble_eq_true rfl) (ys := [.double m00, .double m10]) rfl od_prog_37_method_8_45 (pc' := 46) rfl ?_
  intro T20 h20 X20 e20 W20 Q20
  have Ea21 := own_xw Ea15 W20 le5
  replace F_size := F_size.other W20 (Or.inl ne_a1_bx3)
  replace F_basis := F_basis.other W20 (Or.inl ne_a1_bx3)
  replace V_ba := V_ba.other W20 ne_ba_bx3
  replace V_r0 := V_r0.other W20 ne_r0_bx3
  replace V_r1 := V_r1.other W20 ne_r1_bx3
  replace V_b3 := V_b3.other W20 ne_b3_bx3
  replace V_by3 := V_by3.other W20 (Ne.symm ne_bx3_by3)
  replace V_bx3 := Q20
  have N20 := own_fr1 (sl := ((1 : Int32)).toNatClampNeg) N14 n0_bx3
  refine own_iinc X20 hx hby od_prog_37_method_8_46 (pc' := 49) rfl rfl (z := 1) rfl (Ls' := #[.val (.ref a1), .val (.ref b3), .val (.int (1 : Int32)), .val (.int (1 : Int32))]) rfl ?_
  refine own_goto X20 hx hby od_prog_37_method_8_49 (by decide) (pc' := 25) (by decide) ?_
  refine own_iloadN X20 hx hby od_prog_37_method_8_25 (pc' := 26) rfl rfl ?_
  refine own_aloadN X20 hx hby od_prog_37_method_8_26 (pc' := 27) rfl rfl rfl ?_
  refine own_getF X20 hx hby hZ hown (host := "") (Or.inl (ow_11 hw)) Via.refl e20 F_size od_prog_37_method_8_27 (pc' := 30) rfl ?_
  intro T22 X22 e22
  refine own_icmpN X22 hx hby od_prog_37_method_8_30 (pc' := 33) rfl (tlt (by decide)).2.1 ?_
  refine own_aloadN X22 hx hby od_prog_37_method_8_33 (pc' := 34) rfl rfl rfl ?_
  refine own_iloadN X22 hx hby od_prog_37_method_8_34 (pc' := 35) rfl rfl ?_
  refine own_aaD X22 hx hby hZ e22 V_b3 ⟨by decide, by decide⟩ (v := (.ref by3)) rfl od_prog_37_method_8_35 (pc' := 36) rfl ?_
  refine own_iloadN X22 hx hby od_prog_37_method_8_36 (pc' := 37) rfl rfl ?_
  refine own_aloadN X22 hx hby od_prog_37_method_8_37 (pc' := 38) rfl rfl rfl ?_
  refine own_getF X22 hx hby hZ hown (host := "") (Or.inl (ow_21 hw)) Via.refl e22 F_basis od_prog_37_method_8_38 (pc' := 41) rfl ?_
  intro T23 X23 e23
  refine own_iloadN X23 hx hby od_prog_37_method_8_41 (pc' := 42) rfl rfl ?_
  refine own_aaD X23 hx hby hZ e23 V_ba ⟨by decide, by decide⟩ (v := (.ref r1)) rfl od_prog_37_method_8_42 (pc' := 43) rfl ?_
  refine own_iloadN X23 hx hby od_prog_37_method_8_43 (pc' := 44) rfl rfl ?_
  refine own_daD X23 hx hby hZ e23 V_r1 ⟨by decide, by decide⟩ (v := m11) rfl od_prog_37_method_8_44 (pc' := 45) rfl ?_
  refine own_dsD X23 hx hby hZ e23 V_by3 ⟨by decide, by decide⟩ 1 rfl (Nat.le_of_ble_eq_true rfl) (ys := [.double m01, .double m11]) rfl od_prog_37_method_8_45 (pc' := 46) rfl ?_
  intro T24 h24 X24 e24 W24 Q24
  have Ea25 := own_xw Ea21 W24 le6
  replace F_size := F_size.other W24 (Or.inl ne_a1_by3)
  replace F_basis := F_basis.other W24 (Or.inl ne_a1_by3)
  replace V_ba := V_ba.other W24 ne_ba_by3
  replace V_r0 := V_r0.other W24 ne_r0_by3
  replace V_r1 := V_r1.other W24 ne_r1_by3
  replace V_b3 := V_b3.other W24 ne_b3_by3
  replace V_bx3 := V_bx3.other W24 ne_bx3_by3
  replace V_by3 := Q24
  have N24 := own_fr1 (sl := ((1 : Int32)).toNatClampNeg) N20 n0_by3
  refine own_iinc X24 hx hby od_prog_37_method_8_46 (pc' := 49) rfl rfl (z := 1) rfl (Ls' := #[.val (.ref a1), .val (.ref b3), .val (.int (1 : Int32)), .val (.int (2 : Int32))]) rfl ?_
  refine own_goto X24 hx hby od_prog_37_method_8_49 (by decide) (pc' := 25) (by decide) ?_
  refine own_iloadN X24 hx hby od_prog_37_method_8_25 (pc' := 26) rfl rfl ?_
  refine own_aloadN X24 hx hby od_prog_37_method_8_26 (pc' := 27) rfl rfl rfl ?_
  refine own_getF X24 hx hby hZ hown (host := "") (Or.inl (ow_11 hw)) Via.refl e24 F_size od_prog_37_method_8_27 (pc' := 30) rfl ?_
  intro T26 X26 e26
  refine own_icmpY X26 hx hby od_prog_37_method_8_30 (by decide) (pc' := 52) (by decide) (flt (by decide)).2.1 ?_
  refine own_iinc X26 hx hby od_prog_37_method_8_52 (pc' := 55) rfl rfl (z := 1) rfl (Ls' := #[.val (.ref a1), .val (.ref b3), .val (.int (2 : Int32)), .val (.int (2 : Int32))]) rfl ?_
  refine own_goto X26 hx hby od_prog_37_method_8_55 (by decide) (pc' := 15) (by decide) ?_
  refine own_iloadN X26 hx hby od_prog_37_method_8_15 (pc' := 16) rfl rfl ?_
  refine own_aloadN X26 hx hby od_prog_37_method_8_16 (pc' := 17) rfl rfl rfl ?_
  refine own_getF X26 hx hby hZ hown (host := "") (Or.inl (ow_11 hw)) Via.refl e26 F_size od_prog_37_method_8_17 (pc' := 20) rfl ?_
  intro T27 X27 e27
  refine own_icmpY X27 hx hby od_prog_37_method_8_20 (by decide) (pc' := 58) (by decide) (flt (by decide)).2.1 ?_
  refine own_aloadN X27 hx hby od_prog_37_method_8_58 (pc' := 59) rfl rfl rfl ?_
  exact own_retA X27 hx hby hlk hrt rfl rfl od_prog_37_method_8_59 (by first | exact ⟨b3, bx3, by3, le4, le5, le6, rfl, ne_b3_bx3, ne_b3_by3, ne_bx3_by3, Ea25, N24, V_b3, V_bx3, V_by3⟩ | (rw [e27]; exact ⟨b3, bx3, by3, le4, le5, le6, rfl, ne_b3_bx3, ne_b3_by3, ne_bx3_by3, Ea25, N24, V_b3, V_bx3, V_by3⟩)) (by decide) (by decide)
theorem ef_rm_enter0 (m : MethodId) (x0 : Addr) (x1 : Addr) (x2 : UInt64) (x3 : Int32) : entryFrame m #[(.ref x0), (.ref x1), (.double x2), (.int x3)] 16 = mkF m 0 #[.val (.ref x0), .val (.ref x1), .val (.double x2), .second, .val (.int x3), .unset, .unset, .unset, .unset, .unset, .unset, .unset, .unset, .unset, .unset, .unset] [] := by first | (simp [entryFrame, mkF, argsToLocals, Value.category]; done) | rfl
set_option maxRecDepth 65536 in
set_option maxHeartbeats 40000000 in
theorem rm_enter0 (l : Launch) (Z : State) (a0 : Array Value) (hw : ∀ d ∈ tables_1, d.before a0 Z = true) (a1 rh ba va so r0 r1 du col : Addr) (dc dl dv LV0 LV1 DV0 DV1 uy0 uy1 : UInt64) (h0 : Heap) (n0 : Nat) (Z0 : n0 ≤ h0.size) (HL : own_Sol2 (4607182418800017408 : UInt64) (0 : UInt64) dc (4607182418800017408 : UInt64) (4607182418800017408 : UInt64) dc LV0 LV1) (HD : own_Sol2 (4607182418800017408 : UInt64) (0 : UInt64) dc (4607182418800017408 : UInt64) (4607182418800017408 : UInt64) dl DV0 DV1) (HR : own_Rat0 LV0 LV1 DV0 DV1) (HY : own_Sol2 (4607182418800017408 : UInt64) dl (0 : UInt64) (4607182418800017408 : UInt64) dv (0 : UInt64) uy0 uy1) (n0_a1 : n0 ≤ a1) (n0_ba : n0 ≤ ba) (n0_va : n0 ≤ va) (n0_so : n0 ≤ so) (ne_a1_rh : a1 ≠ rh) (ne_a1_ba : a1 ≠ ba) (ne_a1_va : a1 ≠ va) (ne_a1_so : a1 ≠ so) (ne_a1_r0 : a1 ≠ r0) (ne_a1_r1 : a1 ≠ r1) (ne_a1_du : a1 ≠ du) (ne_rh_ba : rh ≠ ba) (ne_rh_va : rh ≠ va) (ne_rh_so : rh ≠ so) (ne_rh_r0 : rh ≠ r0) (ne_rh_r1 : rh ≠ r1) (ne_rh_du : rh ≠ du) (ne_ba_va : ba ≠ va) (ne_ba_so : ba ≠ so) (ne_ba_r0 : ba ≠ r0) (ne_ba_r1 : ba ≠ r1) (ne_ba_du : ba ≠ du) (ne_va_so : va ≠ so) (ne_va_r0 : va ≠ r0) (ne_va_r1 : va ≠ r1) (ne_va_du : va ≠ du) (ne_so_r0 : so ≠ r0) (ne_so_r1 : so ≠ r1) (ne_so_du : so ≠ du) (ne_r0_r1 : r0 ≠ r1) (ne_r0_du : r0 ≠ du) (ne_r1_du : r1 ≠ du) (ne_a1_col : a1 ≠ col) (ne_rh_col : rh ≠ col) (ne_ba_col : ba ≠ col) (ne_va_col : va ≠ col) (ne_so_col : so ≠ col) (ne_r0_col : r0 ≠ col) (ne_r1_col : r1 ≠ col) (ne_du_col : du ≠ col) (A1 : Exa Z h0 a1 "com/example/bindery/bindery/selection/BindingMix") (F_size : Fld Z h0 a1 "com/example/bindery/bindery/selection/BindingMix" "size" "I" (.int (2 : Int32))) (F_rightHandSide : Fld Z h0 a1 "com/example/bindery/bindery/selection/BindingMix" "rightHandSide" "[D" (.ref rh)) (F_basis : Fld Z h0 a1 "com/example/bindery/bindery/selection/BindingMix" "basis" "[[D" (.ref ba)) (F_values : Fld Z h0 a1 "com/example/bindery/bindery/selection/BindingMix" "values" "[D" (.ref va)) (F_slackOf : Fld Z h0 a1 "com/example/bindery/bindery/selection/BindingMix" "slackOf" "[I" (.ref so)) (F_duals : Fld Z h0 a1 "com/example/bindery/bindery/selection/BindingMix" "duals" "[D" (.ref du)) (V_rh : own_D Z h0 rh (2 : Int32) [.double (4607182418800017408 : UInt64), .double dc]) (V_ba : own_DD Z h0 ba (2 : Int32) [.ref r0, .ref r1]) (V_va : own_D Z h0 va (2 : Int32) [.double (13830554455654793216 : UInt64), .double (0 : UInt64)]) (V_so : own_IA Z h0 so (2 : Int32) [.int (-1 : Int32), .int (0 : Int32)]) (V_r0 : own_D Z h0 r0 (2 : Int32) [.double (4607182418800017408 : UInt64), .double dc]) (V_r1 : own_D Z h0 r1 (2 : Int32) [.double (0 : UInt64), .double (4607182418800017408 : UInt64)]) (V_du : own_D Z h0 du (2 : Int32) [.double (13830554455654793216 : UInt64), .double (0 : UInt64)]) (V_col : own_D Z h0 col (2 : Int32) [.double (4607182418800017408 : UInt64), .double dl]) :
    own_Met l Z (⟨"com/example/bindery/bindery/selection/BindingMix", "enter", "([DDI)Z"⟩ : MethodName) prog_37_method_6_code 16 (some .boolean) ({ frames := 4, cells := 18, slots := 36, locals := 63 } : Room) #[(.ref a1), (.ref col), (.double dv), (.int (-1 : Int32))] h0 (fun v h L => v = some (.int (1 : Int32)) ∧ Fr n0 L ∧ Keep h0 h [a1, ba, va, so] ∧ ∃ od : Addr, h0.size ≤ od ∧ a1 ≠ od ∧ so ≠ od ∧ Exa Z h a1 "com/example/bindery/bindery/selection/BindingMix" ∧ Fld Z h a1 "com/example/bindery/bindery/selection/BindingMix" "size" "I" (.int (2 : Int32)) ∧ Fld Z h a1 "com/example/bindery/bindery/selection/BindingMix" "slackOf" "[I" (.ref so) ∧ Fld Z h a1 "com/example/bindery/bindery/selection/BindingMix" "duals" "[D" (.ref od) ∧ own_IA Z h so (2 : Int32) [.int (-1 : Int32), .int (0 : Int32)] ∧ own_D Z h od (2 : Int32) [.double uy0, .double uy1]) := by
  refine own_body (plainFor_of_name (by first | (simp [plainName, overriddenIn]; done) | decide +kernel)) ?_
  intro p e s m below meth c s₁ hx hby hml hown hnm hlk hrt hZ X0 e0
  refine own_enter (ef_rm_enter0 m a1 col dv (-1 : Int32)) ?_
  have N0 := Fr.nil n0
  have K0 := Keep.refl h0 [a1, ba, va, so]
  obtain ⟨um0, ut0, R1, R2, R3, R4, R5⟩ := HR
  refine own_aloadN X0 hx hby od_prog_37_method_6_0 (pc' := 1) rfl rfl rfl ?_
  refine own_privM X0 hx hby hml hZ hown (ow_77 hw) (ow_78 hw) (own_selP (ow_78 hw) (ow_79 hw) (ow_58 hw) rfl (by decide)) (ow_79 hw) (ow_3 hw) (ow_80 hw) (by decide) (cc := 3) (ss := 6) (rm_mat l Z a0 hw a1 ba r0 r1 (4607182418800017408 : UInt64) dc (0 : UInt64) (4607182418800017408 : UInt64) h0 n0 (Nat.le_trans Z0 K0.1) F_size F_basis V_ba V_r0 V_r1) 0 rfl rfl (by decide) (by decide) rfl A1 (argsL := []) (rest := []) opd_4 rfl rfl (Nat.le_refl _) od_prog_37_method_6_1 (pc' := 4) rfl rfl e0 (by decide) (by decide) ?_
  rintro v1 T1 h1 L1 X1 e1 ⟨ob, ox, oy, lb1, lx1, ly1, rfl, ne_ob_ox, ne_ob_oy, ne_ox_oy, Eq1, Nq1, V_ob, V_ox, V_oy⟩
  have ne_a1_ob : a1 ≠ ob := Nat.ne_of_lt (Nat.lt_of_lt_of_le A1.lt lb1)
  have ne_rh_ob : rh ≠ ob := Nat.ne_of_lt (Nat.lt_of_lt_of_le V_rh.lt lb1)
  have ne_ba_ob : ba ≠ ob := Nat.ne_of_lt (Nat.lt_of_lt_of_le V_ba.lt lb1)
  have ne_va_ob : va ≠ ob := Nat.ne_of_lt (Nat.lt_of_lt_of_le V_va.lt lb1)
  have ne_so_ob : so ≠ ob := Nat.ne_of_lt (Nat.lt_of_lt_of_le V_so.lt lb1)
  have ne_r0_ob : r0 ≠ ob := Nat.ne_of_lt (Nat.lt_of_lt_of_le V_r0.lt lb1)
  have ne_r1_ob : r1 ≠ ob := Nat.ne_of_lt (Nat.lt_of_lt_of_le V_r1.lt lb1)
  have ne_du_ob : du ≠ ob := Nat.ne_of_lt (Nat.lt_of_lt_of_le V_du.lt lb1)
  have ne_col_ob : col ≠ ob := Nat.ne_of_lt (Nat.lt_of_lt_of_le V_col.lt lb1)
  have n0_ob : n0 ≤ ob := Nat.le_trans (Nat.le_trans Z0 K0.1) lb1
  have le2 : h0.size ≤ ob := Nat.le_trans K0.1 lb1
  have ne_a1_ox : a1 ≠ ox := Nat.ne_of_lt (Nat.lt_of_lt_of_le A1.lt lx1)
  have ne_rh_ox : rh ≠ ox := Nat.ne_of_lt (Nat.lt_of_lt_of_le V_rh.lt lx1)
  have ne_ba_ox : ba ≠ ox := Nat.ne_of_lt (Nat.lt_of_lt_of_le V_ba.lt lx1)
  have ne_va_ox : va ≠ ox := Nat.ne_of_lt (Nat.lt_of_lt_of_le V_va.lt lx1)
  have ne_so_ox : so ≠ ox := Nat.ne_of_lt (Nat.lt_of_lt_of_le V_so.lt lx1)
  have ne_r0_ox : r0 ≠ ox := Nat.ne_of_lt (Nat.lt_of_lt_of_le V_r0.lt lx1)
  have ne_r1_ox : r1 ≠ ox := Nat.ne_of_lt (Nat.lt_of_lt_of_le V_r1.lt lx1)
  have ne_du_ox : du ≠ ox := Nat.ne_of_lt (Nat.lt_of_lt_of_le V_du.lt lx1)
  have ne_col_ox : col ≠ ox := Nat.ne_of_lt (Nat.lt_of_lt_of_le V_col.lt lx1)
  have n0_ox : n0 ≤ ox := Nat.le_trans (Nat.le_trans Z0 K0.1) lx1
  have le3 : h0.size ≤ ox := Nat.le_trans K0.1 lx1
  have ne_a1_oy : a1 ≠ oy := Nat.ne_of_lt (Nat.lt_of_lt_of_le A1.lt ly1)
  have ne_rh_oy : rh ≠ oy := Nat.ne_of_lt (Nat.lt_of_lt_of_le V_rh.lt ly1)
  have ne_ba_oy : ba ≠ oy := Nat.ne_of_lt (Nat.lt_of_lt_of_le V_ba.lt ly1)
  have ne_va_oy : va ≠ oy := Nat.ne_of_lt (Nat.lt_of_lt_of_le V_va.lt ly1)
  have ne_so_oy : so ≠ oy := Nat.ne_of_lt (Nat.lt_of_lt_of_le V_so.lt ly1)
  have ne_r0_oy : r0 ≠ oy := Nat.ne_of_lt (Nat.lt_of_lt_of_le V_r0.lt ly1)
  have ne_r1_oy : r1 ≠ oy := Nat.ne_of_lt (Nat.lt_of_lt_of_le V_r1.lt ly1)
  have ne_du_oy : du ≠ oy := Nat.ne_of_lt (Nat.lt_of_lt_of_le V_du.lt ly1)
  have ne_col_oy : col ≠ oy := Nat.ne_of_lt (Nat.lt_of_lt_of_le V_col.lt ly1)
  have n0_oy : n0 ≤ oy := Nat.le_trans (Nat.le_trans Z0 K0.1) ly1
  have le4 : h0.size ≤ oy := Nat.le_trans K0.1 ly1
  have N1 := N0.app Nq1
  have K5 := K0.ext Eq1
  replace A1 := A1.ext Eq1
  replace F_size := F_size.ext Eq1
  replace F_rightHandSide := F_rightHandSide.ext Eq1
  replace F_basis := F_basis.ext Eq1
  replace F_values := F_values.ext Eq1
  replace F_slackOf := F_slackOf.ext Eq1
  replace F_duals := F_duals.ext Eq1
  replace V_rh := V_rh.ext Eq1
  replace V_ba := V_ba.ext Eq1
  replace V_va := V_va.ext Eq1
  replace V_so := V_so.ext Eq1
  replace V_r0 := V_r0.ext Eq1
  replace V_r1 := V_r1.ext Eq1
  replace V_du := V_du.ext Eq1
  replace V_col := V_col.ext Eq1
  refine own_astore X1 hx hby od_prog_37_method_6_4 (pc' := 6) rfl rfl (Ls' := #[.val (.ref a1), .val (.ref col), .val (.double dv), .second, .val (.int (-1 : Int32)), .val (.ref ob), .unset, .unset, .unset, .unset, .unset, .unset, .unset, .unset, .unset, .unset]) rfl ?_
  refine own_aload X1 hx hby od_prog_37_method_6_6 (pc' := 8) rfl rfl rfl ?_
  refine own_aloadN X1 hx hby od_prog_37_method_6_8 (pc' := 9) rfl rfl rfl ?_
  refine own_getF X1 hx hby hZ hown (host := "") (Or.inl (ow_13 hw)) Via.refl e1 F_rightHandSide od_prog_37_method_6_9 (pc' := 12) rfl ?_
  intro T6 X6 e6
  refine own_callM X6 hx hby hml hZ hown (ow_41 hw) (ow_42 hw) (ow_3 hw) (ow_43 hw) (by decide) (cc := 5) (ss := 10) (rm_solve2 l Z a0 hw ob ox oy rh (4607182418800017408 : UInt64) (0 : UInt64) dc (4607182418800017408 : UInt64) (4607182418800017408 : UInt64) dc LV0 LV1 h1 n0 (Nat.le_trans Z0 K5.1) HL V_ob V_ox V_oy V_rh) 0 rfl rfl (by decide) (by decide) rfl (argsL := [(.ref ob), (.ref rh)]) (rest := []) opd_1 rfl rfl (Nat.le_refl _) od_prog_37_method_6_12 (pc' := 15) rfl rfl e6 (by decide) (by decide) ?_
  rintro v7 T7 h7 L7 X7 e7 ⟨ol, rfl, lb7, Eq7, Nq7, V_ol⟩
  have ne_a1_ol : a1 ≠ ol := Nat.ne_of_lt (Nat.lt_of_lt_of_le A1.lt lb7)
  have ne_rh_ol : rh ≠ ol := Nat.ne_of_lt (Nat.lt_of_lt_of_le V_rh.lt lb7)
  have ne_ba_ol : ba ≠ ol := Nat.ne_of_lt (Nat.lt_of_lt_of_le V_ba.lt lb7)
  have ne_va_ol : va ≠ ol := Nat.ne_of_lt (Nat.lt_of_lt_of_le V_va.lt lb7)
  have ne_so_ol : so ≠ ol := Nat.ne_of_lt (Nat.lt_of_lt_of_le V_so.lt lb7)
  have ne_r0_ol : r0 ≠ ol := Nat.ne_of_lt (Nat.lt_of_lt_of_le V_r0.lt lb7)
  have ne_r1_ol : r1 ≠ ol := Nat.ne_of_lt (Nat.lt_of_lt_of_le V_r1.lt lb7)
  have ne_du_ol : du ≠ ol := Nat.ne_of_lt (Nat.lt_of_lt_of_le V_du.lt lb7)
  have ne_col_ol : col ≠ ol := Nat.ne_of_lt (Nat.lt_of_lt_of_le V_col.lt lb7)
  have ne_ob_ol : ob ≠ ol := Nat.ne_of_lt (Nat.lt_of_lt_of_le V_ob.lt lb7)
  have ne_ox_ol : ox ≠ ol := Nat.ne_of_lt (Nat.lt_of_lt_of_le V_ox.lt lb7)
  have ne_oy_ol : oy ≠ ol := Nat.ne_of_lt (Nat.lt_of_lt_of_le V_oy.lt lb7)
  have n0_ol : n0 ≤ ol := Nat.le_trans (Nat.le_trans Z0 K5.1) lb7
  have le8 : h0.size ≤ ol := Nat.le_trans K5.1 lb7
  have N7 := N1.app Nq7
  have K9 := K5.ext Eq7
  replace A1 := A1.ext Eq7
  replace F_size := F_size.ext Eq7
  replace F_rightHandSide := F_rightHandSide.ext Eq7
  replace F_basis := F_basis.ext Eq7
  replace F_values := F_values.ext Eq7
  replace F_slackOf := F_slackOf.ext Eq7
  replace F_duals := F_duals.ext Eq7
  replace V_rh := V_rh.ext Eq7
  replace V_ba := V_ba.ext Eq7
  replace V_va := V_va.ext Eq7
  replace V_so := V_so.ext Eq7
  replace V_r0 := V_r0.ext Eq7
  replace V_r1 := V_r1.ext Eq7
  replace V_du := V_du.ext Eq7
  replace V_col := V_col.ext Eq7
  replace V_ob := V_ob.ext Eq7
  replace V_ox := V_ox.ext Eq7
  replace V_oy := V_oy.ext Eq7
  refine own_astore X7 hx hby od_prog_37_method_6_15 (pc' := 17) rfl rfl (Ls' := #[.val (.ref a1), .val (.ref col), .val (.double dv), .second, .val (.int (-1 : Int32)), .val (.ref ob), .val (.ref ol), .unset, .unset, .unset, .unset, .unset, .unset, .unset, .unset, .unset]) rfl ?_
  refine own_aload X7 hx hby od_prog_37_method_6_17 (pc' := 19) rfl rfl rfl ?_
  refine own_aloadN X7 hx hby od_prog_37_method_6_19 (pc' := 20) rfl rfl rfl ?_
  refine own_callM X7 hx hby hml hZ hown (ow_41 hw) (ow_42 hw) (ow_3 hw) (ow_43 hw) (by decide) (cc := 5) (ss := 10) (rm_solve2 l Z a0 hw ob ox oy col (4607182418800017408 : UInt64) (0 : UInt64) dc (4607182418800017408 : UInt64) (4607182418800017408 : UInt64) dl DV0 DV1 h7 n0 (Nat.le_trans Z0 K9.1) HD V_ob V_ox V_oy V_col) 0 rfl rfl (by decide) (by decide) rfl (argsL := [(.ref ob), (.ref col)]) (rest := []) opd_1 rfl rfl (Nat.le_refl _) od_prog_37_method_6_20 (pc' := 23) rfl rfl e7 (by decide) (by decide) ?_
  rintro v10 T10 h10 L10 X10 e10 ⟨oe, rfl, lb10, Eq10, Nq10, V_oe⟩
  have ne_a1_oe : a1 ≠ oe := Nat.ne_of_lt (Nat.lt_of_lt_of_le A1.lt lb10)
  have ne_rh_oe : rh ≠ oe := Nat.ne_of_lt (Nat.lt_of_lt_of_le V_rh.lt lb10)
  have ne_ba_oe : ba ≠ oe := Nat.ne_of_lt (Nat.lt_of_lt_of_le V_ba.lt lb10)
  have ne_va_oe : va ≠ oe := Nat.ne_of_lt (Nat.lt_of_lt_of_le V_va.lt lb10)
  have ne_so_oe : so ≠ oe := Nat.ne_of_lt (Nat.lt_of_lt_of_le V_so.lt lb10)
  have ne_r0_oe : r0 ≠ oe := Nat.ne_of_lt (Nat.lt_of_lt_of_le V_r0.lt lb10)
  have ne_r1_oe : r1 ≠ oe := Nat.ne_of_lt (Nat.lt_of_lt_of_le V_r1.lt lb10)
  have ne_du_oe : du ≠ oe := Nat.ne_of_lt (Nat.lt_of_lt_of_le V_du.lt lb10)
  have ne_col_oe : col ≠ oe := Nat.ne_of_lt (Nat.lt_of_lt_of_le V_col.lt lb10)
  have ne_ob_oe : ob ≠ oe := Nat.ne_of_lt (Nat.lt_of_lt_of_le V_ob.lt lb10)
  have ne_ox_oe : ox ≠ oe := Nat.ne_of_lt (Nat.lt_of_lt_of_le V_ox.lt lb10)
  have ne_oy_oe : oy ≠ oe := Nat.ne_of_lt (Nat.lt_of_lt_of_le V_oy.lt lb10)
  have ne_ol_oe : ol ≠ oe := Nat.ne_of_lt (Nat.lt_of_lt_of_le V_ol.lt lb10)
  have n0_oe : n0 ≤ oe := Nat.le_trans (Nat.le_trans Z0 K9.1) lb10
  have le11 : h0.size ≤ oe := Nat.le_trans K9.1 lb10
  have N10 := N7.app Nq10
  have K12 := K9.ext Eq10
  replace A1 := A1.ext Eq10
  replace F_size := F_size.ext Eq10
  replace F_rightHandSide := F_rightHandSide.ext Eq10
  replace F_basis := F_basis.ext Eq10
  replace F_values := F_values.ext Eq10
  replace F_slackOf := F_slackOf.ext Eq10
  replace F_duals := F_duals.ext Eq10
  replace V_rh := V_rh.ext Eq10
  replace V_ba := V_ba.ext Eq10
  replace V_va := V_va.ext Eq10
  replace V_so := V_so.ext Eq10
  replace V_r0 := V_r0.ext Eq10
  replace V_r1 := V_r1.ext Eq10
  replace V_du := V_du.ext Eq10
  replace V_col := V_col.ext Eq10
  replace V_ob := V_ob.ext Eq10
  replace V_ox := V_ox.ext Eq10
  replace V_oy := V_oy.ext Eq10
  replace V_ol := V_ol.ext Eq10
  refine own_astore X10 hx hby od_prog_37_method_6_23 (pc' := 25) rfl rfl (Ls' := #[.val (.ref a1), .val (.ref col), .val (.double dv), .second, .val (.int (-1 : Int32)), .val (.ref ob), .val (.ref ol), .val (.ref oe), .unset, .unset, .unset, .unset, .unset, .unset, .unset, .unset]) rfl ?_
  refine own_aload X10 hx hby od_prog_37_method_6_25 (pc' := 27) rfl rfl rfl ?_
  refine own_ifnullN X10 hx hby od_prog_37_method_6_27 (pc' := 30) rfl ?_
  refine own_aload X10 hx hby od_prog_37_method_6_30 (pc' := 32) rfl rfl rfl ?_
  refine own_ifnonnullY X10 hx hby od_prog_37_method_6_32 (by decide) (pc' := 37) (by decide) ?_
  refine own_iconst X10 hx hby od_prog_37_method_6_37 (pc' := 38) rfl (z := (-1)) rfl ?_
  refine own_istore X10 hx hby od_prog_37_method_6_38 (pc' := 40) rfl (Ls' := #[.val (.ref a1), .val (.ref col), .val (.double dv), .second, .val (.int (-1 : Int32)), .val (.ref ob), .val (.ref ol), .val (.ref oe), .val (.int (-1 : Int32)), .unset, .unset, .unset, .unset, .unset, .unset, .unset]) rfl ?_
  refine own_ldcD X10 hx hby hZ hown (ow_82 hw) od_prog_37_method_6_40 (pc' := 43) rfl ?_
  refine own_dstore X10 hx hby od_prog_37_method_6_43 (pc' := 45) rfl (Ls' := #[.val (.ref a1), .val (.ref col), .val (.double dv), .second, .val (.int (-1 : Int32)), .val (.ref ob), .val (.ref ol), .val (.ref oe), .val (.int (-1 : Int32)), .val (.double (9218868437227405312 : UInt64)), .second, .unset, .unset, .unset, .unset, .unset]) rfl ?_
  refine own_iconst X10 hx hby od_prog_37_method_6_45 (pc' := 46) rfl (z := 0) rfl ?_
  refine own_istore X10 hx hby od_prog_37_method_6_46 (pc' := 48) rfl (Ls' := #[.val (.ref a1), .val (.ref col), .val (.double dv), .second, .val (.int (-1 : Int32)), .val (.ref ob), .val (.ref ol), .val (.ref oe), .val (.int (-1 : Int32)), .val (.double (9218868437227405312 : UInt64)), .second, .val (.int (0 : Int32)), .unset, .unset, .unset, .unset]) rfl ?_
  refine own_iload X10 hx hby od_prog_37_method_6_48 (pc' := 50) rfl rfl ?_
  refine own_aloadN X10 hx hby od_prog_37_method_6_50 (pc' := 51) rfl rfl rfl ?_
  refine own_getF X10 hx hby hZ hown (host := "") (Or.inl (ow_11 hw)) Via.refl e10 F_size od_prog_37_method_6_51 (pc' := 54) rfl ?_
  intro T13 X13 e13
  refine own_icmpN X13 hx hby od_prog_37_method_6_54 (pc' := 57) rfl (tlt (by decide)).2.1 ?_
  refine own_aload X13 hx hby od_prog_37_method_6_57 (pc' := 59) rfl rfl rfl ?_
  refine own_iload X13 hx hby od_prog_37_method_6_59 (pc' := 61) rfl rfl ?_
  refine own_daD X13 hx hby hZ e13 V_oe ⟨by decide, by decide⟩ (v := DV0) rfl od_prog_37_method_6_61 (pc' := 62) rfl ?_
  refine own_ldcD X13 hx hby hZ hown (ow_83 hw) od_prog_37_method_6_62 (pc' := 65) rfl ?_
  obtain ⟨dv14, hd14, hk14⟩ := R1
  refine own_dcmp X13 hx hby od_prog_37_method_6_65 (pc' := 66) rfl (v := dv14) hd14 ?_
  refine own_ifN X13 hx hby od_prog_37_method_6_66 (pc' := 69) rfl (tlt hk14).2.2.2 ?_
  refine own_dconst0 X13 hx hby od_prog_37_method_6_69 (pc' := 70) rfl (v := (0 : UInt64)) rfl ?_
  refine own_aload X13 hx hby od_prog_37_method_6_70 (pc' := 72) rfl rfl rfl ?_
  refine own_iload X13 hx hby od_prog_37_method_6_72 (pc' := 74) rfl rfl ?_
  refine own_daD X13 hx hby hZ e13 V_ol ⟨by decide, by decide⟩ (v := LV0) rfl od_prog_37_method_6_74 (pc' := 75) rfl ?_
  refine own_maxD X13 hx hby hZ hml hown (ow_65 hw) (ow_66 hw) (ow_50 hw) (ow_67 hw) e13 okl_3 HL.fin.1.noNaN (v := um0) R2 rfl od_prog_37_method_6_75 (pc' := 78) rfl (W := 0) (Nat.le_refl _) (by decide) (by decide) (by decide) (by decide) ?_
  intro T15 X15 e15
  refine own_aload X15 hx hby od_prog_37_method_6_78 (pc' := 80) rfl rfl rfl ?_
  refine own_iload X15 hx hby od_prog_37_method_6_80 (pc' := 82) rfl rfl ?_
  refine own_daD X15 hx hby hZ e15 V_oe ⟨by decide, by decide⟩ (v := DV0) rfl od_prog_37_method_6_82 (pc' := 83) rfl ?_
  refine own_ddiv X15 hx hby od_prog_37_method_6_83 (pc' := 84) rfl R3.1 (v := ut0) R3.2 ?_
  refine own_dstore X15 hx hby od_prog_37_method_6_84 (pc' := 86) rfl (Ls' := #[.val (.ref a1), .val (.ref col), .val (.double dv), .second, .val (.int (-1 : Int32)), .val (.ref ob), .val (.ref ol), .val (.ref oe), .val (.int (-1 : Int32)), .val (.double (9218868437227405312 : UInt64)), .second, .val (.int (0 : Int32)), .val (.double ut0), .second, .unset, .unset]) rfl ?_
  refine own_dload X15 hx hby od_prog_37_method_6_86 (pc' := 88) rfl rfl ?_
  refine own_dload X15 hx hby od_prog_37_method_6_88 (pc' := 90) rfl rfl ?_
  obtain ⟨dv16, hd16, hk16⟩ := R4
  refine own_dcmp X15 hx hby od_prog_37_method_6_90 (pc' := 91) rfl (v := dv16) hd16 ?_
  refine own_ifN X15 hx hby od_prog_37_method_6_91 (pc' := 94) rfl (tlt hk16).2.1 ?_
  refine own_dload X15 hx hby od_prog_37_method_6_94 (pc' := 96) rfl rfl ?_
  refine own_dstore X15 hx hby od_prog_37_method_6_96 (pc' := 98) rfl (Ls' := #[.val (.ref a1), .val (.ref col), .val (.double dv), .second, .val (.int (-1 : Int32)), .val (.ref ob), .val (.ref ol), .val (.ref oe), .val (.int (-1 : Int32)), .val (.double ut0), .second, .val (.int (0 : Int32)), .val (.double ut0), .second, .unset, .unset]) rfl ?_
  refine own_iload X15 hx hby od_prog_37_method_6_98 (pc' := 100) rfl rfl ?_
  refine own_istore X15 hx hby od_prog_37_method_6_100 (pc' := 102) rfl (Ls' := #[.val (.ref a1), .val (.ref col), .val (.double dv), .second, .val (.int (-1 : Int32)), .val (.ref ob), .val (.ref ol), .val (.ref oe), .val (.int (0 : Int32)), .val (.double ut0), .second, .val (.int (0 : Int32)), .val (.double ut0), .second, .unset, .unset]) rfl ?_
  refine own_iinc X15 hx hby od_prog_37_method_6_102 (pc' := 105) rfl rfl (z := 1) rfl (Ls' := #[.val (.ref a1), .val (.ref col), .val (.double dv), .second, .val (.int (-1 : Int32)), .val (.ref ob), .val (.ref ol), .val (.ref oe), .val (.int (0 : Int32)), .val (.double ut0), .second, .val (.int (1 : Int32)), .val (.double ut0), .second, .unset, .unset]) rfl ?_
  refine own_goto X15 hx hby od_prog_37_method_6_105 (by decide) (pc' := 48) (by decide) ?_
  refine own_iload X15 hx hby od_prog_37_method_6_48 (pc' := 50) rfl rfl ?_
  refine own_aloadN X15 hx hby od_prog_37_method_6_50 (pc' := 51) rfl rfl rfl ?_
  refine own_getF X15 hx hby hZ hown (host := "") (Or.inl (ow_11 hw)) Via.refl e15 F_size od_prog_37_method_6_51 (pc' := 54) rfl ?_
  intro T17 X17 e17
  refine own_icmpN X17 hx hby od_prog_37_method_6_54 (pc' := 57) rfl (tlt (by decide)).2.1 ?_
  refine own_aload X17 hx hby od_prog_37_method_6_57 (pc' := 59) rfl rfl rfl ?_
  refine own_iload X17 hx hby od_prog_37_method_6_59 (pc' := 61) rfl rfl ?_
  refine own_daD X17 hx hby hZ e17 V_oe ⟨by decide, by decide⟩ (v := DV1) rfl od_prog_37_method_6_61 (pc' := 62) rfl ?_
  refine own_ldcD X17 hx hby hZ hown (ow_83 hw) od_prog_37_method_6_62 (pc' := 65) rfl ?_
  obtain ⟨dv18, hd18, hk18⟩ := R5
  refine own_dcmp X17 hx hby od_prog_37_method_6_65 (pc' := 66) rfl (v := dv18) hd18 ?_
  refine own_ifY X17 hx hby od_prog_37_method_6_66 (by decide) (pc' := 102) (by decide) (flt hk18).2.2.2 ?_
  refine own_iinc X17 hx hby od_prog_37_method_6_102 (pc' := 105) rfl rfl (z := 1) rfl (Ls' := #[.val (.ref a1), .val (.ref col), .val (.double dv), .second, .val (.int (-1 : Int32)), .val (.ref ob), .val (.ref ol), .val (.ref oe), .val (.int (0 : Int32)), .val (.double ut0), .second, .val (.int (2 : Int32)), .val (.double ut0), .second, .unset, .unset]) rfl ?_
  refine own_goto X17 hx hby od_prog_37_method_6_105 (by decide) (pc' := 48) (by decide) ?_
  refine own_iload X17 hx hby od_prog_37_method_6_48 (pc' := 50) rfl rfl ?_
  refine own_aloadN X17 hx hby od_prog_37_method_6_50 (pc' := 51) rfl rfl rfl ?_
  refine own_getF X17 hx hby hZ hown (host := "") (Or.inl (ow_11 hw)) Via.refl e17 F_size od_prog_37_method_6_51 (pc' := 54) rfl ?_
  intro T19 X19 e19
  refine own_icmpY X19 hx hby od_prog_37_method_6_54 (by decide) (pc' := 108) (by decide) (flt (by decide)).2.1 ?_
  refine own_iload X19 hx hby od_prog_37_method_6_108 (pc' := 110) rfl rfl ?_
  refine own_ifY X19 hx hby od_prog_37_method_6_110 (by decide) (pc' := 115) (by decide) (flt (by decide)).2.1 ?_
  refine own_aloadN X19 hx hby od_prog_37_method_6_115 (pc' := 116) rfl rfl rfl ?_
  refine own_getF X19 hx hby hZ hown (host := "") (Or.inl (ow_21 hw)) Via.refl e19 F_basis od_prog_37_method_6_116 (pc' := 119) rfl ?_
  intro T20 X20 e20
  refine own_iload X20 hx hby od_prog_37_method_6_119 (pc' := 121) rfl rfl ?_
  refine own_aaD X20 hx hby hZ e20 V_ba ⟨by decide, by decide⟩ (v := (.ref r0)) rfl od_prog_37_method_6_121 (pc' := 122) rfl ?_
  refine own_astore X20 hx hby od_prog_37_method_6_122 (pc' := 124) rfl rfl (Ls' := #[.val (.ref a1), .val (.ref col), .val (.double dv), .second, .val (.int (-1 : Int32)), .val (.ref ob), .val (.ref ol), .val (.ref oe), .val (.int (0 : Int32)), .val (.double ut0), .second, .val (.ref r0), .val (.double ut0), .second, .unset, .unset]) rfl ?_
  refine own_aloadN X20 hx hby od_prog_37_method_6_124 (pc' := 125) rfl rfl rfl ?_
  refine own_getF X20 hx hby hZ hown (host := "") (Or.inl (ow_23 hw)) Via.refl e20 F_values od_prog_37_method_6_125 (pc' := 128) rfl ?_
  intro T21 X21 e21
  refine own_iload X21 hx hby od_prog_37_method_6_128 (pc' := 130) rfl rfl ?_
  refine own_daD X21 hx hby hZ e21 V_va ⟨by decide, by decide⟩ (v := (13830554455654793216 : UInt64)) rfl od_prog_37_method_6_130 (pc' := 131) rfl ?_
  refine own_dstore X21 hx hby od_prog_37_method_6_131 (pc' := 133) rfl (Ls' := #[.val (.ref a1), .val (.ref col), .val (.double dv), .second, .val (.int (-1 : Int32)), .val (.ref ob), .val (.ref ol), .val (.ref oe), .val (.int (0 : Int32)), .val (.double ut0), .second, .val (.ref r0), .val (.double (13830554455654793216 : UInt64)), .second, .unset, .unset]) rfl ?_
  refine own_aloadN X21 hx hby od_prog_37_method_6_133 (pc' := 134) rfl rfl rfl ?_
  refine own_getF X21 hx hby hZ hown (host := "") (Or.inl (ow_26 hw)) Via.refl e21 F_slackOf od_prog_37_method_6_134 (pc' := 137) rfl ?_
  intro T22 X22 e22
  refine own_iload X22 hx hby od_prog_37_method_6_137 (pc' := 139) rfl rfl ?_
  refine own_iaI X22 hx hby hZ e22 V_so ⟨by decide, by decide⟩ (v := (-1 : Int32)) rfl od_prog_37_method_6_139 (pc' := 140) rfl ?_
  refine own_istore X22 hx hby od_prog_37_method_6_140 (pc' := 142) rfl (Ls' := #[.val (.ref a1), .val (.ref col), .val (.double dv), .second, .val (.int (-1 : Int32)), .val (.ref ob), .val (.ref ol), .val (.ref oe), .val (.int (0 : Int32)), .val (.double ut0), .second, .val (.ref r0), .val (.double (13830554455654793216 : UInt64)), .second, .val (.int (-1 : Int32)), .unset]) rfl ?_
  refine own_aloadN X22 hx hby od_prog_37_method_6_142 (pc' := 143) rfl rfl rfl ?_
  refine own_getF X22 hx hby hZ hown (host := "") (Or.inl (ow_21 hw)) Via.refl e22 F_basis od_prog_37_method_6_143 (pc' := 146) rfl ?_
  intro T23 X23 e23
  refine own_iload X23 hx hby od_prog_37_method_6_146 (pc' := 148) rfl rfl ?_
  refine own_aloadN X23 hx hby od_prog_37_method_6_148 (pc' := 149) rfl rfl rfl ?_
  refine own_asD X23 hx hby hZ e23 V_ba (V_col.exa) ⟨by decide, by decide⟩ 0 rfl (Nat.le_of_ble_eq_true rfl) (ys := [.ref col, .ref r1]) rfl od_prog_37_method_6_149 (pc' := 150) rfl ?_
  intro T24 h24 X24 e24 W24 Q24
  have K25 := K12.wr W24 (Or.inl (List.mem_of_getElem? (i := 1) rfl))
  replace A1 := A1.wr W24
  replace F_size := F_size.other W24 (Or.inl ne_a1_ba)
  replace F_rightHandSide := F_rightHandSide.other W24 (Or.inl ne_a1_ba)
  replace F_basis := F_basis.other W24 (Or.inl ne_a1_ba)
  replace F_values := F_values.other W24 (Or.inl ne_a1_ba)
  replace F_slackOf := F_slackOf.other W24 (Or.inl ne_a1_ba)
  replace F_duals := F_duals.other W24 (Or.inl ne_a1_ba)
  replace V_rh := V_rh.other W24 ne_rh_ba
  replace V_va := V_va.other W24 (Ne.symm ne_ba_va)
  replace V_so := V_so.other W24 (Ne.symm ne_ba_so)
  replace V_r0 := V_r0.other W24 (Ne.symm ne_ba_r0)
  replace V_r1 := V_r1.other W24 (Ne.symm ne_ba_r1)
  replace V_du := V_du.other W24 (Ne.symm ne_ba_du)
  replace V_col := V_col.other W24 (Ne.symm ne_ba_col)
  replace V_ob := V_ob.other W24 (Ne.symm ne_ba_ob)
  replace V_ox := V_ox.other W24 (Ne.symm ne_ba_ox)
  replace V_oy := V_oy.other W24 (Ne.symm ne_ba_oy)
  replace V_ol := V_ol.other W24 (Ne.symm ne_ba_ol)
  replace V_oe := V_oe.other W24 (Ne.symm ne_ba_oe)
  replace V_ba := Q24
  have N24 := own_fr1 (sl := ((0 : Int32)).toNatClampNeg) N10 n0_ba
  refine own_aloadN X24 hx hby od_prog_37_method_6_150 (pc' := 151) rfl rfl rfl ?_
  refine own_getF X24 hx hby hZ hown (host := "") (Or.inl (ow_23 hw)) Via.refl e24 F_values od_prog_37_method_6_151 (pc' := 154) rfl ?_
  intro T26 X26 e26
  refine own_iload X26 hx hby od_prog_37_method_6_154 (pc' := 156) rfl rfl ?_
  refine own_dloadN X26 hx hby od_prog_37_method_6_156 (pc' := 157) rfl rfl ?_
  refine own_dsD X26 hx hby hZ e26 V_va ⟨by decide, by decide⟩ 0 rfl (Nat.le_of_ble_eq_true rfl) (ys := [.double dv, .double (0 : UInt64)]) rfl od_prog_37_method_6_157 (pc' := 158) rfl ?_
  intro T27 h27 X27 e27 W27 Q27
  have K28 := K25.wr W27 (Or.inl (List.mem_of_getElem? (i := 2) rfl))
  replace A1 := A1.wr W27
  replace F_size := F_size.other W27 (Or.inl ne_a1_va)
  replace F_rightHandSide := F_rightHandSide.other W27 (Or.inl ne_a1_va)
  replace F_basis := F_basis.other W27 (Or.inl ne_a1_va)
  replace F_values := F_values.other W27 (Or.inl ne_a1_va)
  replace F_slackOf := F_slackOf.other W27 (Or.inl ne_a1_va)
  replace F_duals := F_duals.other W27 (Or.inl ne_a1_va)
  replace V_rh := V_rh.other W27 ne_rh_va
  replace V_ba := V_ba.other W27 ne_ba_va
  replace V_so := V_so.other W27 (Ne.symm ne_va_so)
  replace V_r0 := V_r0.other W27 (Ne.symm ne_va_r0)
  replace V_r1 := V_r1.other W27 (Ne.symm ne_va_r1)
  replace V_du := V_du.other W27 (Ne.symm ne_va_du)
  replace V_col := V_col.other W27 (Ne.symm ne_va_col)
  replace V_ob := V_ob.other W27 (Ne.symm ne_va_ob)
  replace V_ox := V_ox.other W27 (Ne.symm ne_va_ox)
  replace V_oy := V_oy.other W27 (Ne.symm ne_va_oy)
  replace V_ol := V_ol.other W27 (Ne.symm ne_va_ol)
  replace V_oe := V_oe.other W27 (Ne.symm ne_va_oe)
  replace V_va := Q27
  have N27 := own_fr1 (sl := ((0 : Int32)).toNatClampNeg) N24 n0_va
  refine own_aloadN X27 hx hby od_prog_37_method_6_158 (pc' := 159) rfl rfl rfl ?_
  refine own_getF X27 hx hby hZ hown (host := "") (Or.inl (ow_26 hw)) Via.refl e27 F_slackOf od_prog_37_method_6_159 (pc' := 162) rfl ?_
  intro T29 X29 e29
  refine own_iload X29 hx hby od_prog_37_method_6_162 (pc' := 164) rfl rfl ?_
  refine own_iload X29 hx hby od_prog_37_method_6_164 (pc' := 166) rfl rfl ?_
  refine own_isI X29 hx hby hZ e29 V_so ⟨by decide, by decide⟩ 0 rfl (Nat.le_of_ble_eq_true rfl) (ys := [.int (-1 : Int32), .int (0 : Int32)]) rfl od_prog_37_method_6_166 (pc' := 167) rfl ?_
  intro T30 h30 X30 e30 W30 Q30
  have K31 := K28.wr W30 (Or.inl (List.mem_of_getElem? (i := 3) rfl))
  replace A1 := A1.wr W30
  replace F_size := F_size.other W30 (Or.inl ne_a1_so)
  replace F_rightHandSide := F_rightHandSide.other W30 (Or.inl ne_a1_so)
  replace F_basis := F_basis.other W30 (Or.inl ne_a1_so)
  replace F_values := F_values.other W30 (Or.inl ne_a1_so)
  replace F_slackOf := F_slackOf.other W30 (Or.inl ne_a1_so)
  replace F_duals := F_duals.other W30 (Or.inl ne_a1_so)
  replace V_rh := V_rh.other W30 ne_rh_so
  replace V_ba := V_ba.other W30 ne_ba_so
  replace V_va := V_va.other W30 ne_va_so
  replace V_r0 := V_r0.other W30 (Ne.symm ne_so_r0)
  replace V_r1 := V_r1.other W30 (Ne.symm ne_so_r1)
  replace V_du := V_du.other W30 (Ne.symm ne_so_du)
  replace V_col := V_col.other W30 (Ne.symm ne_so_col)
  replace V_ob := V_ob.other W30 (Ne.symm ne_so_ob)
  replace V_ox := V_ox.other W30 (Ne.symm ne_so_ox)
  replace V_oy := V_oy.other W30 (Ne.symm ne_so_oy)
  replace V_ol := V_ol.other W30 (Ne.symm ne_so_ol)
  replace V_oe := V_oe.other W30 (Ne.symm ne_so_oe)
  replace V_so := Q30
  have N30 := own_fr1 (sl := ((0 : Int32)).toNatClampNeg) N27 n0_so
  refine own_aloadN X30 hx hby od_prog_37_method_6_167 (pc' := 168) rfl rfl rfl ?_
  refine own_privM X30 hx hby hml hZ hown (ow_37 hw) (ow_38 hw) (own_selP (ow_38 hw) (ow_39 hw) (ow_58 hw) rfl (by decide)) (ow_39 hw) (ow_3 hw) (ow_40 hw) (by decide) (cc := 5) (ss := 10) (rm_duals2 l Z a0 hw a1 ba col r1 va (4607182418800017408 : UInt64) dl (0 : UInt64) (4607182418800017408 : UInt64) dv (0 : UInt64) uy0 uy1 h30 n0 (Nat.le_trans Z0 K31.1) HY F_basis F_values V_ba V_col V_r1 V_va) 0 rfl rfl (by decide) (by decide) rfl A1 (argsL := []) (rest := []) opd_2 rfl rfl (Nat.le_refl _) od_prog_37_method_6_168 (pc' := 171) rfl rfl e30 (by decide) (by decide) ?_
  rintro v32 T32 h32 L32 X32 e32 ⟨od, rfl, lb32, Eq32, Nq32, V_od⟩
  have ne_a1_od : a1 ≠ od := Nat.ne_of_lt (Nat.lt_of_lt_of_le A1.lt lb32)
  have ne_rh_od : rh ≠ od := Nat.ne_of_lt (Nat.lt_of_lt_of_le V_rh.lt lb32)
  have ne_ba_od : ba ≠ od := Nat.ne_of_lt (Nat.lt_of_lt_of_le V_ba.lt lb32)
  have ne_va_od : va ≠ od := Nat.ne_of_lt (Nat.lt_of_lt_of_le V_va.lt lb32)
  have ne_so_od : so ≠ od := Nat.ne_of_lt (Nat.lt_of_lt_of_le V_so.lt lb32)
  have ne_r0_od : r0 ≠ od := Nat.ne_of_lt (Nat.lt_of_lt_of_le V_r0.lt lb32)
  have ne_r1_od : r1 ≠ od := Nat.ne_of_lt (Nat.lt_of_lt_of_le V_r1.lt lb32)
  have ne_du_od : du ≠ od := Nat.ne_of_lt (Nat.lt_of_lt_of_le V_du.lt lb32)
  have ne_col_od : col ≠ od := Nat.ne_of_lt (Nat.lt_of_lt_of_le V_col.lt lb32)
  have ne_ob_od : ob ≠ od := Nat.ne_of_lt (Nat.lt_of_lt_of_le V_ob.lt lb32)
  have ne_ox_od : ox ≠ od := Nat.ne_of_lt (Nat.lt_of_lt_of_le V_ox.lt lb32)
  have ne_oy_od : oy ≠ od := Nat.ne_of_lt (Nat.lt_of_lt_of_le V_oy.lt lb32)
  have ne_ol_od : ol ≠ od := Nat.ne_of_lt (Nat.lt_of_lt_of_le V_ol.lt lb32)
  have ne_oe_od : oe ≠ od := Nat.ne_of_lt (Nat.lt_of_lt_of_le V_oe.lt lb32)
  have n0_od : n0 ≤ od := Nat.le_trans (Nat.le_trans Z0 K31.1) lb32
  have le33 : h0.size ≤ od := Nat.le_trans K31.1 lb32
  have N32 := N30.app Nq32
  have K34 := K31.ext Eq32
  replace A1 := A1.ext Eq32
  replace F_size := F_size.ext Eq32
  replace F_rightHandSide := F_rightHandSide.ext Eq32
  replace F_basis := F_basis.ext Eq32
  replace F_values := F_values.ext Eq32
  replace F_slackOf := F_slackOf.ext Eq32
  replace F_duals := F_duals.ext Eq32
  replace V_rh := V_rh.ext Eq32
  replace V_ba := V_ba.ext Eq32
  replace V_va := V_va.ext Eq32
  replace V_so := V_so.ext Eq32
  replace V_r0 := V_r0.ext Eq32
  replace V_r1 := V_r1.ext Eq32
  replace V_du := V_du.ext Eq32
  replace V_col := V_col.ext Eq32
  replace V_ob := V_ob.ext Eq32
  replace V_ox := V_ox.ext Eq32
  replace V_oy := V_oy.ext Eq32
  replace V_ol := V_ol.ext Eq32
  replace V_oe := V_oe.ext Eq32
  refine own_astore X32 hx hby od_prog_37_method_6_171 (pc' := 173) rfl rfl (Ls' := #[.val (.ref a1), .val (.ref col), .val (.double dv), .second, .val (.int (-1 : Int32)), .val (.ref ob), .val (.ref ol), .val (.ref oe), .val (.int (0 : Int32)), .val (.double ut0), .second, .val (.ref r0), .val (.double (13830554455654793216 : UInt64)), .second, .val (.int (-1 : Int32)), .val (.ref od)]) rfl ?_
  refine own_aload X32 hx hby od_prog_37_method_6_173 (pc' := 175) rfl rfl rfl ?_
  refine own_ifnonnullY X32 hx hby od_prog_37_method_6_175 (by decide) (pc' := 207) (by decide) ?_
  refine own_aloadN X32 hx hby od_prog_37_method_6_207 (pc' := 208) rfl rfl rfl ?_
  refine own_aload X32 hx hby od_prog_37_method_6_208 (pc' := 210) rfl rfl rfl ?_
  refine own_putF X32 hx hby hZ hown (host := "") (Or.inl (ow_53 hw)) Via.refl e32 F_duals A1 (Or.inl (ow_54 hw)) (ow_2 hw) (ty := (.array .double)) (by decide) rfl rfl od_prog_37_method_6_210 (pc' := 213) rfl ?_
  intro T35 h35 X35 e35 W35 F35_duals_a1 A35_a1
  replace F_size := F_size.other W35 (Or.inr (slot_ne (Or.inr (ow_12 hw)) (Or.inl (ow_54 hw)) (by decide) (t := .int) (t' := (.array .double)) (by decide) (by decide)))
  replace F_rightHandSide := F_rightHandSide.other W35 (Or.inr (slot_ne (Or.inr (ow_14 hw)) (Or.inl (ow_54 hw)) (by decide) (t := (.array .double)) (t' := (.array .double)) (by decide) (by decide)))
  replace F_basis := F_basis.other W35 (Or.inr (slot_ne (Or.inr (ow_22 hw)) (Or.inl (ow_54 hw)) (by decide) (t := (.array (.array .double))) (t' := (.array .double)) (by decide) (by decide)))
  replace F_values := F_values.other W35 (Or.inr (slot_ne (Or.inr (ow_24 hw)) (Or.inl (ow_54 hw)) (by decide) (t := (.array .double)) (t' := (.array .double)) (by decide) (by decide)))
  replace F_slackOf := F_slackOf.other W35 (Or.inr (slot_ne (Or.inr (ow_27 hw)) (Or.inl (ow_54 hw)) (by decide) (t := (.array .int)) (t' := (.array .double)) (by decide) (by decide)))
  have K36 := K34.wr W35 (Or.inl (List.mem_of_getElem? (i := 0) rfl))
  replace V_rh := V_rh.other W35 (Ne.symm ne_a1_rh)
  replace V_ba := V_ba.other W35 (Ne.symm ne_a1_ba)
  replace V_va := V_va.other W35 (Ne.symm ne_a1_va)
  replace V_so := V_so.other W35 (Ne.symm ne_a1_so)
  replace V_r0 := V_r0.other W35 (Ne.symm ne_a1_r0)
  replace V_r1 := V_r1.other W35 (Ne.symm ne_a1_r1)
  replace V_du := V_du.other W35 (Ne.symm ne_a1_du)
  replace V_col := V_col.other W35 (Ne.symm ne_a1_col)
  replace V_ob := V_ob.other W35 (Ne.symm ne_a1_ob)
  replace V_ox := V_ox.other W35 (Ne.symm ne_a1_ox)
  replace V_oy := V_oy.other W35 (Ne.symm ne_a1_oy)
  replace V_ol := V_ol.other W35 (Ne.symm ne_a1_ol)
  replace V_oe := V_oe.other W35 (Ne.symm ne_a1_oe)
  replace V_od := V_od.other W35 (Ne.symm ne_a1_od)
  have N35 := own_fr1 (sl := Jvm.RoadKit.slotOf Z "com/example/bindery/bindery/selection/BindingMix" "duals" "[D") N32 n0_a1
  refine own_iconst X35 hx hby od_prog_37_method_6_213 (pc' := 214) rfl (z := 1) rfl ?_
  exact own_retN X35 hx hby hlk hrt (by simp) od_prog_37_method_6_214 (z' := (1 : Int32)) rfl (by first | exact ⟨rfl, N35, K36, od, le33, ne_a1_od, ne_so_od, A35_a1, F_size, F_slackOf, F35_duals_a1, V_so, V_od⟩ | (rw [e35]; exact ⟨rfl, N35, K36, od, le33, ne_a1_od, ne_so_od, A35_a1, F_size, F_slackOf, F35_duals_a1, V_so, V_od⟩)) (by decide) (by decide)
theorem ef_rm_ste0 (m : MethodId) (x0 : Addr) : entryFrame m #[(.ref x0)] 6 = mkF m 0 #[.val (.ref x0), .unset, .unset, .unset, .unset, .unset] [] := by first | (simp [entryFrame, mkF, argsToLocals, Value.category]; done) | rfl
set_option maxRecDepth 65536 in
set_option maxHeartbeats 40000000 in
theorem rm_ste0 (l : Launch) (Z : State) (a0 : Array Value) (hw : ∀ d ∈ tables_1, d.before a0 Z = true) (a1 so od : Addr) (uy0 uy1 : UInt64) (h0 : Heap) (n0 : Nat) (Z0 : n0 ≤ h0.size) (F_size : Fld Z h0 a1 "com/example/bindery/bindery/selection/BindingMix" "size" "I" (.int (2 : Int32))) (F_slackOf : Fld Z h0 a1 "com/example/bindery/bindery/selection/BindingMix" "slackOf" "[I" (.ref so)) (F_duals : Fld Z h0 a1 "com/example/bindery/bindery/selection/BindingMix" "duals" "[D" (.ref od)) (V_so : own_IA Z h0 so (2 : Int32) [.int (-1 : Int32), .int (0 : Int32)]) (V_od : own_D Z h0 od (2 : Int32) [.double uy0, .double uy1]) :
    own_Met l Z (⟨"com/example/bindery/bindery/selection/BindingMix", "slackToEnter", "()I"⟩ : MethodName) prog_37_method_5_code 6 (some .int) ({ frames := 0, cells := 1, slots := 1, locals := 0 } : Room) #[(.ref a1)] h0 (fun v h L => v = some (.int (-1 : Int32)) ∧ Fr n0 L ∧ Ext h0 h) := by
  refine own_body (plainFor_of_name (by first | (simp [plainName, overriddenIn]; done) | decide +kernel)) ?_
  intro p e s m below meth c s₁ hx hby hml hown hnm hlk hrt hZ X0 e0
  refine own_enter (ef_rm_ste0 m a1) ?_
  have N0 := Fr.nil n0
  refine own_aloadN X0 hx hby od_prog_37_method_5_0 (pc' := 1) rfl rfl rfl ?_
  refine own_getF X0 hx hby hZ hown (host := "") (Or.inl (ow_11 hw)) Via.refl e0 F_size od_prog_37_method_5_1 (pc' := 4) rfl ?_
  intro T1 X1 e1
  refine own_iconst X1 hx hby od_prog_37_method_5_4 (pc' := 5) rfl (z := 1) rfl ?_
  refine own_isubE X1 hx hby od_prog_37_method_5_5 (pc' := 6) rfl (v := (1 : Int32)) rfl ?_
  refine own_newZA X1 hx hby hZ (ow_88 hw) e1 od_prog_37_method_5_6 (pc' := 8) rfl (by decide) (cap := 1) (by decide) (by decide) (by decide) (by decide) (vs := [.int (0 : Int32)]) rfl ?_
  intro T2 h2 b2 g2 X2 e2 E2 V_b2
  have ne_a1_b2 : a1 ≠ b2 := own_nl F_size.lt g2
  have ne_so_b2 : so ≠ b2 := own_nl V_so.lt g2
  have ne_od_b2 : od ≠ b2 := own_nl V_od.lt g2
  have le3 : h0.size ≤ b2 := Nat.le_of_eq g2.symm
  have n0_b2 : n0 ≤ b2 := Nat.le_trans Z0 (Nat.le_of_eq g2.symm)
  replace F_size := F_size.ext E2
  replace F_slackOf := F_slackOf.ext E2
  replace F_duals := F_duals.ext E2
  replace V_so := V_so.ext E2
  replace V_od := V_od.ext E2
  refine own_astoreN X2 hx hby od_prog_37_method_5_8 (pc' := 9) rfl rfl (Ls' := #[.val (.ref a1), .val (.ref b2), .unset, .unset, .unset, .unset]) rfl ?_
  refine own_aloadN X2 hx hby od_prog_37_method_5_9 (pc' := 10) rfl rfl rfl ?_
  refine own_getF X2 hx hby hZ hown (host := "") (Or.inl (ow_26 hw)) Via.refl e2 F_slackOf od_prog_37_method_5_10 (pc' := 13) rfl ?_
  intro T4 X4 e4
  refine own_astoreN X4 hx hby od_prog_37_method_5_13 (pc' := 14) rfl rfl (Ls' := #[.val (.ref a1), .val (.ref b2), .val (.ref so), .unset, .unset, .unset]) rfl ?_
  refine own_aloadN X4 hx hby od_prog_37_method_5_14 (pc' := 15) rfl rfl rfl ?_
  refine own_alIA X4 hx hby hZ e4 V_so od_prog_37_method_5_15 (pc' := 16) rfl ?_
  refine own_istoreN X4 hx hby od_prog_37_method_5_16 (pc' := 17) rfl (Ls' := #[.val (.ref a1), .val (.ref b2), .val (.ref so), .val (.int (2 : Int32)), .unset, .unset]) rfl ?_
  refine own_iconst X4 hx hby od_prog_37_method_5_17 (pc' := 18) rfl (z := 0) rfl ?_
  refine own_istore X4 hx hby od_prog_37_method_5_18 (pc' := 20) rfl (Ls' := #[.val (.ref a1), .val (.ref b2), .val (.ref so), .val (.int (2 : Int32)), .val (.int (0 : Int32)), .unset]) rfl ?_
  refine own_iload X4 hx hby od_prog_37_method_5_20 (pc' := 22) rfl rfl ?_
  refine own_iloadN X4 hx hby od_prog_37_method_5_22 (pc' := 23) rfl rfl ?_
  refine own_icmpN X4 hx hby od_prog_37_method_5_23 (pc' := 26) rfl (tlt (by decide)).2.1 ?_
  refine own_aloadN X4 hx hby od_prog_37_method_5_26 (pc' := 27) rfl rfl rfl ?_
  refine own_iload X4 hx hby od_prog_37_method_5_27 (pc' := 29) rfl rfl ?_
  refine own_iaI X4 hx hby hZ e4 V_so ⟨by decide, by decide⟩ (v := (-1 : Int32)) rfl od_prog_37_method_5_29 (pc' := 30) rfl ?_
  refine own_istore X4 hx hby od_prog_37_method_5_30 (pc' := 32) rfl (Ls' := #[.val (.ref a1), .val (.ref b2), .val (.ref so), .val (.int (2 : Int32)), .val (.int (0 : Int32)), .val (.int (-1 : Int32))]) rfl ?_
  refine own_iload X4 hx hby od_prog_37_method_5_32 (pc' := 34) rfl rfl ?_
  refine own_ifY X4 hx hby od_prog_37_method_5_34 (by decide) (pc' := 42) (by decide) (tlt (by decide)).1 ?_
  refine own_iinc X4 hx hby od_prog_37_method_5_42 (pc' := 45) rfl rfl (z := 1) rfl (Ls' := #[.val (.ref a1), .val (.ref b2), .val (.ref so), .val (.int (2 : Int32)), .val (.int (1 : Int32)), .val (.int (-1 : Int32))]) rfl ?_
  refine own_goto X4 hx hby od_prog_37_method_5_45 (by decide) (pc' := 20) (by decide) ?_
  refine own_iload X4 hx hby od_prog_37_method_5_20 (pc' := 22) rfl rfl ?_
  refine own_iloadN X4 hx hby od_prog_37_method_5_22 (pc' := 23) rfl rfl ?_
  refine own_icmpN X4 hx hby od_prog_37_method_5_23 (pc' := 26) rfl (tlt (by decide)).2.1 ?_
  refine own_aloadN X4 hx hby od_prog_37_method_5_26 (pc' := 27) rfl rfl rfl ?_
  refine own_iload X4 hx hby od_prog_37_method_5_27 (pc' := 29) rfl rfl ?_
  refine own_iaI X4 hx hby hZ e4 V_so ⟨by decide, by decide⟩ (v := (0 : Int32)) rfl od_prog_37_method_5_29 (pc' := 30) rfl ?_
  refine own_istore X4 hx hby od_prog_37_method_5_30 (pc' := 32) rfl (Ls' := #[.val (.ref a1), .val (.ref b2), .val (.ref so), .val (.int (2 : Int32)), .val (.int (1 : Int32)), .val (.int (0 : Int32))]) rfl ?_
  refine own_iload X4 hx hby od_prog_37_method_5_32 (pc' := 34) rfl rfl ?_
  refine own_ifN X4 hx hby od_prog_37_method_5_34 (pc' := 37) rfl (flt (by decide)).1 ?_
  refine own_aloadN X4 hx hby od_prog_37_method_5_37 (pc' := 38) rfl rfl rfl ?_
  refine own_iload X4 hx hby od_prog_37_method_5_38 (pc' := 40) rfl rfl ?_
  refine own_iconst X4 hx hby od_prog_37_method_5_40 (pc' := 41) rfl (z := 1) rfl ?_
  refine own_bsZ X4 hx hby hZ e4 V_b2 ⟨by decide, by decide⟩ 0 rfl (Nat.le_of_ble_eq_true rfl) (ys := [.int (1 : Int32)]) rfl od_prog_37_method_5_41 (pc' := 42) rfl ?_
  intro T5 h5 X5 e5 W5 Q5
  have Ea6 := own_xw E2 W5 le3
  replace F_size := F_size.other W5 (Or.inl ne_a1_b2)
  replace F_slackOf := F_slackOf.other W5 (Or.inl ne_a1_b2)
  replace F_duals := F_duals.other W5 (Or.inl ne_a1_b2)
  replace V_so := V_so.other W5 ne_so_b2
  replace V_od := V_od.other W5 ne_od_b2
  replace V_b2 := Q5
  have N5 := own_fr1 (sl := ((0 : Int32)).toNatClampNeg) N0 n0_b2
  refine own_iinc X5 hx hby od_prog_37_method_5_42 (pc' := 45) rfl rfl (z := 1) rfl (Ls' := #[.val (.ref a1), .val (.ref b2), .val (.ref so), .val (.int (2 : Int32)), .val (.int (2 : Int32)), .val (.int (0 : Int32))]) rfl ?_
  refine own_goto X5 hx hby od_prog_37_method_5_45 (by decide) (pc' := 20) (by decide) ?_
  refine own_iload X5 hx hby od_prog_37_method_5_20 (pc' := 22) rfl rfl ?_
  refine own_iloadN X5 hx hby od_prog_37_method_5_22 (pc' := 23) rfl rfl ?_
  refine own_icmpY X5 hx hby od_prog_37_method_5_23 (by decide) (pc' := 48) (by decide) (flt (by decide)).2.1 ?_
  refine own_iconst X5 hx hby od_prog_37_method_5_48 (pc' := 49) rfl (z := 0) rfl ?_
  refine own_istoreN X5 hx hby od_prog_37_method_5_49 (pc' := 50) rfl (Ls' := #[.val (.ref a1), .val (.ref b2), .val (.int (0 : Int32)), .val (.int (2 : Int32)), .val (.int (2 : Int32)), .val (.int (0 : Int32))]) rfl ?_
  refine own_iloadN X5 hx hby od_prog_37_method_5_50 (pc' := 51) rfl rfl ?_
  refine own_aloadN X5 hx hby od_prog_37_method_5_51 (pc' := 52) rfl rfl rfl ?_
  refine own_alZA X5 hx hby hZ e5 V_b2 od_prog_37_method_5_52 (pc' := 53) rfl ?_
  refine own_icmpN X5 hx hby od_prog_37_method_5_53 (pc' := 56) rfl (tlt (by decide)).2.1 ?_
  refine own_aloadN X5 hx hby od_prog_37_method_5_56 (pc' := 57) rfl rfl rfl ?_
  refine own_iloadN X5 hx hby od_prog_37_method_5_57 (pc' := 58) rfl rfl ?_
  refine own_baZ X5 hx hby hZ e5 V_b2 ⟨by decide, by decide⟩ (v := (1 : Int32)) rfl od_prog_37_method_5_58 (pc' := 59) rfl ?_
  refine own_ifY X5 hx hby od_prog_37_method_5_59 (by decide) (pc' := 79) (by decide) (feq (by decide)).2 ?_
  refine own_iinc X5 hx hby od_prog_37_method_5_79 (pc' := 82) rfl rfl (z := 1) rfl (Ls' := #[.val (.ref a1), .val (.ref b2), .val (.int (1 : Int32)), .val (.int (2 : Int32)), .val (.int (2 : Int32)), .val (.int (0 : Int32))]) rfl ?_
  refine own_goto X5 hx hby od_prog_37_method_5_82 (by decide) (pc' := 50) (by decide) ?_
  refine own_iloadN X5 hx hby od_prog_37_method_5_50 (pc' := 51) rfl rfl ?_
  refine own_aloadN X5 hx hby od_prog_37_method_5_51 (pc' := 52) rfl rfl rfl ?_
  refine own_alZA X5 hx hby hZ e5 V_b2 od_prog_37_method_5_52 (pc' := 53) rfl ?_
  refine own_icmpY X5 hx hby od_prog_37_method_5_53 (by decide) (pc' := 85) (by decide) (flt (by decide)).2.1 ?_
  refine own_iconst X5 hx hby od_prog_37_method_5_85 (pc' := 86) rfl (z := (-1)) rfl ?_
  exact own_retI X5 hx hby hlk hrt od_prog_37_method_5_86 (by first | exact ⟨rfl, N5, Ea6⟩ | (rw [e5]; exact ⟨rfl, N5, Ea6⟩)) (by decide) (by decide)
theorem ef_rm_add0 (m : MethodId) (x0 : Addr) (x1 : UInt64) (x2 : Addr) : entryFrame m #[(.ref x0), (.double x1), (.ref x2)] 7 = mkF m 0 #[.val (.ref x0), .val (.double x1), .second, .val (.ref x2), .unset, .unset, .unset] [] := by first | (simp [entryFrame, mkF, argsToLocals, Value.category]; done) | rfl
set_option maxRecDepth 65536 in
set_option maxHeartbeats 40000000 in
theorem rm_add0 (l : Launch) (Z : State) (a0 : Array Value) (hw : ∀ d ∈ tables_1, d.before a0 Z = true) (a1 rh ba va so r0 r1 du ld : Addr) (dc dl dv LV0 LV1 DV0 DV1 uy0 uy1 : UInt64) (h0 : Heap) (n0 : Nat) (Z0 : n0 ≤ h0.size) (HL : own_Sol2 (4607182418800017408 : UInt64) (0 : UInt64) dc (4607182418800017408 : UInt64) (4607182418800017408 : UInt64) dc LV0 LV1) (HD : own_Sol2 (4607182418800017408 : UInt64) (0 : UInt64) dc (4607182418800017408 : UInt64) (4607182418800017408 : UInt64) dl DV0 DV1) (HR : own_Rat0 LV0 LV1 DV0 DV1) (HY : own_Sol2 (4607182418800017408 : UInt64) dl (0 : UInt64) (4607182418800017408 : UInt64) dv (0 : UInt64) uy0 uy1) (n0_a1 : n0 ≤ a1) (n0_ba : n0 ≤ ba) (n0_va : n0 ≤ va) (n0_so : n0 ≤ so) (ne_a1_rh : a1 ≠ rh) (ne_a1_ba : a1 ≠ ba) (ne_a1_va : a1 ≠ va) (ne_a1_so : a1 ≠ so) (ne_a1_r0 : a1 ≠ r0) (ne_a1_r1 : a1 ≠ r1) (ne_a1_du : a1 ≠ du) (ne_rh_ba : rh ≠ ba) (ne_rh_va : rh ≠ va) (ne_rh_so : rh ≠ so) (ne_rh_r0 : rh ≠ r0) (ne_rh_r1 : rh ≠ r1) (ne_rh_du : rh ≠ du) (ne_ba_va : ba ≠ va) (ne_ba_so : ba ≠ so) (ne_ba_r0 : ba ≠ r0) (ne_ba_r1 : ba ≠ r1) (ne_ba_du : ba ≠ du) (ne_va_so : va ≠ so) (ne_va_r0 : va ≠ r0) (ne_va_r1 : va ≠ r1) (ne_va_du : va ≠ du) (ne_so_r0 : so ≠ r0) (ne_so_r1 : so ≠ r1) (ne_so_du : so ≠ du) (ne_r0_r1 : r0 ≠ r1) (ne_r0_du : r0 ≠ du) (ne_r1_du : r1 ≠ du) (ne_a1_ld : a1 ≠ ld) (ne_rh_ld : rh ≠ ld) (ne_ba_ld : ba ≠ ld) (ne_va_ld : va ≠ ld) (ne_so_ld : so ≠ ld) (ne_r0_ld : r0 ≠ ld) (ne_r1_ld : r1 ≠ ld) (ne_du_ld : du ≠ ld) (A1 : Exa Z h0 a1 "com/example/bindery/bindery/selection/BindingMix") (F_size : Fld Z h0 a1 "com/example/bindery/bindery/selection/BindingMix" "size" "I" (.int (2 : Int32))) (F_rightHandSide : Fld Z h0 a1 "com/example/bindery/bindery/selection/BindingMix" "rightHandSide" "[D" (.ref rh)) (F_basis : Fld Z h0 a1 "com/example/bindery/bindery/selection/BindingMix" "basis" "[[D" (.ref ba)) (F_values : Fld Z h0 a1 "com/example/bindery/bindery/selection/BindingMix" "values" "[D" (.ref va)) (F_slackOf : Fld Z h0 a1 "com/example/bindery/bindery/selection/BindingMix" "slackOf" "[I" (.ref so)) (F_duals : Fld Z h0 a1 "com/example/bindery/bindery/selection/BindingMix" "duals" "[D" (.ref du)) (V_rh : own_D Z h0 rh (2 : Int32) [.double (4607182418800017408 : UInt64), .double dc]) (V_ba : own_DD Z h0 ba (2 : Int32) [.ref r0, .ref r1]) (V_va : own_D Z h0 va (2 : Int32) [.double (13830554455654793216 : UInt64), .double (0 : UInt64)]) (V_so : own_IA Z h0 so (2 : Int32) [.int (-1 : Int32), .int (0 : Int32)]) (V_r0 : own_D Z h0 r0 (2 : Int32) [.double (4607182418800017408 : UInt64), .double dc]) (V_r1 : own_D Z h0 r1 (2 : Int32) [.double (0 : UInt64), .double (4607182418800017408 : UInt64)]) (V_du : own_D Z h0 du (2 : Int32) [.double (13830554455654793216 : UInt64), .double (0 : UInt64)]) (V_ld : own_D Z h0 ld (1 : Int32) [.double dl]) :
    own_Met l Z (⟨"com/example/bindery/bindery/selection/BindingMix", "add", "(D[D)Z"⟩ : MethodName) prog_37_method_4_code 7 (some .boolean) ({ frames := 5, cells := 20, slots := 39, locals := 90 } : Room) #[(.ref a1), (.double dv), (.ref ld)] h0 (fun v h L => v = some (.int (1 : Int32)) ∧ Fr n0 L ∧ Keep h0 h [a1, ba, va, so] ∧ ∃ od : Addr, Exa Z h a1 "com/example/bindery/bindery/selection/BindingMix" ∧ Fld Z h a1 "com/example/bindery/bindery/selection/BindingMix" "size" "I" (.int (2 : Int32)) ∧ Fld Z h a1 "com/example/bindery/bindery/selection/BindingMix" "duals" "[D" (.ref od) ∧ own_D Z h od (2 : Int32) [.double uy0, .double uy1]) := by
  refine own_body (plainFor_of_name (by first | (simp [plainName, overriddenIn]; done) | decide +kernel)) ?_
  intro p e s m below meth c s₁ hx hby hml hown hnm hlk hrt hZ X0 e0
  refine own_enter (ef_rm_add0 m a1 dv ld) ?_
  have N0 := Fr.nil n0
  have K0 := Keep.refl h0 [a1, ba, va, so]
  refine own_aloadN X0 hx hby od_prog_37_method_4_0 (pc' := 1) rfl rfl rfl ?_
  refine own_getF X0 hx hby hZ hown (host := "") (Or.inl (ow_11 hw)) Via.refl e0 F_size od_prog_37_method_4_1 (pc' := 4) rfl ?_
  intro T1 X1 e1
  refine own_newD X1 hx hby hZ (ow_4 hw) e1 od_prog_37_method_4_4 (pc' := 6) rfl (by decide) (cap := 2) (by decide) (by decide) (by decide) (by decide) (vs := [.double (0 : UInt64), .double (0 : UInt64)]) rfl ?_
  intro T2 h2 b2 g2 X2 e2 E2 V_b2
  have ne_a1_b2 : a1 ≠ b2 := own_nl A1.lt g2
  have ne_rh_b2 : rh ≠ b2 := own_nl V_rh.lt g2
  have ne_ba_b2 : ba ≠ b2 := own_nl V_ba.lt g2
  have ne_va_b2 : va ≠ b2 := own_nl V_va.lt g2
  have ne_so_b2 : so ≠ b2 := own_nl V_so.lt g2
  have ne_r0_b2 : r0 ≠ b2 := own_nl V_r0.lt g2
  have ne_r1_b2 : r1 ≠ b2 := own_nl V_r1.lt g2
  have ne_du_b2 : du ≠ b2 := own_nl V_du.lt g2
  have ne_ld_b2 : ld ≠ b2 := own_nl V_ld.lt g2
  have n0_b2 : n0 ≤ b2 := Nat.le_trans (Nat.le_trans Z0 K0.1) (Nat.le_of_eq g2.symm)
  have le3 : h0.size ≤ b2 := Nat.le_trans K0.1 (Nat.le_of_eq g2.symm)
  have K4 := K0.ext E2
  replace A1 := A1.ext E2
  replace F_size := F_size.ext E2
  replace F_rightHandSide := F_rightHandSide.ext E2
  replace F_basis := F_basis.ext E2
  replace F_values := F_values.ext E2
  replace F_slackOf := F_slackOf.ext E2
  replace F_duals := F_duals.ext E2
  replace V_rh := V_rh.ext E2
  replace V_ba := V_ba.ext E2
  replace V_va := V_va.ext E2
  replace V_so := V_so.ext E2
  replace V_r0 := V_r0.ext E2
  replace V_r1 := V_r1.ext E2
  replace V_du := V_du.ext E2
  replace V_ld := V_ld.ext E2
  refine own_astore X2 hx hby od_prog_37_method_4_6 (pc' := 8) rfl rfl (Ls' := #[.val (.ref a1), .val (.double dv), .second, .val (.ref ld), .val (.ref b2), .unset, .unset]) rfl ?_
  refine own_aload X2 hx hby od_prog_37_method_4_8 (pc' := 10) rfl rfl rfl ?_
  refine own_iconst X2 hx hby od_prog_37_method_4_10 (pc' := 11) rfl (z := 0) rfl ?_
  refine own_dconst1 X2 hx hby od_prog_37_method_4_11 (pc' := 12) rfl (v := (4607182418800017408 : UInt64)) rfl ?_
  refine own_dsD X2 hx hby hZ e2 V_b2 ⟨by decide, by decide⟩ 0 rfl (Nat.le_of_ble_eq_true rfl) (ys := [.double (4607182418800017408 : UInt64), .double (0 : UInt64)]) rfl od_prog_37_method_4_12 (pc' := 13) rfl ?_
  intro T5 h5 X5 e5 W5 Q5
  have K6 := K4.wr W5 (Or.inr le3)
  replace A1 := A1.wr W5
  replace F_size := F_size.other W5 (Or.inl ne_a1_b2)
  replace F_rightHandSide := F_rightHandSide.other W5 (Or.inl ne_a1_b2)
  replace F_basis := F_basis.other W5 (Or.inl ne_a1_b2)
  replace F_values := F_values.other W5 (Or.inl ne_a1_b2)
  replace F_slackOf := F_slackOf.other W5 (Or.inl ne_a1_b2)
  replace F_duals := F_duals.other W5 (Or.inl ne_a1_b2)
  replace V_rh := V_rh.other W5 ne_rh_b2
  replace V_ba := V_ba.other W5 ne_ba_b2
  replace V_va := V_va.other W5 ne_va_b2
  replace V_so := V_so.other W5 ne_so_b2
  replace V_r0 := V_r0.other W5 ne_r0_b2
  replace V_r1 := V_r1.other W5 ne_r1_b2
  replace V_du := V_du.other W5 ne_du_b2
  replace V_ld := V_ld.other W5 ne_ld_b2
  replace V_b2 := Q5
  have N5 := own_fr1 (sl := ((0 : Int32)).toNatClampNeg) N0 n0_b2
  refine own_aloadN X5 hx hby od_prog_37_method_4_13 (pc' := 14) rfl rfl rfl ?_
  refine own_iconst X5 hx hby od_prog_37_method_4_14 (pc' := 15) rfl (z := 0) rfl ?_
  refine own_aload X5 hx hby od_prog_37_method_4_15 (pc' := 17) rfl rfl rfl ?_
  refine own_iconst X5 hx hby od_prog_37_method_4_17 (pc' := 18) rfl (z := 1) rfl ?_
  refine own_aloadN X5 hx hby od_prog_37_method_4_18 (pc' := 19) rfl rfl rfl ?_
  refine own_alD X5 hx hby hZ e5 V_ld od_prog_37_method_4_19 (pc' := 20) rfl ?_
  refine own_cpD X5 hx hby hZ hml hown (ow_15 hw) (ow_18 hw) (ow_16 hw) (ow_17 hw) e5 V_ld V_b2 (by decide) (by decide) (by decide) (by decide) (by decide) (us := [.double dl]) rfl (Nat.le_of_ble_eq_true rfl) (ws := [.double (4607182418800017408 : UInt64), .double dl]) rfl (n0 := n0) N5 n0_b2 rfl od_prog_37_method_4_20 (pc' := 23) rfl (by decide) (W := 0) (Nat.le_refl _) (by decide) ?_
  intro T7 h7 L7 X7 e7 N7 K_7 Q7
  have K8 := K6.trans K_7 (allS (Or.inr le3) all0)
  replace A1 := A1.keep K_7
  replace F_size := F_size.keep K_7 (own_niS ne_a1_b2 own_ni0)
  replace F_rightHandSide := F_rightHandSide.keep K_7 (own_niS ne_a1_b2 own_ni0)
  replace F_basis := F_basis.keep K_7 (own_niS ne_a1_b2 own_ni0)
  replace F_values := F_values.keep K_7 (own_niS ne_a1_b2 own_ni0)
  replace F_slackOf := F_slackOf.keep K_7 (own_niS ne_a1_b2 own_ni0)
  replace F_duals := F_duals.keep K_7 (own_niS ne_a1_b2 own_ni0)
  replace V_rh := V_rh.keep K_7 (own_niS ne_rh_b2 own_ni0)
  replace V_ba := V_ba.keep K_7 (own_niS ne_ba_b2 own_ni0)
  replace V_va := V_va.keep K_7 (own_niS ne_va_b2 own_ni0)
  replace V_so := V_so.keep K_7 (own_niS ne_so_b2 own_ni0)
  replace V_r0 := V_r0.keep K_7 (own_niS ne_r0_b2 own_ni0)
  replace V_r1 := V_r1.keep K_7 (own_niS ne_r1_b2 own_ni0)
  replace V_du := V_du.keep K_7 (own_niS ne_du_b2 own_ni0)
  replace V_ld := V_ld.keep K_7 (own_niS ne_ld_b2 own_ni0)
  refine own_aloadN X7 hx hby od_prog_37_method_4_23 (pc' := 24) rfl rfl rfl ?_
  refine own_aload X7 hx hby od_prog_37_method_4_24 (pc' := 26) rfl rfl rfl ?_
  refine own_dloadN X7 hx hby od_prog_37_method_4_26 (pc' := 27) rfl rfl ?_
  refine own_iconst X7 hx hby od_prog_37_method_4_27 (pc' := 28) rfl (z := (-1)) rfl ?_
  refine own_privM X7 hx hby hml hZ hown (ow_73 hw) (ow_74 hw) (own_selP (ow_74 hw) (ow_75 hw) (ow_58 hw) rfl (by decide)) (ow_75 hw) (ow_3 hw) (ow_76 hw) (by decide) (cc := 18) (ss := 36) (rm_enter0 l Z a0 hw a1 rh ba va so r0 r1 du b2 dc dl dv LV0 LV1 DV0 DV1 uy0 uy1 h7 n0 (Nat.le_trans Z0 K8.1) HL HD HR HY n0_a1 n0_ba n0_va n0_so ne_a1_rh ne_a1_ba ne_a1_va ne_a1_so ne_a1_r0 ne_a1_r1 ne_a1_du ne_rh_ba ne_rh_va ne_rh_so ne_rh_r0 ne_rh_r1 ne_rh_du ne_ba_va ne_ba_so ne_ba_r0 ne_ba_r1 ne_ba_du ne_va_so ne_va_r0 ne_va_r1 ne_va_du ne_so_r0 ne_so_r1 ne_so_du ne_r0_r1 ne_r0_du ne_r1_du ne_a1_b2 ne_rh_b2 ne_ba_b2 ne_va_b2 ne_so_b2 ne_r0_b2 ne_r1_b2 ne_du_b2 A1 F_size F_rightHandSide F_basis F_values F_slackOf F_duals V_rh V_ba V_va V_so V_r0 V_r1 V_du Q7) 0 rfl rfl (by decide) (by decide) rfl A1 (argsL := [(.ref b2), (.double dv), (.int (-1 : Int32))]) (rest := []) opd_5 rfl rfl (Nat.le_refl _) od_prog_37_method_4_28 (pc' := 31) rfl rfl e7 (by decide) (by decide) ?_
  rintro v9 T9 h9 L9 X9 e9 ⟨rfl, Nq9, Kq9, od, lb9, ne_a1_od, ne_so_od, A1, F_size, F_slackOf, F_duals, V_so, V_od⟩
  have N9 := N7.app Nq9
  have K10 := K8.trans Kq9 (allS (Or.inl (List.mem_of_getElem? (i := 0) rfl)) (allS (Or.inl (List.mem_of_getElem? (i := 1) rfl)) (allS (Or.inl (List.mem_of_getElem? (i := 2) rfl)) (allS (Or.inl (List.mem_of_getElem? (i := 3) rfl)) all0))))
  refine own_ifY X9 hx hby od_prog_37_method_4_31 (by decide) (pc' := 36) (by decide) (feq (by decide)).2 ?_
  refine own_iconst X9 hx hby od_prog_37_method_4_36 (pc' := 37) rfl (z := 0) rfl ?_
  refine own_istore X9 hx hby od_prog_37_method_4_37 (pc' := 39) rfl (Ls' := #[.val (.ref a1), .val (.double dv), .second, .val (.ref ld), .val (.ref b2), .val (.int (0 : Int32)), .unset]) rfl ?_
  refine own_iload X9 hx hby od_prog_37_method_4_39 (pc' := 41) rfl rfl ?_
  refine own_aloadN X9 hx hby od_prog_37_method_4_41 (pc' := 42) rfl rfl rfl ?_
  refine own_getF X9 hx hby hZ hown (host := "") (Or.inl (ow_11 hw)) Via.refl e9 F_size od_prog_37_method_4_42 (pc' := 45) rfl ?_
  intro T11 X11 e11
  refine own_icmpN X11 hx hby od_prog_37_method_4_45 (pc' := 48) rfl (tlt (by decide)).2.1 ?_
  refine own_aloadN X11 hx hby od_prog_37_method_4_48 (pc' := 49) rfl rfl rfl ?_
  refine own_privM X11 hx hby hml hZ hown (ow_84 hw) (ow_85 hw) (own_selP (ow_85 hw) (ow_86 hw) (ow_58 hw) rfl (by decide)) (ow_86 hw) (ow_3 hw) (ow_87 hw) (by decide) (cc := 1) (ss := 1) (rm_ste0 l Z a0 hw a1 so od uy0 uy1 h9 n0 (Nat.le_trans Z0 K10.1) F_size F_slackOf F_duals V_so V_od) 0 rfl rfl (by decide) (by decide) rfl A1 (argsL := []) (rest := []) opd_6 rfl rfl (Nat.le_refl _) od_prog_37_method_4_49 (pc' := 52) rfl rfl e11 (by decide) (by decide) ?_
  rintro v12 T12 h12 L12 X12 e12 ⟨rfl, Nq12, Eq12⟩
  have N12 := N9.app Nq12
  have K13 := K10.ext Eq12
  replace A1 := A1.ext Eq12
  replace F_size := F_size.ext Eq12
  replace F_slackOf := F_slackOf.ext Eq12
  replace F_duals := F_duals.ext Eq12
  replace V_so := V_so.ext Eq12
  replace V_od := V_od.ext Eq12
  refine own_istore X12 hx hby od_prog_37_method_4_52 (pc' := 54) rfl (Ls' := #[.val (.ref a1), .val (.double dv), .second, .val (.ref ld), .val (.ref b2), .val (.int (0 : Int32)), .val (.int (-1 : Int32))]) rfl ?_
  refine own_iload X12 hx hby od_prog_37_method_4_54 (pc' := 56) rfl rfl ?_
  refine own_ifN X12 hx hby od_prog_37_method_4_56 (pc' := 59) rfl (tlt (by decide)).2.1 ?_
  refine own_iconst X12 hx hby od_prog_37_method_4_59 (pc' := 60) rfl (z := 1) rfl ?_
  exact own_retN X12 hx hby hlk hrt (by simp) od_prog_37_method_4_60 (z' := (1 : Int32)) rfl (by first | exact ⟨rfl, N12, K13, od, A1, F_size, F_duals, V_od⟩ | (rw [e12]; exact ⟨rfl, N12, K13, od, A1, F_size, F_duals, V_od⟩)) (by decide) (by decide)
theorem ef_rm_enter1 (m : MethodId) (x0 : Addr) (x1 : Addr) (x2 : UInt64) (x3 : Int32) : entryFrame m #[(.ref x0), (.ref x1), (.double x2), (.int x3)] 16 = mkF m 0 #[.val (.ref x0), .val (.ref x1), .val (.double x2), .second, .val (.int x3), .unset, .unset, .unset, .unset, .unset, .unset, .unset, .unset, .unset, .unset, .unset] [] := by first | (simp [entryFrame, mkF, argsToLocals, Value.category]; done) | rfl
set_option maxRecDepth 65536 in
set_option maxHeartbeats 40000000 in
theorem rm_enter1 (l : Launch) (Z : State) (a0 : Array Value) (hw : ∀ d ∈ tables_1, d.before a0 Z = true) (a1 rh ba va so r0 r1 du col : Addr) (dc dl dv LV0 LV1 DV0 DV1 uy0 uy1 : UInt64) (h0 : Heap) (n0 : Nat) (Z0 : n0 ≤ h0.size) (HL : own_Sol2 (4607182418800017408 : UInt64) (0 : UInt64) dc (4607182418800017408 : UInt64) (4607182418800017408 : UInt64) dc LV0 LV1) (HD : own_Sol2 (4607182418800017408 : UInt64) (0 : UInt64) dc (4607182418800017408 : UInt64) (4607182418800017408 : UInt64) dl DV0 DV1) (HR : own_Rat1 LV0 LV1 DV0 DV1) (HY : own_Sol2 (4607182418800017408 : UInt64) dc (4607182418800017408 : UInt64) dl (13830554455654793216 : UInt64) dv uy0 uy1) (n0_a1 : n0 ≤ a1) (n0_ba : n0 ≤ ba) (n0_va : n0 ≤ va) (n0_so : n0 ≤ so) (ne_a1_rh : a1 ≠ rh) (ne_a1_ba : a1 ≠ ba) (ne_a1_va : a1 ≠ va) (ne_a1_so : a1 ≠ so) (ne_a1_r0 : a1 ≠ r0) (ne_a1_r1 : a1 ≠ r1) (ne_a1_du : a1 ≠ du) (ne_rh_ba : rh ≠ ba) (ne_rh_va : rh ≠ va) (ne_rh_so : rh ≠ so) (ne_rh_r0 : rh ≠ r0) (ne_rh_r1 : rh ≠ r1) (ne_rh_du : rh ≠ du) (ne_ba_va : ba ≠ va) (ne_ba_so : ba ≠ so) (ne_ba_r0 : ba ≠ r0) (ne_ba_r1 : ba ≠ r1) (ne_ba_du : ba ≠ du) (ne_va_so : va ≠ so) (ne_va_r0 : va ≠ r0) (ne_va_r1 : va ≠ r1) (ne_va_du : va ≠ du) (ne_so_r0 : so ≠ r0) (ne_so_r1 : so ≠ r1) (ne_so_du : so ≠ du) (ne_r0_r1 : r0 ≠ r1) (ne_r0_du : r0 ≠ du) (ne_r1_du : r1 ≠ du) (ne_a1_col : a1 ≠ col) (ne_rh_col : rh ≠ col) (ne_ba_col : ba ≠ col) (ne_va_col : va ≠ col) (ne_so_col : so ≠ col) (ne_r0_col : r0 ≠ col) (ne_r1_col : r1 ≠ col) (ne_du_col : du ≠ col) (A1 : Exa Z h0 a1 "com/example/bindery/bindery/selection/BindingMix") (F_size : Fld Z h0 a1 "com/example/bindery/bindery/selection/BindingMix" "size" "I" (.int (2 : Int32))) (F_rightHandSide : Fld Z h0 a1 "com/example/bindery/bindery/selection/BindingMix" "rightHandSide" "[D" (.ref rh)) (F_basis : Fld Z h0 a1 "com/example/bindery/bindery/selection/BindingMix" "basis" "[[D" (.ref ba)) (F_values : Fld Z h0 a1 "com/example/bindery/bindery/selection/BindingMix" "values" "[D" (.ref va)) (F_slackOf : Fld Z h0 a1 "com/example/bindery/bindery/selection/BindingMix" "slackOf" "[I" (.ref so)) (F_duals : Fld Z h0 a1 "com/example/bindery/bindery/selection/BindingMix" "duals" "[D" (.ref du)) (V_rh : own_D Z h0 rh (2 : Int32) [.double (4607182418800017408 : UInt64), .double dc]) (V_ba : own_DD Z h0 ba (2 : Int32) [.ref r0, .ref r1]) (V_va : own_D Z h0 va (2 : Int32) [.double (13830554455654793216 : UInt64), .double (0 : UInt64)]) (V_so : own_IA Z h0 so (2 : Int32) [.int (-1 : Int32), .int (0 : Int32)]) (V_r0 : own_D Z h0 r0 (2 : Int32) [.double (4607182418800017408 : UInt64), .double dc]) (V_r1 : own_D Z h0 r1 (2 : Int32) [.double (0 : UInt64), .double (4607182418800017408 : UInt64)]) (V_du : own_D Z h0 du (2 : Int32) [.double (13830554455654793216 : UInt64), .double (0 : UInt64)]) (V_col : own_D Z h0 col (2 : Int32) [.double (4607182418800017408 : UInt64), .double dl]) :
    own_Met l Z (⟨"com/example/bindery/bindery/selection/BindingMix", "enter", "([DDI)Z"⟩ : MethodName) prog_37_method_6_code 16 (some .boolean) ({ frames := 4, cells := 18, slots := 36, locals := 63 } : Room) #[(.ref a1), (.ref col), (.double dv), (.int (-1 : Int32))] h0 (fun v h L => v = some (.int (1 : Int32)) ∧ Fr n0 L ∧ Keep h0 h [a1, ba, va, so] ∧ ∃ od : Addr, h0.size ≤ od ∧ a1 ≠ od ∧ so ≠ od ∧ Exa Z h a1 "com/example/bindery/bindery/selection/BindingMix" ∧ Fld Z h a1 "com/example/bindery/bindery/selection/BindingMix" "size" "I" (.int (2 : Int32)) ∧ Fld Z h a1 "com/example/bindery/bindery/selection/BindingMix" "slackOf" "[I" (.ref so) ∧ Fld Z h a1 "com/example/bindery/bindery/selection/BindingMix" "duals" "[D" (.ref od) ∧ own_IA Z h so (2 : Int32) [.int (-1 : Int32), .int (-1 : Int32)] ∧ own_D Z h od (2 : Int32) [.double uy0, .double uy1]) := by
  refine own_body (plainFor_of_name (by first | (simp [plainName, overriddenIn]; done) | decide +kernel)) ?_
  intro p e s m below meth c s₁ hx hby hml hown hnm hlk hrt hZ X0 e0
  refine own_enter (ef_rm_enter1 m a1 col dv (-1 : Int32)) ?_
  have N0 := Fr.nil n0
  have K0 := Keep.refl h0 [a1, ba, va, so]
  obtain ⟨um0, ut0, um1, ut1, R1, R2, R3, R4, R5, R6, R7, R8⟩ := HR
  refine own_aloadN X0 hx hby od_prog_37_method_6_0 (pc' := 1) rfl rfl rfl ?_
  refine own_privM X0 hx hby hml hZ hown (ow_77 hw) (ow_78 hw) (own_selP (ow_78 hw) (ow_79 hw) (ow_58 hw) rfl (by decide)) (ow_79 hw) (ow_3 hw) (ow_80 hw) (by decide) (cc := 3) (ss := 6) (rm_mat l Z a0 hw a1 ba r0 r1 (4607182418800017408 : UInt64) dc (0 : UInt64) (4607182418800017408 : UInt64) h0 n0 (Nat.le_trans Z0 K0.1) F_size F_basis V_ba V_r0 V_r1) 0 rfl rfl (by decide) (by decide) rfl A1 (argsL := []) (rest := []) opd_4 rfl rfl (Nat.le_refl _) od_prog_37_method_6_1 (pc' := 4) rfl rfl e0 (by decide) (by decide) ?_
  rintro v1 T1 h1 L1 X1 e1 ⟨ob, ox, oy, lb1, lx1, ly1, rfl, ne_ob_ox, ne_ob_oy, ne_ox_oy, Eq1, Nq1, V_ob, V_ox, V_oy⟩
  have ne_a1_ob : a1 ≠ ob := Nat.ne_of_lt (Nat.lt_of_lt_of_le A1.lt lb1)
  have ne_rh_ob : rh ≠ ob := Nat.ne_of_lt (Nat.lt_of_lt_of_le V_rh.lt lb1)
  have ne_ba_ob : ba ≠ ob := Nat.ne_of_lt (Nat.lt_of_lt_of_le V_ba.lt lb1)
  have ne_va_ob : va ≠ ob := Nat.ne_of_lt (Nat.lt_of_lt_of_le V_va.lt lb1)
  have ne_so_ob : so ≠ ob := Nat.ne_of_lt (Nat.lt_of_lt_of_le V_so.lt lb1)
  have ne_r0_ob : r0 ≠ ob := Nat.ne_of_lt (Nat.lt_of_lt_of_le V_r0.lt lb1)
  have ne_r1_ob : r1 ≠ ob := Nat.ne_of_lt (Nat.lt_of_lt_of_le V_r1.lt lb1)
  have ne_du_ob : du ≠ ob := Nat.ne_of_lt (Nat.lt_of_lt_of_le V_du.lt lb1)
  have ne_col_ob : col ≠ ob := Nat.ne_of_lt (Nat.lt_of_lt_of_le V_col.lt lb1)
  have n0_ob : n0 ≤ ob := Nat.le_trans (Nat.le_trans Z0 K0.1) lb1
  have le2 : h0.size ≤ ob := Nat.le_trans K0.1 lb1
  have ne_a1_ox : a1 ≠ ox := Nat.ne_of_lt (Nat.lt_of_lt_of_le A1.lt lx1)
  have ne_rh_ox : rh ≠ ox := Nat.ne_of_lt (Nat.lt_of_lt_of_le V_rh.lt lx1)
  have ne_ba_ox : ba ≠ ox := Nat.ne_of_lt (Nat.lt_of_lt_of_le V_ba.lt lx1)
  have ne_va_ox : va ≠ ox := Nat.ne_of_lt (Nat.lt_of_lt_of_le V_va.lt lx1)
  have ne_so_ox : so ≠ ox := Nat.ne_of_lt (Nat.lt_of_lt_of_le V_so.lt lx1)
  have ne_r0_ox : r0 ≠ ox := Nat.ne_of_lt (Nat.lt_of_lt_of_le V_r0.lt lx1)
  have ne_r1_ox : r1 ≠ ox := Nat.ne_of_lt (Nat.lt_of_lt_of_le V_r1.lt lx1)
  have ne_du_ox : du ≠ ox := Nat.ne_of_lt (Nat.lt_of_lt_of_le V_du.lt lx1)
  have ne_col_ox : col ≠ ox := Nat.ne_of_lt (Nat.lt_of_lt_of_le V_col.lt lx1)
  have n0_ox : n0 ≤ ox := Nat.le_trans (Nat.le_trans Z0 K0.1) lx1
  have le3 : h0.size ≤ ox := Nat.le_trans K0.1 lx1
  have ne_a1_oy : a1 ≠ oy := Nat.ne_of_lt (Nat.lt_of_lt_of_le A1.lt ly1)
  have ne_rh_oy : rh ≠ oy := Nat.ne_of_lt (Nat.lt_of_lt_of_le V_rh.lt ly1)
  have ne_ba_oy : ba ≠ oy := Nat.ne_of_lt (Nat.lt_of_lt_of_le V_ba.lt ly1)
  have ne_va_oy : va ≠ oy := Nat.ne_of_lt (Nat.lt_of_lt_of_le V_va.lt ly1)
  have ne_so_oy : so ≠ oy := Nat.ne_of_lt (Nat.lt_of_lt_of_le V_so.lt ly1)
  have ne_r0_oy : r0 ≠ oy := Nat.ne_of_lt (Nat.lt_of_lt_of_le V_r0.lt ly1)
  have ne_r1_oy : r1 ≠ oy := Nat.ne_of_lt (Nat.lt_of_lt_of_le V_r1.lt ly1)
  have ne_du_oy : du ≠ oy := Nat.ne_of_lt (Nat.lt_of_lt_of_le V_du.lt ly1)
  have ne_col_oy : col ≠ oy := Nat.ne_of_lt (Nat.lt_of_lt_of_le V_col.lt ly1)
  have n0_oy : n0 ≤ oy := Nat.le_trans (Nat.le_trans Z0 K0.1) ly1
  have le4 : h0.size ≤ oy := Nat.le_trans K0.1 ly1
  have N1 := N0.app Nq1
  have K5 := K0.ext Eq1
  replace A1 := A1.ext Eq1
  replace F_size := F_size.ext Eq1
  replace F_rightHandSide := F_rightHandSide.ext Eq1
  replace F_basis := F_basis.ext Eq1
  replace F_values := F_values.ext Eq1
  replace F_slackOf := F_slackOf.ext Eq1
  replace F_duals := F_duals.ext Eq1
  replace V_rh := V_rh.ext Eq1
  replace V_ba := V_ba.ext Eq1
  replace V_va := V_va.ext Eq1
  replace V_so := V_so.ext Eq1
  replace V_r0 := V_r0.ext Eq1
  replace V_r1 := V_r1.ext Eq1
  replace V_du := V_du.ext Eq1
  replace V_col := V_col.ext Eq1
  refine own_astore X1 hx hby od_prog_37_method_6_4 (pc' := 6) rfl rfl (Ls' := #[.val (.ref a1), .val (.ref col), .val (.double dv), .second, .val (.int (-1 : Int32)), .val (.ref ob), .unset, .unset, .unset, .unset, .unset, .unset, .unset, .unset, .unset, .unset]) rfl ?_
  refine own_aload X1 hx hby od_prog_37_method_6_6 (pc' := 8) rfl rfl rfl ?_
  refine own_aloadN X1 hx hby od_prog_37_method_6_8 (pc' := 9) rfl rfl rfl ?_
  refine own_getF X1 hx hby hZ hown (host := "") (Or.inl (ow_13 hw)) Via.refl e1 F_rightHandSide od_prog_37_method_6_9 (pc' := 12) rfl ?_
  intro T6 X6 e6
  refine own_callM X6 hx hby hml hZ hown (ow_41 hw) (ow_42 hw) (ow_3 hw) (ow_43 hw) (by decide) (cc := 5) (ss := 10) (rm_solve2 l Z a0 hw ob ox oy rh (4607182418800017408 : UInt64) (0 : UInt64) dc (4607182418800017408 : UInt64) (4607182418800017408 : UInt64) dc LV0 LV1 h1 n0 (Nat.le_trans Z0 K5.1) HL V_ob V_ox V_oy V_rh) 0 rfl rfl (by decide) (by decide) rfl (argsL := [(.ref ob), (.ref rh)]) (rest := []) opd_1 rfl rfl (Nat.le_refl _) od_prog_37_method_6_12 (pc' := 15) rfl rfl e6 (by decide) (by decide) ?_
  rintro v7 T7 h7 L7 X7 e7 ⟨ol, rfl, lb7, Eq7, Nq7, V_ol⟩
  have ne_a1_ol : a1 ≠ ol := Nat.ne_of_lt (Nat.lt_of_lt_of_le A1.lt lb7)
  have ne_rh_ol : rh ≠ ol := Nat.ne_of_lt (Nat.lt_of_lt_of_le V_rh.lt lb7)
  have ne_ba_ol : ba ≠ ol := Nat.ne_of_lt (Nat.lt_of_lt_of_le V_ba.lt lb7)
  have ne_va_ol : va ≠ ol := Nat.ne_of_lt (Nat.lt_of_lt_of_le V_va.lt lb7)
  have ne_so_ol : so ≠ ol := Nat.ne_of_lt (Nat.lt_of_lt_of_le V_so.lt lb7)
  have ne_r0_ol : r0 ≠ ol := Nat.ne_of_lt (Nat.lt_of_lt_of_le V_r0.lt lb7)
  have ne_r1_ol : r1 ≠ ol := Nat.ne_of_lt (Nat.lt_of_lt_of_le V_r1.lt lb7)
  have ne_du_ol : du ≠ ol := Nat.ne_of_lt (Nat.lt_of_lt_of_le V_du.lt lb7)
  have ne_col_ol : col ≠ ol := Nat.ne_of_lt (Nat.lt_of_lt_of_le V_col.lt lb7)
  have ne_ob_ol : ob ≠ ol := Nat.ne_of_lt (Nat.lt_of_lt_of_le V_ob.lt lb7)
  have ne_ox_ol : ox ≠ ol := Nat.ne_of_lt (Nat.lt_of_lt_of_le V_ox.lt lb7)
  have ne_oy_ol : oy ≠ ol := Nat.ne_of_lt (Nat.lt_of_lt_of_le V_oy.lt lb7)
  have n0_ol : n0 ≤ ol := Nat.le_trans (Nat.le_trans Z0 K5.1) lb7
  have le8 : h0.size ≤ ol := Nat.le_trans K5.1 lb7
  have N7 := N1.app Nq7
  have K9 := K5.ext Eq7
  replace A1 := A1.ext Eq7
  replace F_size := F_size.ext Eq7
  replace F_rightHandSide := F_rightHandSide.ext Eq7
  replace F_basis := F_basis.ext Eq7
  replace F_values := F_values.ext Eq7
  replace F_slackOf := F_slackOf.ext Eq7
  replace F_duals := F_duals.ext Eq7
  replace V_rh := V_rh.ext Eq7
  replace V_ba := V_ba.ext Eq7
  replace V_va := V_va.ext Eq7
  replace V_so := V_so.ext Eq7
  replace V_r0 := V_r0.ext Eq7
  replace V_r1 := V_r1.ext Eq7
  replace V_du := V_du.ext Eq7
  replace V_col := V_col.ext Eq7
  replace V_ob := V_ob.ext Eq7
  replace V_ox := V_ox.ext Eq7
  replace V_oy := V_oy.ext Eq7
  refine own_astore X7 hx hby od_prog_37_method_6_15 (pc' := 17) rfl rfl (Ls' := #[.val (.ref a1), .val (.ref col), .val (.double dv), .second, .val (.int (-1 : Int32)), .val (.ref ob), .val (.ref ol), .unset, .unset, .unset, .unset, .unset, .unset, .unset, .unset, .unset]) rfl ?_
  refine own_aload X7 hx hby od_prog_37_method_6_17 (pc' := 19) rfl rfl rfl ?_
  refine own_aloadN X7 hx hby od_prog_37_method_6_19 (pc' := 20) rfl rfl rfl ?_
  refine own_callM X7 hx hby hml hZ hown (ow_41 hw) (ow_42 hw) (ow_3 hw) (ow_43 hw) (by decide) (cc := 5) (ss := 10) (rm_solve2 l Z a0 hw ob ox oy col (4607182418800017408 : UInt64) (0 : UInt64) dc (4607182418800017408 : UInt64) (4607182418800017408 : UInt64) dl DV0 DV1 h7 n0 (Nat.le_trans Z0 K9.1) HD V_ob V_ox V_oy V_col) 0 rfl rfl (by decide) (by decide) rfl (argsL := [(.ref ob), (.ref col)]) (rest := []) opd_1 rfl rfl (Nat.le_refl _) od_prog_37_method_6_20 (pc' := 23) rfl rfl e7 (by decide) (by decide) ?_
  rintro v10 T10 h10 L10 X10 e10 ⟨oe, rfl, lb10, Eq10, Nq10, V_oe⟩
  have ne_a1_oe : a1 ≠ oe := Nat.ne_of_lt (Nat.lt_of_lt_of_le A1.lt lb10)
  have ne_rh_oe : rh ≠ oe := Nat.ne_of_lt (Nat.lt_of_lt_of_le V_rh.lt lb10)
  have ne_ba_oe : ba ≠ oe := Nat.ne_of_lt (Nat.lt_of_lt_of_le V_ba.lt lb10)
  have ne_va_oe : va ≠ oe := Nat.ne_of_lt (Nat.lt_of_lt_of_le V_va.lt lb10)
  have ne_so_oe : so ≠ oe := Nat.ne_of_lt (Nat.lt_of_lt_of_le V_so.lt lb10)
  have ne_r0_oe : r0 ≠ oe := Nat.ne_of_lt (Nat.lt_of_lt_of_le V_r0.lt lb10)
  have ne_r1_oe : r1 ≠ oe := Nat.ne_of_lt (Nat.lt_of_lt_of_le V_r1.lt lb10)
  have ne_du_oe : du ≠ oe := Nat.ne_of_lt (Nat.lt_of_lt_of_le V_du.lt lb10)
  have ne_col_oe : col ≠ oe := Nat.ne_of_lt (Nat.lt_of_lt_of_le V_col.lt lb10)
  have ne_ob_oe : ob ≠ oe := Nat.ne_of_lt (Nat.lt_of_lt_of_le V_ob.lt lb10)
  have ne_ox_oe : ox ≠ oe := Nat.ne_of_lt (Nat.lt_of_lt_of_le V_ox.lt lb10)
  have ne_oy_oe : oy ≠ oe := Nat.ne_of_lt (Nat.lt_of_lt_of_le V_oy.lt lb10)
  have ne_ol_oe : ol ≠ oe := Nat.ne_of_lt (Nat.lt_of_lt_of_le V_ol.lt lb10)
  have n0_oe : n0 ≤ oe := Nat.le_trans (Nat.le_trans Z0 K9.1) lb10
  have le11 : h0.size ≤ oe := Nat.le_trans K9.1 lb10
  have N10 := N7.app Nq10
  have K12 := K9.ext Eq10
  replace A1 := A1.ext Eq10
  replace F_size := F_size.ext Eq10
  replace F_rightHandSide := F_rightHandSide.ext Eq10
  replace F_basis := F_basis.ext Eq10
  replace F_values := F_values.ext Eq10
  replace F_slackOf := F_slackOf.ext Eq10
  replace F_duals := F_duals.ext Eq10
  replace V_rh := V_rh.ext Eq10
  replace V_ba := V_ba.ext Eq10
  replace V_va := V_va.ext Eq10
  replace V_so := V_so.ext Eq10
  replace V_r0 := V_r0.ext Eq10
  replace V_r1 := V_r1.ext Eq10
  replace V_du := V_du.ext Eq10
  replace V_col := V_col.ext Eq10
  replace V_ob := V_ob.ext Eq10
  replace V_ox := V_ox.ext Eq10
  replace V_oy := V_oy.ext Eq10
  replace V_ol := V_ol.ext Eq10
  refine own_astore X10 hx hby od_prog_37_method_6_23 (pc' := 25) rfl rfl (Ls' := #[.val (.ref a1), .val (.ref col), .val (.double dv), .second, .val (.int (-1 : Int32)), .val (.ref ob), .val (.ref ol), .val (.ref oe), .unset, .unset, .unset, .unset, .unset, .unset, .unset, .unset]) rfl ?_
  refine own_aload X10 hx hby od_prog_37_method_6_25 (pc' := 27) rfl rfl rfl ?_
  refine own_ifnullN X10 hx hby od_prog_37_method_6_27 (pc' := 30) rfl ?_
  refine own_aload X10 hx hby od_prog_37_method_6_30 (pc' := 32) rfl rfl rfl ?_
  refine own_ifnonnullY X10 hx hby od_prog_37_method_6_32 (by decide) (pc' := 37) (by decide) ?_
  refine own_iconst X10 hx hby od_prog_37_method_6_37 (pc' := 38) rfl (z := (-1)) rfl ?_
  refine own_istore X10 hx hby od_prog_37_method_6_38 (pc' := 40) rfl (Ls' := #[.val (.ref a1), .val (.ref col), .val (.double dv), .second, .val (.int (-1 : Int32)), .val (.ref ob), .val (.ref ol), .val (.ref oe), .val (.int (-1 : Int32)), .unset, .unset, .unset, .unset, .unset, .unset, .unset]) rfl ?_
  refine own_ldcD X10 hx hby hZ hown (ow_82 hw) od_prog_37_method_6_40 (pc' := 43) rfl ?_
  refine own_dstore X10 hx hby od_prog_37_method_6_43 (pc' := 45) rfl (Ls' := #[.val (.ref a1), .val (.ref col), .val (.double dv), .second, .val (.int (-1 : Int32)), .val (.ref ob), .val (.ref ol), .val (.ref oe), .val (.int (-1 : Int32)), .val (.double (9218868437227405312 : UInt64)), .second, .unset, .unset, .unset, .unset, .unset]) rfl ?_
  refine own_iconst X10 hx hby od_prog_37_method_6_45 (pc' := 46) rfl (z := 0) rfl ?_
  refine own_istore X10 hx hby od_prog_37_method_6_46 (pc' := 48) rfl (Ls' := #[.val (.ref a1), .val (.ref col), .val (.double dv), .second, .val (.int (-1 : Int32)), .val (.ref ob), .val (.ref ol), .val (.ref oe), .val (.int (-1 : Int32)), .val (.double (9218868437227405312 : UInt64)), .second, .val (.int (0 : Int32)), .unset, .unset, .unset, .unset]) rfl ?_
  refine own_iload X10 hx hby od_prog_37_method_6_48 (pc' := 50) rfl rfl ?_
  refine own_aloadN X10 hx hby od_prog_37_method_6_50 (pc' := 51) rfl rfl rfl ?_
  refine own_getF X10 hx hby hZ hown (host := "") (Or.inl (ow_11 hw)) Via.refl e10 F_size od_prog_37_method_6_51 (pc' := 54) rfl ?_
  intro T13 X13 e13
  refine own_icmpN X13 hx hby od_prog_37_method_6_54 (pc' := 57) rfl (tlt (by decide)).2.1 ?_
  refine own_aload X13 hx hby od_prog_37_method_6_57 (pc' := 59) rfl rfl rfl ?_
  refine own_iload X13 hx hby od_prog_37_method_6_59 (pc' := 61) rfl rfl ?_
  refine own_daD X13 hx hby hZ e13 V_oe ⟨by decide, by decide⟩ (v := DV0) rfl od_prog_37_method_6_61 (pc' := 62) rfl ?_
  refine own_ldcD X13 hx hby hZ hown (ow_83 hw) od_prog_37_method_6_62 (pc' := 65) rfl ?_
  obtain ⟨dv14, hd14, hk14⟩ := R1
  refine own_dcmp X13 hx hby od_prog_37_method_6_65 (pc' := 66) rfl (v := dv14) hd14 ?_
  refine own_ifN X13 hx hby od_prog_37_method_6_66 (pc' := 69) rfl (tlt hk14).2.2.2 ?_
  refine own_dconst0 X13 hx hby od_prog_37_method_6_69 (pc' := 70) rfl (v := (0 : UInt64)) rfl ?_
  refine own_aload X13 hx hby od_prog_37_method_6_70 (pc' := 72) rfl rfl rfl ?_
  refine own_iload X13 hx hby od_prog_37_method_6_72 (pc' := 74) rfl rfl ?_
  refine own_daD X13 hx hby hZ e13 V_ol ⟨by decide, by decide⟩ (v := LV0) rfl od_prog_37_method_6_74 (pc' := 75) rfl ?_
  refine own_maxD X13 hx hby hZ hml hown (ow_65 hw) (ow_66 hw) (ow_50 hw) (ow_67 hw) e13 okl_3 HL.fin.1.noNaN (v := um0) R2 rfl od_prog_37_method_6_75 (pc' := 78) rfl (W := 0) (Nat.le_refl _) (by decide) (by decide) (by decide) (by decide) ?_
  intro T15 X15 e15
  refine own_aload X15 hx hby od_prog_37_method_6_78 (pc' := 80) rfl rfl rfl ?_
  refine own_iload X15 hx hby od_prog_37_method_6_80 (pc' := 82) rfl rfl ?_
  refine own_daD X15 hx hby hZ e15 V_oe ⟨by decide, by decide⟩ (v := DV0) rfl od_prog_37_method_6_82 (pc' := 83) rfl ?_
  refine own_ddiv X15 hx hby od_prog_37_method_6_83 (pc' := 84) rfl R3.1 (v := ut0) R3.2 ?_
  refine own_dstore X15 hx hby od_prog_37_method_6_84 (pc' := 86) rfl (Ls' := #[.val (.ref a1), .val (.ref col), .val (.double dv), .second, .val (.int (-1 : Int32)), .val (.ref ob), .val (.ref ol), .val (.ref oe), .val (.int (-1 : Int32)), .val (.double (9218868437227405312 : UInt64)), .second, .val (.int (0 : Int32)), .val (.double ut0), .second, .unset, .unset]) rfl ?_
  refine own_dload X15 hx hby od_prog_37_method_6_86 (pc' := 88) rfl rfl ?_
  refine own_dload X15 hx hby od_prog_37_method_6_88 (pc' := 90) rfl rfl ?_
  obtain ⟨dv16, hd16, hk16⟩ := R4
  refine own_dcmp X15 hx hby od_prog_37_method_6_90 (pc' := 91) rfl (v := dv16) hd16 ?_
  refine own_ifN X15 hx hby od_prog_37_method_6_91 (pc' := 94) rfl (tlt hk16).2.1 ?_
  refine own_dload X15 hx hby od_prog_37_method_6_94 (pc' := 96) rfl rfl ?_
  refine own_dstore X15 hx hby od_prog_37_method_6_96 (pc' := 98) rfl (Ls' := #[.val (.ref a1), .val (.ref col), .val (.double dv), .second, .val (.int (-1 : Int32)), .val (.ref ob), .val (.ref ol), .val (.ref oe), .val (.int (-1 : Int32)), .val (.double ut0), .second, .val (.int (0 : Int32)), .val (.double ut0), .second, .unset, .unset]) rfl ?_
  refine own_iload X15 hx hby od_prog_37_method_6_98 (pc' := 100) rfl rfl ?_
  refine own_istore X15 hx hby od_prog_37_method_6_100 (pc' := 102) rfl (Ls' := #[.val (.ref a1), .val (.ref col), .val (.double dv), .second, .val (.int (-1 : Int32)), .val (.ref ob), .val (.ref ol), .val (.ref oe), .val (.int (0 : Int32)), .val (.double ut0), .second, .val (.int (0 : Int32)), .val (.double ut0), .second, .unset, .unset]) rfl ?_
  refine own_iinc X15 hx hby od_prog_37_method_6_102 (pc' := 105) rfl rfl (z := 1) rfl (Ls' := #[.val (.ref a1), .val (.ref col), .val (.double dv), .second, .val (.int (-1 : Int32)), .val (.ref ob), .val (.ref ol), .val (.ref oe), .val (.int (0 : Int32)), .val (.double ut0), .second, .val (.int (1 : Int32)), .val (.double ut0), .second, .unset, .unset]) rfl ?_
  refine own_goto X15 hx hby od_prog_37_method_6_105 (by decide) (pc' := 48) (by decide) ?_
  refine own_iload X15 hx hby od_prog_37_method_6_48 (pc' := 50) rfl rfl ?_
  refine own_aloadN X15 hx hby od_prog_37_method_6_50 (pc' := 51) rfl rfl rfl ?_
  refine own_getF X15 hx hby hZ hown (host := "") (Or.inl (ow_11 hw)) Via.refl e15 F_size od_prog_37_method_6_51 (pc' := 54) rfl ?_
  intro T17 X17 e17
  refine own_icmpN X17 hx hby od_prog_37_method_6_54 (pc' := 57) rfl (tlt (by decide)).2.1 ?_
  refine own_aload X17 hx hby od_prog_37_method_6_57 (pc' := 59) rfl rfl rfl ?_
  refine own_iload X17 hx hby od_prog_37_method_6_59 (pc' := 61) rfl rfl ?_
  refine own_daD X17 hx hby hZ e17 V_oe ⟨by decide, by decide⟩ (v := DV1) rfl od_prog_37_method_6_61 (pc' := 62) rfl ?_
  refine own_ldcD X17 hx hby hZ hown (ow_83 hw) od_prog_37_method_6_62 (pc' := 65) rfl ?_
  obtain ⟨dv18, hd18, hk18⟩ := R5
  refine own_dcmp X17 hx hby od_prog_37_method_6_65 (pc' := 66) rfl (v := dv18) hd18 ?_
  refine own_ifN X17 hx hby od_prog_37_method_6_66 (pc' := 69) rfl (tlt hk18).2.2.2 ?_
  refine own_dconst0 X17 hx hby od_prog_37_method_6_69 (pc' := 70) rfl (v := (0 : UInt64)) rfl ?_
  refine own_aload X17 hx hby od_prog_37_method_6_70 (pc' := 72) rfl rfl rfl ?_
  refine own_iload X17 hx hby od_prog_37_method_6_72 (pc' := 74) rfl rfl ?_
  refine own_daD X17 hx hby hZ e17 V_ol ⟨by decide, by decide⟩ (v := LV1) rfl od_prog_37_method_6_74 (pc' := 75) rfl ?_
  refine own_maxD X17 hx hby hZ hml hown (ow_65 hw) (ow_66 hw) (ow_50 hw) (ow_67 hw) e17 okl_3 HL.fin.2.noNaN (v := um1) R6 rfl od_prog_37_method_6_75 (pc' := 78) rfl (W := 0) (Nat.le_refl _) (by decide) (by decide) (by decide) (by decide) ?_
  intro T19 X19 e19
  refine own_aload X19 hx hby od_prog_37_method_6_78 (pc' := 80) rfl rfl rfl ?_
  refine own_iload X19 hx hby od_prog_37_method_6_80 (pc' := 82) rfl rfl ?_
  refine own_daD X19 hx hby hZ e19 V_oe ⟨by decide, by decide⟩ (v := DV1) rfl od_prog_37_method_6_82 (pc' := 83) rfl ?_
  refine own_ddiv X19 hx hby od_prog_37_method_6_83 (pc' := 84) rfl R7.1 (v := ut1) R7.2 ?_
  refine own_dstore X19 hx hby od_prog_37_method_6_84 (pc' := 86) rfl (Ls' := #[.val (.ref a1), .val (.ref col), .val (.double dv), .second, .val (.int (-1 : Int32)), .val (.ref ob), .val (.ref ol), .val (.ref oe), .val (.int (0 : Int32)), .val (.double ut0), .second, .val (.int (1 : Int32)), .val (.double ut1), .second, .unset, .unset]) rfl ?_
  refine own_dload X19 hx hby od_prog_37_method_6_86 (pc' := 88) rfl rfl ?_
  refine own_dload X19 hx hby od_prog_37_method_6_88 (pc' := 90) rfl rfl ?_
  obtain ⟨dv20, hd20, hk20⟩ := R8
  refine own_dcmp X19 hx hby od_prog_37_method_6_90 (pc' := 91) rfl (v := dv20) hd20 ?_
  refine own_ifN X19 hx hby od_prog_37_method_6_91 (pc' := 94) rfl (tlt hk20).2.1 ?_
  refine own_dload X19 hx hby od_prog_37_method_6_94 (pc' := 96) rfl rfl ?_
  refine own_dstore X19 hx hby od_prog_37_method_6_96 (pc' := 98) rfl (Ls' := #[.val (.ref a1), .val (.ref col), .val (.double dv), .second, .val (.int (-1 : Int32)), .val (.ref ob), .val (.ref ol), .val (.ref oe), .val (.int (0 : Int32)), .val (.double ut1), .second, .val (.int (1 : Int32)), .val (.double ut1), .second, .unset, .unset]) rfl ?_
  refine own_iload X19 hx hby od_prog_37_method_6_98 (pc' := 100) rfl rfl ?_
  refine own_istore X19 hx hby od_prog_37_method_6_100 (pc' := 102) rfl (Ls' := #[.val (.ref a1), .val (.ref col), .val (.double dv), .second, .val (.int (-1 : Int32)), .val (.ref ob), .val (.ref ol), .val (.ref oe), .val (.int (1 : Int32)), .val (.double ut1), .second, .val (.int (1 : Int32)), .val (.double ut1), .second, .unset, .unset]) rfl ?_
  refine own_iinc X19 hx hby od_prog_37_method_6_102 (pc' := 105) rfl rfl (z := 1) rfl (Ls' := #[.val (.ref a1), .val (.ref col), .val (.double dv), .second, .val (.int (-1 : Int32)), .val (.ref ob), .val (.ref ol), .val (.ref oe), .val (.int (1 : Int32)), .val (.double ut1), .second, .val (.int (2 : Int32)), .val (.double ut1), .second, .unset, .unset]) rfl ?_
  refine own_goto X19 hx hby od_prog_37_method_6_105 (by decide) (pc' := 48) (by decide) ?_
  refine own_iload X19 hx hby od_prog_37_method_6_48 (pc' := 50) rfl rfl ?_
  refine own_aloadN X19 hx hby od_prog_37_method_6_50 (pc' := 51) rfl rfl rfl ?_
  refine own_getF X19 hx hby hZ hown (host := "") (Or.inl (ow_11 hw)) Via.refl e19 F_size od_prog_37_method_6_51 (pc' := 54) rfl ?_
  intro T21 X21 e21
  refine own_icmpY X21 hx hby od_prog_37_method_6_54 (by decide) (pc' := 108) (by decide) (flt (by decide)).2.1 ?_
  refine own_iload X21 hx hby od_prog_37_method_6_108 (pc' := 110) rfl rfl ?_
  refine own_ifY X21 hx hby od_prog_37_method_6_110 (by decide) (pc' := 115) (by decide) (flt (by decide)).2.1 ?_
  refine own_aloadN X21 hx hby od_prog_37_method_6_115 (pc' := 116) rfl rfl rfl ?_
  refine own_getF X21 hx hby hZ hown (host := "") (Or.inl (ow_21 hw)) Via.refl e21 F_basis od_prog_37_method_6_116 (pc' := 119) rfl ?_
  intro T22 X22 e22
  refine own_iload X22 hx hby od_prog_37_method_6_119 (pc' := 121) rfl rfl ?_
  refine own_aaD X22 hx hby hZ e22 V_ba ⟨by decide, by decide⟩ (v := (.ref r1)) rfl od_prog_37_method_6_121 (pc' := 122) rfl ?_
  refine own_astore X22 hx hby od_prog_37_method_6_122 (pc' := 124) rfl rfl (Ls' := #[.val (.ref a1), .val (.ref col), .val (.double dv), .second, .val (.int (-1 : Int32)), .val (.ref ob), .val (.ref ol), .val (.ref oe), .val (.int (1 : Int32)), .val (.double ut1), .second, .val (.ref r1), .val (.double ut1), .second, .unset, .unset]) rfl ?_
  refine own_aloadN X22 hx hby od_prog_37_method_6_124 (pc' := 125) rfl rfl rfl ?_
  refine own_getF X22 hx hby hZ hown (host := "") (Or.inl (ow_23 hw)) Via.refl e22 F_values od_prog_37_method_6_125 (pc' := 128) rfl ?_
  intro T23 X23 e23
  refine own_iload X23 hx hby od_prog_37_method_6_128 (pc' := 130) rfl rfl ?_
  refine own_daD X23 hx hby hZ e23 V_va ⟨by decide, by decide⟩ (v := (0 : UInt64)) rfl od_prog_37_method_6_130 (pc' := 131) rfl ?_
  refine own_dstore X23 hx hby od_prog_37_method_6_131 (pc' := 133) rfl (Ls' := #[.val (.ref a1), .val (.ref col), .val (.double dv), .second, .val (.int (-1 : Int32)), .val (.ref ob), .val (.ref ol), .val (.ref oe), .val (.int (1 : Int32)), .val (.double ut1), .second, .val (.ref r1), .val (.double (0 : UInt64)), .second, .unset, .unset]) rfl ?_
  refine own_aloadN X23 hx hby od_prog_37_method_6_133 (pc' := 134) rfl rfl rfl ?_
  refine own_getF X23 hx hby hZ hown (host := "") (Or.inl (ow_26 hw)) Via.refl e23 F_slackOf od_prog_37_method_6_134 (pc' := 137) rfl ?_
  intro T24 X24 e24
  refine own_iload X24 hx hby od_prog_37_method_6_137 (pc' := 139) rfl rfl ?_
  refine own_iaI X24 hx hby hZ e24 V_so ⟨by decide, by decide⟩ (v := (0 : Int32)) rfl od_prog_37_method_6_139 (pc' := 140) rfl ?_
  refine own_istore X24 hx hby od_prog_37_method_6_140 (pc' := 142) rfl (Ls' := #[.val (.ref a1), .val (.ref col), .val (.double dv), .second, .val (.int (-1 : Int32)), .val (.ref ob), .val (.ref ol), .val (.ref oe), .val (.int (1 : Int32)), .val (.double ut1), .second, .val (.ref r1), .val (.double (0 : UInt64)), .second, .val (.int (0 : Int32)), .unset]) rfl ?_
  refine own_aloadN X24 hx hby od_prog_37_method_6_142 (pc' := 143) rfl rfl rfl ?_
  refine own_getF X24 hx hby hZ hown (host := "") (Or.inl (ow_21 hw)) Via.refl e24 F_basis od_prog_37_method_6_143 (pc' := 146) rfl ?_
  intro T25 X25 e25
  refine own_iload X25 hx hby od_prog_37_method_6_146 (pc' := 148) rfl rfl ?_
  refine own_aloadN X25 hx hby od_prog_37_method_6_148 (pc' := 149) rfl rfl rfl ?_
  refine own_asD X25 hx hby hZ e25 V_ba (V_col.exa) ⟨by decide, by decide⟩ 1 rfl (Nat.le_of_ble_eq_true rfl) (ys := [.ref r0, .ref col]) rfl od_prog_37_method_6_149 (pc' := 150) rfl ?_
  intro T26 h26 X26 e26 W26 Q26
  have K27 := K12.wr W26 (Or.inl (List.mem_of_getElem? (i := 1) rfl))
  replace A1 := A1.wr W26
  replace F_size := F_size.other W26 (Or.inl ne_a1_ba)
  replace F_rightHandSide := F_rightHandSide.other W26 (Or.inl ne_a1_ba)
  replace F_basis := F_basis.other W26 (Or.inl ne_a1_ba)
  replace F_values := F_values.other W26 (Or.inl ne_a1_ba)
  replace F_slackOf := F_slackOf.other W26 (Or.inl ne_a1_ba)
  replace F_duals := F_duals.other W26 (Or.inl ne_a1_ba)
  replace V_rh := V_rh.other W26 ne_rh_ba
  replace V_va := V_va.other W26 (Ne.symm ne_ba_va)
  replace V_so := V_so.other W26 (Ne.symm ne_ba_so)
  replace V_r0 := V_r0.other W26 (Ne.symm ne_ba_r0)
  replace V_r1 := V_r1.other W26 (Ne.symm ne_ba_r1)
  replace V_du := V_du.other W26 (Ne.symm ne_ba_du)
  replace V_col := V_col.other W26 (Ne.symm ne_ba_col)
  replace V_ob := V_ob.other W26 (Ne.symm ne_ba_ob)
  replace V_ox := V_ox.other W26 (Ne.symm ne_ba_ox)
  replace V_oy := V_oy.other W26 (Ne.symm ne_ba_oy)
  replace V_ol := V_ol.other W26 (Ne.symm ne_ba_ol)
  replace V_oe := V_oe.other W26 (Ne.symm ne_ba_oe)
  replace V_ba := Q26
  have N26 := own_fr1 (sl := ((1 : Int32)).toNatClampNeg) N10 n0_ba
  refine own_aloadN X26 hx hby od_prog_37_method_6_150 (pc' := 151) rfl rfl rfl ?_
  refine own_getF X26 hx hby hZ hown (host := "") (Or.inl (ow_23 hw)) Via.refl e26 F_values od_prog_37_method_6_151 (pc' := 154) rfl ?_
  intro T28 X28 e28
  refine own_iload X28 hx hby od_prog_37_method_6_154 (pc' := 156) rfl rfl ?_
  refine own_dloadN X28 hx hby od_prog_37_method_6_156 (pc' := 157) rfl rfl ?_
  refine own_dsD X28 hx hby hZ e28 V_va ⟨by decide, by decide⟩ 1 rfl (Nat.le_of_ble_eq_true rfl) (ys := [.double (13830554455654793216 : UInt64), .double dv]) rfl od_prog_37_method_6_157 (pc' := 158) rfl ?_
  intro T29 h29 X29 e29 W29 Q29
  have K30 := K27.wr W29 (Or.inl (List.mem_of_getElem? (i := 2) rfl))
  replace A1 := A1.wr W29
  replace F_size := F_size.other W29 (Or.inl ne_a1_va)
  replace F_rightHandSide := F_rightHandSide.other W29 (Or.inl ne_a1_va)
  replace F_basis := F_basis.other W29 (Or.inl ne_a1_va)
  replace F_values := F_values.other W29 (Or.inl ne_a1_va)
  replace F_slackOf := F_slackOf.other W29 (Or.inl ne_a1_va)
  replace F_duals := F_duals.other W29 (Or.inl ne_a1_va)
  replace V_rh := V_rh.other W29 ne_rh_va
  replace V_ba := V_ba.other W29 ne_ba_va
  replace V_so := V_so.other W29 (Ne.symm ne_va_so)
  replace V_r0 := V_r0.other W29 (Ne.symm ne_va_r0)
  replace V_r1 := V_r1.other W29 (Ne.symm ne_va_r1)
  replace V_du := V_du.other W29 (Ne.symm ne_va_du)
  replace V_col := V_col.other W29 (Ne.symm ne_va_col)
  replace V_ob := V_ob.other W29 (Ne.symm ne_va_ob)
  replace V_ox := V_ox.other W29 (Ne.symm ne_va_ox)
  replace V_oy := V_oy.other W29 (Ne.symm ne_va_oy)
  replace V_ol := V_ol.other W29 (Ne.symm ne_va_ol)
  replace V_oe := V_oe.other W29 (Ne.symm ne_va_oe)
  replace V_va := Q29
  have N29 := own_fr1 (sl := ((1 : Int32)).toNatClampNeg) N26 n0_va
  refine own_aloadN X29 hx hby od_prog_37_method_6_158 (pc' := 159) rfl rfl rfl ?_
  refine own_getF X29 hx hby hZ hown (host := "") (Or.inl (ow_26 hw)) Via.refl e29 F_slackOf od_prog_37_method_6_159 (pc' := 162) rfl ?_
  intro T31 X31 e31
  refine own_iload X31 hx hby od_prog_37_method_6_162 (pc' := 164) rfl rfl ?_
  refine own_iload X31 hx hby od_prog_37_method_6_164 (pc' := 166) rfl rfl ?_
  refine own_isI X31 hx hby hZ e31 V_so ⟨by decide, by decide⟩ 1 rfl (Nat.le_of_ble_eq_true rfl) (ys := [.int (-1 : Int32), .int (-1 : Int32)]) rfl od_prog_37_method_6_166 (pc' := 167) rfl ?_
  intro T32 h32 X32 e32 W32 Q32
  have K33 := K30.wr W32 (Or.inl (List.mem_of_getElem? (i := 3) rfl))
  replace A1 := A1.wr W32
  replace F_size := F_size.other W32 (Or.inl ne_a1_so)
  replace F_rightHandSide := F_rightHandSide.other W32 (Or.inl ne_a1_so)
  replace F_basis := F_basis.other W32 (Or.inl ne_a1_so)
  replace F_values := F_values.other W32 (Or.inl ne_a1_so)
  replace F_slackOf := F_slackOf.other W32 (Or.inl ne_a1_so)
  replace F_duals := F_duals.other W32 (Or.inl ne_a1_so)
  replace V_rh := V_rh.other W32 ne_rh_so
  replace V_ba := V_ba.other W32 ne_ba_so
  replace V_va := V_va.other W32 ne_va_so
  replace V_r0 := V_r0.other W32 (Ne.symm ne_so_r0)
  replace V_r1 := V_r1.other W32 (Ne.symm ne_so_r1)
  replace V_du := V_du.other W32 (Ne.symm ne_so_du)
  replace V_col := V_col.other W32 (Ne.symm ne_so_col)
  replace V_ob := V_ob.other W32 (Ne.symm ne_so_ob)
  replace V_ox := V_ox.other W32 (Ne.symm ne_so_ox)
  replace V_oy := V_oy.other W32 (Ne.symm ne_so_oy)
  replace V_ol := V_ol.other W32 (Ne.symm ne_so_ol)
  replace V_oe := V_oe.other W32 (Ne.symm ne_so_oe)
  replace V_so := Q32
  have N32 := own_fr1 (sl := ((1 : Int32)).toNatClampNeg) N29 n0_so
  refine own_aloadN X32 hx hby od_prog_37_method_6_167 (pc' := 168) rfl rfl rfl ?_
  refine own_privM X32 hx hby hml hZ hown (ow_37 hw) (ow_38 hw) (own_selP (ow_38 hw) (ow_39 hw) (ow_58 hw) rfl (by decide)) (ow_39 hw) (ow_3 hw) (ow_40 hw) (by decide) (cc := 5) (ss := 10) (rm_duals2 l Z a0 hw a1 ba r0 col va (4607182418800017408 : UInt64) dc (4607182418800017408 : UInt64) dl (13830554455654793216 : UInt64) dv uy0 uy1 h32 n0 (Nat.le_trans Z0 K33.1) HY F_basis F_values V_ba V_r0 V_col V_va) 0 rfl rfl (by decide) (by decide) rfl A1 (argsL := []) (rest := []) opd_2 rfl rfl (Nat.le_refl _) od_prog_37_method_6_168 (pc' := 171) rfl rfl e32 (by decide) (by decide) ?_
  rintro v34 T34 h34 L34 X34 e34 ⟨od, rfl, lb34, Eq34, Nq34, V_od⟩
  have ne_a1_od : a1 ≠ od := Nat.ne_of_lt (Nat.lt_of_lt_of_le A1.lt lb34)
  have ne_rh_od : rh ≠ od := Nat.ne_of_lt (Nat.lt_of_lt_of_le V_rh.lt lb34)
  have ne_ba_od : ba ≠ od := Nat.ne_of_lt (Nat.lt_of_lt_of_le V_ba.lt lb34)
  have ne_va_od : va ≠ od := Nat.ne_of_lt (Nat.lt_of_lt_of_le V_va.lt lb34)
  have ne_so_od : so ≠ od := Nat.ne_of_lt (Nat.lt_of_lt_of_le V_so.lt lb34)
  have ne_r0_od : r0 ≠ od := Nat.ne_of_lt (Nat.lt_of_lt_of_le V_r0.lt lb34)
  have ne_r1_od : r1 ≠ od := Nat.ne_of_lt (Nat.lt_of_lt_of_le V_r1.lt lb34)
  have ne_du_od : du ≠ od := Nat.ne_of_lt (Nat.lt_of_lt_of_le V_du.lt lb34)
  have ne_col_od : col ≠ od := Nat.ne_of_lt (Nat.lt_of_lt_of_le V_col.lt lb34)
  have ne_ob_od : ob ≠ od := Nat.ne_of_lt (Nat.lt_of_lt_of_le V_ob.lt lb34)
  have ne_ox_od : ox ≠ od := Nat.ne_of_lt (Nat.lt_of_lt_of_le V_ox.lt lb34)
  have ne_oy_od : oy ≠ od := Nat.ne_of_lt (Nat.lt_of_lt_of_le V_oy.lt lb34)
  have ne_ol_od : ol ≠ od := Nat.ne_of_lt (Nat.lt_of_lt_of_le V_ol.lt lb34)
  have ne_oe_od : oe ≠ od := Nat.ne_of_lt (Nat.lt_of_lt_of_le V_oe.lt lb34)
  have n0_od : n0 ≤ od := Nat.le_trans (Nat.le_trans Z0 K33.1) lb34
  have le35 : h0.size ≤ od := Nat.le_trans K33.1 lb34
  have N34 := N32.app Nq34
  have K36 := K33.ext Eq34
  replace A1 := A1.ext Eq34
  replace F_size := F_size.ext Eq34
  replace F_rightHandSide := F_rightHandSide.ext Eq34
  replace F_basis := F_basis.ext Eq34
  replace F_values := F_values.ext Eq34
  replace F_slackOf := F_slackOf.ext Eq34
  replace F_duals := F_duals.ext Eq34
  replace V_rh := V_rh.ext Eq34
  replace V_ba := V_ba.ext Eq34
  replace V_va := V_va.ext Eq34
  replace V_so := V_so.ext Eq34
  replace V_r0 := V_r0.ext Eq34
  replace V_r1 := V_r1.ext Eq34
  replace V_du := V_du.ext Eq34
  replace V_col := V_col.ext Eq34
  replace V_ob := V_ob.ext Eq34
  replace V_ox := V_ox.ext Eq34
  replace V_oy := V_oy.ext Eq34
  replace V_ol := V_ol.ext Eq34
  replace V_oe := V_oe.ext Eq34
  refine own_astore X34 hx hby od_prog_37_method_6_171 (pc' := 173) rfl rfl (Ls' := #[.val (.ref a1), .val (.ref col), .val (.double dv), .second, .val (.int (-1 : Int32)), .val (.ref ob), .val (.ref ol), .val (.ref oe), .val (.int (1 : Int32)), .val (.double ut1), .second, .val (.ref r1), .val (.double (0 : UInt64)), .second, .val (.int (0 : Int32)), .val (.ref od)]) rfl ?_
  refine own_aload X34 hx hby od_prog_37_method_6_173 (pc' := 175) rfl rfl rfl ?_
  refine own_ifnonnullY X34 hx hby od_prog_37_method_6_175 (by decide) (pc' := 207) (by decide) ?_
  refine own_aloadN X34 hx hby od_prog_37_method_6_207 (pc' := 208) rfl rfl rfl ?_
  refine own_aload X34 hx hby od_prog_37_method_6_208 (pc' := 210) rfl rfl rfl ?_
  refine own_putF X34 hx hby hZ hown (host := "") (Or.inl (ow_53 hw)) Via.refl e34 F_duals A1 (Or.inl (ow_54 hw)) (ow_2 hw) (ty := (.array .double)) (by decide) rfl rfl od_prog_37_method_6_210 (pc' := 213) rfl ?_
  intro T37 h37 X37 e37 W37 F37_duals_a1 A37_a1
  replace F_size := F_size.other W37 (Or.inr (slot_ne (Or.inr (ow_12 hw)) (Or.inl (ow_54 hw)) (by decide) (t := .int) (t' := (.array .double)) (by decide) (by decide)))
  replace F_rightHandSide := F_rightHandSide.other W37 (Or.inr (slot_ne (Or.inr (ow_14 hw)) (Or.inl (ow_54 hw)) (by decide) (t := (.array .double)) (t' := (.array .double)) (by decide) (by decide)))
  replace F_basis := F_basis.other W37 (Or.inr (slot_ne (Or.inr (ow_22 hw)) (Or.inl (ow_54 hw)) (by decide) (t := (.array (.array .double))) (t' := (.array .double)) (by decide) (by decide)))
  replace F_values := F_values.other W37 (Or.inr (slot_ne (Or.inr (ow_24 hw)) (Or.inl (ow_54 hw)) (by decide) (t := (.array .double)) (t' := (.array .double)) (by decide) (by decide)))
  replace F_slackOf := F_slackOf.other W37 (Or.inr (slot_ne (Or.inr (ow_27 hw)) (Or.inl (ow_54 hw)) (by decide) (t := (.array .int)) (t' := (.array .double)) (by decide) (by decide)))
  have K38 := K36.wr W37 (Or.inl (List.mem_of_getElem? (i := 0) rfl))
  replace V_rh := V_rh.other W37 (Ne.symm ne_a1_rh)
  replace V_ba := V_ba.other W37 (Ne.symm ne_a1_ba)
  replace V_va := V_va.other W37 (Ne.symm ne_a1_va)
  replace V_so := V_so.other W37 (Ne.symm ne_a1_so)
  replace V_r0 := V_r0.other W37 (Ne.symm ne_a1_r0)
  replace V_r1 := V_r1.other W37 (Ne.symm ne_a1_r1)
  replace V_du := V_du.other W37 (Ne.symm ne_a1_du)
  replace V_col := V_col.other W37 (Ne.symm ne_a1_col)
  replace V_ob := V_ob.other W37 (Ne.symm ne_a1_ob)
  replace V_ox := V_ox.other W37 (Ne.symm ne_a1_ox)
  replace V_oy := V_oy.other W37 (Ne.symm ne_a1_oy)
  replace V_ol := V_ol.other W37 (Ne.symm ne_a1_ol)
  replace V_oe := V_oe.other W37 (Ne.symm ne_a1_oe)
  replace V_od := V_od.other W37 (Ne.symm ne_a1_od)
  have N37 := own_fr1 (sl := Jvm.RoadKit.slotOf Z "com/example/bindery/bindery/selection/BindingMix" "duals" "[D") N34 n0_a1
  refine own_iconst X37 hx hby od_prog_37_method_6_213 (pc' := 214) rfl (z := 1) rfl ?_
  exact own_retN X37 hx hby hlk hrt (by simp) od_prog_37_method_6_214 (z' := (1 : Int32)) rfl (by first | exact ⟨rfl, N37, K38, od, le35, ne_a1_od, ne_so_od, A37_a1, F_size, F_slackOf, F37_duals_a1, V_so, V_od⟩ | (rw [e37]; exact ⟨rfl, N37, K38, od, le35, ne_a1_od, ne_so_od, A37_a1, F_size, F_slackOf, F37_duals_a1, V_so, V_od⟩)) (by decide) (by decide)
theorem ef_rm_ste1 (m : MethodId) (x0 : Addr) : entryFrame m #[(.ref x0)] 6 = mkF m 0 #[.val (.ref x0), .unset, .unset, .unset, .unset, .unset] [] := by first | (simp [entryFrame, mkF, argsToLocals, Value.category]; done) | rfl
set_option maxRecDepth 65536 in
set_option maxHeartbeats 40000000 in
theorem rm_ste1 (l : Launch) (Z : State) (a0 : Array Value) (hw : ∀ d ∈ tables_1, d.before a0 Z = true) (a1 so od : Addr) (uy0 uy1 : UInt64) (h0 : Heap) (n0 : Nat) (Z0 : n0 ≤ h0.size) (Hk : own_cnl uy1 (13650858631089744401 : UInt64) .g) (F_size : Fld Z h0 a1 "com/example/bindery/bindery/selection/BindingMix" "size" "I" (.int (2 : Int32))) (F_slackOf : Fld Z h0 a1 "com/example/bindery/bindery/selection/BindingMix" "slackOf" "[I" (.ref so)) (F_duals : Fld Z h0 a1 "com/example/bindery/bindery/selection/BindingMix" "duals" "[D" (.ref od)) (V_so : own_IA Z h0 so (2 : Int32) [.int (-1 : Int32), .int (-1 : Int32)]) (V_od : own_D Z h0 od (2 : Int32) [.double uy0, .double uy1]) :
    own_Met l Z (⟨"com/example/bindery/bindery/selection/BindingMix", "slackToEnter", "()I"⟩ : MethodName) prog_37_method_5_code 6 (some .int) ({ frames := 0, cells := 1, slots := 1, locals := 0 } : Room) #[(.ref a1)] h0 (fun v h L => v = some (.int (-1 : Int32)) ∧ Fr n0 L ∧ Ext h0 h) := by
  refine own_body (plainFor_of_name (by first | (simp [plainName, overriddenIn]; done) | decide +kernel)) ?_
  intro p e s m below meth c s₁ hx hby hml hown hnm hlk hrt hZ X0 e0
  refine own_enter (ef_rm_ste1 m a1) ?_
  have N0 := Fr.nil n0
  refine own_aloadN X0 hx hby od_prog_37_method_5_0 (pc' := 1) rfl rfl rfl ?_
  refine own_getF X0 hx hby hZ hown (host := "") (Or.inl (ow_11 hw)) Via.refl e0 F_size od_prog_37_method_5_1 (pc' := 4) rfl ?_
  intro T1 X1 e1
  refine own_iconst X1 hx hby od_prog_37_method_5_4 (pc' := 5) rfl (z := 1) rfl ?_
  refine own_isubE X1 hx hby od_prog_37_method_5_5 (pc' := 6) rfl (v := (1 : Int32)) rfl ?_
  refine own_newZA X1 hx hby hZ (ow_88 hw) e1 od_prog_37_method_5_6 (pc' := 8) rfl (by decide) (cap := 1) (by decide) (by decide) (by decide) (by decide) (vs := [.int (0 : Int32)]) rfl ?_
  intro T2 h2 b2 g2 X2 e2 E2 V_b2
  have ne_a1_b2 : a1 ≠ b2 := own_nl F_size.lt g2
  have ne_so_b2 : so ≠ b2 := own_nl V_so.lt g2
  have ne_od_b2 : od ≠ b2 := own_nl V_od.lt g2
  have le3 : h0.size ≤ b2 := Nat.le_of_eq g2.symm
  have n0_b2 : n0 ≤ b2 := Nat.le_trans Z0 (Nat.le_of_eq g2.symm)
  replace F_size := F_size.ext E2
  replace F_slackOf := F_slackOf.ext E2
  replace F_duals := F_duals.ext E2
  replace V_so := V_so.ext E2
  replace V_od := V_od.ext E2
  refine own_astoreN X2 hx hby od_prog_37_method_5_8 (pc' := 9) rfl rfl (Ls' := #[.val (.ref a1), .val (.ref b2), .unset, .unset, .unset, .unset]) rfl ?_
  refine own_aloadN X2 hx hby od_prog_37_method_5_9 (pc' := 10) rfl rfl rfl ?_
  refine own_getF X2 hx hby hZ hown (host := "") (Or.inl (ow_26 hw)) Via.refl e2 F_slackOf od_prog_37_method_5_10 (pc' := 13) rfl ?_
  intro T4 X4 e4
  refine own_astoreN X4 hx hby od_prog_37_method_5_13 (pc' := 14) rfl rfl (Ls' := #[.val (.ref a1), .val (.ref b2), .val (.ref so), .unset, .unset, .unset]) rfl ?_
  refine own_aloadN X4 hx hby od_prog_37_method_5_14 (pc' := 15) rfl rfl rfl ?_
  refine own_alIA X4 hx hby hZ e4 V_so od_prog_37_method_5_15 (pc' := 16) rfl ?_
  refine own_istoreN X4 hx hby od_prog_37_method_5_16 (pc' := 17) rfl (Ls' := #[.val (.ref a1), .val (.ref b2), .val (.ref so), .val (.int (2 : Int32)), .unset, .unset]) rfl ?_
  refine own_iconst X4 hx hby od_prog_37_method_5_17 (pc' := 18) rfl (z := 0) rfl ?_
  refine own_istore X4 hx hby od_prog_37_method_5_18 (pc' := 20) rfl (Ls' := #[.val (.ref a1), .val (.ref b2), .val (.ref so), .val (.int (2 : Int32)), .val (.int (0 : Int32)), .unset]) rfl ?_
  refine own_iload X4 hx hby od_prog_37_method_5_20 (pc' := 22) rfl rfl ?_
  refine own_iloadN X4 hx hby od_prog_37_method_5_22 (pc' := 23) rfl rfl ?_
  refine own_icmpN X4 hx hby od_prog_37_method_5_23 (pc' := 26) rfl (tlt (by decide)).2.1 ?_
  refine own_aloadN X4 hx hby od_prog_37_method_5_26 (pc' := 27) rfl rfl rfl ?_
  refine own_iload X4 hx hby od_prog_37_method_5_27 (pc' := 29) rfl rfl ?_
  refine own_iaI X4 hx hby hZ e4 V_so ⟨by decide, by decide⟩ (v := (-1 : Int32)) rfl od_prog_37_method_5_29 (pc' := 30) rfl ?_
  refine own_istore X4 hx hby od_prog_37_method_5_30 (pc' := 32) rfl (Ls' := #[.val (.ref a1), .val (.ref b2), .val (.ref so), .val (.int (2 : Int32)), .val (.int (0 : Int32)), .val (.int (-1 : Int32))]) rfl ?_
  refine own_iload X4 hx hby od_prog_37_method_5_32 (pc' := 34) rfl rfl ?_
  refine own_ifY X4 hx hby od_prog_37_method_5_34 (by decide) (pc' := 42) (by decide) (tlt (by decide)).1 ?_
  refine own_iinc X4 hx hby od_prog_37_method_5_42 (pc' := 45) rfl rfl (z := 1) rfl (Ls' := #[.val (.ref a1), .val (.ref b2), .val (.ref so), .val (.int (2 : Int32)), .val (.int (1 : Int32)), .val (.int (-1 : Int32))]) rfl ?_
  refine own_goto X4 hx hby od_prog_37_method_5_45 (by decide) (pc' := 20) (by decide) ?_
  refine own_iload X4 hx hby od_prog_37_method_5_20 (pc' := 22) rfl rfl ?_
  refine own_iloadN X4 hx hby od_prog_37_method_5_22 (pc' := 23) rfl rfl ?_
  refine own_icmpN X4 hx hby od_prog_37_method_5_23 (pc' := 26) rfl (tlt (by decide)).2.1 ?_
  refine own_aloadN X4 hx hby od_prog_37_method_5_26 (pc' := 27) rfl rfl rfl ?_
  refine own_iload X4 hx hby od_prog_37_method_5_27 (pc' := 29) rfl rfl ?_
  refine own_iaI X4 hx hby hZ e4 V_so ⟨by decide, by decide⟩ (v := (-1 : Int32)) rfl od_prog_37_method_5_29 (pc' := 30) rfl ?_
  refine own_istore X4 hx hby od_prog_37_method_5_30 (pc' := 32) rfl (Ls' := #[.val (.ref a1), .val (.ref b2), .val (.ref so), .val (.int (2 : Int32)), .val (.int (1 : Int32)), .val (.int (-1 : Int32))]) rfl ?_
  refine own_iload X4 hx hby od_prog_37_method_5_32 (pc' := 34) rfl rfl ?_
  refine own_ifY X4 hx hby od_prog_37_method_5_34 (by decide) (pc' := 42) (by decide) (tlt (by decide)).1 ?_
  refine own_iinc X4 hx hby od_prog_37_method_5_42 (pc' := 45) rfl rfl (z := 1) rfl (Ls' := #[.val (.ref a1), .val (.ref b2), .val (.ref so), .val (.int (2 : Int32)), .val (.int (2 : Int32)), .val (.int (-1 : Int32))]) rfl ?_
  refine own_goto X4 hx hby od_prog_37_method_5_45 (by decide) (pc' := 20) (by decide) ?_
  refine own_iload X4 hx hby od_prog_37_method_5_20 (pc' := 22) rfl rfl ?_
  refine own_iloadN X4 hx hby od_prog_37_method_5_22 (pc' := 23) rfl rfl ?_
  refine own_icmpY X4 hx hby od_prog_37_method_5_23 (by decide) (pc' := 48) (by decide) (flt (by decide)).2.1 ?_
  refine own_iconst X4 hx hby od_prog_37_method_5_48 (pc' := 49) rfl (z := 0) rfl ?_
  refine own_istoreN X4 hx hby od_prog_37_method_5_49 (pc' := 50) rfl (Ls' := #[.val (.ref a1), .val (.ref b2), .val (.int (0 : Int32)), .val (.int (2 : Int32)), .val (.int (2 : Int32)), .val (.int (-1 : Int32))]) rfl ?_
  refine own_iloadN X4 hx hby od_prog_37_method_5_50 (pc' := 51) rfl rfl ?_
  refine own_aloadN X4 hx hby od_prog_37_method_5_51 (pc' := 52) rfl rfl rfl ?_
  refine own_alZA X4 hx hby hZ e4 V_b2 od_prog_37_method_5_52 (pc' := 53) rfl ?_
  refine own_icmpN X4 hx hby od_prog_37_method_5_53 (pc' := 56) rfl (tlt (by decide)).2.1 ?_
  refine own_aloadN X4 hx hby od_prog_37_method_5_56 (pc' := 57) rfl rfl rfl ?_
  refine own_iloadN X4 hx hby od_prog_37_method_5_57 (pc' := 58) rfl rfl ?_
  refine own_baZ X4 hx hby hZ e4 V_b2 ⟨by decide, by decide⟩ (v := (0 : Int32)) rfl od_prog_37_method_5_58 (pc' := 59) rfl ?_
  refine own_ifN X4 hx hby od_prog_37_method_5_59 (pc' := 62) rfl (teq (by decide)).2 ?_
  refine own_aloadN X4 hx hby od_prog_37_method_5_62 (pc' := 63) rfl rfl rfl ?_
  refine own_getF X4 hx hby hZ hown (host := "") (Or.inl (ow_53 hw)) Via.refl e4 F_duals od_prog_37_method_5_63 (pc' := 66) rfl ?_
  intro T5 X5 e5
  refine own_iloadN X5 hx hby od_prog_37_method_5_66 (pc' := 67) rfl rfl ?_
  refine own_iconst X5 hx hby od_prog_37_method_5_67 (pc' := 68) rfl (z := 1) rfl ?_
  refine own_iaddE X5 hx hby od_prog_37_method_5_68 (pc' := 69) rfl (v := (1 : Int32)) rfl ?_
  refine own_daD X5 hx hby hZ e5 V_od ⟨by decide, by decide⟩ (v := uy1) rfl od_prog_37_method_5_69 (pc' := 70) rfl ?_
  refine own_ldcD X5 hx hby hZ hown (ow_89 hw) od_prog_37_method_5_70 (pc' := 73) rfl ?_
  obtain ⟨dv6, hd6, hk6⟩ := Hk
  refine own_dcmp X5 hx hby od_prog_37_method_5_73 (pc' := 74) rfl (v := dv6) hd6 ?_
  refine own_ifY X5 hx hby od_prog_37_method_5_74 (by decide) (pc' := 79) (by decide) (flt hk6).2.1 ?_
  refine own_iinc X5 hx hby od_prog_37_method_5_79 (pc' := 82) rfl rfl (z := 1) rfl (Ls' := #[.val (.ref a1), .val (.ref b2), .val (.int (1 : Int32)), .val (.int (2 : Int32)), .val (.int (2 : Int32)), .val (.int (-1 : Int32))]) rfl ?_
  refine own_goto X5 hx hby od_prog_37_method_5_82 (by decide) (pc' := 50) (by decide) ?_
  refine own_iloadN X5 hx hby od_prog_37_method_5_50 (pc' := 51) rfl rfl ?_
  refine own_aloadN X5 hx hby od_prog_37_method_5_51 (pc' := 52) rfl rfl rfl ?_
  refine own_alZA X5 hx hby hZ e5 V_b2 od_prog_37_method_5_52 (pc' := 53) rfl ?_
  refine own_icmpY X5 hx hby od_prog_37_method_5_53 (by decide) (pc' := 85) (by decide) (flt (by decide)).2.1 ?_
  refine own_iconst X5 hx hby od_prog_37_method_5_85 (pc' := 86) rfl (z := (-1)) rfl ?_
  exact own_retI X5 hx hby hlk hrt od_prog_37_method_5_86 (by first | exact ⟨rfl, N0, E2⟩ | (rw [e5]; exact ⟨rfl, N0, E2⟩)) (by decide) (by decide)
theorem ef_rm_add1 (m : MethodId) (x0 : Addr) (x1 : UInt64) (x2 : Addr) : entryFrame m #[(.ref x0), (.double x1), (.ref x2)] 7 = mkF m 0 #[.val (.ref x0), .val (.double x1), .second, .val (.ref x2), .unset, .unset, .unset] [] := by first | (simp [entryFrame, mkF, argsToLocals, Value.category]; done) | rfl
set_option maxRecDepth 65536 in
set_option maxHeartbeats 40000000 in
theorem rm_add1 (l : Launch) (Z : State) (a0 : Array Value) (hw : ∀ d ∈ tables_1, d.before a0 Z = true) (a1 rh ba va so r0 r1 du ld : Addr) (dc dl dv LV0 LV1 DV0 DV1 uy0 uy1 : UInt64) (h0 : Heap) (n0 : Nat) (Z0 : n0 ≤ h0.size) (HL : own_Sol2 (4607182418800017408 : UInt64) (0 : UInt64) dc (4607182418800017408 : UInt64) (4607182418800017408 : UInt64) dc LV0 LV1) (HD : own_Sol2 (4607182418800017408 : UInt64) (0 : UInt64) dc (4607182418800017408 : UInt64) (4607182418800017408 : UInt64) dl DV0 DV1) (HR : own_Rat1 LV0 LV1 DV0 DV1) (HY : own_Sol2 (4607182418800017408 : UInt64) dc (4607182418800017408 : UInt64) dl (13830554455654793216 : UInt64) dv uy0 uy1) (Hk : own_cnl uy1 (13650858631089744401 : UInt64) .g) (n0_a1 : n0 ≤ a1) (n0_ba : n0 ≤ ba) (n0_va : n0 ≤ va) (n0_so : n0 ≤ so) (ne_a1_rh : a1 ≠ rh) (ne_a1_ba : a1 ≠ ba) (ne_a1_va : a1 ≠ va) (ne_a1_so : a1 ≠ so) (ne_a1_r0 : a1 ≠ r0) (ne_a1_r1 : a1 ≠ r1) (ne_a1_du : a1 ≠ du) (ne_rh_ba : rh ≠ ba) (ne_rh_va : rh ≠ va) (ne_rh_so : rh ≠ so) (ne_rh_r0 : rh ≠ r0) (ne_rh_r1 : rh ≠ r1) (ne_rh_du : rh ≠ du) (ne_ba_va : ba ≠ va) (ne_ba_so : ba ≠ so) (ne_ba_r0 : ba ≠ r0) (ne_ba_r1 : ba ≠ r1) (ne_ba_du : ba ≠ du) (ne_va_so : va ≠ so) (ne_va_r0 : va ≠ r0) (ne_va_r1 : va ≠ r1) (ne_va_du : va ≠ du) (ne_so_r0 : so ≠ r0) (ne_so_r1 : so ≠ r1) (ne_so_du : so ≠ du) (ne_r0_r1 : r0 ≠ r1) (ne_r0_du : r0 ≠ du) (ne_r1_du : r1 ≠ du) (ne_a1_ld : a1 ≠ ld) (ne_rh_ld : rh ≠ ld) (ne_ba_ld : ba ≠ ld) (ne_va_ld : va ≠ ld) (ne_so_ld : so ≠ ld) (ne_r0_ld : r0 ≠ ld) (ne_r1_ld : r1 ≠ ld) (ne_du_ld : du ≠ ld) (A1 : Exa Z h0 a1 "com/example/bindery/bindery/selection/BindingMix") (F_size : Fld Z h0 a1 "com/example/bindery/bindery/selection/BindingMix" "size" "I" (.int (2 : Int32))) (F_rightHandSide : Fld Z h0 a1 "com/example/bindery/bindery/selection/BindingMix" "rightHandSide" "[D" (.ref rh)) (F_basis : Fld Z h0 a1 "com/example/bindery/bindery/selection/BindingMix" "basis" "[[D" (.ref ba)) (F_values : Fld Z h0 a1 "com/example/bindery/bindery/selection/BindingMix" "values" "[D" (.ref va)) (F_slackOf : Fld Z h0 a1 "com/example/bindery/bindery/selection/BindingMix" "slackOf" "[I" (.ref so)) (F_duals : Fld Z h0 a1 "com/example/bindery/bindery/selection/BindingMix" "duals" "[D" (.ref du)) (V_rh : own_D Z h0 rh (2 : Int32) [.double (4607182418800017408 : UInt64), .double dc]) (V_ba : own_DD Z h0 ba (2 : Int32) [.ref r0, .ref r1]) (V_va : own_D Z h0 va (2 : Int32) [.double (13830554455654793216 : UInt64), .double (0 : UInt64)]) (V_so : own_IA Z h0 so (2 : Int32) [.int (-1 : Int32), .int (0 : Int32)]) (V_r0 : own_D Z h0 r0 (2 : Int32) [.double (4607182418800017408 : UInt64), .double dc]) (V_r1 : own_D Z h0 r1 (2 : Int32) [.double (0 : UInt64), .double (4607182418800017408 : UInt64)]) (V_du : own_D Z h0 du (2 : Int32) [.double (13830554455654793216 : UInt64), .double (0 : UInt64)]) (V_ld : own_D Z h0 ld (1 : Int32) [.double dl]) :
    own_Met l Z (⟨"com/example/bindery/bindery/selection/BindingMix", "add", "(D[D)Z"⟩ : MethodName) prog_37_method_4_code 7 (some .boolean) ({ frames := 5, cells := 20, slots := 39, locals := 90 } : Room) #[(.ref a1), (.double dv), (.ref ld)] h0 (fun v h L => v = some (.int (1 : Int32)) ∧ Fr n0 L ∧ Keep h0 h [a1, ba, va, so] ∧ ∃ od : Addr, Exa Z h a1 "com/example/bindery/bindery/selection/BindingMix" ∧ Fld Z h a1 "com/example/bindery/bindery/selection/BindingMix" "size" "I" (.int (2 : Int32)) ∧ Fld Z h a1 "com/example/bindery/bindery/selection/BindingMix" "duals" "[D" (.ref od) ∧ own_D Z h od (2 : Int32) [.double uy0, .double uy1]) := by
  refine own_body (plainFor_of_name (by first | (simp [plainName, overriddenIn]; done) | decide +kernel)) ?_
  intro p e s m below meth c s₁ hx hby hml hown hnm hlk hrt hZ X0 e0
  refine own_enter (ef_rm_add1 m a1 dv ld) ?_
  have N0 := Fr.nil n0
  have K0 := Keep.refl h0 [a1, ba, va, so]
  refine own_aloadN X0 hx hby od_prog_37_method_4_0 (pc' := 1) rfl rfl rfl ?_
  refine own_getF X0 hx hby hZ hown (host := "") (Or.inl (ow_11 hw)) Via.refl e0 F_size od_prog_37_method_4_1 (pc' := 4) rfl ?_
  intro T1 X1 e1
  refine own_newD X1 hx hby hZ (ow_4 hw) e1 od_prog_37_method_4_4 (pc' := 6) rfl (by decide) (cap := 2) (by decide) (by decide) (by decide) (by decide) (vs := [.double (0 : UInt64), .double (0 : UInt64)]) rfl ?_
  intro T2 h2 b2 g2 X2 e2 E2 V_b2
  have ne_a1_b2 : a1 ≠ b2 := own_nl A1.lt g2
  have ne_rh_b2 : rh ≠ b2 := own_nl V_rh.lt g2
  have ne_ba_b2 : ba ≠ b2 := own_nl V_ba.lt g2
  have ne_va_b2 : va ≠ b2 := own_nl V_va.lt g2
  have ne_so_b2 : so ≠ b2 := own_nl V_so.lt g2
  have ne_r0_b2 : r0 ≠ b2 := own_nl V_r0.lt g2
  have ne_r1_b2 : r1 ≠ b2 := own_nl V_r1.lt g2
  have ne_du_b2 : du ≠ b2 := own_nl V_du.lt g2
  have ne_ld_b2 : ld ≠ b2 := own_nl V_ld.lt g2
  have n0_b2 : n0 ≤ b2 := Nat.le_trans (Nat.le_trans Z0 K0.1) (Nat.le_of_eq g2.symm)
  have le3 : h0.size ≤ b2 := Nat.le_trans K0.1 (Nat.le_of_eq g2.symm)
  have K4 := K0.ext E2
  replace A1 := A1.ext E2
  replace F_size := F_size.ext E2
  replace F_rightHandSide := F_rightHandSide.ext E2
  replace F_basis := F_basis.ext E2
  replace F_values := F_values.ext E2
  replace F_slackOf := F_slackOf.ext E2
  replace F_duals := F_duals.ext E2
  replace V_rh := V_rh.ext E2
  replace V_ba := V_ba.ext E2
  replace V_va := V_va.ext E2
  replace V_so := V_so.ext E2
  replace V_r0 := V_r0.ext E2
  replace V_r1 := V_r1.ext E2
  replace V_du := V_du.ext E2
  replace V_ld := V_ld.ext E2
  refine own_astore X2 hx hby od_prog_37_method_4_6 (pc' := 8) rfl rfl (Ls' := #[.val (.ref a1), .val (.double dv), .second, .val (.ref ld), .val (.ref b2), .unset, .unset]) rfl ?_
  refine own_aload X2 hx hby od_prog_37_method_4_8 (pc' := 10) rfl rfl rfl ?_
  refine own_iconst X2 hx hby od_prog_37_method_4_10 (pc' := 11) rfl (z := 0) rfl ?_
  refine own_dconst1 X2 hx hby od_prog_37_method_4_11 (pc' := 12) rfl (v := (4607182418800017408 : UInt64)) rfl ?_
  refine own_dsD X2 hx hby hZ e2 V_b2 ⟨by decide, by decide⟩ 0 rfl (Nat.le_of_ble_eq_true rfl) (ys := [.double (4607182418800017408 : UInt64), .double (0 : UInt64)]) rfl od_prog_37_method_4_12 (pc' := 13) rfl ?_
  intro T5 h5 X5 e5 W5 Q5
  have K6 := K4.wr W5 (Or.inr le3)
  replace A1 := A1.wr W5
  replace F_size := F_size.other W5 (Or.inl ne_a1_b2)
  replace F_rightHandSide := F_rightHandSide.other W5 (Or.inl ne_a1_b2)
  replace F_basis := F_basis.other W5 (Or.inl ne_a1_b2)
  replace F_values := F_values.other W5 (Or.inl ne_a1_b2)
  replace F_slackOf := F_slackOf.other W5 (Or.inl ne_a1_b2)
  replace F_duals := F_duals.other W5 (Or.inl ne_a1_b2)
  replace V_rh := V_rh.other W5 ne_rh_b2
  replace V_ba := V_ba.other W5 ne_ba_b2
  replace V_va := V_va.other W5 ne_va_b2
  replace V_so := V_so.other W5 ne_so_b2
  replace V_r0 := V_r0.other W5 ne_r0_b2
  replace V_r1 := V_r1.other W5 ne_r1_b2
  replace V_du := V_du.other W5 ne_du_b2
  replace V_ld := V_ld.other W5 ne_ld_b2
  replace V_b2 := Q5
  have N5 := own_fr1 (sl := ((0 : Int32)).toNatClampNeg) N0 n0_b2
  refine own_aloadN X5 hx hby od_prog_37_method_4_13 (pc' := 14) rfl rfl rfl ?_
  refine own_iconst X5 hx hby od_prog_37_method_4_14 (pc' := 15) rfl (z := 0) rfl ?_
  refine own_aload X5 hx hby od_prog_37_method_4_15 (pc' := 17) rfl rfl rfl ?_
  refine own_iconst X5 hx hby od_prog_37_method_4_17 (pc' := 18) rfl (z := 1) rfl ?_
  refine own_aloadN X5 hx hby od_prog_37_method_4_18 (pc' := 19) rfl rfl rfl ?_
  refine own_alD X5 hx hby hZ e5 V_ld od_prog_37_method_4_19 (pc' := 20) rfl ?_
  refine own_cpD X5 hx hby hZ hml hown (ow_15 hw) (ow_18 hw) (ow_16 hw) (ow_17 hw) e5 V_ld V_b2 (by decide) (by decide) (by decide) (by decide) (by decide) (us := [.double dl]) rfl (Nat.le_of_ble_eq_true rfl) (ws := [.double (4607182418800017408 : UInt64), .double dl]) rfl (n0 := n0) N5 n0_b2 rfl od_prog_37_method_4_20 (pc' := 23) rfl (by decide) (W := 0) (Nat.le_refl _) (by decide) ?_
  intro T7 h7 L7 X7 e7 N7 K_7 Q7
  have K8 := K6.trans K_7 (allS (Or.inr le3) all0)
  replace A1 := A1.keep K_7
  replace F_size := F_size.keep K_7 (own_niS ne_a1_b2 own_ni0)
  replace F_rightHandSide := F_rightHandSide.keep K_7 (own_niS ne_a1_b2 own_ni0)
  replace F_basis := F_basis.keep K_7 (own_niS ne_a1_b2 own_ni0)
  replace F_values := F_values.keep K_7 (own_niS ne_a1_b2 own_ni0)
  replace F_slackOf := F_slackOf.keep K_7 (own_niS ne_a1_b2 own_ni0)
  replace F_duals := F_duals.keep K_7 (own_niS ne_a1_b2 own_ni0)
  replace V_rh := V_rh.keep K_7 (own_niS ne_rh_b2 own_ni0)
  replace V_ba := V_ba.keep K_7 (own_niS ne_ba_b2 own_ni0)
  replace V_va := V_va.keep K_7 (own_niS ne_va_b2 own_ni0)
  replace V_so := V_so.keep K_7 (own_niS ne_so_b2 own_ni0)
  replace V_r0 := V_r0.keep K_7 (own_niS ne_r0_b2 own_ni0)
  replace V_r1 := V_r1.keep K_7 (own_niS ne_r1_b2 own_ni0)
  replace V_du := V_du.keep K_7 (own_niS ne_du_b2 own_ni0)
  replace V_ld := V_ld.keep K_7 (own_niS ne_ld_b2 own_ni0)
  refine own_aloadN X7 hx hby od_prog_37_method_4_23 (pc' := 24) rfl rfl rfl ?_
  refine own_aload X7 hx hby od_prog_37_method_4_24 (pc' := 26) rfl rfl rfl ?_
  refine own_dloadN X7 hx hby od_prog_37_method_4_26 (pc' := 27) rfl rfl ?_
  refine own_iconst X7 hx hby od_prog_37_method_4_27 (pc' := 28) rfl (z := (-1)) rfl ?_
  refine own_privM X7 hx hby hml hZ hown (ow_73 hw) (ow_74 hw) (own_selP (ow_74 hw) (ow_75 hw) (ow_58 hw) rfl (by decide)) (ow_75 hw) (ow_3 hw) (ow_76 hw) (by decide) (cc := 18) (ss := 36) (rm_enter1 l Z a0 hw a1 rh ba va so r0 r1 du b2 dc dl dv LV0 LV1 DV0 DV1 uy0 uy1 h7 n0 (Nat.le_trans Z0 K8.1) HL HD HR HY n0_a1 n0_ba n0_va n0_so ne_a1_rh ne_a1_ba ne_a1_va ne_a1_so ne_a1_r0 ne_a1_r1 ne_a1_du ne_rh_ba ne_rh_va ne_rh_so ne_rh_r0 ne_rh_r1 ne_rh_du ne_ba_va ne_ba_so ne_ba_r0 ne_ba_r1 ne_ba_du ne_va_so ne_va_r0 ne_va_r1 ne_va_du ne_so_r0 ne_so_r1 ne_so_du ne_r0_r1 ne_r0_du ne_r1_du ne_a1_b2 ne_rh_b2 ne_ba_b2 ne_va_b2 ne_so_b2 ne_r0_b2 ne_r1_b2 ne_du_b2 A1 F_size F_rightHandSide F_basis F_values F_slackOf F_duals V_rh V_ba V_va V_so V_r0 V_r1 V_du Q7) 0 rfl rfl (by decide) (by decide) rfl A1 (argsL := [(.ref b2), (.double dv), (.int (-1 : Int32))]) (rest := []) opd_5 rfl rfl (Nat.le_refl _) od_prog_37_method_4_28 (pc' := 31) rfl rfl e7 (by decide) (by decide) ?_
  rintro v9 T9 h9 L9 X9 e9 ⟨rfl, Nq9, Kq9, od, lb9, ne_a1_od, ne_so_od, A1, F_size, F_slackOf, F_duals, V_so, V_od⟩
  have N9 := N7.app Nq9
  have K10 := K8.trans Kq9 (allS (Or.inl (List.mem_of_getElem? (i := 0) rfl)) (allS (Or.inl (List.mem_of_getElem? (i := 1) rfl)) (allS (Or.inl (List.mem_of_getElem? (i := 2) rfl)) (allS (Or.inl (List.mem_of_getElem? (i := 3) rfl)) all0))))
  refine own_ifY X9 hx hby od_prog_37_method_4_31 (by decide) (pc' := 36) (by decide) (feq (by decide)).2 ?_
  refine own_iconst X9 hx hby od_prog_37_method_4_36 (pc' := 37) rfl (z := 0) rfl ?_
  refine own_istore X9 hx hby od_prog_37_method_4_37 (pc' := 39) rfl (Ls' := #[.val (.ref a1), .val (.double dv), .second, .val (.ref ld), .val (.ref b2), .val (.int (0 : Int32)), .unset]) rfl ?_
  refine own_iload X9 hx hby od_prog_37_method_4_39 (pc' := 41) rfl rfl ?_
  refine own_aloadN X9 hx hby od_prog_37_method_4_41 (pc' := 42) rfl rfl rfl ?_
  refine own_getF X9 hx hby hZ hown (host := "") (Or.inl (ow_11 hw)) Via.refl e9 F_size od_prog_37_method_4_42 (pc' := 45) rfl ?_
  intro T11 X11 e11
  refine own_icmpN X11 hx hby od_prog_37_method_4_45 (pc' := 48) rfl (tlt (by decide)).2.1 ?_
  refine own_aloadN X11 hx hby od_prog_37_method_4_48 (pc' := 49) rfl rfl rfl ?_
  refine own_privM X11 hx hby hml hZ hown (ow_84 hw) (ow_85 hw) (own_selP (ow_85 hw) (ow_86 hw) (ow_58 hw) rfl (by decide)) (ow_86 hw) (ow_3 hw) (ow_87 hw) (by decide) (cc := 1) (ss := 1) (rm_ste1 l Z a0 hw a1 so od uy0 uy1 h9 n0 (Nat.le_trans Z0 K10.1) Hk F_size F_slackOf F_duals V_so V_od) 0 rfl rfl (by decide) (by decide) rfl A1 (argsL := []) (rest := []) opd_6 rfl rfl (Nat.le_refl _) od_prog_37_method_4_49 (pc' := 52) rfl rfl e11 (by decide) (by decide) ?_
  rintro v12 T12 h12 L12 X12 e12 ⟨rfl, Nq12, Eq12⟩
  have N12 := N9.app Nq12
  have K13 := K10.ext Eq12
  replace A1 := A1.ext Eq12
  replace F_size := F_size.ext Eq12
  replace F_slackOf := F_slackOf.ext Eq12
  replace F_duals := F_duals.ext Eq12
  replace V_so := V_so.ext Eq12
  replace V_od := V_od.ext Eq12
  refine own_istore X12 hx hby od_prog_37_method_4_52 (pc' := 54) rfl (Ls' := #[.val (.ref a1), .val (.double dv), .second, .val (.ref ld), .val (.ref b2), .val (.int (0 : Int32)), .val (.int (-1 : Int32))]) rfl ?_
  refine own_iload X12 hx hby od_prog_37_method_4_54 (pc' := 56) rfl rfl ?_
  refine own_ifN X12 hx hby od_prog_37_method_4_56 (pc' := 59) rfl (tlt (by decide)).2.1 ?_
  refine own_iconst X12 hx hby od_prog_37_method_4_59 (pc' := 60) rfl (z := 1) rfl ?_
  exact own_retN X12 hx hby hlk hrt (by simp) od_prog_37_method_4_60 (z' := (1 : Int32)) rfl (by first | exact ⟨rfl, N12, K13, od, A1, F_size, F_duals, V_od⟩ | (rw [e12]; exact ⟨rfl, N12, K13, od, A1, F_size, F_duals, V_od⟩)) (by decide) (by decide)
theorem ef_rm_law (m : MethodId) (x0 : Int32) (x1 : Int32) (x2 : Int32) : entryFrame m #[(.int x0), (.int x1), (.int x2)] maxLocals = mkF m 0 #[.val (.int x0), .val (.int x1), .val (.int x2), .unset, .unset, .unset, .unset, .unset, .unset, .unset, .unset, .unset, .unset, .unset, .unset, .unset, .unset, .unset, .unset, .unset, .unset, .unset, .unset] [] := by first | (simp [entryFrame, mkF, argsToLocals, Value.category, maxLocals]; done) | rfl
set_option maxRecDepth 65536 in
set_option maxHeartbeats 40000000 in
theorem rm_law (l : Launch) (Z : State) (a0 : Array Value) (hw : ∀ d ∈ tables_1, d.before a0 Z = true) (p1 p2 p3 : Int32) (h0 : Heap) (n0 : Nat) (Z0 : n0 ≤ h0.size) :
    own_Met l Z x code maxLocals ret room_1 #[(.int p1), (.int p2), (.int p3)] h0 (fun v h L => v = some (.int 1) ∧ Fr n0 L) := by
  refine own_body (plainFor_of_name (by first | (simp [plainName, overriddenIn]; done) | decide +kernel)) ?_
  intro p e s m below meth c s₁ hx hby hml hown hnm hlk hrt hZ X0 e0
  have hml : c.maxLocals = 23 := hml
  refine own_enter (ef_rm_law m p1 p2 p3) ?_
  have N0 := Fr.nil n0
  refine own_iloadN X0 hx hby at_0 (pc' := 1) rfl rfl ?_
  refine own_bipush X0 hx hby at_1 (pc' := 3) rfl (z := 63) rfl ?_
  refine own_iand X0 hx hby at_3 (pc' := 4) rfl ?_
  refine own_i2d X0 hx hby at_4 (pc' := 5) rfl (i2d_w _) ?_
  generalize hq_dc : (FP.l2d (p1 &&& (63 : Int32)).toInt64) = dc
  obtain ⟨ci, hci, eci⟩ := own_c63 hq_dc
  refine own_dstoreN X0 hx hby at_5 (pc' := 6) rfl (Ls' := #[.val (.int p1), .val (.int p2), .val (.int p3), .val (.double dc), .second, .unset, .unset, .unset, .unset, .unset, .unset, .unset, .unset, .unset, .unset, .unset, .unset, .unset, .unset, .unset, .unset, .unset, .unset]) rfl ?_
  refine own_iloadN X0 hx hby at_6 (pc' := 7) rfl rfl ?_
  refine own_bipush X0 hx hby at_7 (pc' := 9) rfl (z := 127) rfl ?_
  refine own_iand X0 hx hby at_9 (pc' := 10) rfl ?_
  refine own_i2d X0 hx hby at_10 (pc' := 11) rfl (i2d_w _) ?_
  generalize hq_dl : (FP.l2d (p2 &&& (127 : Int32)).toInt64) = dl
  obtain ⟨lj, hlj, elj⟩ := own_c127 hq_dl
  refine own_dstore X0 hx hby at_11 (pc' := 13) rfl (Ls' := #[.val (.int p1), .val (.int p2), .val (.int p3), .val (.double dc), .second, .val (.double dl), .second, .unset, .unset, .unset, .unset, .unset, .unset, .unset, .unset, .unset, .unset, .unset, .unset, .unset, .unset, .unset, .unset]) rfl ?_
  refine own_iloadN X0 hx hby at_13 (pc' := 14) rfl rfl ?_
  refine own_ldcI X0 hx hby hZ hown (ow_0 hw) at_14 (pc' := 16) rfl ?_
  refine own_iand X0 hx hby at_16 (pc' := 17) rfl ?_
  refine own_i2d X0 hx hby at_17 (pc' := 18) rfl (i2d_w _) ?_
  generalize hq_dv : (FP.l2d (p3 &&& (2147483647 : Int32)).toInt64) = dv
  obtain ⟨VV, hVV, eVV⟩ := own_c31 hq_dv
  have Zc : own_nb dc = true ∧ own_nb (FP.dmul (0 : UInt64) dc) = true ∧ FP.dmul (0 : UInt64) dc = 0 ∧ own_nb (FP.dmul dc (0 : UInt64)) = true ∧ FP.dmul dc (0 : UInt64) = 0 := eci ▸ own_z3 ⟨ci, Nat.lt_of_lt_of_le hci (by decide)⟩
  have Zl : own_nb dl = true ∧ own_nb (FP.dmul (0 : UInt64) dl) = true ∧ FP.dmul (0 : UInt64) dl = 0 ∧ own_nb (FP.dmul dl (0 : UInt64)) = true ∧ FP.dmul dl (0 : UInt64) = 0 := elj ▸ own_z3 ⟨lj, hlj⟩
  have HI : own_Sol2 (4607182418800017408 : UInt64) dc (0 : UInt64) (4607182418800017408 : UInt64) (13830554455654793216 : UInt64) (0 : UInt64) (13830554455654793216 : UInt64) (0 : UInt64) := eci ▸ own_solb_s (own_init2 ⟨ci, Nat.lt_of_lt_of_le hci (by decide)⟩)
  refine own_dstore X0 hx hby at_18 (pc' := 20) rfl (Ls' := #[.val (.int p1), .val (.int p2), .val (.int p3), .val (.double dc), .second, .val (.double dl), .second, .val (.double dv), .second, .unset, .unset, .unset, .unset, .unset, .unset, .unset, .unset, .unset, .unset, .unset, .unset, .unset, .unset]) rfl ?_
  refine own_newO X0 hx hby hZ hown (ow_1 hw) (ow_2 hw) (ow_3 hw) e0 at_20 (pc' := 23) rfl (by decide) (by decide) ?_
  intro T1 h1 b1 g1 X1 e1 E1 AX1 D1
  have le2 : h0.size ≤ b1 := Nat.le_of_eq g1.symm
  have n0_b1 : n0 ≤ b1 := Nat.le_trans Z0 (Nat.le_of_eq g1.symm)
  have F_size_b1 : Fld Z h1 b1 "com/example/bindery/bindery/selection/BindingMix" "size" "I" (.int (0 : Int32)) := D1 (Or.inr (ow_12 hw)) (ty := .int) (by decide)
  have F_rightHandSide_b1 : Fld Z h1 b1 "com/example/bindery/bindery/selection/BindingMix" "rightHandSide" "[D" .null := D1 (Or.inr (ow_14 hw)) (ty := (.array .double)) (by decide)
  have F_basis_b1 : Fld Z h1 b1 "com/example/bindery/bindery/selection/BindingMix" "basis" "[[D" .null := D1 (Or.inr (ow_22 hw)) (ty := (.array (.array .double))) (by decide)
  have F_values_b1 : Fld Z h1 b1 "com/example/bindery/bindery/selection/BindingMix" "values" "[D" .null := D1 (Or.inr (ow_24 hw)) (ty := (.array .double)) (by decide)
  have F_slackOf_b1 : Fld Z h1 b1 "com/example/bindery/bindery/selection/BindingMix" "slackOf" "[I" .null := D1 (Or.inr (ow_27 hw)) (ty := (.array .int)) (by decide)
  have F_duals_b1 : Fld Z h1 b1 "com/example/bindery/bindery/selection/BindingMix" "duals" "[D" .null := D1 (Or.inl (ow_54 hw)) (ty := (.array .double)) (by decide)
  refine own_dup X1 hx hby at_23 (pc' := 24) rfl rfl ?_
  refine own_iconst X1 hx hby at_24 (pc' := 25) rfl (z := 0) rfl ?_
  refine own_newD X1 hx hby hZ (ow_4 hw) e1 at_25 (pc' := 27) rfl (by decide) (cap := 0) (by decide) (by decide) (by decide) (by decide) (vs := []) rfl ?_
  intro T3 h3 b3 g3 X3 e3 E3 V_b3
  have ne_b1_b3 : b1 ≠ b3 := own_nl AX1.lt g3
  have le4 : h0.size ≤ b3 := Nat.le_trans E1.1 (Nat.le_of_eq g3.symm)
  have n0_b3 : n0 ≤ b3 := Nat.le_trans (Nat.le_trans Z0 E1.1) (Nat.le_of_eq g3.symm)
  have Ea5 := own_xt E1 E3
  replace AX1 := AX1.ext E3
  replace F_size_b1 := F_size_b1.ext E3
  replace F_rightHandSide_b1 := F_rightHandSide_b1.ext E3
  replace F_basis_b1 := F_basis_b1.ext E3
  replace F_values_b1 := F_values_b1.ext E3
  replace F_slackOf_b1 := F_slackOf_b1.ext E3
  replace F_duals_b1 := F_duals_b1.ext E3
  refine own_specM X3 hx hby hml hZ hown rfl (ow_5 hw) (ow_6 hw) (ow_3 hw) (ow_7 hw) (by decide) (cc := 9) (ss := 9) (rm_init1 l Z a0 hw b1 b3  h3 n0 (Nat.le_trans Z0 Ea5.1)  n0_b1 ne_b1_b3 AX1 F_size_b1 F_rightHandSide_b1 F_basis_b1 F_values_b1 F_slackOf_b1 F_duals_b1 V_b3) 1 rfl rfl (by decide) (by decide) rfl (argsL := [(.ref b3)]) (rest := [(.ref b1)]) opd_7 rfl rfl (Nat.le_refl _) at_27 (pc' := 30) rfl rfl e3 (by decide) (by decide) ?_
  rintro v6 T6 h6 L6 X6 e6 ⟨rfl, Nq6, Kq6, g1, lb6, B6, Bs6, Bd6, V_g1⟩
  have N6 := N0.app Nq6
  have Ea7 := own_xk Ea5 Kq6 (allS le2 all0)
  refine own_astore X6 hx hby at_30 (pc' := 32) rfl rfl (Ls' := #[.val (.int p1), .val (.int p2), .val (.int p3), .val (.double dc), .second, .val (.double dl), .second, .val (.double dv), .second, .val (.ref b1), .unset, .unset, .unset, .unset, .unset, .unset, .unset, .unset, .unset, .unset, .unset, .unset, .unset]) rfl ?_
  refine own_aload X6 hx hby at_32 (pc' := 34) rfl rfl rfl ?_
  refine own_virtM X6 hx hby hml hZ hown (ow_55 hw) (ow_56 hw) (notFace_of_selects (args := #[]) (mvT hZ (ow_58 hw))) (ow_58 hw) (ow_57 hw) (ow_3 hw) (ow_59 hw) (by decide) (cc := 1) (ss := 0) (rm_prices1 l Z a0 hw b1 g1  h6 n0 (Nat.le_trans Z0 Ea7.1)  Bs6 Bd6 V_g1) 0 rfl rfl (by decide) (by decide) rfl B6 (argsL := []) (rest := []) opd_2 rfl rfl (Nat.le_refl _) at_34 (pc' := 37) rfl rfl e6 (by decide) (by decide) ?_
  rintro v8 T8 h8 L8 X8 e8 ⟨og1, rfl, lb8, Eq8, Nq8, V_og1⟩
  have ne_b1_og1 : b1 ≠ og1 := Nat.ne_of_lt (Nat.lt_of_lt_of_le B6.lt lb8)
  have ne_g1_og1 : g1 ≠ og1 := Nat.ne_of_lt (Nat.lt_of_lt_of_le V_g1.lt lb8)
  have n0_og1 : n0 ≤ og1 := Nat.le_trans (Nat.le_trans Z0 Ea7.1) lb8
  have le9 : h0.size ≤ og1 := Nat.le_trans Ea7.1 lb8
  have N8 := N6.app Nq8
  have Ea10 := own_xt Ea7 Eq8
  replace B6 := B6.ext Eq8
  replace Bs6 := Bs6.ext Eq8
  replace Bd6 := Bd6.ext Eq8
  replace V_g1 := V_g1.ext Eq8
  refine own_astore X8 hx hby at_37 (pc' := 39) rfl rfl (Ls' := #[.val (.int p1), .val (.int p2), .val (.int p3), .val (.double dc), .second, .val (.double dl), .second, .val (.double dv), .second, .val (.ref b1), .val (.ref og1), .unset, .unset, .unset, .unset, .unset, .unset, .unset, .unset, .unset, .unset, .unset, .unset]) rfl ?_
  refine own_aload X8 hx hby at_39 (pc' := 41) rfl rfl rfl ?_
  refine own_alD X8 hx hby hZ e8 V_og1 at_41 (pc' := 42) rfl ?_
  refine own_ifN X8 hx hby at_42 (pc' := 45) rfl (teq (by decide)).2 ?_
  refine own_iconst X8 hx hby at_45 (pc' := 46) rfl (z := 1) rfl ?_
  refine own_goto X8 hx hby at_46 (by decide) (pc' := 50) (by decide) ?_
  refine own_istore X8 hx hby at_50 (pc' := 52) rfl (Ls' := #[.val (.int p1), .val (.int p2), .val (.int p3), .val (.double dc), .second, .val (.double dl), .second, .val (.double dv), .second, .val (.ref b1), .val (.ref og1), .val (.int (1 : Int32)), .unset, .unset, .unset, .unset, .unset, .unset, .unset, .unset, .unset, .unset, .unset]) rfl ?_
  refine own_newO X8 hx hby hZ hown (ow_1 hw) (ow_2 hw) (ow_3 hw) e8 at_52 (pc' := 55) rfl (by decide) (by decide) ?_
  intro T11 h11 b11 g11 X11 e11 E11 AX11 D11
  have ne_b1_b11 : b1 ≠ b11 := own_nl B6.lt g11
  have ne_g1_b11 : g1 ≠ b11 := own_nl V_g1.lt g11
  have ne_og1_b11 : og1 ≠ b11 := own_nl V_og1.lt g11
  have le12 : h0.size ≤ b11 := Nat.le_trans Ea10.1 (Nat.le_of_eq g11.symm)
  have n0_b11 : n0 ≤ b11 := Nat.le_trans (Nat.le_trans Z0 Ea10.1) (Nat.le_of_eq g11.symm)
  have Ea13 := own_xt Ea10 E11
  replace B6 := B6.ext E11
  replace Bs6 := Bs6.ext E11
  replace Bd6 := Bd6.ext E11
  replace V_g1 := V_g1.ext E11
  replace V_og1 := V_og1.ext E11
  have F_size_b11 : Fld Z h11 b11 "com/example/bindery/bindery/selection/BindingMix" "size" "I" (.int (0 : Int32)) := D11 (Or.inr (ow_12 hw)) (ty := .int) (by decide)
  have F_rightHandSide_b11 : Fld Z h11 b11 "com/example/bindery/bindery/selection/BindingMix" "rightHandSide" "[D" .null := D11 (Or.inr (ow_14 hw)) (ty := (.array .double)) (by decide)
  have F_basis_b11 : Fld Z h11 b11 "com/example/bindery/bindery/selection/BindingMix" "basis" "[[D" .null := D11 (Or.inr (ow_22 hw)) (ty := (.array (.array .double))) (by decide)
  have F_values_b11 : Fld Z h11 b11 "com/example/bindery/bindery/selection/BindingMix" "values" "[D" .null := D11 (Or.inr (ow_24 hw)) (ty := (.array .double)) (by decide)
  have F_slackOf_b11 : Fld Z h11 b11 "com/example/bindery/bindery/selection/BindingMix" "slackOf" "[I" .null := D11 (Or.inr (ow_27 hw)) (ty := (.array .int)) (by decide)
  have F_duals_b11 : Fld Z h11 b11 "com/example/bindery/bindery/selection/BindingMix" "duals" "[D" .null := D11 (Or.inl (ow_54 hw)) (ty := (.array .double)) (by decide)
  refine own_dup X11 hx hby at_55 (pc' := 56) rfl rfl ?_
  refine own_iconst X11 hx hby at_56 (pc' := 57) rfl (z := 2) rfl ?_
  refine own_newD X11 hx hby hZ (ow_4 hw) e11 at_57 (pc' := 59) rfl (by decide) (cap := 2) (by decide) (by decide) (by decide) (by decide) (vs := [.double (0 : UInt64), .double (0 : UInt64)]) rfl ?_
  intro T14 h14 b14 g14 X14 e14 E14 V_b14
  have ne_b1_b14 : b1 ≠ b14 := own_nl B6.lt g14
  have ne_g1_b14 : g1 ≠ b14 := own_nl V_g1.lt g14
  have ne_og1_b14 : og1 ≠ b14 := own_nl V_og1.lt g14
  have ne_b11_b14 : b11 ≠ b14 := own_nl AX11.lt g14
  have le15 : h0.size ≤ b14 := Nat.le_trans Ea13.1 (Nat.le_of_eq g14.symm)
  have n0_b14 : n0 ≤ b14 := Nat.le_trans (Nat.le_trans Z0 Ea13.1) (Nat.le_of_eq g14.symm)
  have Ea16 := own_xt Ea13 E14
  replace B6 := B6.ext E14
  replace Bs6 := Bs6.ext E14
  replace Bd6 := Bd6.ext E14
  replace V_g1 := V_g1.ext E14
  replace V_og1 := V_og1.ext E14
  replace AX11 := AX11.ext E14
  replace F_size_b11 := F_size_b11.ext E14
  replace F_rightHandSide_b11 := F_rightHandSide_b11.ext E14
  replace F_basis_b11 := F_basis_b11.ext E14
  replace F_values_b11 := F_values_b11.ext E14
  replace F_slackOf_b11 := F_slackOf_b11.ext E14
  replace F_duals_b11 := F_duals_b11.ext E14
  refine own_dup X14 hx hby at_59 (pc' := 60) rfl rfl ?_
  refine own_iconst X14 hx hby at_60 (pc' := 61) rfl (z := 0) rfl ?_
  refine own_dloadN X14 hx hby at_61 (pc' := 62) rfl rfl ?_
  refine own_dsD X14 hx hby hZ e14 V_b14 ⟨by decide, by decide⟩ 0 rfl (Nat.le_of_ble_eq_true rfl) (ys := [.double dc, .double (0 : UInt64)]) rfl at_62 (pc' := 63) rfl ?_
  intro T17 h17 X17 e17 W17 Q17
  have Ea18 := own_xw Ea16 W17 le15
  replace B6 := B6.wr W17
  replace Bs6 := Bs6.other W17 (Or.inl ne_b1_b14)
  replace Bd6 := Bd6.other W17 (Or.inl ne_b1_b14)
  replace V_g1 := V_g1.other W17 ne_g1_b14
  replace V_og1 := V_og1.other W17 ne_og1_b14
  replace AX11 := AX11.wr W17
  replace F_size_b11 := F_size_b11.other W17 (Or.inl ne_b11_b14)
  replace F_rightHandSide_b11 := F_rightHandSide_b11.other W17 (Or.inl ne_b11_b14)
  replace F_basis_b11 := F_basis_b11.other W17 (Or.inl ne_b11_b14)
  replace F_values_b11 := F_values_b11.other W17 (Or.inl ne_b11_b14)
  replace F_slackOf_b11 := F_slackOf_b11.other W17 (Or.inl ne_b11_b14)
  replace F_duals_b11 := F_duals_b11.other W17 (Or.inl ne_b11_b14)
  replace V_b14 := Q17
  have N17 := own_fr1 (sl := ((0 : Int32)).toNatClampNeg) N8 n0_b14
  refine own_dup X17 hx hby at_63 (pc' := 64) rfl rfl ?_
  refine own_iconst X17 hx hby at_64 (pc' := 65) rfl (z := 1) rfl ?_
  refine own_dload X17 hx hby at_65 (pc' := 67) rfl rfl ?_
  refine own_dsD X17 hx hby hZ e17 V_b14 ⟨by decide, by decide⟩ 1 rfl (Nat.le_of_ble_eq_true rfl) (ys := [.double dc, .double dl]) rfl at_67 (pc' := 68) rfl ?_
  intro T19 h19 X19 e19 W19 Q19
  have Ea20 := own_xw Ea18 W19 le15
  replace B6 := B6.wr W19
  replace Bs6 := Bs6.other W19 (Or.inl ne_b1_b14)
  replace Bd6 := Bd6.other W19 (Or.inl ne_b1_b14)
  replace V_g1 := V_g1.other W19 ne_g1_b14
  replace V_og1 := V_og1.other W19 ne_og1_b14
  replace AX11 := AX11.wr W19
  replace F_size_b11 := F_size_b11.other W19 (Or.inl ne_b11_b14)
  replace F_rightHandSide_b11 := F_rightHandSide_b11.other W19 (Or.inl ne_b11_b14)
  replace F_basis_b11 := F_basis_b11.other W19 (Or.inl ne_b11_b14)
  replace F_values_b11 := F_values_b11.other W19 (Or.inl ne_b11_b14)
  replace F_slackOf_b11 := F_slackOf_b11.other W19 (Or.inl ne_b11_b14)
  replace F_duals_b11 := F_duals_b11.other W19 (Or.inl ne_b11_b14)
  replace V_b14 := Q19
  have N19 := own_fr1 (sl := ((1 : Int32)).toNatClampNeg) N17 n0_b14
  refine own_specM X19 hx hby hml hZ hown rfl (ow_5 hw) (ow_6 hw) (ow_3 hw) (ow_7 hw) (by decide) (cc := 13) (ss := 39) (rm_init3 l Z a0 hw b11 b14 dc dl h19 n0 (Nat.le_trans Z0 Ea20.1) Zc Zl n0_b11 ne_b11_b14 AX11 F_size_b11 F_rightHandSide_b11 F_basis_b11 F_values_b11 F_slackOf_b11 F_duals_b11 V_b14) 1 rfl rfl (by decide) (by decide) rfl (argsL := [(.ref b14)]) (rest := [(.ref b11)]) opd_7 rfl rfl (Nat.le_refl _) at_68 (pc' := 71) rfl rfl e19 (by decide) (by decide) ?_
  rintro v21 T21 h21 L21 X21 e21 ⟨rfl, Nq21, Kq21, g3, lb21, B21, Bs21, Bd21, V_g3⟩
  have N21 := N19.app Nq21
  have Ea22 := own_xk Ea20 Kq21 (allS le12 all0)
  refine own_astore X21 hx hby at_71 (pc' := 73) rfl rfl (Ls' := #[.val (.int p1), .val (.int p2), .val (.int p3), .val (.double dc), .second, .val (.double dl), .second, .val (.double dv), .second, .val (.ref b1), .val (.ref og1), .val (.int (1 : Int32)), .val (.ref b11), .unset, .unset, .unset, .unset, .unset, .unset, .unset, .unset, .unset, .unset]) rfl ?_
  refine own_aload X21 hx hby at_73 (pc' := 75) rfl rfl rfl ?_
  refine own_virtM X21 hx hby hml hZ hown (ow_55 hw) (ow_56 hw) (notFace_of_selects (args := #[]) (mvT hZ (ow_58 hw))) (ow_58 hw) (ow_57 hw) (ow_3 hw) (ow_59 hw) (by decide) (cc := 1) (ss := 2) (rm_prices3 l Z a0 hw b11 g3  h21 n0 (Nat.le_trans Z0 Ea22.1)  Bs21 Bd21 V_g3) 0 rfl rfl (by decide) (by decide) rfl B21 (argsL := []) (rest := []) opd_2 rfl rfl (Nat.le_refl _) at_75 (pc' := 78) rfl rfl e21 (by decide) (by decide) ?_
  rintro v23 T23 h23 L23 X23 e23 ⟨og3, rfl, lb23, Eq23, Nq23, V_og3⟩
  have ne_b11_og3 : b11 ≠ og3 := Nat.ne_of_lt (Nat.lt_of_lt_of_le B21.lt lb23)
  have ne_g3_og3 : g3 ≠ og3 := Nat.ne_of_lt (Nat.lt_of_lt_of_le V_g3.lt lb23)
  have n0_og3 : n0 ≤ og3 := Nat.le_trans (Nat.le_trans Z0 Ea22.1) lb23
  have le24 : h0.size ≤ og3 := Nat.le_trans Ea22.1 lb23
  have N23 := N21.app Nq23
  have Ea25 := own_xt Ea22 Eq23
  replace B21 := B21.ext Eq23
  replace Bs21 := Bs21.ext Eq23
  replace Bd21 := Bd21.ext Eq23
  replace V_g3 := V_g3.ext Eq23
  refine own_astore X23 hx hby at_78 (pc' := 80) rfl rfl (Ls' := #[.val (.int p1), .val (.int p2), .val (.int p3), .val (.double dc), .second, .val (.double dl), .second, .val (.double dv), .second, .val (.ref b1), .val (.ref og1), .val (.int (1 : Int32)), .val (.ref b11), .val (.ref og3), .unset, .unset, .unset, .unset, .unset, .unset, .unset, .unset, .unset]) rfl ?_
  refine own_aload X23 hx hby at_80 (pc' := 82) rfl rfl rfl ?_
  refine own_alD X23 hx hby hZ e23 V_og3 at_82 (pc' := 83) rfl ?_
  refine own_iconst X23 hx hby at_83 (pc' := 84) rfl (z := 2) rfl ?_
  refine own_icmpN X23 hx hby at_84 (pc' := 87) rfl (teq (by decide)).2 ?_
  refine own_aload X23 hx hby at_87 (pc' := 89) rfl rfl rfl ?_
  refine own_iconst X23 hx hby at_89 (pc' := 90) rfl (z := 0) rfl ?_
  refine own_daD X23 hx hby hZ e23 V_og3 ⟨by decide, by decide⟩ (v := (0 : UInt64)) rfl at_90 (pc' := 91) rfl ?_
  refine own_dconst0 X23 hx hby at_91 (pc' := 92) rfl (v := (0 : UInt64)) rfl ?_
  refine own_dcmp X23 hx hby at_92 (pc' := 93) rfl (v := (0 : Int32)) okl_16 ?_
  refine own_ifN X23 hx hby at_93 (pc' := 96) rfl (teq (by decide)).2 ?_
  refine own_aload X23 hx hby at_96 (pc' := 98) rfl rfl rfl ?_
  refine own_iconst X23 hx hby at_98 (pc' := 99) rfl (z := 1) rfl ?_
  refine own_daD X23 hx hby hZ e23 V_og3 ⟨by decide, by decide⟩ (v := (0 : UInt64)) rfl at_99 (pc' := 100) rfl ?_
  refine own_dconst0 X23 hx hby at_100 (pc' := 101) rfl (v := (0 : UInt64)) rfl ?_
  refine own_dcmp X23 hx hby at_101 (pc' := 102) rfl (v := (0 : Int32)) okl_16 ?_
  refine own_ifN X23 hx hby at_102 (pc' := 105) rfl (teq (by decide)).2 ?_
  refine own_iconst X23 hx hby at_105 (pc' := 106) rfl (z := 1) rfl ?_
  refine own_goto X23 hx hby at_106 (by decide) (pc' := 110) (by decide) ?_
  refine own_istore X23 hx hby at_110 (pc' := 112) rfl (Ls' := #[.val (.int p1), .val (.int p2), .val (.int p3), .val (.double dc), .second, .val (.double dl), .second, .val (.double dv), .second, .val (.ref b1), .val (.ref og1), .val (.int (1 : Int32)), .val (.ref b11), .val (.ref og3), .val (.int (1 : Int32)), .unset, .unset, .unset, .unset, .unset, .unset, .unset, .unset]) rfl ?_
  refine own_newO X23 hx hby hZ hown (ow_1 hw) (ow_2 hw) (ow_3 hw) e23 at_112 (pc' := 115) rfl (by decide) (by decide) ?_
  intro T26 h26 b26 g26 X26 e26 E26 AX26 D26
  have le27 : h0.size ≤ b26 := Nat.le_trans Ea25.1 (Nat.le_of_eq g26.symm)
  have n0_b26 : n0 ≤ b26 := Nat.le_trans (Nat.le_trans Z0 Ea25.1) (Nat.le_of_eq g26.symm)
  have Ea28 := own_xt Ea25 E26
  have F_size_b26 : Fld Z h26 b26 "com/example/bindery/bindery/selection/BindingMix" "size" "I" (.int (0 : Int32)) := D26 (Or.inr (ow_12 hw)) (ty := .int) (by decide)
  have F_rightHandSide_b26 : Fld Z h26 b26 "com/example/bindery/bindery/selection/BindingMix" "rightHandSide" "[D" .null := D26 (Or.inr (ow_14 hw)) (ty := (.array .double)) (by decide)
  have F_basis_b26 : Fld Z h26 b26 "com/example/bindery/bindery/selection/BindingMix" "basis" "[[D" .null := D26 (Or.inr (ow_22 hw)) (ty := (.array (.array .double))) (by decide)
  have F_values_b26 : Fld Z h26 b26 "com/example/bindery/bindery/selection/BindingMix" "values" "[D" .null := D26 (Or.inr (ow_24 hw)) (ty := (.array .double)) (by decide)
  have F_slackOf_b26 : Fld Z h26 b26 "com/example/bindery/bindery/selection/BindingMix" "slackOf" "[I" .null := D26 (Or.inr (ow_27 hw)) (ty := (.array .int)) (by decide)
  have F_duals_b26 : Fld Z h26 b26 "com/example/bindery/bindery/selection/BindingMix" "duals" "[D" .null := D26 (Or.inl (ow_54 hw)) (ty := (.array .double)) (by decide)
  refine own_dup X26 hx hby at_115 (pc' := 116) rfl rfl ?_
  refine own_iconst X26 hx hby at_116 (pc' := 117) rfl (z := 1) rfl ?_
  refine own_newD X26 hx hby hZ (ow_4 hw) e26 at_117 (pc' := 119) rfl (by decide) (cap := 1) (by decide) (by decide) (by decide) (by decide) (vs := [.double (0 : UInt64)]) rfl ?_
  intro T29 h29 b29 g29 X29 e29 E29 V_b29
  have ne_b26_b29 : b26 ≠ b29 := own_nl AX26.lt g29
  have le30 : h0.size ≤ b29 := Nat.le_trans Ea28.1 (Nat.le_of_eq g29.symm)
  have n0_b29 : n0 ≤ b29 := Nat.le_trans (Nat.le_trans Z0 Ea28.1) (Nat.le_of_eq g29.symm)
  have Ea31 := own_xt Ea28 E29
  replace AX26 := AX26.ext E29
  replace F_size_b26 := F_size_b26.ext E29
  replace F_rightHandSide_b26 := F_rightHandSide_b26.ext E29
  replace F_basis_b26 := F_basis_b26.ext E29
  replace F_values_b26 := F_values_b26.ext E29
  replace F_slackOf_b26 := F_slackOf_b26.ext E29
  replace F_duals_b26 := F_duals_b26.ext E29
  refine own_dup X29 hx hby at_119 (pc' := 120) rfl rfl ?_
  refine own_iconst X29 hx hby at_120 (pc' := 121) rfl (z := 0) rfl ?_
  refine own_dloadN X29 hx hby at_121 (pc' := 122) rfl rfl ?_
  refine own_dsD X29 hx hby hZ e29 V_b29 ⟨by decide, by decide⟩ 0 rfl (Nat.le_of_ble_eq_true rfl) (ys := [.double dc]) rfl at_122 (pc' := 123) rfl ?_
  intro T32 h32 X32 e32 W32 Q32
  have Ea33 := own_xw Ea31 W32 le30
  replace AX26 := AX26.wr W32
  replace F_size_b26 := F_size_b26.other W32 (Or.inl ne_b26_b29)
  replace F_rightHandSide_b26 := F_rightHandSide_b26.other W32 (Or.inl ne_b26_b29)
  replace F_basis_b26 := F_basis_b26.other W32 (Or.inl ne_b26_b29)
  replace F_values_b26 := F_values_b26.other W32 (Or.inl ne_b26_b29)
  replace F_slackOf_b26 := F_slackOf_b26.other W32 (Or.inl ne_b26_b29)
  replace F_duals_b26 := F_duals_b26.other W32 (Or.inl ne_b26_b29)
  replace V_b29 := Q32
  have N32 := own_fr1 (sl := ((0 : Int32)).toNatClampNeg) N23 n0_b29
  refine own_specM X32 hx hby hml hZ hown rfl (ow_5 hw) (ow_6 hw) (ow_3 hw) (ow_7 hw) (by decide) (cc := 11) (ss := 22) (rm_init2 l Z a0 hw b26 b29 dc h32 n0 (Nat.le_trans Z0 Ea33.1) HI n0_b26 ne_b26_b29 AX26 F_size_b26 F_rightHandSide_b26 F_basis_b26 F_values_b26 F_slackOf_b26 F_duals_b26 V_b29) 1 rfl rfl (by decide) (by decide) rfl (argsL := [(.ref b29)]) (rest := [(.ref b26)]) opd_7 rfl rfl (Nat.le_refl _) at_123 (pc' := 126) rfl rfl e32 (by decide) (by decide) ?_
  rintro v34 T34 h34 L34 X34 e34 ⟨rfl, Nq34, Kq34, rh, ba, va, so, r0, r1, du, lb_rh, lb_ba, lb_va, lb_so, lb_r0, lb_r1, lb_du, ne_a1_rh, ne_a1_ba, ne_a1_va, ne_a1_so, ne_a1_r0, ne_a1_r1, ne_a1_du, ne_rh_ba, ne_rh_va, ne_rh_so, ne_rh_r0, ne_rh_r1, ne_rh_du, ne_ba_va, ne_ba_so, ne_ba_r0, ne_ba_r1, ne_ba_du, ne_va_so, ne_va_r0, ne_va_r1, ne_va_du, ne_so_r0, ne_so_r1, ne_so_du, ne_r0_r1, ne_r0_du, ne_r1_du, A1, F_size, F_rightHandSide, F_basis, F_values, F_slackOf, F_duals, V_rh, V_ba, V_va, V_so, V_r0, V_r1, V_du⟩
  have n0_rh : n0 ≤ rh := Nat.le_trans (Nat.le_trans Z0 Ea33.1) lb_rh
  have le35 : h0.size ≤ rh := Nat.le_trans Ea33.1 lb_rh
  have n0_ba : n0 ≤ ba := Nat.le_trans (Nat.le_trans Z0 Ea33.1) lb_ba
  have le36 : h0.size ≤ ba := Nat.le_trans Ea33.1 lb_ba
  have n0_va : n0 ≤ va := Nat.le_trans (Nat.le_trans Z0 Ea33.1) lb_va
  have le37 : h0.size ≤ va := Nat.le_trans Ea33.1 lb_va
  have n0_so : n0 ≤ so := Nat.le_trans (Nat.le_trans Z0 Ea33.1) lb_so
  have le38 : h0.size ≤ so := Nat.le_trans Ea33.1 lb_so
  have n0_r0 : n0 ≤ r0 := Nat.le_trans (Nat.le_trans Z0 Ea33.1) lb_r0
  have le39 : h0.size ≤ r0 := Nat.le_trans Ea33.1 lb_r0
  have n0_r1 : n0 ≤ r1 := Nat.le_trans (Nat.le_trans Z0 Ea33.1) lb_r1
  have le40 : h0.size ≤ r1 := Nat.le_trans Ea33.1 lb_r1
  have n0_du : n0 ≤ du := Nat.le_trans (Nat.le_trans Z0 Ea33.1) lb_du
  have le41 : h0.size ≤ du := Nat.le_trans Ea33.1 lb_du
  have N34 := N32.app Nq34
  have Ea42 := own_xk Ea33 Kq34 (allS le27 all0)
  refine own_astore X34 hx hby at_126 (pc' := 128) rfl rfl (Ls' := #[.val (.int p1), .val (.int p2), .val (.int p3), .val (.double dc), .second, .val (.double dl), .second, .val (.double dv), .second, .val (.ref b1), .val (.ref og1), .val (.int (1 : Int32)), .val (.ref b11), .val (.ref og3), .val (.int (1 : Int32)), .val (.ref b26), .unset, .unset, .unset, .unset, .unset, .unset, .unset]) rfl ?_
  refine own_aload X34 hx hby at_128 (pc' := 130) rfl rfl rfl ?_
  refine own_virtM X34 hx hby hml hZ hown (ow_55 hw) (ow_56 hw) (notFace_of_selects (args := #[]) (mvT hZ (ow_58 hw))) (ow_58 hw) (ow_57 hw) (ow_3 hw) (ow_59 hw) (by decide) (cc := 1) (ss := 1) (rm_prices2 l Z a0 hw b26 du (13830554455654793216 : UInt64) (0 : UInt64) (0 : UInt64) h34 n0 (Nat.le_trans Z0 Ea42.1) okl_3 okl_15 F_size F_duals V_du) 0 rfl rfl (by decide) (by decide) rfl A1 (argsL := []) (rest := []) opd_2 rfl rfl (Nat.le_refl _) at_130 (pc' := 133) rfl rfl e34 (by decide) (by decide) ?_
  rintro v43 T43 h43 L43 X43 e43 ⟨op, rfl, lb43, Eq43, Nq43, V_op⟩
  have ne_b26_op : b26 ≠ op := Nat.ne_of_lt (Nat.lt_of_lt_of_le A1.lt lb43)
  have ne_rh_op : rh ≠ op := Nat.ne_of_lt (Nat.lt_of_lt_of_le V_rh.lt lb43)
  have ne_ba_op : ba ≠ op := Nat.ne_of_lt (Nat.lt_of_lt_of_le V_ba.lt lb43)
  have ne_va_op : va ≠ op := Nat.ne_of_lt (Nat.lt_of_lt_of_le V_va.lt lb43)
  have ne_so_op : so ≠ op := Nat.ne_of_lt (Nat.lt_of_lt_of_le V_so.lt lb43)
  have ne_r0_op : r0 ≠ op := Nat.ne_of_lt (Nat.lt_of_lt_of_le V_r0.lt lb43)
  have ne_r1_op : r1 ≠ op := Nat.ne_of_lt (Nat.lt_of_lt_of_le V_r1.lt lb43)
  have ne_du_op : du ≠ op := Nat.ne_of_lt (Nat.lt_of_lt_of_le V_du.lt lb43)
  have n0_op : n0 ≤ op := Nat.le_trans (Nat.le_trans Z0 Ea42.1) lb43
  have le44 : h0.size ≤ op := Nat.le_trans Ea42.1 lb43
  have N43 := N34.app Nq43
  have Ea45 := own_xt Ea42 Eq43
  replace A1 := A1.ext Eq43
  replace F_size := F_size.ext Eq43
  replace F_rightHandSide := F_rightHandSide.ext Eq43
  replace F_basis := F_basis.ext Eq43
  replace F_values := F_values.ext Eq43
  replace F_slackOf := F_slackOf.ext Eq43
  replace F_duals := F_duals.ext Eq43
  replace V_rh := V_rh.ext Eq43
  replace V_ba := V_ba.ext Eq43
  replace V_va := V_va.ext Eq43
  replace V_so := V_so.ext Eq43
  replace V_r0 := V_r0.ext Eq43
  replace V_r1 := V_r1.ext Eq43
  replace V_du := V_du.ext Eq43
  refine own_astore X43 hx hby at_133 (pc' := 135) rfl rfl (Ls' := #[.val (.int p1), .val (.int p2), .val (.int p3), .val (.double dc), .second, .val (.double dl), .second, .val (.double dv), .second, .val (.ref b1), .val (.ref og1), .val (.int (1 : Int32)), .val (.ref b11), .val (.ref og3), .val (.int (1 : Int32)), .val (.ref b26), .val (.ref op), .unset, .unset, .unset, .unset, .unset, .unset]) rfl ?_
  refine own_aload X43 hx hby at_135 (pc' := 137) rfl rfl rfl ?_
  refine own_alD X43 hx hby hZ e43 V_op at_137 (pc' := 138) rfl ?_
  refine own_iconst X43 hx hby at_138 (pc' := 139) rfl (z := 1) rfl ?_
  refine own_icmpN X43 hx hby at_139 (pc' := 142) rfl (teq (by decide)).2 ?_
  refine own_aload X43 hx hby at_142 (pc' := 144) rfl rfl rfl ?_
  refine own_iconst X43 hx hby at_144 (pc' := 145) rfl (z := 0) rfl ?_
  refine own_daD X43 hx hby hZ e43 V_op ⟨by decide, by decide⟩ (v := (0 : UInt64)) rfl at_145 (pc' := 146) rfl ?_
  refine own_dconst0 X43 hx hby at_146 (pc' := 147) rfl (v := (0 : UInt64)) rfl ?_
  refine own_dcmp X43 hx hby at_147 (pc' := 148) rfl (v := (0 : Int32)) okl_16 ?_
  refine own_ifN X43 hx hby at_148 (pc' := 151) rfl (teq (by decide)).2 ?_
  refine own_iconst X43 hx hby at_151 (pc' := 152) rfl (z := 1) rfl ?_
  refine own_goto X43 hx hby at_152 (by decide) (pc' := 156) (by decide) ?_
  refine own_istore X43 hx hby at_156 (pc' := 158) rfl (Ls' := #[.val (.int p1), .val (.int p2), .val (.int p3), .val (.double dc), .second, .val (.double dl), .second, .val (.double dv), .second, .val (.ref b1), .val (.ref og1), .val (.int (1 : Int32)), .val (.ref b11), .val (.ref og3), .val (.int (1 : Int32)), .val (.ref b26), .val (.ref op), .val (.int (1 : Int32)), .unset, .unset, .unset, .unset, .unset]) rfl ?_
  refine own_aload X43 hx hby at_158 (pc' := 160) rfl rfl rfl ?_
  refine own_dload X43 hx hby at_160 (pc' := 162) rfl rfl ?_
  refine own_iconst X43 hx hby at_162 (pc' := 163) rfl (z := 1) rfl ?_
  refine own_newD X43 hx hby hZ (ow_4 hw) e43 at_163 (pc' := 165) rfl (by decide) (cap := 1) (by decide) (by decide) (by decide) (by decide) (vs := [.double (0 : UInt64)]) rfl ?_
  intro T46 h46 b46 g46 X46 e46 E46 V_b46
  have ne_b26_b46 : b26 ≠ b46 := own_nl A1.lt g46
  have ne_rh_b46 : rh ≠ b46 := own_nl V_rh.lt g46
  have ne_ba_b46 : ba ≠ b46 := own_nl V_ba.lt g46
  have ne_va_b46 : va ≠ b46 := own_nl V_va.lt g46
  have ne_so_b46 : so ≠ b46 := own_nl V_so.lt g46
  have ne_r0_b46 : r0 ≠ b46 := own_nl V_r0.lt g46
  have ne_r1_b46 : r1 ≠ b46 := own_nl V_r1.lt g46
  have ne_du_b46 : du ≠ b46 := own_nl V_du.lt g46
  have ne_op_b46 : op ≠ b46 := own_nl V_op.lt g46
  have le47 : h0.size ≤ b46 := Nat.le_trans Ea45.1 (Nat.le_of_eq g46.symm)
  have n0_b46 : n0 ≤ b46 := Nat.le_trans (Nat.le_trans Z0 Ea45.1) (Nat.le_of_eq g46.symm)
  have Ea48 := own_xt Ea45 E46
  replace A1 := A1.ext E46
  replace F_size := F_size.ext E46
  replace F_rightHandSide := F_rightHandSide.ext E46
  replace F_basis := F_basis.ext E46
  replace F_values := F_values.ext E46
  replace F_slackOf := F_slackOf.ext E46
  replace F_duals := F_duals.ext E46
  replace V_rh := V_rh.ext E46
  replace V_ba := V_ba.ext E46
  replace V_va := V_va.ext E46
  replace V_so := V_so.ext E46
  replace V_r0 := V_r0.ext E46
  replace V_r1 := V_r1.ext E46
  replace V_du := V_du.ext E46
  replace V_op := V_op.ext E46
  refine own_dup X46 hx hby at_165 (pc' := 166) rfl rfl ?_
  refine own_iconst X46 hx hby at_166 (pc' := 167) rfl (z := 0) rfl ?_
  refine own_dload X46 hx hby at_167 (pc' := 169) rfl rfl ?_
  refine own_dsD X46 hx hby hZ e46 V_b46 ⟨by decide, by decide⟩ 0 rfl (Nat.le_of_ble_eq_true rfl) (ys := [.double dl]) rfl at_169 (pc' := 170) rfl ?_
  intro T49 h49 X49 e49 W49 Q49
  have Ea50 := own_xw Ea48 W49 le47
  replace A1 := A1.wr W49
  replace F_size := F_size.other W49 (Or.inl ne_b26_b46)
  replace F_rightHandSide := F_rightHandSide.other W49 (Or.inl ne_b26_b46)
  replace F_basis := F_basis.other W49 (Or.inl ne_b26_b46)
  replace F_values := F_values.other W49 (Or.inl ne_b26_b46)
  replace F_slackOf := F_slackOf.other W49 (Or.inl ne_b26_b46)
  replace F_duals := F_duals.other W49 (Or.inl ne_b26_b46)
  replace V_rh := V_rh.other W49 ne_rh_b46
  replace V_ba := V_ba.other W49 ne_ba_b46
  replace V_va := V_va.other W49 ne_va_b46
  replace V_so := V_so.other W49 ne_so_b46
  replace V_r0 := V_r0.other W49 ne_r0_b46
  replace V_r1 := V_r1.other W49 ne_r1_b46
  replace V_du := V_du.other W49 ne_du_b46
  replace V_op := V_op.other W49 ne_op_b46
  replace V_b46 := Q49
  have N49 := own_fr1 (sl := ((0 : Int32)).toNatClampNeg) N43 n0_b46
  by_cases hlt : ci < lj
  · have hch := own_all0 ⟨ci, hci⟩ ⟨lj, hlj⟩
    rw [show decide ((⟨ci, hci⟩ : Fin 64).val < (⟨lj, hlj⟩ : Fin 128).val) = true from decide_eq_true hlt] at hch
    obtain ⟨LV0, LV1, DV0, DV1, HL, HD, hr⟩ := own_chk_s hch
    rw [← eci] at HL HD
    rw [← elj] at HD
    have HR := own_ratio1 hr
    have HY := own_duals1 hVV hci hlj hlt
    have Hk := own_Y1neg hVV hci hlj hlt
    have HM := own_Y1max hVV hci hlj hlt
    rw [← eci, ← elj, ← eVV] at HY
    have HF := HY.fin
    refine own_virtM X49 hx hby hml hZ hown (ow_68 hw) (ow_69 hw) (notFace_of_selects (args := #[]) (mvT hZ (ow_71 hw))) (ow_71 hw) (ow_70 hw) (ow_3 hw) (ow_72 hw) (by decide) (cc := 20) (ss := 39) (rm_add1 l Z a0 hw b26 rh ba va so r0 r1 du b46 dc dl dv LV0 LV1 DV0 DV1 (own_Y0 VV ci lj) (own_Y1 VV ci lj) h49 n0 (Nat.le_trans Z0 Ea50.1) HL HD HR HY Hk n0_b26 n0_ba n0_va n0_so ne_a1_rh ne_a1_ba ne_a1_va ne_a1_so ne_a1_r0 ne_a1_r1 ne_a1_du ne_rh_ba ne_rh_va ne_rh_so ne_rh_r0 ne_rh_r1 ne_rh_du ne_ba_va ne_ba_so ne_ba_r0 ne_ba_r1 ne_ba_du ne_va_so ne_va_r0 ne_va_r1 ne_va_du ne_so_r0 ne_so_r1 ne_so_du ne_r0_r1 ne_r0_du ne_r1_du ne_b26_b46 ne_rh_b46 ne_ba_b46 ne_va_b46 ne_so_b46 ne_r0_b46 ne_r1_b46 ne_du_b46 A1 F_size F_rightHandSide F_basis F_values F_slackOf F_duals V_rh V_ba V_va V_so V_r0 V_r1 V_du V_b46) 0 rfl rfl (by decide) (by decide) rfl A1 (argsL := [(.double dv), (.ref b46)]) (rest := []) opd_8 rfl rfl (Nat.le_refl _) at_170 (pc' := 173) rfl rfl e49 (by decide) (by decide) ?_
    rintro v51 T51 h51 L51 X51 e51 ⟨rfl, Nq51, Kq51, od, A1, F_size, F_duals, V_od⟩
    have N51 := N49.app Nq51
    have Ea52 := own_xk Ea50 Kq51 (allS le27 (allS le36 (allS le37 (allS le38 all0))))
    refine own_istore X51 hx hby at_173 (pc' := 175) rfl (Ls' := #[.val (.int p1), .val (.int p2), .val (.int p3), .val (.double dc), .second, .val (.double dl), .second, .val (.double dv), .second, .val (.ref b1), .val (.ref og1), .val (.int (1 : Int32)), .val (.ref b11), .val (.ref og3), .val (.int (1 : Int32)), .val (.ref b26), .val (.ref op), .val (.int (1 : Int32)), .val (.int (1 : Int32)), .unset, .unset, .unset, .unset]) rfl ?_
    refine own_aload X51 hx hby at_175 (pc' := 177) rfl rfl rfl ?_
    refine own_virtM X51 hx hby hml hZ hown (ow_55 hw) (ow_56 hw) (notFace_of_selects (args := #[]) (mvT hZ (ow_58 hw))) (ow_58 hw) (ow_57 hw) (ow_3 hw) (ow_59 hw) (by decide) (cc := 1) (ss := 1) (rm_prices2 l Z a0 hw b26 od (own_Y0 VV ci lj) (own_Y1 VV ci lj) (own_Y1 VV ci lj) h51 n0 (Nat.le_trans Z0 Ea52.1) HF.2.noNaN HM F_size F_duals V_od) 0 rfl rfl (by decide) (by decide) rfl A1 (argsL := []) (rest := []) opd_2 rfl rfl (Nat.le_refl _) at_177 (pc' := 180) rfl rfl e51 (by decide) (by decide) ?_
    rintro v53 T53 h53 L53 X53 e53 ⟨oq, rfl, lb53, Eq53, Nq53, V_oq⟩
    have ne_b26_oq : b26 ≠ oq := Nat.ne_of_lt (Nat.lt_of_lt_of_le A1.lt lb53)
    have ne_od_oq : od ≠ oq := Nat.ne_of_lt (Nat.lt_of_lt_of_le V_od.lt lb53)
    have n0_oq : n0 ≤ oq := Nat.le_trans (Nat.le_trans Z0 Ea52.1) lb53
    have le54 : h0.size ≤ oq := Nat.le_trans Ea52.1 lb53
    have N53 := N51.app Nq53
    have Ea55 := own_xt Ea52 Eq53
    replace A1 := A1.ext Eq53
    replace F_size := F_size.ext Eq53
    replace F_duals := F_duals.ext Eq53
    replace V_od := V_od.ext Eq53
    refine own_astore X53 hx hby at_180 (pc' := 182) rfl rfl (Ls' := #[.val (.int p1), .val (.int p2), .val (.int p3), .val (.double dc), .second, .val (.double dl), .second, .val (.double dv), .second, .val (.ref b1), .val (.ref og1), .val (.int (1 : Int32)), .val (.ref b11), .val (.ref og3), .val (.int (1 : Int32)), .val (.ref b26), .val (.ref op), .val (.int (1 : Int32)), .val (.int (1 : Int32)), .val (.ref oq), .unset, .unset, .unset]) rfl ?_
    refine own_dconst0 X53 hx hby at_182 (pc' := 183) rfl (v := (0 : UInt64)) rfl ?_
    refine own_dstore X53 hx hby at_183 (pc' := 185) rfl (Ls' := #[.val (.int p1), .val (.int p2), .val (.int p3), .val (.double dc), .second, .val (.double dl), .second, .val (.double dv), .second, .val (.ref b1), .val (.ref og1), .val (.int (1 : Int32)), .val (.ref b11), .val (.ref og3), .val (.int (1 : Int32)), .val (.ref b26), .val (.ref op), .val (.int (1 : Int32)), .val (.int (1 : Int32)), .val (.ref oq), .val (.double (0 : UInt64)), .second, .unset]) rfl ?_
    refine own_dload X53 hx hby at_185 (pc' := 187) rfl rfl ?_
    refine own_dloadN X53 hx hby at_187 (pc' := 188) rfl rfl ?_
    obtain ⟨dv56, hd56, hk56⟩ := own_lgt1 eci elj hci hlj hlt
    refine own_dcmp X53 hx hby at_188 (pc' := 189) rfl (v := dv56) hd56 ?_
    refine own_ifN X53 hx hby at_189 (pc' := 192) rfl (tlt hk56).2.2.2 ?_
    refine own_dload X53 hx hby at_192 (pc' := 194) rfl rfl ?_
    refine own_dconst1 X53 hx hby at_194 (pc' := 195) rfl (v := (4607182418800017408 : UInt64)) rfl ?_
    refine own_dadd X53 hx hby at_195 (pc' := 196) rfl (own_nnE (own_e1 hVV eVV)) (v := (FP.l2d (VV + 1))) (own_e1 hVV eVV) ?_
    refine own_dload X53 hx hby at_196 (pc' := 198) rfl rfl ?_
    refine own_dloadN X53 hx hby at_198 (pc' := 199) rfl rfl ?_
    refine own_dsub X53 hx hby at_199 (pc' := 200) rfl (own_nnE (own_e2 eci elj hci hlj)) (v := (FP.l2d (Int64.ofInt (lj : Int) - Int64.ofInt (ci : Int)))) (own_e2 eci elj hci hlj) ?_
    refine own_ddiv X53 hx hby at_200 (pc' := 201) rfl HF.2.noNaN (v := (own_Y1 VV ci lj)) rfl ?_
    refine own_dstore X53 hx hby at_201 (pc' := 203) rfl (Ls' := #[.val (.int p1), .val (.int p2), .val (.int p3), .val (.double dc), .second, .val (.double dl), .second, .val (.double dv), .second, .val (.ref b1), .val (.ref og1), .val (.int (1 : Int32)), .val (.ref b11), .val (.ref og3), .val (.int (1 : Int32)), .val (.ref b26), .val (.ref op), .val (.int (1 : Int32)), .val (.int (1 : Int32)), .val (.ref oq), .val (.double (own_Y1 VV ci lj)), .second, .unset]) rfl ?_
    refine own_iload X53 hx hby at_203 (pc' := 205) rfl rfl ?_
    refine own_ifN X53 hx hby at_205 (pc' := 208) rfl (feq (by decide)).1 ?_
    refine own_aload X53 hx hby at_208 (pc' := 210) rfl rfl rfl ?_
    refine own_alD X53 hx hby hZ e53 V_oq at_210 (pc' := 211) rfl ?_
    refine own_iconst X53 hx hby at_211 (pc' := 212) rfl (z := 1) rfl ?_
    refine own_icmpN X53 hx hby at_212 (pc' := 215) rfl (teq (by decide)).2 ?_
    refine own_aload X53 hx hby at_215 (pc' := 217) rfl rfl rfl ?_
    refine own_iconst X53 hx hby at_217 (pc' := 218) rfl (z := 0) rfl ?_
    refine own_daD X53 hx hby hZ e53 V_oq ⟨by decide, by decide⟩ (v := (own_Y1 VV ci lj)) rfl at_218 (pc' := 219) rfl ?_
    refine own_dload X53 hx hby at_219 (pc' := 221) rfl rfl ?_
    obtain ⟨dv57, hd57, hk57⟩ := own_self HF.2.noNaN
    refine own_dcmp X53 hx hby at_221 (pc' := 222) rfl (v := dv57) hd57 ?_
    refine own_ifN X53 hx hby at_222 (pc' := 225) rfl (teq hk57).2 ?_
    refine own_iconst X53 hx hby at_225 (pc' := 226) rfl (z := 1) rfl ?_
    refine own_goto X53 hx hby at_226 (by decide) (pc' := 230) (by decide) ?_
    refine own_istore X53 hx hby at_230 (pc' := 232) rfl (Ls' := #[.val (.int p1), .val (.int p2), .val (.int p3), .val (.double dc), .second, .val (.double dl), .second, .val (.double dv), .second, .val (.ref b1), .val (.ref og1), .val (.int (1 : Int32)), .val (.ref b11), .val (.ref og3), .val (.int (1 : Int32)), .val (.ref b26), .val (.ref op), .val (.int (1 : Int32)), .val (.int (1 : Int32)), .val (.ref oq), .val (.double (own_Y1 VV ci lj)), .second, .val (.int (1 : Int32))]) rfl ?_
    refine own_iload X53 hx hby at_232 (pc' := 234) rfl rfl ?_
    refine own_ifN X53 hx hby at_234 (pc' := 237) rfl (feq (by decide)).1 ?_
    refine own_iload X53 hx hby at_237 (pc' := 239) rfl rfl ?_
    refine own_ifN X53 hx hby at_239 (pc' := 242) rfl (feq (by decide)).1 ?_
    refine own_iload X53 hx hby at_242 (pc' := 244) rfl rfl ?_
    refine own_ifN X53 hx hby at_244 (pc' := 247) rfl (feq (by decide)).1 ?_
    refine own_iload X53 hx hby at_247 (pc' := 249) rfl rfl ?_
    refine own_ifN X53 hx hby at_249 (pc' := 252) rfl (feq (by decide)).1 ?_
    refine own_iconst X53 hx hby at_252 (pc' := 253) rfl (z := 1) rfl ?_
    refine own_goto X53 hx hby at_253 (by decide) (pc' := 257) (by decide) ?_
    exact own_retN X53 hx hby hlk hrt (by simp) at_257 (z' := (1 : Int32)) rfl ⟨rfl, N53⟩ (by decide) (by decide)
  · have hch := own_all0 ⟨ci, hci⟩ ⟨lj, hlj⟩
    rw [show decide ((⟨ci, hci⟩ : Fin 64).val < (⟨lj, hlj⟩ : Fin 128).val) = false from decide_eq_false hlt] at hch
    obtain ⟨LV0, LV1, DV0, DV1, HL, HD, hr⟩ := own_chk_s hch
    rw [← eci] at HL HD
    rw [← elj] at HD
    have HR := own_ratio0 hr
    have HY := own_duals0 hVV hlj
    rw [← elj, ← eVV] at HY
    have HF := HY.fin
    refine own_virtM X49 hx hby hml hZ hown (ow_68 hw) (ow_69 hw) (notFace_of_selects (args := #[]) (mvT hZ (ow_71 hw))) (ow_71 hw) (ow_70 hw) (ow_3 hw) (ow_72 hw) (by decide) (cc := 20) (ss := 39) (rm_add0 l Z a0 hw b26 rh ba va so r0 r1 du b46 dc dl dv LV0 LV1 DV0 DV1 dv (0 : UInt64) h49 n0 (Nat.le_trans Z0 Ea50.1) HL HD HR HY n0_b26 n0_ba n0_va n0_so ne_a1_rh ne_a1_ba ne_a1_va ne_a1_so ne_a1_r0 ne_a1_r1 ne_a1_du ne_rh_ba ne_rh_va ne_rh_so ne_rh_r0 ne_rh_r1 ne_rh_du ne_ba_va ne_ba_so ne_ba_r0 ne_ba_r1 ne_ba_du ne_va_so ne_va_r0 ne_va_r1 ne_va_du ne_so_r0 ne_so_r1 ne_so_du ne_r0_r1 ne_r0_du ne_r1_du ne_b26_b46 ne_rh_b46 ne_ba_b46 ne_va_b46 ne_so_b46 ne_r0_b46 ne_r1_b46 ne_du_b46 A1 F_size F_rightHandSide F_basis F_values F_slackOf F_duals V_rh V_ba V_va V_so V_r0 V_r1 V_du V_b46) 0 rfl rfl (by decide) (by decide) rfl A1 (argsL := [(.double dv), (.ref b46)]) (rest := []) opd_8 rfl rfl (Nat.le_refl _) at_170 (pc' := 173) rfl rfl e49 (by decide) (by decide) ?_
    rintro v58 T58 h58 L58 X58 e58 ⟨rfl, Nq58, Kq58, od, A1, F_size, F_duals, V_od⟩
    have N58 := N49.app Nq58
    have Ea59 := own_xk Ea50 Kq58 (allS le27 (allS le36 (allS le37 (allS le38 all0))))
    refine own_istore X58 hx hby at_173 (pc' := 175) rfl (Ls' := #[.val (.int p1), .val (.int p2), .val (.int p3), .val (.double dc), .second, .val (.double dl), .second, .val (.double dv), .second, .val (.ref b1), .val (.ref og1), .val (.int (1 : Int32)), .val (.ref b11), .val (.ref og3), .val (.int (1 : Int32)), .val (.ref b26), .val (.ref op), .val (.int (1 : Int32)), .val (.int (1 : Int32)), .unset, .unset, .unset, .unset]) rfl ?_
    refine own_aload X58 hx hby at_175 (pc' := 177) rfl rfl rfl ?_
    refine own_virtM X58 hx hby hml hZ hown (ow_55 hw) (ow_56 hw) (notFace_of_selects (args := #[]) (mvT hZ (ow_58 hw))) (ow_58 hw) (ow_57 hw) (ow_3 hw) (ow_59 hw) (by decide) (cc := 1) (ss := 1) (rm_prices2 l Z a0 hw b26 od dv (0 : UInt64) (0 : UInt64) h58 n0 (Nat.le_trans Z0 Ea59.1) HF.2.noNaN okl_15 F_size F_duals V_od) 0 rfl rfl (by decide) (by decide) rfl A1 (argsL := []) (rest := []) opd_2 rfl rfl (Nat.le_refl _) at_177 (pc' := 180) rfl rfl e58 (by decide) (by decide) ?_
    rintro v60 T60 h60 L60 X60 e60 ⟨oq, rfl, lb60, Eq60, Nq60, V_oq⟩
    have ne_b26_oq : b26 ≠ oq := Nat.ne_of_lt (Nat.lt_of_lt_of_le A1.lt lb60)
    have ne_od_oq : od ≠ oq := Nat.ne_of_lt (Nat.lt_of_lt_of_le V_od.lt lb60)
    have n0_oq : n0 ≤ oq := Nat.le_trans (Nat.le_trans Z0 Ea59.1) lb60
    have le61 : h0.size ≤ oq := Nat.le_trans Ea59.1 lb60
    have N60 := N58.app Nq60
    have Ea62 := own_xt Ea59 Eq60
    replace A1 := A1.ext Eq60
    replace F_size := F_size.ext Eq60
    replace F_duals := F_duals.ext Eq60
    replace V_od := V_od.ext Eq60
    refine own_astore X60 hx hby at_180 (pc' := 182) rfl rfl (Ls' := #[.val (.int p1), .val (.int p2), .val (.int p3), .val (.double dc), .second, .val (.double dl), .second, .val (.double dv), .second, .val (.ref b1), .val (.ref og1), .val (.int (1 : Int32)), .val (.ref b11), .val (.ref og3), .val (.int (1 : Int32)), .val (.ref b26), .val (.ref op), .val (.int (1 : Int32)), .val (.int (1 : Int32)), .val (.ref oq), .unset, .unset, .unset]) rfl ?_
    refine own_dconst0 X60 hx hby at_182 (pc' := 183) rfl (v := (0 : UInt64)) rfl ?_
    refine own_dstore X60 hx hby at_183 (pc' := 185) rfl (Ls' := #[.val (.int p1), .val (.int p2), .val (.int p3), .val (.double dc), .second, .val (.double dl), .second, .val (.double dv), .second, .val (.ref b1), .val (.ref og1), .val (.int (1 : Int32)), .val (.ref b11), .val (.ref og3), .val (.int (1 : Int32)), .val (.ref b26), .val (.ref op), .val (.int (1 : Int32)), .val (.int (1 : Int32)), .val (.ref oq), .val (.double (0 : UInt64)), .second, .unset]) rfl ?_
    refine own_dload X60 hx hby at_185 (pc' := 187) rfl rfl ?_
    refine own_dloadN X60 hx hby at_187 (pc' := 188) rfl rfl ?_
    obtain ⟨dv63, hd63, hk63⟩ := own_lgt0 eci elj hci hlj hlt
    refine own_dcmp X60 hx hby at_188 (pc' := 189) rfl (v := dv63) hd63 ?_
    refine own_ifY X60 hx hby at_189 (by decide) (pc' := 203) (by decide) (flt hk63).2.2.2 ?_
    refine own_iload X60 hx hby at_203 (pc' := 205) rfl rfl ?_
    refine own_ifN X60 hx hby at_205 (pc' := 208) rfl (feq (by decide)).1 ?_
    refine own_aload X60 hx hby at_208 (pc' := 210) rfl rfl rfl ?_
    refine own_alD X60 hx hby hZ e60 V_oq at_210 (pc' := 211) rfl ?_
    refine own_iconst X60 hx hby at_211 (pc' := 212) rfl (z := 1) rfl ?_
    refine own_icmpN X60 hx hby at_212 (pc' := 215) rfl (teq (by decide)).2 ?_
    refine own_aload X60 hx hby at_215 (pc' := 217) rfl rfl rfl ?_
    refine own_iconst X60 hx hby at_217 (pc' := 218) rfl (z := 0) rfl ?_
    refine own_daD X60 hx hby hZ e60 V_oq ⟨by decide, by decide⟩ (v := (0 : UInt64)) rfl at_218 (pc' := 219) rfl ?_
    refine own_dload X60 hx hby at_219 (pc' := 221) rfl rfl ?_
    refine own_dcmp X60 hx hby at_221 (pc' := 222) rfl (v := (0 : Int32)) okl_16 ?_
    refine own_ifN X60 hx hby at_222 (pc' := 225) rfl (teq (by decide)).2 ?_
    refine own_iconst X60 hx hby at_225 (pc' := 226) rfl (z := 1) rfl ?_
    refine own_goto X60 hx hby at_226 (by decide) (pc' := 230) (by decide) ?_
    refine own_istore X60 hx hby at_230 (pc' := 232) rfl (Ls' := #[.val (.int p1), .val (.int p2), .val (.int p3), .val (.double dc), .second, .val (.double dl), .second, .val (.double dv), .second, .val (.ref b1), .val (.ref og1), .val (.int (1 : Int32)), .val (.ref b11), .val (.ref og3), .val (.int (1 : Int32)), .val (.ref b26), .val (.ref op), .val (.int (1 : Int32)), .val (.int (1 : Int32)), .val (.ref oq), .val (.double (0 : UInt64)), .second, .val (.int (1 : Int32))]) rfl ?_
    refine own_iload X60 hx hby at_232 (pc' := 234) rfl rfl ?_
    refine own_ifN X60 hx hby at_234 (pc' := 237) rfl (feq (by decide)).1 ?_
    refine own_iload X60 hx hby at_237 (pc' := 239) rfl rfl ?_
    refine own_ifN X60 hx hby at_239 (pc' := 242) rfl (feq (by decide)).1 ?_
    refine own_iload X60 hx hby at_242 (pc' := 244) rfl rfl ?_
    refine own_ifN X60 hx hby at_244 (pc' := 247) rfl (feq (by decide)).1 ?_
    refine own_iload X60 hx hby at_247 (pc' := 249) rfl rfl ?_
    refine own_ifN X60 hx hby at_249 (pc' := 252) rfl (feq (by decide)).1 ?_
    refine own_iconst X60 hx hby at_252 (pc' := 253) rfl (z := 1) rfl ?_
    refine own_goto X60 hx hby at_253 (by decide) (pc' := 257) (by decide) ?_
    exact own_retN X60 hx hby hlk hrt (by simp) at_257 (z' := (1 : Int32)) rfl ⟨rfl, N60⟩ (by decide) (by decide)
set_option maxRecDepth 65536 in
set_option maxHeartbeats 40000000 in
theorem comes_1 {Post : Tables → Env → Array Value → State → Outcome → State → Prop} (hpost : ∀ tb e args s v u, (limb_1_1.after args s (.returned v) u = true ∧ limb_1_2.after args s (.returned v) u = true ∧ True) → FrameEnd s (.returned v) u (Jvm.fieldLocs frame_1_writes args s ++ Jvm.arrayLocs frame_1_arrays args s ++ Jvm.staticLocs frame_1_statics s) 136 384 → Post tb e args s (.returned v) u) :
    ArmFor flags0 classFile x code maxLocals ret World_1 tables_1 room_1 Calls_1 rest_1 Pre_1 Post := by
  intro l hfl _ _ p e ha hc hk s m args below hf hA hF happ hP
  obtain ⟨hcalls, hrest, hpre⟩ := hP
  obtain ⟨-, -, -, hnamed, -, -, -, hat⟩ := (Spec.applies_iff hf).mp happ
  obtain ⟨hg, hn⟩ := and_e (Cond.before_iff.mp (show (Jvm.Cond.and given_1 narrow_1).before args s = true from hpre))
  obtain ⟨g1, g2⟩ := and_e hg
  obtain ⟨g3, g4⟩ := and_e g2
  obtain ⟨g5, g6⟩ := and_e g4
  obtain ⟨w0, w1, w2, rfl⟩ : ∃ w0 w1 w2 : Value, args = #[w0, w1, w2] := by
    have hs : args.size = 3 := by simpa [Cond.value, given_1] using g1
    obtain ⟨L⟩ := args
    match L, hs with
    | [w0, w1, w2], _ => exact ⟨w0, w1, w2, rfl⟩
  have hw := fun d (hd : d ∈ tables_1) => atoms_spec (ws := Jvm.Cond.code x code maxLocals ret :: tables_1) hat d (List.mem_cons_of_mem _ hd)
  have hfit : Fit s := fun {y c} hc i hi => by
    obtain ⟨ha, rfl⟩ := Array.getElem?_eq_some_iff.mp hc
    have q := List.all_eq_true.mp ((Array.all_eq_true_iff_forall_mem.mp hF) _ (Array.getElem_mem ha)) i (List.mem_range.mpr hi)
    simpa [Array.getElem?_eq_getElem hi] using q
  obtain ⟨i0, ei0⟩ := is_v g3
  obtain rfl : w0 = (.int i0) := Option.some.inj ei0
  obtain ⟨i1, ei1⟩ := is_v g5
  obtain rfl : w1 = (.int i1) := Option.some.inj ei1
  obtain ⟨i2, ei2⟩ := is_v g6
  obtain rfl : w2 = (.int i2) := Option.some.inj ei2
  obtain ⟨n, o, h1, h2, h3, _, L, rfl, ⟨rfl, N⟩, hq⟩ := rm_law l s _ hw i0 i1 i2  s.heap s.heap.size (Nat.le_refl _)  tables_1 p e ha hc hk s m _ below hf ((Spec.applies_iff_loose hf).mp happ).1 ⟨rfl, State.Warmed39.refl s, rfl⟩ trivial
  refine ⟨n, _, h1, h2, h3, hpost _ _ _ _ _ _ ⟨Cond.after_iff.mpr rfl, Cond.after_iff.mpr (eq_i res_at (Term.int_eval (1)) rfl), trivial⟩ ⟨hq.1, hq.2.1, (hq.2.2.sift fun y hy => Or.inr (N y hy)).mono (by decide) (by decide)⟩⟩
theorem main_1_1 : Claimed_1_1 := comes_1 fun _ _ _ _ _ _ h hF => ⟨h.1, hF⟩
theorem main_1_2 : Claimed_1_2 := comes_1 fun _ _ _ _ _ _ h hF => ⟨h.2.1, hF⟩
end Jvm.Pilot.@@N@@
namespace Jvm.Pilot.@@N@@
open Jvm Jvm.ClassFile Sem Op Lib Jvm.Free Jvm.Stand Jvm.Pilot.@@N@@.Jvm.D
/-! MADE BY PROGRAM (witnessworld.py) out of the Statement's table words and the real class files: 21 classes; the members and pool entries that the words name. The judged class is class 1, her method 1. -/
namespace start1
open Jvm.ClassFile
def u (s : String) : CpInfo := .utf8 (stringToUtf16 s)
/-- a pool by its gaps: so many unusable entries, then the entry; so many at the end -/
def gap : Nat → List CpInfo → List CpInfo
  | 0, r => r
  | n + 1, r => .unusable :: gap n r
def poolList (es : List (Nat × CpInfo)) (last : Nat) : List CpInfo := es.foldr (fun e r => gap e.1 (e.2 :: r)) (gap last [])
def pool (es : List (Nat × CpInfo)) (last : Nat) : Array CpInfo := ⟨poolList es last⟩
def fileOf (pool : Array CpInfo) (this : Nat) (attrs : Array Attribute := #[]) (ms : Array MethodInfo := #[]) (fl : Nat := 33) (sup : Nat := 0) (ifs : Array Nat := #[]) (fds : Array FieldInfo := #[]) : ClassFile where
  minorVersion := 0
  majorVersion := 65
  constantPool := pool
  accessFlags := fl
  thisClass := this
  superClass := sup
  interfaces := ifs
  fields := fds
  methods := ms
  attributes := attrs
def plain (name : String) (sup : Option ClassId) : Class where
  name := name
  kind := .ordinary
  loader := none
  accessFlags := 33
  super := sup
  interfaces := #[]
  cf := none
  fields := #[]
  methods := #[]
  instanceTypes := #[]
  staticTypes := #[]
  resolved := #[]
  callSites := []
  init := .initialized
  statics := none
  mirror := none

def pool0 : Array CpInfo := pool [(5, u "<init>"), (0, u "()V"), (1, .class_ 10), (1, u "java/lang/Object"), (85, u "clone"), (0, u "()Ljava/lang/Object;")] 26

def k0c0 : Code := { maxStack := 0, maxLocals := 1, code := object_method_1_code, exceptionTable := #[], attributes := #[] }
def k0m0 : Method := { name := "<init>", desc := "()V", sig := { parameters := [], returnType := none }, accessFlags := 1, code := some k0c0 }
def k0m1 : Method := { name := "clone", desc := "()Ljava/lang/Object;", sig := { parameters := [], returnType := some (.object "java/lang/Object") }, accessFlags := 260, code := none }
/-- java/lang/Object -/
def k0 : Class := { plain "java/lang/Object" none with
  accessFlags := 33
  interfaces := #[]
  cf := some (fileOf pool0 8 #[] #[{ accessFlags := 1, nameIndex := 5, descriptorIndex := 6, attributes := #[] }, { accessFlags := 260, nameIndex := 96, descriptorIndex := 97, attributes := #[] }] 33 0 #[] #[])
  fields := #[]
  methods := #[k0m0, k0m1]
  instanceTypes := #[]
  staticTypes := #[]
  resolved := Array.replicate 124 none
  statics := none }

def pool1 : Array CpInfo := pool [(2, .class_ 4), (1, u "java/lang/Object"), (0, u "<init>"), (0, u "()V"), (0, .integer 2147483647), (0, .class_ 9), (0, u "com/example/bindery/bindery/selection/BindingMix"), (0, .methodref 8 11), (0, .nameAndType 5 12), (0, u "([D)V"), (0, .methodref 8 14), (0, .nameAndType 15 16), (0, u "prices"), (0, u "()[D"), (0, .methodref 8 18), (0, .nameAndType 19 20), (0, u "add"), (0, u "(D[D)Z"), (0, .class_ 22), (0, u "com/example/bindery/bindery/selection/BindingMixPricesPinLaw"), (2, u "law"), (0, u "(III)Z")] 5

def k1m0 : Method := { name := "<init>", desc := "()V", sig := { parameters := [], returnType := none }, accessFlags := 1, code := none }
def k1c1 : Code := { maxStack := 8, maxLocals := 23, code := code, exceptionTable := #[], attributes := #[] }
def k1m1 : Method := { name := "law", desc := "(III)Z", sig := { parameters := [.int, .int, .int], returnType := some .boolean }, accessFlags := 9, code := some k1c1 }
/-- com/example/bindery/bindery/selection/BindingMixPricesPinLaw -/
def k1 : Class := { plain "com/example/bindery/bindery/selection/BindingMixPricesPinLaw" (some 0) with
  accessFlags := 49
  interfaces := #[]
  cf := some (fileOf pool1 21 #[] #[{ accessFlags := 1, nameIndex := 5, descriptorIndex := 6, attributes := #[] }, { accessFlags := 9, nameIndex := 25, descriptorIndex := 26, attributes := #[] }] 49 2 #[] #[])
  fields := #[]
  methods := #[k1m0, k1m1]
  instanceTypes := #[]
  staticTypes := #[]
  resolved := Array.replicate 32 none
  statics := none }

def pool2 : Array CpInfo := pool [(1, .methodref 2 3), (0, .class_ 4), (0, .nameAndType 5 6), (0, u "java/lang/Object"), (0, u "<init>"), (0, u "()V"), (0, .fieldref 8 9), (0, .class_ 10), (0, .nameAndType 11 12), (0, u "com/example/bindery/bindery/selection/BindingMix"), (0, u "size"), (0, u "I"), (0, .fieldref 8 14), (0, .nameAndType 15 16), (0, u "rightHandSide"), (0, u "[D"), (0, .methodref 18 19), (0, .class_ 20), (0, .nameAndType 21 22), (0, u "java/lang/System"), (0, u "arraycopy"), (0, u "(Ljava/lang/Object;ILjava/lang/Object;II)V"), (0, .class_ 16), (0, .fieldref 8 25), (0, .nameAndType 26 27), (0, u "basis"), (0, u "[[D"), (0, .fieldref 8 29), (0, .nameAndType 30 16), (0, u "values"), (0, .fieldref 8 32), (0, .nameAndType 33 34), (0, u "slackOf"), (0, u "[I"), (0, .methodref 23 36), (0, .nameAndType 37 38), (0, u "clone"), (0, u "()Ljava/lang/Object;"), (0, .double 13830554455654793216), (1, .methodref 8 42), (0, .nameAndType 43 44), (0, u "slack"), (0, u "(I)[D"), (0, .methodref 8 46), (0, .nameAndType 47 48), (0, u "duals"), (0, u "()[D"), (0, .fieldref 8 50), (0, .nameAndType 47 16), (0, .methodref 52 53), (0, .class_ 54), (0, .nameAndType 55 56), (0, u "java/lang/Math"), (0, u "max"), (0, u "(DD)D"), (0, .methodref 8 58), (0, .nameAndType 59 60), (0, u "enter"), (0, u "([DDI)Z"), (0, .methodref 8 62), (0, .nameAndType 63 64), (0, u "slackToEnter"), (0, u "()I"), (0, .double 13650858631089744401), (1, .methodref 8 68), (0, .nameAndType 69 70), (0, u "basisMatrix"), (0, u "()[[D"), (0, .methodref 8 72), (0, .nameAndType 73 74), (0, u "solve"), (0, u "([[D[D)[D"), (0, .class_ 76), (0, u "java/lang/Double"), (0, .double 9218868437227405312), (1, .double 4427486594234968593), (1, .class_ 27), (0, .methodref 52 83), (0, .nameAndType 84 85), (0, u "abs"), (0, u "(D)D"), (0, .methodref 75 87), (0, .nameAndType 88 89), (0, u "isFinite"), (0, u "(D)Z"), (0, u "STAND_IN_VALUE"), (0, u "D"), (1, u "TOLERANCE"), (0, u "([D)V"), (3, u "prices"), (2, u "add"), (0, u "(D[D)Z")] 5

def k2c0 : Code := { maxStack := 5, maxLocals := 3, code := prog_37_method_1_code, exceptionTable := #[], attributes := #[] }
def k2m0 : Method := { name := "<init>", desc := "([D)V", sig := { parameters := [(.array .double)], returnType := none }, accessFlags := 0, code := some k2c0 }
def k2c1 : Code := { maxStack := 7, maxLocals := 3, code := prog_37_method_2_code, exceptionTable := #[], attributes := #[] }
def k2m1 : Method := { name := "prices", desc := "()[D", sig := { parameters := [], returnType := some (.array .double) }, accessFlags := 0, code := some k2c1 }
def k2c2 : Code := { maxStack := 5, maxLocals := 7, code := prog_37_method_4_code, exceptionTable := #[], attributes := #[] }
def k2m2 : Method := { name := "add", desc := "(D[D)Z", sig := { parameters := [.double, (.array .double)], returnType := some .boolean }, accessFlags := 0, code := some k2c2 }
def k2c3 : Code := { maxStack := 4, maxLocals := 6, code := prog_37_method_5_code, exceptionTable := #[], attributes := #[] }
def k2m3 : Method := { name := "slackToEnter", desc := "()I", sig := { parameters := [], returnType := some .int }, accessFlags := 2, code := some k2c3 }
def k2c4 : Code := { maxStack := 4, maxLocals := 16, code := prog_37_method_6_code, exceptionTable := #[], attributes := #[] }
def k2m4 : Method := { name := "enter", desc := "([DDI)Z", sig := { parameters := [(.array .double), .double, .int], returnType := some .boolean }, accessFlags := 2, code := some k2c4 }
def k2c5 : Code := { maxStack := 4, maxLocals := 3, code := prog_37_method_7_code, exceptionTable := #[], attributes := #[] }
def k2m5 : Method := { name := "slack", desc := "(I)[D", sig := { parameters := [.int], returnType := some (.array .double) }, accessFlags := 2, code := some k2c5 }
def k2c6 : Code := { maxStack := 4, maxLocals := 4, code := prog_37_method_8_code, exceptionTable := #[], attributes := #[] }
def k2m6 : Method := { name := "basisMatrix", desc := "()[[D", sig := { parameters := [], returnType := some (.array (.array .double)) }, accessFlags := 2, code := some k2c6 }
def k2c7 : Code := { maxStack := 2, maxLocals := 1, code := prog_37_method_9_code, exceptionTable := #[], attributes := #[] }
def k2m7 : Method := { name := "duals", desc := "()[D", sig := { parameters := [], returnType := some (.array .double) }, accessFlags := 2, code := some k2c7 }
def k2c8 : Code := { maxStack := 8, maxLocals := 14, code := prog_37_method_10_code, exceptionTable := #[], attributes := #[] }
def k2m8 : Method := { name := "solve", desc := "([[D[D)[D", sig := { parameters := [(.array (.array .double)), (.array .double)], returnType := some (.array .double) }, accessFlags := 10, code := some k2c8 }
/-- com/example/bindery/bindery/selection/BindingMix -/
def k2 : Class := { plain "com/example/bindery/bindery/selection/BindingMix" (some 0) with
  accessFlags := 48
  interfaces := #[]
  cf := some (fileOf pool2 8 #[] #[{ accessFlags := 0, nameIndex := 5, descriptorIndex := 94, attributes := #[] }, { accessFlags := 0, nameIndex := 98, descriptorIndex := 48, attributes := #[] }, { accessFlags := 0, nameIndex := 101, descriptorIndex := 102, attributes := #[] }, { accessFlags := 2, nameIndex := 63, descriptorIndex := 64, attributes := #[] }, { accessFlags := 2, nameIndex := 59, descriptorIndex := 60, attributes := #[] }, { accessFlags := 2, nameIndex := 43, descriptorIndex := 44, attributes := #[] }, { accessFlags := 2, nameIndex := 69, descriptorIndex := 70, attributes := #[] }, { accessFlags := 2, nameIndex := 47, descriptorIndex := 48, attributes := #[] }, { accessFlags := 10, nameIndex := 73, descriptorIndex := 74, attributes := #[] }] 48 2 #[] #[{ accessFlags := 26, nameIndex := 90, descriptorIndex := 91, attributes := #[] }, { accessFlags := 26, nameIndex := 93, descriptorIndex := 91, attributes := #[] }, { accessFlags := 18, nameIndex := 11, descriptorIndex := 12, attributes := #[] }, { accessFlags := 18, nameIndex := 15, descriptorIndex := 16, attributes := #[] }, { accessFlags := 18, nameIndex := 26, descriptorIndex := 27, attributes := #[] }, { accessFlags := 18, nameIndex := 30, descriptorIndex := 16, attributes := #[] }, { accessFlags := 18, nameIndex := 33, descriptorIndex := 34, attributes := #[] }, { accessFlags := 2, nameIndex := 47, descriptorIndex := 16, attributes := #[] }])
  fields := #[{ name := "STAND_IN_VALUE", type := .double, accessFlags := 26, slot := 0, constantValue := 0 }, { name := "TOLERANCE", type := .double, accessFlags := 26, slot := 1, constantValue := 0 }, { name := "size", type := .int, accessFlags := 18, slot := 0, constantValue := 0 }, { name := "rightHandSide", type := (.array .double), accessFlags := 18, slot := 1, constantValue := 0 }, { name := "basis", type := (.array (.array .double)), accessFlags := 18, slot := 2, constantValue := 0 }, { name := "values", type := (.array .double), accessFlags := 18, slot := 3, constantValue := 0 }, { name := "slackOf", type := (.array .int), accessFlags := 18, slot := 4, constantValue := 0 }, { name := "duals", type := (.array .double), accessFlags := 2, slot := 5, constantValue := 0 }]
  methods := #[k2m0, k2m1, k2m2, k2m3, k2m4, k2m5, k2m6, k2m7, k2m8]
  instanceTypes := #[.int, (.array .double), (.array (.array .double)), (.array .double), (.array .int), (.array .double)]
  staticTypes := #[.double, .double]
  resolved := Array.replicate 108 none
  statics := none }

def pool3 : Array CpInfo := pool [(2, .class_ 4), (1, u "java/lang/Object"), (0, u "<init>"), (0, u "()V"), (1, .class_ 10), (1, u "java/lang/System"), (0, u "allowSecurityManager"), (0, u "I"), (16, u "cons"), (0, u "Ljava/io/Console;"), (77, .class_ 110), (1, u "java/lang/System$CallersHolder"), (43, u "initialErrStream"), (0, u "Ljava/io/PrintStream;"), (19, u "security"), (0, u "Ljava/lang/SecurityManager;"), (31, .class_ 209), (0, u "java/lang/System$1"), (7, u "props"), (0, u "Ljava/util/Properties;"), (2, u "lineSeparator"), (0, u "Ljava/lang/String;"), (96, .class_ 321), (1, u "java/lang/System$LoggerFinder"), (5, .class_ 328), (0, u "java/lang/System$Logger"), (67, u "err"), (2, u "out"), (91, u "notSupportedJnuEncoding"), (15, u "in"), (17, u "initialIn"), (0, u "Ljava/io/InputStream;"), (35, u "bootLayer"), (0, u "Ljava/lang/ModuleLayer;"), (99, .class_ 664), (0, u "java/lang/System$2"), (9, u "NEVER"), (2, u "MAYBE"), (49, u "arraycopy"), (0, u "(Ljava/lang/Object;ILjava/lang/Object;II)V"), (72, .class_ 802), (0, u "java/lang/System$Logger$Level")] 31

def k3m0 : Method := { name := "<init>", desc := "()V", sig := { parameters := [], returnType := none }, accessFlags := 2, code := none }
def k3m1 : Method := { name := "arraycopy", desc := "(Ljava/lang/Object;ILjava/lang/Object;II)V", sig := { parameters := [(.object "java/lang/Object"), .int, (.object "java/lang/Object"), .int, .int], returnType := none }, accessFlags := 265, code := none }
/-- java/lang/System -/
def k3 : Class := { plain "java/lang/System" (some 0) with
  accessFlags := 49
  interfaces := #[]
  cf := some (fileOf pool3 8 #[.nestMembers #[319, 327, 801, 108, 663, 208]] #[{ accessFlags := 2, nameIndex := 5, descriptorIndex := 6, attributes := #[] }, { accessFlags := 265, nameIndex := 727, descriptorIndex := 728, attributes := #[] }] 49 2 #[] #[{ accessFlags := 25, nameIndex := 507, descriptorIndex := 526, attributes := #[] }, { accessFlags := 25, nameIndex := 399, descriptorIndex := 155, attributes := #[] }, { accessFlags := 25, nameIndex := 396, descriptorIndex := 155, attributes := #[] }, { accessFlags := 10, nameIndex := 525, descriptorIndex := 526, attributes := #[] }, { accessFlags := 26, nameIndex := 674, descriptorIndex := 12, attributes := #[] }, { accessFlags := 26, nameIndex := 677, descriptorIndex := 12, attributes := #[] }, { accessFlags := 10, nameIndex := 11, descriptorIndex := 12, attributes := #[] }, { accessFlags := 74, nameIndex := 175, descriptorIndex := 176, attributes := #[] }, { accessFlags := 10, nameIndex := 491, descriptorIndex := 222, attributes := #[] }, { accessFlags := 74, nameIndex := 29, descriptorIndex := 30, attributes := #[] }, { accessFlags := 74, nameIndex := 154, descriptorIndex := 155, attributes := #[] }, { accessFlags := 10, nameIndex := 217, descriptorIndex := 218, attributes := #[] }, { accessFlags := 10, nameIndex := 221, descriptorIndex := 222, attributes := #[] }, { accessFlags := 8, nameIndex := 562, descriptorIndex := 563, attributes := #[] }])
  fields := #[{ name := "in", type := (.object "java/io/InputStream"), accessFlags := 25, slot := 0, constantValue := 0 }, { name := "out", type := (.object "java/io/PrintStream"), accessFlags := 25, slot := 1, constantValue := 0 }, { name := "err", type := (.object "java/io/PrintStream"), accessFlags := 25, slot := 2, constantValue := 0 }, { name := "initialIn", type := (.object "java/io/InputStream"), accessFlags := 10, slot := 3, constantValue := 0 }, { name := "NEVER", type := .int, accessFlags := 26, slot := 4, constantValue := 0 }, { name := "MAYBE", type := .int, accessFlags := 26, slot := 5, constantValue := 0 }, { name := "allowSecurityManager", type := .int, accessFlags := 10, slot := 6, constantValue := 0 }, { name := "security", type := (.object "java/lang/SecurityManager"), accessFlags := 74, slot := 7, constantValue := 0 }, { name := "notSupportedJnuEncoding", type := (.object "java/lang/String"), accessFlags := 10, slot := 8, constantValue := 0 }, { name := "cons", type := (.object "java/io/Console"), accessFlags := 74, slot := 9, constantValue := 0 }, { name := "initialErrStream", type := (.object "java/io/PrintStream"), accessFlags := 74, slot := 10, constantValue := 0 }, { name := "props", type := (.object "java/util/Properties"), accessFlags := 10, slot := 11, constantValue := 0 }, { name := "lineSeparator", type := (.object "java/lang/String"), accessFlags := 10, slot := 12, constantValue := 0 }, { name := "bootLayer", type := (.object "java/lang/ModuleLayer"), accessFlags := 8, slot := 13, constantValue := 0 }]
  methods := #[k3m0, k3m1]
  instanceTypes := #[]
  staticTypes := #[(.object "java/io/InputStream"), (.object "java/io/PrintStream"), (.object "java/io/PrintStream"), (.object "java/io/InputStream"), .int, .int, .int, (.object "java/lang/SecurityManager"), (.object "java/lang/String"), (.object "java/io/Console"), (.object "java/io/PrintStream"), (.object "java/util/Properties"), (.object "java/lang/String"), (.object "java/lang/ModuleLayer")]
  resolved := Array.replicate 834 none
  statics := none }

def pool4 : Array CpInfo := pool [(1, .class_ 2), (0, u "java/lang/Cloneable"), (0, .class_ 4), (0, u "java/lang/Object")] 2

/-- java/lang/Cloneable -/
def k4 : Class := { plain "java/lang/Cloneable" (some 0) with
  accessFlags := 1537
  interfaces := #[]
  cf := some (fileOf pool4 1 #[] #[] 1537 3 #[] #[])
  fields := #[]
  methods := #[]
  instanceTypes := #[]
  staticTypes := #[]
  resolved := Array.replicate 7 none
  statics := none }

def pool5 : Array CpInfo := pool [(1, .class_ 2), (0, u "java/io/Serializable"), (0, .class_ 4), (0, u "java/lang/Object")] 2

/-- java/io/Serializable -/
def k5 : Class := { plain "java/io/Serializable" (some 0) with
  accessFlags := 1537
  interfaces := #[]
  cf := some (fileOf pool5 1 #[] #[] 1537 3 #[] #[])
  fields := #[]
  methods := #[]
  instanceTypes := #[]
  staticTypes := #[]
  resolved := Array.replicate 7 none
  statics := none }

def pool6 : Array CpInfo := pool [(2, .class_ 4), (1, u "java/lang/Object"), (0, u "<init>"), (0, u "()V"), (1, .class_ 10), (1, u "java/lang/Number"), (2, .class_ 14), (0, u "java/io/Serializable"), (0, u "serialVersionUID"), (0, u "J")] 20

def k6m0 : Method := { name := "<init>", desc := "()V", sig := { parameters := [], returnType := none }, accessFlags := 1, code := none }
/-- java/lang/Number -/
def k6 : Class := { plain "java/lang/Number" (some 0) with
  accessFlags := 1057
  interfaces := #[5]
  cf := some (fileOf pool6 8 #[] #[{ accessFlags := 1, nameIndex := 5, descriptorIndex := 6, attributes := #[] }] 1057 2 #[13] #[{ accessFlags := 26, nameIndex := 15, descriptorIndex := 16, attributes := #[] }])
  fields := #[{ name := "serialVersionUID", type := .long, accessFlags := 26, slot := 0, constantValue := 0 }]
  methods := #[k6m0]
  instanceTypes := #[]
  staticTypes := #[.long]
  resolved := Array.replicate 37 none
  statics := none }

def pool7 : Array CpInfo := pool [(1, .class_ 2), (0, u "java/lang/Comparable"), (0, .class_ 4), (0, u "java/lang/Object")] 7

/-- java/lang/Comparable -/
def k7 : Class := { plain "java/lang/Comparable" (some 0) with
  accessFlags := 1537
  interfaces := #[]
  cf := some (fileOf pool7 1 #[] #[] 1537 3 #[] #[])
  fields := #[]
  methods := #[]
  instanceTypes := #[]
  staticTypes := #[]
  resolved := Array.replicate 12 none
  statics := none }

def pool8 : Array CpInfo := pool [(1, .class_ 2), (0, u "java/lang/constant/Constable"), (0, .class_ 4), (0, u "java/lang/Object")] 6

/-- java/lang/constant/Constable -/
def k8 : Class := { plain "java/lang/constant/Constable" (some 0) with
  accessFlags := 1537
  interfaces := #[]
  cf := some (fileOf pool8 1 #[] #[] 1537 3 #[] #[])
  fields := #[]
  methods := #[]
  instanceTypes := #[]
  staticTypes := #[]
  resolved := Array.replicate 11 none
  statics := none }

def pool9 : Array CpInfo := pool [(1, .class_ 2), (0, u "java/lang/constant/ConstantDesc"), (0, .class_ 4), (0, u "java/lang/Object")] 32

/-- java/lang/constant/ConstantDesc -/
def k9 : Class := { plain "java/lang/constant/ConstantDesc" (some 0) with
  accessFlags := 1537
  interfaces := #[]
  cf := some (fileOf pool9 1 #[] #[] 1537 3 #[] #[])
  fields := #[]
  methods := #[]
  instanceTypes := #[]
  staticTypes := #[]
  resolved := Array.replicate 37 none
  statics := none }

def pool10 : Array CpInfo := pool [(1, .class_ 2), (0, u "java/lang/Double"), (10, u "isFinite"), (0, u "(D)Z"), (8, .class_ 25), (1, u "java/lang/Math"), (12, .methodref 23 39), (0, .nameAndType 40 41), (0, u "abs"), (0, u "(D)D"), (69, .double 9218868437227405311), (2, .class_ 116), (1, u "java/lang/Number"), (3, u "value"), (0, u "D"), (51, u "TYPE"), (0, u "Ljava/lang/Class;"), (0, .class_ 176), (0, u "java/lang/Comparable"), (0, .class_ 178), (0, u "java/lang/constant/Constable"), (0, .class_ 180), (0, u "java/lang/constant/ConstantDesc"), (0, u "POSITIVE_INFINITY"), (3, u "NEGATIVE_INFINITY"), (2, u "NaN"), (2, u "MAX_VALUE"), (0, u "MIN_NORMAL"), (0, u "MIN_VALUE"), (2, u "SIZE"), (0, u "I"), (1, u "PRECISION"), (1, u "MAX_EXPONENT"), (1, u "MIN_EXPONENT"), (1, u "BYTES"), (3, u "serialVersionUID"), (0, u "J")] 79

def k10c0 : Code := { maxStack := 4, maxLocals := 2, code := jdk_117_method_8_code, exceptionTable := #[], attributes := #[] }
def k10m0 : Method := { name := "isFinite", desc := "(D)Z", sig := { parameters := [.double], returnType := some .boolean }, accessFlags := 9, code := some k10c0 }
/-- java/lang/Double -/
def k10 : Class := { plain "java/lang/Double" (some 6) with
  accessFlags := 49
  interfaces := #[7, 8, 9]
  cf := some (fileOf pool10 1 #[] #[{ accessFlags := 9, nameIndex := 13, descriptorIndex := 14, attributes := #[] }] 49 114 #[175, 177, 179] #[{ accessFlags := 25, nameIndex := 181, descriptorIndex := 121, attributes := #[] }, { accessFlags := 25, nameIndex := 185, descriptorIndex := 121, attributes := #[] }, { accessFlags := 25, nameIndex := 188, descriptorIndex := 121, attributes := #[] }, { accessFlags := 25, nameIndex := 191, descriptorIndex := 121, attributes := #[] }, { accessFlags := 25, nameIndex := 192, descriptorIndex := 121, attributes := #[] }, { accessFlags := 25, nameIndex := 193, descriptorIndex := 121, attributes := #[] }, { accessFlags := 25, nameIndex := 196, descriptorIndex := 197, attributes := #[] }, { accessFlags := 25, nameIndex := 199, descriptorIndex := 197, attributes := #[] }, { accessFlags := 25, nameIndex := 201, descriptorIndex := 197, attributes := #[] }, { accessFlags := 25, nameIndex := 203, descriptorIndex := 197, attributes := #[] }, { accessFlags := 25, nameIndex := 205, descriptorIndex := 197, attributes := #[] }, { accessFlags := 25, nameIndex := 173, descriptorIndex := 174, attributes := #[] }, { accessFlags := 18, nameIndex := 120, descriptorIndex := 121, attributes := #[] }, { accessFlags := 26, nameIndex := 209, descriptorIndex := 210, attributes := #[] }])
  fields := #[{ name := "POSITIVE_INFINITY", type := .double, accessFlags := 25, slot := 0, constantValue := 0 }, { name := "NEGATIVE_INFINITY", type := .double, accessFlags := 25, slot := 1, constantValue := 0 }, { name := "NaN", type := .double, accessFlags := 25, slot := 2, constantValue := 0 }, { name := "MAX_VALUE", type := .double, accessFlags := 25, slot := 3, constantValue := 0 }, { name := "MIN_NORMAL", type := .double, accessFlags := 25, slot := 4, constantValue := 0 }, { name := "MIN_VALUE", type := .double, accessFlags := 25, slot := 5, constantValue := 0 }, { name := "SIZE", type := .int, accessFlags := 25, slot := 6, constantValue := 0 }, { name := "PRECISION", type := .int, accessFlags := 25, slot := 7, constantValue := 0 }, { name := "MAX_EXPONENT", type := .int, accessFlags := 25, slot := 8, constantValue := 0 }, { name := "MIN_EXPONENT", type := .int, accessFlags := 25, slot := 9, constantValue := 0 }, { name := "BYTES", type := .int, accessFlags := 25, slot := 10, constantValue := 0 }, { name := "TYPE", type := (.object "java/lang/Class"), accessFlags := 25, slot := 11, constantValue := 0 }, { name := "value", type := .double, accessFlags := 18, slot := 0, constantValue := 0 }, { name := "serialVersionUID", type := .long, accessFlags := 26, slot := 12, constantValue := 0 }]
  methods := #[k10m0]
  instanceTypes := #[.double]
  staticTypes := #[.double, .double, .double, .double, .double, .double, .int, .int, .int, .int, .int, (.object "java/lang/Class"), .long]
  resolved := Array.replicate 290 none
  statics := none }

def pool11 : Array CpInfo := pool [(1, .class_ 2), (0, u "java/lang/Math"), (1, .class_ 6), (1, u "java/lang/Object"), (0, u "<init>"), (0, u "()V"), (5, u "(D)D"), (37, u "(DD)D"), (45, .class_ 100), (1, u "java/lang/Math$RandomNumberGeneratorHolder"), (23, u "abs"), (47, u "negativeZeroFloatBits"), (0, u "J"), (2, u "negativeZeroDoubleBits"), (21, u "max"), (46, u "$assertionsDisabled"), (0, u "Z"), (91, u "twoToTheDoubleScaleDown"), (0, u "D"), (4, u "twoToTheDoubleScaleUp"), (9, u "E"), (3, u "PI"), (2, u "TAU"), (2, u "DEGREES_TO_RADIANS"), (0, u "RADIANS_TO_DEGREES")] 94

def k11m0 : Method := { name := "<init>", desc := "()V", sig := { parameters := [], returnType := none }, accessFlags := 2, code := none }
def k11c1 : Code := { maxStack := 4, maxLocals := 2, code := jdk_29_method_64_code, exceptionTable := #[], attributes := #[] }
def k11m1 : Method := { name := "abs", desc := "(D)D", sig := { parameters := [.double], returnType := some .double }, accessFlags := 9, code := some k11c1 }
def k11c2 : Code := { maxStack := 4, maxLocals := 4, code := jdk_29_method_68_code, exceptionTable := #[], attributes := #[] }
def k11m2 : Method := { name := "max", desc := "(DD)D", sig := { parameters := [.double, .double], returnType := some .double }, accessFlags := 9, code := some k11c2 }
/-- java/lang/Math -/
def k11 : Class := { plain "java/lang/Math" (some 0) with
  accessFlags := 49
  interfaces := #[]
  cf := some (fileOf pool11 1 #[.nestMembers #[98]] #[{ accessFlags := 2, nameIndex := 7, descriptorIndex := 8, attributes := #[] }, { accessFlags := 9, nameIndex := 124, descriptorIndex := 14, attributes := #[] }, { accessFlags := 9, nameIndex := 198, descriptorIndex := 52, attributes := #[] }] 49 4 #[] #[{ accessFlags := 25, nameIndex := 354, descriptorIndex := 339, attributes := #[] }, { accessFlags := 25, nameIndex := 358, descriptorIndex := 339, attributes := #[] }, { accessFlags := 25, nameIndex := 361, descriptorIndex := 339, attributes := #[] }, { accessFlags := 26, nameIndex := 364, descriptorIndex := 339, attributes := #[] }, { accessFlags := 26, nameIndex := 365, descriptorIndex := 339, attributes := #[] }, { accessFlags := 26, nameIndex := 172, descriptorIndex := 173, attributes := #[] }, { accessFlags := 26, nameIndex := 176, descriptorIndex := 173, attributes := #[] }, { accessFlags := 8, nameIndex := 344, descriptorIndex := 339, attributes := #[] }, { accessFlags := 8, nameIndex := 338, descriptorIndex := 339, attributes := #[] }, { accessFlags := 4120, nameIndex := 245, descriptorIndex := 246, attributes := #[] }])
  fields := #[{ name := "E", type := .double, accessFlags := 25, slot := 0, constantValue := 0 }, { name := "PI", type := .double, accessFlags := 25, slot := 1, constantValue := 0 }, { name := "TAU", type := .double, accessFlags := 25, slot := 2, constantValue := 0 }, { name := "DEGREES_TO_RADIANS", type := .double, accessFlags := 26, slot := 3, constantValue := 0 }, { name := "RADIANS_TO_DEGREES", type := .double, accessFlags := 26, slot := 4, constantValue := 0 }, { name := "negativeZeroFloatBits", type := .long, accessFlags := 26, slot := 5, constantValue := 0 }, { name := "negativeZeroDoubleBits", type := .long, accessFlags := 26, slot := 6, constantValue := 0 }, { name := "twoToTheDoubleScaleUp", type := .double, accessFlags := 8, slot := 7, constantValue := 0 }, { name := "twoToTheDoubleScaleDown", type := .double, accessFlags := 8, slot := 8, constantValue := 0 }, { name := "$assertionsDisabled", type := .boolean, accessFlags := 4120, slot := 9, constantValue := 0 }]
  methods := #[k11m0, k11m1, k11m2]
  instanceTypes := #[]
  staticTypes := #[.double, .double, .double, .double, .double, .long, .long, .double, .double, .boolean]
  resolved := Array.replicate 460 none
  statics := none }

/-- the primitive boolean -/
def k12 : Class := { plain "boolean" none with kind := .primitive 'Z', accessFlags := 0x411 }
/-- [Z -/
def k13 : Class := { plain "[Z" (some 0) with kind := .array 12 .boolean, interfaces := #[4, 5], accessFlags := 1041 }

/-- the primitive byte -/
def k14 : Class := { plain "byte" none with kind := .primitive 'B', accessFlags := 0x411 }
/-- [B -/
def k15 : Class := { plain "[B" (some 0) with kind := .array 14 .byte, interfaces := #[4, 5], accessFlags := 1041 }

/-- the primitive double -/
def k16 : Class := { plain "double" none with kind := .primitive 'D', accessFlags := 0x411 }
/-- [D -/
def k17 : Class := { plain "[D" (some 0) with kind := .array 16 .double, interfaces := #[4, 5], accessFlags := 1041 }

/-- the primitive int -/
def k18 : Class := { plain "int" none with kind := .primitive 'I', accessFlags := 0x411 }
/-- [I -/
def k19 : Class := { plain "[I" (some 0) with kind := .array 18 .int, interfaces := #[4, 5], accessFlags := 1041 }

/-- [[D -/
def k20 : Class := { plain "[[D" (some 0) with kind := .array 17 (.array .double), interfaces := #[4, 5], accessFlags := 1041 }

def heap : Heap := #[]
def classes : Array Class := #[k0, k1, k2, k3, k4, k5, k6, k7, k8, k9, k10, k11, k12, k13, k14, k15, k16, k17, k18, k19, k20]
def interned : List (Array UInt16 × Addr) := []
def slotsUsed : Nat := 0
def theMethod : MethodId := ⟨1, 1⟩
def args0 : Array Value := #[.int 5, .int 9, .int 2]
def aboutOver (below : List Frame) : State where
  vm := { classes := classes, interned := interned.toArray }
  heap := heap
  slotsUsed := slotsUsed
  threads := #[{ frames := .invoking theMethod args0 :: below }]
def below0 : List Frame := [.native { method := ⟨0, 0⟩, args := #[] }]
def about1 : State := aboutOver below0
def p0 : Program := .bare "" "" ""
def e0 : Env := launch0.env 0 0 0
theorem w_frames : about1.frames = Frame.invoking theMethod args0 :: below0 := rfl
set_option maxRecDepth 65536 in
theorem w_args : argsFit about1.vm theMethod args0 = true := by decide +kernel
set_option maxRecDepth 65536 in
theorem w_heap : heapFits about1 = true := by decide +kernel
set_option maxRecDepth 65536 in
theorem w_runnable : about1.curStatus? = some .runnable := by decide +kernel
set_option maxRecDepth 65536 in
theorem w_alone : about1.alone = true := by decide +kernel
set_option maxRecDepth 65536 in
theorem w_named : about1.methodNamed? x = some theMethod := by decide +kernel
set_option maxRecDepth 65536 in
theorem w_hears : about1.hears theMethod below0 = true := by decide +kernel
set_option maxRecDepth 65536 in
theorem w_ripe : about1.ripe theMethod args0 below0 = true := by decide +kernel
theorem w_running : about1.status = .running := rfl
set_option maxRecDepth 65536 in
theorem w_room : about1.hasRoom e0.platform room_1 = true :=
  launch0.hasRoom_least _ room_1 (by decide +kernel) (by decide +kernel) (by decide +kernel) (by decide +kernel) (by decide +kernel) (by decide +kernel)
theorem allAtoms_all (ts : List Jvm.Cond) (a : Array Jvm.Value) (st : Jvm.State) : (allAtoms ts).before a st = ts.all (fun c => c.before a st) := by
  induction ts with
  | nil => rfl
  | cons c t ih =>
    show (Jvm.Cond.and c (allAtoms t)).before a st = _
    rw [Jvm.Cond.before_and, ih, List.all_cons]
def words1 : List Jvm.Cond := Jvm.Cond.code x code maxLocals ret :: tables_1
/-- a 'code' word, met by the world's own term for the bytes: nothing is compared byte by byte -/
theorem code_word {y : MethodName} {bytes : ByteArray} {mx : Nat} {rt : Option FieldType} {a : Array Value} {s : State} {m : MethodId} {meth : Method} {c : Code} (h1 : s.methodNamed? y = some m) (h2 : s.vm.method? m = some meth) (h3 : meth.code = some c) (h4 : c.code = bytes)
    (h5 : (c.maxLocals == mx && c.exceptionTable.isEmpty && decide (c.maxStack ≤ mostOperands) && decide (meth.sig.returnType = rt) && !meth.locks && decide (parseMethodDescriptor y.desc = some meth.sig)) = true) : (Jvm.Cond.code y bytes mx rt).before a s = true := by
  simp only [Bool.and_eq_true, beq_iff_eq, Bool.not_eq_true', decide_eq_true_eq] at h5
  obtain ⟨⟨⟨⟨⟨g1, g2⟩, g3⟩, g4⟩, g5⟩, g6⟩ := h5
  simp [Cond.before, Cond.holds, Cond.value, h1, h2, h3, h4, g1, g2, g3, g4, g5, g6]
def isCode : Jvm.Cond → Bool
  | .code _ _ _ _ => true
  | _ => false
theorem all_split {L : List Jvm.Cond} {P : Jvm.Cond → Bool} (h1 : L.all (fun c => isCode c || P c) = true) (h2 : ∀ c ∈ L.filter isCode, P c = true) : L.all P = true := by
  refine List.all_eq_true.mpr fun c hc => ?_
  have h := List.all_eq_true.mp h1 c hc
  rcases Bool.eq_false_or_eq_true (isCode c) with hi | hi
  · exact h2 c (List.mem_filter.mpr ⟨hc, hi⟩)
  · simpa [hi] using h
set_option maxRecDepth 65536 in
theorem w_c0 : (Jvm.Cond.code x code maxLocals ret).before args0 about1 = true := code_word (m := ⟨1, 1⟩) (meth := k1m1) (c := k1c1) (by decide +kernel) rfl rfl rfl (by decide +kernel)
set_option maxRecDepth 65536 in
theorem w_c1 : (Jvm.Cond.code ({ cls := "com/example/bindery/bindery/selection/BindingMix", name := "<init>", desc := "([D)V" } : Jvm.MethodName) prog_37_method_1_code (3 : Nat) (Option.none : Option Jvm.ClassFile.FieldType)).before args0 about1 = true := code_word (m := ⟨2, 0⟩) (meth := k2m0) (c := k2c0) (by decide +kernel) rfl rfl rfl (by decide +kernel)
set_option maxRecDepth 65536 in
theorem w_c2 : (Jvm.Cond.code ({ cls := "java/lang/Object", name := "<init>", desc := "()V" } : Jvm.MethodName) object_method_1_code (1 : Nat) (Option.none : Option Jvm.ClassFile.FieldType)).before args0 about1 = true := code_word (m := ⟨0, 0⟩) (meth := k0m0) (c := k0c0) (by decide +kernel) rfl rfl rfl (by decide +kernel)
set_option maxRecDepth 65536 in
theorem w_c3 : (Jvm.Cond.code ({ cls := "com/example/bindery/bindery/selection/BindingMix", name := "duals", desc := "()[D" } : Jvm.MethodName) prog_37_method_9_code (1 : Nat) (Option.some (Jvm.ClassFile.FieldType.array Jvm.ClassFile.FieldType.double))).before args0 about1 = true := code_word (m := ⟨2, 7⟩) (meth := k2m7) (c := k2c7) (by decide +kernel) rfl rfl rfl (by decide +kernel)
set_option maxRecDepth 65536 in
theorem w_c4 : (Jvm.Cond.code ({ cls := "com/example/bindery/bindery/selection/BindingMix", name := "solve", desc := "([[D[D)[D" } : Jvm.MethodName) prog_37_method_10_code (14 : Nat) (Option.some (Jvm.ClassFile.FieldType.array Jvm.ClassFile.FieldType.double))).before args0 about1 = true := code_word (m := ⟨2, 8⟩) (meth := k2m8) (c := k2c8) (by decide +kernel) rfl rfl rfl (by decide +kernel)
set_option maxRecDepth 65536 in
theorem w_c5 : (Jvm.Cond.code ({ cls := "java/lang/Double", name := "isFinite", desc := "(D)Z" } : Jvm.MethodName) jdk_117_method_8_code (2 : Nat) (Option.some Jvm.ClassFile.FieldType.boolean)).before args0 about1 = true := code_word (m := ⟨10, 0⟩) (meth := k10m0) (c := k10c0) (by decide +kernel) rfl rfl rfl (by decide +kernel)
set_option maxRecDepth 65536 in
theorem w_c6 : (Jvm.Cond.code ({ cls := "java/lang/Math", name := "abs", desc := "(D)D" } : Jvm.MethodName) jdk_29_method_64_code (2 : Nat) (Option.some Jvm.ClassFile.FieldType.double)).before args0 about1 = true := code_word (m := ⟨11, 1⟩) (meth := k11m1) (c := k11c1) (by decide +kernel) rfl rfl rfl (by decide +kernel)
set_option maxRecDepth 65536 in
theorem w_c7 : (Jvm.Cond.code ({ cls := "com/example/bindery/bindery/selection/BindingMix", name := "prices", desc := "()[D" } : Jvm.MethodName) prog_37_method_2_code (3 : Nat) (Option.some (Jvm.ClassFile.FieldType.array Jvm.ClassFile.FieldType.double))).before args0 about1 = true := code_word (m := ⟨2, 1⟩) (meth := k2m1) (c := k2c1) (by decide +kernel) rfl rfl rfl (by decide +kernel)
set_option maxRecDepth 65536 in
theorem w_c8 : (Jvm.Cond.code ({ cls := "com/example/bindery/bindery/selection/BindingMix", name := "slack", desc := "(I)[D" } : Jvm.MethodName) prog_37_method_7_code (3 : Nat) (Option.some (Jvm.ClassFile.FieldType.array Jvm.ClassFile.FieldType.double))).before args0 about1 = true := code_word (m := ⟨2, 5⟩) (meth := k2m5) (c := k2c5) (by decide +kernel) rfl rfl rfl (by decide +kernel)
set_option maxRecDepth 65536 in
theorem w_c9 : (Jvm.Cond.code ({ cls := "java/lang/Math", name := "max", desc := "(DD)D" } : Jvm.MethodName) jdk_29_method_68_code (4 : Nat) (Option.some Jvm.ClassFile.FieldType.double)).before args0 about1 = true := code_word (m := ⟨11, 2⟩) (meth := k11m2) (c := k11c2) (by decide +kernel) rfl rfl rfl (by decide +kernel)
set_option maxRecDepth 65536 in
theorem w_c10 : (Jvm.Cond.code ({ cls := "com/example/bindery/bindery/selection/BindingMix", name := "add", desc := "(D[D)Z" } : Jvm.MethodName) prog_37_method_4_code (7 : Nat) (Option.some Jvm.ClassFile.FieldType.boolean)).before args0 about1 = true := code_word (m := ⟨2, 2⟩) (meth := k2m2) (c := k2c2) (by decide +kernel) rfl rfl rfl (by decide +kernel)
set_option maxRecDepth 65536 in
theorem w_c11 : (Jvm.Cond.code ({ cls := "com/example/bindery/bindery/selection/BindingMix", name := "enter", desc := "([DDI)Z" } : Jvm.MethodName) prog_37_method_6_code (16 : Nat) (Option.some Jvm.ClassFile.FieldType.boolean)).before args0 about1 = true := code_word (m := ⟨2, 4⟩) (meth := k2m4) (c := k2c4) (by decide +kernel) rfl rfl rfl (by decide +kernel)
set_option maxRecDepth 65536 in
theorem w_c12 : (Jvm.Cond.code ({ cls := "com/example/bindery/bindery/selection/BindingMix", name := "basisMatrix", desc := "()[[D" } : Jvm.MethodName) prog_37_method_8_code (4 : Nat) (Option.some (Jvm.ClassFile.FieldType.array (Jvm.ClassFile.FieldType.array Jvm.ClassFile.FieldType.double)))).before args0 about1 = true := code_word (m := ⟨2, 6⟩) (meth := k2m6) (c := k2c6) (by decide +kernel) rfl rfl rfl (by decide +kernel)
set_option maxRecDepth 65536 in
theorem w_c13 : (Jvm.Cond.code ({ cls := "com/example/bindery/bindery/selection/BindingMix", name := "slackToEnter", desc := "()I" } : Jvm.MethodName) prog_37_method_5_code (6 : Nat) (Option.some Jvm.ClassFile.FieldType.int)).before args0 about1 = true := code_word (m := ⟨2, 3⟩) (meth := k2m3) (c := k2c3) (by decide +kernel) rfl rfl rfl (by decide +kernel)
def codes1 : List Jvm.Cond := [Jvm.Cond.code x code maxLocals ret, Jvm.Cond.code ({ cls := "com/example/bindery/bindery/selection/BindingMix", name := "<init>", desc := "([D)V" } : Jvm.MethodName) prog_37_method_1_code (3 : Nat) (Option.none : Option Jvm.ClassFile.FieldType), Jvm.Cond.code ({ cls := "java/lang/Object", name := "<init>", desc := "()V" } : Jvm.MethodName) object_method_1_code (1 : Nat) (Option.none : Option Jvm.ClassFile.FieldType), Jvm.Cond.code ({ cls := "com/example/bindery/bindery/selection/BindingMix", name := "duals", desc := "()[D" } : Jvm.MethodName) prog_37_method_9_code (1 : Nat) (Option.some (Jvm.ClassFile.FieldType.array Jvm.ClassFile.FieldType.double)), Jvm.Cond.code ({ cls := "com/example/bindery/bindery/selection/BindingMix", name := "solve", desc := "([[D[D)[D" } : Jvm.MethodName) prog_37_method_10_code (14 : Nat) (Option.some (Jvm.ClassFile.FieldType.array Jvm.ClassFile.FieldType.double)), Jvm.Cond.code ({ cls := "java/lang/Double", name := "isFinite", desc := "(D)Z" } : Jvm.MethodName) jdk_117_method_8_code (2 : Nat) (Option.some Jvm.ClassFile.FieldType.boolean), Jvm.Cond.code ({ cls := "java/lang/Math", name := "abs", desc := "(D)D" } : Jvm.MethodName) jdk_29_method_64_code (2 : Nat) (Option.some Jvm.ClassFile.FieldType.double), Jvm.Cond.code ({ cls := "com/example/bindery/bindery/selection/BindingMix", name := "prices", desc := "()[D" } : Jvm.MethodName) prog_37_method_2_code (3 : Nat) (Option.some (Jvm.ClassFile.FieldType.array Jvm.ClassFile.FieldType.double)), Jvm.Cond.code ({ cls := "com/example/bindery/bindery/selection/BindingMix", name := "slack", desc := "(I)[D" } : Jvm.MethodName) prog_37_method_7_code (3 : Nat) (Option.some (Jvm.ClassFile.FieldType.array Jvm.ClassFile.FieldType.double)), Jvm.Cond.code ({ cls := "java/lang/Math", name := "max", desc := "(DD)D" } : Jvm.MethodName) jdk_29_method_68_code (4 : Nat) (Option.some Jvm.ClassFile.FieldType.double), Jvm.Cond.code ({ cls := "com/example/bindery/bindery/selection/BindingMix", name := "add", desc := "(D[D)Z" } : Jvm.MethodName) prog_37_method_4_code (7 : Nat) (Option.some Jvm.ClassFile.FieldType.boolean), Jvm.Cond.code ({ cls := "com/example/bindery/bindery/selection/BindingMix", name := "enter", desc := "([DDI)Z" } : Jvm.MethodName) prog_37_method_6_code (16 : Nat) (Option.some Jvm.ClassFile.FieldType.boolean), Jvm.Cond.code ({ cls := "com/example/bindery/bindery/selection/BindingMix", name := "basisMatrix", desc := "()[[D" } : Jvm.MethodName) prog_37_method_8_code (4 : Nat) (Option.some (Jvm.ClassFile.FieldType.array (Jvm.ClassFile.FieldType.array Jvm.ClassFile.FieldType.double))), Jvm.Cond.code ({ cls := "com/example/bindery/bindery/selection/BindingMix", name := "slackToEnter", desc := "()I" } : Jvm.MethodName) prog_37_method_5_code (6 : Nat) (Option.some Jvm.ClassFile.FieldType.int)]
set_option maxRecDepth 65536 in
theorem codes_eq : words1.filter isCode = codes1 := rfl
theorem w_codes : ∀ c ∈ words1.filter isCode, c.before args0 about1 = true := by
  rw [codes_eq]
  intro c hc
  simp only [codes1, List.mem_cons, List.not_mem_nil, or_false] at hc
  rcases hc with rfl | rfl | rfl | rfl | rfl | rfl | rfl | rfl | rfl | rfl | rfl | rfl | rfl | rfl
  · exact w_c0
  · exact w_c1
  · exact w_c2
  · exact w_c3
  · exact w_c4
  · exact w_c5
  · exact w_c6
  · exact w_c7
  · exact w_c8
  · exact w_c9
  · exact w_c10
  · exact w_c11
  · exact w_c12
  · exact w_c13
set_option maxRecDepth 65536 in
theorem w_t1 : (words1.take 24).all (fun c => isCode c || c.before args0 about1) = true := by decide +kernel
set_option maxRecDepth 65536 in
theorem w_t2 : ((words1.drop 24).take 24).all (fun c => isCode c || c.before args0 about1) = true := by decide +kernel
set_option maxRecDepth 65536 in
theorem w_t3 : (((words1.drop 24).drop 24).take 24).all (fun c => isCode c || c.before args0 about1) = true := by decide +kernel
set_option maxRecDepth 65536 in
theorem w_t4 : (((words1.drop 24).drop 24).drop 24).all (fun c => isCode c || c.before args0 about1) = true := by decide +kernel
theorem w_tables : (allAtoms (Jvm.Cond.code x code maxLocals ret :: tables_1)).before args0 about1 = true := by
  rw [allAtoms_all]
  show words1.all (fun c => c.before args0 about1) = true
  refine all_split ?_ w_codes
  rw [← List.take_append_drop 24 words1, List.all_append, w_t1, ← List.take_append_drop 24 (words1.drop 24), List.all_append, w_t2, ← List.take_append_drop 24 ((words1.drop 24).drop 24), List.all_append, w_t3, w_t4]
  rfl
set_option maxRecDepth 65536 in
theorem w_case : (Jvm.Cond.and given_1 narrow_1).before args0 about1 = true := by decide +kernel
theorem w_applies : (headSpec (Jvm.Cond.code x code maxLocals ret :: tables_1) room_1).applies x e0.platform about1 = true :=
  (Spec.applies_iff w_frames).mpr ⟨w_running, w_runnable, w_alone, w_named, w_hears, w_ripe, w_room, w_tables⟩
theorem atStart : AtStart classFile x code maxLocals ret World_1 tables_1 room_1 Calls_1 rest_1 Pre_1 launch0 p0 e0 about1 theMethod args0 below0 :=
  ⟨lists_1, trivial, launch0.admits_env _ _ _, launch0.least_env, fairChoices_fair.cas, fairChoices_fair.clock, w_frames, w_args, w_heap, w_applies, trivial, trivial, w_case⟩
end start1
theorem witness_1 : WitnessClaimed_1 := ⟨start1.p0, start1.e0, start1.about1, start1.theMethod, start1.args0, start1.below0, start1.atStart⟩
end Jvm.Pilot.@@N@@

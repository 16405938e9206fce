import JvmDerived
import JvmDerived.Pilot.@@N@@Statement
import JvmDerived.Pilot.@@N@@Code
set_option linter.unusedVariables false
set_option linter.unusedSimpArgs false
namespace Jvm.Pilot.@@N@@
open Jvm Jvm.ClassFile Sem Op Lib Jvm.Free Jvm.Stand Jvm.LawKit Jvm.RoadKit Bundle Jvm.Pilot.@@N@@.Jvm.D
section OwnSteps
variable {p : Program} {l : Launch} {e : Env} {R : Room} {s : State} {m : MethodId} {args : Array Value} {below : List Frame} {meth : Method} {c : Code} {T : State} {locs : List Loc} {cells slots : Nat} {G : State → Outcome → Prop} {B : ByteArray} {pc pc' : Nat} {Ls Ls' : Array Slot} {st : List Value}
/-- from here the run ends as G says -/
def own_E (tb : Tables) (e : Env) (below : List Frame) (G : State → Outcome → Prop) (A : State) : Prop := ∃ s₂ o, Steps tb e below A s₂ ∧ G s₂ o
theorem own_go {tb : Tables} {A A' : State} (h : ∀ t, Steps tb e below A' t → Steps tb e below A t) (k : own_E tb e below G A') : own_E tb e below G A := by
  obtain ⟨s₂, o, h1, h2⟩ := k; exact ⟨s₂, o, h _ h1, h2⟩
theorem own_tr {tb : Tables} {A A' : State} (h : Steps tb e below A A') (k : own_E tb e below G A') : own_E tb e below G A := own_go (fun _ q => h.trans q) k
theorem own_iloadN (X : Stand p l e R s m args below meth c T locs cells slots) (hx : p.tables.exec = Jvm.exec) (hby : c.code = B) {k : Fin 4} {v : Int32} (hd : decode B pc = .ok (.iload_n k, 1)) (hp : pc + 1 = pc') (hl : Ls[k.val]? = some (.val (.int v)))
    (k : own_E p.tables e below G (T.setTop (mkF m pc' Ls (.int v :: st)))) : own_E p.tables e below G (T.setTop (mkF m pc Ls (st))) := by
  subst hp; exact own_go (fun t q => XS.iloadN X.here hx rfl (hb hby hd) hl q) k
theorem own_iload (X : Stand p l e R s m args below meth c T locs cells slots) (hx : p.tables.exec = Jvm.exec) (hby : c.code = B) {k : Nat} {v : Int32} (hd : decode B pc = .ok (.iload k, 2)) (hp : pc + 2 = pc') (hl : Ls[k]? = some (.val (.int v)))
    (k : own_E p.tables e below G (T.setTop (mkF m pc' Ls (.int v :: st)))) : own_E p.tables e below G (T.setTop (mkF m pc Ls (st))) := by
  subst hp; exact own_go (fun t q => XS.iload X.here hx rfl (hb hby hd) hl q) k
theorem own_lloadN (X : Stand p l e R s m args below meth c T locs cells slots) (hx : p.tables.exec = Jvm.exec) (hby : c.code = B) {k : Fin 4} {v : Int64} (hd : decode B pc = .ok (.lload_n k, 1)) (hp : pc + 1 = pc') (hl : Ls[k.val]? = some (.val (.long v)))
    (k : own_E p.tables e below G (T.setTop (mkF m pc' Ls (.long v :: st)))) : own_E p.tables e below G (T.setTop (mkF m pc Ls (st))) := by
  subst hp; exact own_go (fun t q => XS.lloadN X.here hx rfl (hb hby hd) hl q) k
theorem own_lload (X : Stand p l e R s m args below meth c T locs cells slots) (hx : p.tables.exec = Jvm.exec) (hby : c.code = B) {k : Nat} {v : Int64} (hd : decode B pc = .ok (.lload k, 2)) (hp : pc + 2 = pc') (hl : Ls[k]? = some (.val (.long v)))
    (k : own_E p.tables e below G (T.setTop (mkF m pc' Ls (.long v :: st)))) : own_E p.tables e below G (T.setTop (mkF m pc Ls (st))) := by
  subst hp; exact own_go (fun t q => XS.lload X.here hx rfl (hb hby hd) hl q) k
theorem own_aloadN (X : Stand p l e R s m args below meth c T locs cells slots) (hx : p.tables.exec = Jvm.exec) (hby : c.code = B) {k : Fin 4} {v : Value} (hd : decode B pc = .ok (.aload_n k, 1)) (hp : pc + 1 = pc') (hl : Ls[k.val]? = some (.val v)) (hv : v.isRef = true)
    (k : own_E p.tables e below G (T.setTop (mkF m pc' Ls (v :: st)))) : own_E p.tables e below G (T.setTop (mkF m pc Ls (st))) := by
  subst hp; exact own_go (fun t q => XS.aloadN X.here hx rfl (hb hby hd) hl hv q) k
theorem own_aload (X : Stand p l e R s m args below meth c T locs cells slots) (hx : p.tables.exec = Jvm.exec) (hby : c.code = B) {k : Nat} {v : Value} (hd : decode B pc = .ok (.aload k, 2)) (hp : pc + 2 = pc') (hl : Ls[k]? = some (.val v)) (hv : v.isRef = true)
    (k : own_E p.tables e below G (T.setTop (mkF m pc' Ls (v :: st)))) : own_E p.tables e below G (T.setTop (mkF m pc Ls (st))) := by
  subst hp; exact own_go (fun t q => XS.aload X.here hx rfl (hb hby hd) hl hv q) k
theorem own_istoreN (X : Stand p l e R s m args below meth c T locs cells slots) (hx : p.tables.exec = Jvm.exec) (hby : c.code = B) {k : Fin 4} {v : Int32} (hd : decode B pc = .ok (.istore_n k, 1)) (hp : pc + 1 = pc') (hl : storeLocals Ls k.val (.int v) = some Ls')
    (k : own_E p.tables e below G (T.setTop (mkF m pc' Ls' (st)))) : own_E p.tables e below G (T.setTop (mkF m pc Ls (.int v :: st))) := by
  subst hp; exact own_go (fun t q => XS.istoreN X.here hx rfl (hb hby hd) rfl hl q) k
theorem own_istore (X : Stand p l e R s m args below meth c T locs cells slots) (hx : p.tables.exec = Jvm.exec) (hby : c.code = B) {k : Nat} {v : Int32} (hd : decode B pc = .ok (.istore k, 2)) (hp : pc + 2 = pc') (hl : storeLocals Ls k (.int v) = some Ls')
    (k : own_E p.tables e below G (T.setTop (mkF m pc' Ls' (st)))) : own_E p.tables e below G (T.setTop (mkF m pc Ls (.int v :: st))) := by
  subst hp; exact own_go (fun t q => XS.istore X.here hx rfl (hb hby hd) rfl hl q) k
theorem own_lstoreN (X : Stand p l e R s m args below meth c T locs cells slots) (hx : p.tables.exec = Jvm.exec) (hby : c.code = B) {k : Fin 4} {v : Int64} (hd : decode B pc = .ok (.lstore_n k, 1)) (hp : pc + 1 = pc') (hl : storeLocals Ls k.val (.long v) = some Ls')
    (k : own_E p.tables e below G (T.setTop (mkF m pc' Ls' (st)))) : own_E p.tables e below G (T.setTop (mkF m pc Ls (.long v :: st))) := by
  subst hp; exact own_go (fun t q => XS.lstoreN X.here hx rfl (hb hby hd) rfl hl q) k
theorem own_lstore (X : Stand p l e R s m args below meth c T locs cells slots) (hx : p.tables.exec = Jvm.exec) (hby : c.code = B) {k : Nat} {v : Int64} (hd : decode B pc = .ok (.lstore k, 2)) (hp : pc + 2 = pc') (hl : storeLocals Ls k (.long v) = some Ls')
    (k : own_E p.tables e below G (T.setTop (mkF m pc' Ls' (st)))) : own_E p.tables e below G (T.setTop (mkF m pc Ls (.long v :: st))) := by
  subst hp; exact own_go (fun t q => XS.lstore X.here hx rfl (hb hby hd) rfl hl q) k
theorem own_astoreN (X : Stand p l e R s m args below meth c T locs cells slots) (hx : p.tables.exec = Jvm.exec) (hby : c.code = B) {k : Fin 4} {v : Value} (hd : decode B pc = .ok (.astore_n k, 1)) (hp : pc + 1 = pc') (hv : v.isRef = true) (hl : storeLocals Ls k.val v = some Ls')
    (k : own_E p.tables e below G (T.setTop (mkF m pc' Ls' (st)))) : own_E p.tables e below G (T.setTop (mkF m pc Ls (v :: st))) := by
  subst hp; exact own_go (fun t q => XS.astoreN X.here hx rfl (hb hby hd) rfl hv hl q) k
theorem own_astore (X : Stand p l e R s m args below meth c T locs cells slots) (hx : p.tables.exec = Jvm.exec) (hby : c.code = B) {k : Nat} {v : Value} (hd : decode B pc = .ok (.astore k, 2)) (hp : pc + 2 = pc') (hv : v.isRef = true) (hl : storeLocals Ls k v = some Ls')
    (k : own_E p.tables e below G (T.setTop (mkF m pc' Ls' (st)))) : own_E p.tables e below G (T.setTop (mkF m pc Ls (v :: st))) := by
  subst hp; exact own_go (fun t q => XS.astore X.here hx rfl (hb hby hd) rfl hv hl q) k
theorem own_iinc (X : Stand p l e R s m args below meth c T locs cells slots) (hx : p.tables.exec = Jvm.exec) (hby : c.code = B) {k : Nat} {cst : Int} {v z : Int32} (hd : decode B pc = .ok (.iinc k cst, 3)) (hp : pc + 3 = pc') (hl : Ls[k]? = some (.val (.int v))) (hz : Int32.ofInt cst = z) (hl' : storeLocals Ls k (.int (v + z)) = some Ls')
    (k : own_E p.tables e below G (T.setTop (mkF m pc' Ls' (st)))) : own_E p.tables e below G (T.setTop (mkF m pc Ls (st))) := by
  subst hp; exact own_go (fun t q => XS.iinc X.here hx rfl (hb hby hd) hl (hz ▸ hl') q) k
theorem own_iconst (X : Stand p l e R s m args below meth c T locs cells slots) (hx : p.tables.exec = Jvm.exec) (hby : c.code = B) {i : Int} {z : Int32} (hd : decode B pc = .ok (.iconst i, 1)) (hp : pc + 1 = pc') (hz : Int32.ofInt i = z)
    (k : own_E p.tables e below G (T.setTop (mkF m pc' Ls (.int z :: st)))) : own_E p.tables e below G (T.setTop (mkF m pc Ls (st))) := by
  subst hp hz; exact own_go (fun t q => XS.iconst X.here hx rfl (hb hby hd) q) k
theorem own_bipush (X : Stand p l e R s m args below meth c T locs cells slots) (hx : p.tables.exec = Jvm.exec) (hby : c.code = B) {i : Int} {z : Int32} (hd : decode B pc = .ok (.bipush i, 2)) (hp : pc + 2 = pc') (hz : (Int8.ofInt i).toInt32 = z)
    (k : own_E p.tables e below G (T.setTop (mkF m pc' Ls (.int z :: st)))) : own_E p.tables e below G (T.setTop (mkF m pc Ls (st))) := by
  subst hp hz; exact own_go (fun t q => XS.bipush X.here hx rfl (hb hby hd) q) k
theorem own_sipush (X : Stand p l e R s m args below meth c T locs cells slots) (hx : p.tables.exec = Jvm.exec) (hby : c.code = B) {i : Int} {z : Int32} (hd : decode B pc = .ok (.sipush i, 3)) (hp : pc + 3 = pc') (hz : (Int16.ofInt i).toInt32 = z)
    (k : own_E p.tables e below G (T.setTop (mkF m pc' Ls (.int z :: st)))) : own_E p.tables e below G (T.setTop (mkF m pc Ls (st))) := by
  subst hp hz; exact own_go (fun t q => XS.sipush X.here hx rfl (hb hby hd) q) k
theorem own_lconst (X : Stand p l e R s m args below meth c T locs cells slots) (hx : p.tables.exec = Jvm.exec) (hby : c.code = B) {i : Fin 2} {z : Int64} (hd : decode B pc = .ok (.lconst i, 1)) (hp : pc + 1 = pc') (hz : Int64.ofNat i = z)
    (k : own_E p.tables e below G (T.setTop (mkF m pc' Ls (.long z :: st)))) : own_E p.tables e below G (T.setTop (mkF m pc Ls (st))) := by
  subst hp hz; exact own_go (fun t q => XS.lconst X.here hx rfl (hb hby hd) q) k
theorem own_aconst_null (X : Stand p l e R s m args below meth c T locs cells slots) (hx : p.tables.exec = Jvm.exec) (hby : c.code = B)  (hd : decode B pc = .ok (.aconst_null, 1)) (hp : pc + 1 = pc') 
    (k : own_E p.tables e below G (T.setTop (mkF m pc' Ls (.null :: st)))) : own_E p.tables e below G (T.setTop (mkF m pc Ls (st))) := by
  subst hp; exact own_go (fun t q => XS.aconstNull X.here hx rfl (hb hby hd)  q) k
theorem own_iadd (X : Stand p l e R s m args below meth c T locs cells slots) (hx : p.tables.exec = Jvm.exec) (hby : c.code = B) {x y : Int32} (hd : decode B pc = .ok (.iadd, 1)) (hp : pc + 1 = pc') 
    (k : own_E p.tables e below G (T.setTop (mkF m pc' Ls (.int (x + y) :: st)))) : own_E p.tables e below G (T.setTop (mkF m pc Ls (.int y :: .int x :: st))) := by
  subst hp; exact own_go (fun t q => XS.iadd X.here hx rfl (hb hby hd) rfl q) k
theorem own_isub (X : Stand p l e R s m args below meth c T locs cells slots) (hx : p.tables.exec = Jvm.exec) (hby : c.code = B) {x y : Int32} (hd : decode B pc = .ok (.isub, 1)) (hp : pc + 1 = pc') 
    (k : own_E p.tables e below G (T.setTop (mkF m pc' Ls (.int (x - y) :: st)))) : own_E p.tables e below G (T.setTop (mkF m pc Ls (.int y :: .int x :: st))) := by
  subst hp; exact own_go (fun t q => XS.isub X.here hx rfl (hb hby hd) rfl q) k
theorem own_iand (X : Stand p l e R s m args below meth c T locs cells slots) (hx : p.tables.exec = Jvm.exec) (hby : c.code = B) {x y : Int32} (hd : decode B pc = .ok (.iand, 1)) (hp : pc + 1 = pc') 
    (k : own_E p.tables e below G (T.setTop (mkF m pc' Ls (.int (x &&& y) :: st)))) : own_E p.tables e below G (T.setTop (mkF m pc Ls (.int y :: .int x :: st))) := by
  subst hp; exact own_go (fun t q => XS.iand X.here hx rfl (hb hby hd) rfl q) k
theorem own_imul (X : Stand p l e R s m args below meth c T locs cells slots) (hx : p.tables.exec = Jvm.exec) (hby : c.code = B) {x y : Int32} (hd : decode B pc = .ok (.imul, 1)) (hp : pc + 1 = pc') 
    (k : own_E p.tables e below G (T.setTop (mkF m pc' Ls (.int (x * y) :: st)))) : own_E p.tables e below G (T.setTop (mkF m pc Ls (.int y :: .int x :: st))) := by
  subst hp; exact own_go (fun t q => XS.imul X.here hx rfl (hb hby hd) rfl q) k
theorem own_ixor (X : Stand p l e R s m args below meth c T locs cells slots) (hx : p.tables.exec = Jvm.exec) (hby : c.code = B) {x y : Int32} (hd : decode B pc = .ok (.ixor, 1)) (hp : pc + 1 = pc') 
    (k : own_E p.tables e below G (T.setTop (mkF m pc' Ls (.int (x ^^^ y) :: st)))) : own_E p.tables e below G (T.setTop (mkF m pc Ls (.int y :: .int x :: st))) := by
  subst hp; exact own_go (fun t q => XS.ixor X.here hx rfl (hb hby hd) rfl q) k
theorem own_ior (X : Stand p l e R s m args below meth c T locs cells slots) (hx : p.tables.exec = Jvm.exec) (hby : c.code = B) {x y : Int32} (hd : decode B pc = .ok (.ior, 1)) (hp : pc + 1 = pc') 
    (k : own_E p.tables e below G (T.setTop (mkF m pc' Ls (.int (x ||| y) :: st)))) : own_E p.tables e below G (T.setTop (mkF m pc Ls (.int y :: .int x :: st))) := by
  subst hp; exact own_go (fun t q => XS.ior X.here hx rfl (hb hby hd) rfl q) k
theorem own_ishl (X : Stand p l e R s m args below meth c T locs cells slots) (hx : p.tables.exec = Jvm.exec) (hby : c.code = B) {x y : Int32} (hd : decode B pc = .ok (.ishl, 1)) (hp : pc + 1 = pc') 
    (k : own_E p.tables e below G (T.setTop (mkF m pc' Ls (.int (x <<< (y &&& 31)) :: st)))) : own_E p.tables e below G (T.setTop (mkF m pc Ls (.int y :: .int x :: st))) := by
  subst hp; exact own_go (fun t q => XS.ishl X.here hx rfl (hb hby hd) rfl q) k
theorem own_ishr (X : Stand p l e R s m args below meth c T locs cells slots) (hx : p.tables.exec = Jvm.exec) (hby : c.code = B) {x y : Int32} (hd : decode B pc = .ok (.ishr, 1)) (hp : pc + 1 = pc') 
    (k : own_E p.tables e below G (T.setTop (mkF m pc' Ls (.int (x >>> (y &&& 31)) :: st)))) : own_E p.tables e below G (T.setTop (mkF m pc Ls (.int y :: .int x :: st))) := by
  subst hp; exact own_go (fun t q => XS.ishr X.here hx rfl (hb hby hd) rfl q) k
theorem own_iushr (X : Stand p l e R s m args below meth c T locs cells slots) (hx : p.tables.exec = Jvm.exec) (hby : c.code = B) {x y : Int32} (hd : decode B pc = .ok (.iushr, 1)) (hp : pc + 1 = pc') 
    (k : own_E p.tables e below G (T.setTop (mkF m pc' Ls (.int ((x.toUInt32 >>> (y &&& 31).toUInt32).toInt32) :: st)))) : own_E p.tables e below G (T.setTop (mkF m pc Ls (.int y :: .int x :: st))) := by
  subst hp; exact own_go (fun t q => XS.iushr X.here hx rfl (hb hby hd) rfl q) k
theorem own_ladd (X : Stand p l e R s m args below meth c T locs cells slots) (hx : p.tables.exec = Jvm.exec) (hby : c.code = B) {x y : Int64} (hd : decode B pc = .ok (.ladd, 1)) (hp : pc + 1 = pc') 
    (k : own_E p.tables e below G (T.setTop (mkF m pc' Ls (.long (x + y) :: st)))) : own_E p.tables e below G (T.setTop (mkF m pc Ls (.long y :: .long x :: st))) := by
  subst hp; exact own_go (fun t q => XS.ladd X.here hx rfl (hb hby hd) rfl q) k
theorem own_lsub (X : Stand p l e R s m args below meth c T locs cells slots) (hx : p.tables.exec = Jvm.exec) (hby : c.code = B) {x y : Int64} (hd : decode B pc = .ok (.lsub, 1)) (hp : pc + 1 = pc') 
    (k : own_E p.tables e below G (T.setTop (mkF m pc' Ls (.long (x - y) :: st)))) : own_E p.tables e below G (T.setTop (mkF m pc Ls (.long y :: .long x :: st))) := by
  subst hp; exact own_go (fun t q => XS.lsub X.here hx rfl (hb hby hd) rfl q) k
theorem own_lmul (X : Stand p l e R s m args below meth c T locs cells slots) (hx : p.tables.exec = Jvm.exec) (hby : c.code = B) {x y : Int64} (hd : decode B pc = .ok (.lmul, 1)) (hp : pc + 1 = pc') 
    (k : own_E p.tables e below G (T.setTop (mkF m pc' Ls (.long (x * y) :: st)))) : own_E p.tables e below G (T.setTop (mkF m pc Ls (.long y :: .long x :: st))) := by
  subst hp; exact own_go (fun t q => XS.lmul X.here hx rfl (hb hby hd) rfl q) k
theorem own_land (X : Stand p l e R s m args below meth c T locs cells slots) (hx : p.tables.exec = Jvm.exec) (hby : c.code = B) {x y : Int64} (hd : decode B pc = .ok (.land, 1)) (hp : pc + 1 = pc') 
    (k : own_E p.tables e below G (T.setTop (mkF m pc' Ls (.long (x &&& y) :: st)))) : own_E p.tables e below G (T.setTop (mkF m pc Ls (.long y :: .long x :: st))) := by
  subst hp; exact own_go (fun t q => XS.land X.here hx rfl (hb hby hd) rfl q) k
theorem own_lor (X : Stand p l e R s m args below meth c T locs cells slots) (hx : p.tables.exec = Jvm.exec) (hby : c.code = B) {x y : Int64} (hd : decode B pc = .ok (.lor, 1)) (hp : pc + 1 = pc') 
    (k : own_E p.tables e below G (T.setTop (mkF m pc' Ls (.long (x ||| y) :: st)))) : own_E p.tables e below G (T.setTop (mkF m pc Ls (.long y :: .long x :: st))) := by
  subst hp; exact own_go (fun t q => XS.lor X.here hx rfl (hb hby hd) rfl q) k
theorem own_lxor (X : Stand p l e R s m args below meth c T locs cells slots) (hx : p.tables.exec = Jvm.exec) (hby : c.code = B) {x y : Int64} (hd : decode B pc = .ok (.lxor, 1)) (hp : pc + 1 = pc') 
    (k : own_E p.tables e below G (T.setTop (mkF m pc' Ls (.long (x ^^^ y) :: st)))) : own_E p.tables e below G (T.setTop (mkF m pc Ls (.long y :: .long x :: st))) := by
  subst hp; exact own_go (fun t q => XS.lxor X.here hx rfl (hb hby hd) rfl q) k
theorem own_lshl (X : Stand p l e R s m args below meth c T locs cells slots) (hx : p.tables.exec = Jvm.exec) (hby : c.code = B) {x : Int64} {y : Int32} (hd : decode B pc = .ok (.lshl, 1)) (hp : pc + 1 = pc')
    (k : own_E p.tables e below G (T.setTop (mkF m pc' Ls (.long (x <<< (y &&& 0x3f).toInt64) :: st)))) : own_E p.tables e below G (T.setTop (mkF m pc Ls (.int y :: .long x :: st))) := by
  subst hp; exact own_go (fun t q => by
    jvm_step X.here [X.here.top, hx, hb hby hd]
    first | exact q | simpa [Int32.toInt64_and] using q) k
theorem own_lshr (X : Stand p l e R s m args below meth c T locs cells slots) (hx : p.tables.exec = Jvm.exec) (hby : c.code = B) {x : Int64} {y : Int32} (hd : decode B pc = .ok (.lshr, 1)) (hp : pc + 1 = pc')
    (k : own_E p.tables e below G (T.setTop (mkF m pc' Ls (.long (x >>> (y &&& 0x3f).toInt64) :: st)))) : own_E p.tables e below G (T.setTop (mkF m pc Ls (.int y :: .long x :: st))) := by
  subst hp; exact own_go (fun t q => by
    jvm_step X.here [X.here.top, hx, hb hby hd]
    first | exact q | simpa [Int32.toInt64_and] using q) k
theorem own_lushr (X : Stand p l e R s m args below meth c T locs cells slots) (hx : p.tables.exec = Jvm.exec) (hby : c.code = B) {x : Int64} {y : Int32} (hd : decode B pc = .ok (.lushr, 1)) (hp : pc + 1 = pc')
    (k : own_E p.tables e below G (T.setTop (mkF m pc' Ls (.long ((x.toUInt64 >>> (y &&& 0x3f).toInt64.toUInt64).toInt64) :: st)))) : own_E p.tables e below G (T.setTop (mkF m pc Ls (.int y :: .long x :: st))) := by
  subst hp; exact own_go (fun t q => by
    jvm_step X.here [X.here.top, hx, hb hby hd]
    first | exact q | simpa [Int32.toInt64_and] using q) k
theorem own_idiv (X : Stand p l e R s m args below meth c T locs cells slots) (hx : p.tables.exec = Jvm.exec) (hby : c.code = B) {x y : Int32} (hd : decode B pc = .ok (.idiv, 1)) (hp : pc + 1 = pc') (hy : y ≠ 0)
    (k : own_E p.tables e below G (T.setTop (mkF m pc' Ls (.int (x / y) :: st)))) : own_E p.tables e below G (T.setTop (mkF m pc Ls (.int y :: .int x :: st))) := by
  subst hp; exact own_go (fun t q => XS.idiv X.here hx rfl (hb hby hd) rfl hy q) k
theorem own_irem (X : Stand p l e R s m args below meth c T locs cells slots) (hx : p.tables.exec = Jvm.exec) (hby : c.code = B) {x y : Int32} (hd : decode B pc = .ok (.irem, 1)) (hp : pc + 1 = pc') (hy : y ≠ 0)
    (k : own_E p.tables e below G (T.setTop (mkF m pc' Ls (.int (x % y) :: st)))) : own_E p.tables e below G (T.setTop (mkF m pc Ls (.int y :: .int x :: st))) := by
  subst hp; exact own_go (fun t q => iremM X hx rfl (hb hby hd) rfl hy q) k
theorem own_lrem (X : Stand p l e R s m args below meth c T locs cells slots) (hx : p.tables.exec = Jvm.exec) (hby : c.code = B) {x y : Int64} (hd : decode B pc = .ok (.lrem, 1)) (hp : pc + 1 = pc') (hy : y ≠ 0)
    (k : own_E p.tables e below G (T.setTop (mkF m pc' Ls (.long (x % y) :: st)))) : own_E p.tables e below G (T.setTop (mkF m pc Ls (.long y :: .long x :: st))) := by
  subst hp; exact own_go (fun t q => XS.lrem X.here hx rfl (hb hby hd) rfl hy (by rw [lrem_mod]; exact q)) k
theorem own_ineg (X : Stand p l e R s m args below meth c T locs cells slots) (hx : p.tables.exec = Jvm.exec) (hby : c.code = B) {x : Int32} (hd : decode B pc = .ok (.ineg, 1)) (hp : pc + 1 = pc') 
    (k : own_E p.tables e below G (T.setTop (mkF m pc' Ls (.int (-x) :: st)))) : own_E p.tables e below G (T.setTop (mkF m pc Ls (.int x :: st))) := by
  subst hp; exact own_go (fun t q => XS.ineg X.here hx rfl (hb hby hd) rfl q) k
theorem own_lneg (X : Stand p l e R s m args below meth c T locs cells slots) (hx : p.tables.exec = Jvm.exec) (hby : c.code = B) {x : Int64} (hd : decode B pc = .ok (.lneg, 1)) (hp : pc + 1 = pc') 
    (k : own_E p.tables e below G (T.setTop (mkF m pc' Ls (.long (-x) :: st)))) : own_E p.tables e below G (T.setTop (mkF m pc Ls (.long x :: st))) := by
  subst hp; exact own_go (fun t q => XS.lneg X.here hx rfl (hb hby hd) rfl q) k
theorem own_i2l (X : Stand p l e R s m args below meth c T locs cells slots) (hx : p.tables.exec = Jvm.exec) (hby : c.code = B) {x : Int32} (hd : decode B pc = .ok (.i2l, 1)) (hp : pc + 1 = pc') 
    (k : own_E p.tables e below G (T.setTop (mkF m pc' Ls (.long (x.toInt64) :: st)))) : own_E p.tables e below G (T.setTop (mkF m pc Ls (.int x :: st))) := by
  subst hp; exact own_go (fun t q => XS.i2l X.here hx rfl (hb hby hd) rfl q) k
theorem own_l2i (X : Stand p l e R s m args below meth c T locs cells slots) (hx : p.tables.exec = Jvm.exec) (hby : c.code = B) {x : Int64} (hd : decode B pc = .ok (.l2i, 1)) (hp : pc + 1 = pc') 
    (k : own_E p.tables e below G (T.setTop (mkF m pc' Ls (.int (x.toInt32) :: st)))) : own_E p.tables e below G (T.setTop (mkF m pc Ls (.long x :: st))) := by
  subst hp; exact own_go (fun t q => XS.l2i X.here hx rfl (hb hby hd) rfl q) k
theorem own_i2b (X : Stand p l e R s m args below meth c T locs cells slots) (hx : p.tables.exec = Jvm.exec) (hby : c.code = B) {x : Int32} (hd : decode B pc = .ok (.i2b, 1)) (hp : pc + 1 = pc') 
    (k : own_E p.tables e below G (T.setTop (mkF m pc' Ls (.int (x.toInt8.toInt32) :: st)))) : own_E p.tables e below G (T.setTop (mkF m pc Ls (.int x :: st))) := by
  subst hp; exact own_go (fun t q => XS.i2b X.here hx rfl (hb hby hd) rfl q) k
theorem own_i2c (X : Stand p l e R s m args below meth c T locs cells slots) (hx : p.tables.exec = Jvm.exec) (hby : c.code = B) {x : Int32} (hd : decode B pc = .ok (.i2c, 1)) (hp : pc + 1 = pc') 
    (k : own_E p.tables e below G (T.setTop (mkF m pc' Ls (.int (x.toUInt32.toUInt16.toUInt32.toInt32) :: st)))) : own_E p.tables e below G (T.setTop (mkF m pc Ls (.int x :: st))) := by
  subst hp; exact own_go (fun t q => XS.i2c X.here hx rfl (hb hby hd) rfl q) k
theorem own_i2s (X : Stand p l e R s m args below meth c T locs cells slots) (hx : p.tables.exec = Jvm.exec) (hby : c.code = B) {x : Int32} (hd : decode B pc = .ok (.i2s, 1)) (hp : pc + 1 = pc') 
    (k : own_E p.tables e below G (T.setTop (mkF m pc' Ls (.int (x.toInt16.toInt32) :: st)))) : own_E p.tables e below G (T.setTop (mkF m pc Ls (.int x :: st))) := by
  subst hp; exact own_go (fun t q => XS.i2s X.here hx rfl (hb hby hd) rfl q) k
theorem own_i2cE (X : Stand p l e R s m args below meth c T locs cells slots) (hx : p.tables.exec = Jvm.exec) (hby : c.code = B) {x v : Int32} (hd : decode B pc = .ok (.i2c, 1)) (hp : pc + 1 = pc') (hv : x.toUInt32.toUInt16.toUInt32.toInt32 = v)
    (k : own_E p.tables e below G (T.setTop (mkF m pc' Ls (.int v :: st)))) : own_E p.tables e below G (T.setTop (mkF m pc Ls (.int x :: st))) := by
  subst hv; exact own_i2c X hx hby hd hp k
theorem own_lcmp (X : Stand p l e R s m args below meth c T locs cells slots) (hx : p.tables.exec = Jvm.exec) (hby : c.code = B) {x y : Int64} (hd : decode B pc = .ok (.lcmp, 1)) (hp : pc + 1 = pc')
    (k : own_E p.tables e below G (T.setTop (mkF m pc' Ls (.int (lcmpW x y) :: st)))) : own_E p.tables e below G (T.setTop (mkF m pc Ls (.long y :: .long x :: st))) := by
  subst hp; exact own_go (fun t q => XS.lcmp X.here hx rfl (hb hby hd) rfl q) k
theorem own_dup (X : Stand p l e R s m args below meth c T locs cells slots) (hx : p.tables.exec = Jvm.exec) (hby : c.code = B) {v : Value} (hd : decode B pc = .ok (.dup, 1)) (hp : pc + 1 = pc') (hc : v.category = 1)
    (k : own_E p.tables e below G (T.setTop (mkF m pc' Ls (v :: v :: st)))) : own_E p.tables e below G (T.setTop (mkF m pc Ls (v :: st))) := by
  subst hp; exact own_go (fun t q => XS.dup X.here hx rfl (hb hby hd) rfl hc q) k
theorem own_pop (X : Stand p l e R s m args below meth c T locs cells slots) (hx : p.tables.exec = Jvm.exec) (hby : c.code = B) {v : Value} (hd : decode B pc = .ok (.pop, 1)) (hp : pc + 1 = pc') (hc : v.category = 1)
    (k : own_E p.tables e below G (T.setTop (mkF m pc' Ls (st)))) : own_E p.tables e below G (T.setTop (mkF m pc Ls (v :: st))) := by
  subst hp; exact own_go (fun t q => XS.pop X.here hx rfl (hb hby hd) rfl hc q) k
theorem own_dup_x1 (X : Stand p l e R s m args below meth c T locs cells slots) (hx : p.tables.exec = Jvm.exec) (hby : c.code = B) {v w : Value} (hd : decode B pc = .ok (.dup_x1, 1)) (hp : pc + 1 = pc') (hc : v.category = 1) (hc' : w.category = 1)
    (k : own_E p.tables e below G (T.setTop (mkF m pc' Ls (v :: w :: v :: st)))) : own_E p.tables e below G (T.setTop (mkF m pc Ls (v :: w :: st))) := by
  subst hp; exact own_go (fun t q => XS.dupX1 X.here hx rfl (hb hby hd) rfl hc hc' q) k
theorem own_dup2 (X : Stand p l e R s m args below meth c T locs cells slots) (hx : p.tables.exec = Jvm.exec) (hby : c.code = B) {v w : Value} (hd : decode B pc = .ok (.dup2, 1)) (hp : pc + 1 = pc') (hc : v.category = 1) (hc' : w.category = 1)
    (k : own_E p.tables e below G (T.setTop (mkF m pc' Ls (v :: w :: v :: w :: st)))) : own_E p.tables e below G (T.setTop (mkF m pc Ls (v :: w :: st))) := by
  subst hp; exact own_go (fun t q => by
    jvm_step X.here [X.here.top, hx, hb hby hd, hc, hc']
    exact q) k
theorem own_goto (X : Stand p l e R s m args below meth c T locs cells slots) (hx : p.tables.exec = Jvm.exec) (hby : c.code = B) {o : Int} (hd : decode B pc = .ok (.goto o, 3)) (ho : 0 ≤ (pc : Int) + o) (hp : ((pc : Int) + o).toNat = pc')
    (k : own_E p.tables e below G (T.setTop (mkF m pc' Ls (st)))) : own_E p.tables e below G (T.setTop (mkF m pc Ls (st))) := own_go (fun t q => XS.goto X.here hx rfl rfl (hb hby hd) ho hp q) k
theorem own_ifY (X : Stand p l e R s m args below meth c T locs cells slots) (hx : p.tables.exec = Jvm.exec) (hby : c.code = B) {cd : ClassFile.Cond} {x : Int32} {o : Int} (hd : decode B pc = .ok (.ifCond cd o, 3)) (ho : 0 ≤ (pc : Int) + o) (hp : ((pc : Int) + o).toNat = pc') (hc : if_icmp.holds cd x 0 = true)
    (k : own_E p.tables e below G (T.setTop (mkF m pc' Ls (st)))) : own_E p.tables e below G (T.setTop (mkF m pc Ls (.int x :: st))) := own_go (fun t q => XS.ifYes X.here hx rfl rfl (hb hby hd) rfl ((if0 _ _).trans hc) ho hp q) k
theorem own_ifN (X : Stand p l e R s m args below meth c T locs cells slots) (hx : p.tables.exec = Jvm.exec) (hby : c.code = B) {cd : ClassFile.Cond} {x : Int32} {o : Int} (hd : decode B pc = .ok (.ifCond cd o, 3)) (hp : pc + 3 = pc') (hc : if_icmp.holds cd x 0 = false)
    (k : own_E p.tables e below G (T.setTop (mkF m pc' Ls (st)))) : own_E p.tables e below G (T.setTop (mkF m pc Ls (.int x :: st))) := by
  subst hp; exact own_go (fun t q => XS.ifNo X.here hx rfl (hb hby hd) rfl ((if0 _ _).trans hc) q) k
theorem own_icmpY (X : Stand p l e R s m args below meth c T locs cells slots) (hx : p.tables.exec = Jvm.exec) (hby : c.code = B) {cd : ClassFile.Cond} {x y : Int32} {o : Int} (hd : decode B pc = .ok (.if_icmp cd o, 3)) (ho : 0 ≤ (pc : Int) + o) (hp : ((pc : Int) + o).toNat = pc') (hc : if_icmp.holds cd x y = true)
    (k : own_E p.tables e below G (T.setTop (mkF m pc' Ls (st)))) : own_E p.tables e below G (T.setTop (mkF m pc Ls (.int y :: .int x :: st))) := own_go (fun t q => XS.icmpYes X.here hx rfl rfl (hb hby hd) rfl hc ho hp q) k
theorem own_icmpN (X : Stand p l e R s m args below meth c T locs cells slots) (hx : p.tables.exec = Jvm.exec) (hby : c.code = B) {cd : ClassFile.Cond} {x y : Int32} {o : Int} (hd : decode B pc = .ok (.if_icmp cd o, 3)) (hp : pc + 3 = pc') (hc : if_icmp.holds cd x y = false)
    (k : own_E p.tables e below G (T.setTop (mkF m pc' Ls (st)))) : own_E p.tables e below G (T.setTop (mkF m pc Ls (.int y :: .int x :: st))) := by
  subst hp; exact own_go (fun t q => XS.icmpNo X.here hx rfl (hb hby hd) rfl hc q) k
theorem own_ifnullY (X : Stand p l e R s m args below meth c T locs cells slots) (hx : p.tables.exec = Jvm.exec) (hby : c.code = B)  {o : Int} (hd : decode B pc = .ok (.ifnull o, 3)) (ho : 0 ≤ (pc : Int) + o) (hp : ((pc : Int) + o).toNat = pc')
    (k : own_E p.tables e below G (T.setTop (mkF m pc' Ls (st)))) : own_E p.tables e below G (T.setTop (mkF m pc Ls (.null :: st))) := own_go (fun t q => XS.ifnullYes X.here hx rfl rfl (hb hby hd) rfl ho hp q) k
theorem own_ifnonnullY (X : Stand p l e R s m args below meth c T locs cells slots) (hx : p.tables.exec = Jvm.exec) (hby : c.code = B) {b : Addr} {o : Int} (hd : decode B pc = .ok (.ifnonnull o, 3)) (ho : 0 ≤ (pc : Int) + o) (hp : ((pc : Int) + o).toNat = pc')
    (k : own_E p.tables e below G (T.setTop (mkF m pc' Ls (st)))) : own_E p.tables e below G (T.setTop (mkF m pc Ls (.ref b :: st))) := own_go (fun t q => XS.ifnonnullYes X.here hx rfl rfl (hb hby hd) rfl ho hp q) k
theorem own_ifnullN (X : Stand p l e R s m args below meth c T locs cells slots) (hx : p.tables.exec = Jvm.exec) (hby : c.code = B) {b : Addr} {o : Int} (hd : decode B pc = .ok (.ifnull o, 3)) (hp : pc + 3 = pc')
    (k : own_E p.tables e below G (T.setTop (mkF m pc' Ls (st)))) : own_E p.tables e below G (T.setTop (mkF m pc Ls (.ref b :: st))) := by
  subst hp; exact own_go (fun t q => XS.ifnullNo X.here hx rfl (hb hby hd) rfl q) k
theorem own_ifnonnullN (X : Stand p l e R s m args below meth c T locs cells slots) (hx : p.tables.exec = Jvm.exec) (hby : c.code = B)  {o : Int} (hd : decode B pc = .ok (.ifnonnull o, 3)) (hp : pc + 3 = pc')
    (k : own_E p.tables e below G (T.setTop (mkF m pc' Ls (st)))) : own_E p.tables e below G (T.setTop (mkF m pc Ls (.null :: st))) := by
  subst hp; exact own_go (fun t q => XS.ifnonnullNo X.here hx rfl (hb hby hd) rfl q) k
theorem own_acmp (X : Stand p l e R s m args below meth c T locs cells slots) (hx : p.tables.exec = Jvm.exec) (hby : c.code = B) {cd : ClassFile.ACond} {x y : Value} {o : Int} {same : Bool} (hd : decode B pc = .ok (.if_acmp cd o, 3)) (h1 : x.isRef = true) (h2 : y.isRef = true) (hq : decide (x = y) = same) (ho : 0 ≤ (pc : Int) + o) (hp : pc' = if acV cd same = true then ((pc : Int) + o).toNat else pc + 3)
    (k : own_E p.tables e below G (T.setTop (mkF m pc' Ls (st)))) : own_E p.tables e below G (T.setTop (mkF m pc Ls (y :: x :: st))) := own_go (fun t q => Jvm.RoadKit.acmp (g := mkF m pc Ls (y :: x :: st)) X hx rfl h1 h2 rfl (hb hby hd) rfl hq ho hp q) k
/-- what a body owes at its end -/
def own_End (s : State) (below : List Frame) (Q : Option Value → Heap → List Loc → Prop) (C S : Nat) (s₂ : State) (o : Outcome) : Prop := s₂.status = .running ∧ Ended s₂ below o ∧ ∃ v L, o = .returned v ∧ Q v s₂.heap L ∧ FrameEnd s o s₂ L C S
theorem own_ret (X : Stand p l e R s m args below meth c T locs cells slots) {Q : Option Value → Heap → List Loc → Prop} {C S : Nat} {v : Option Value} (hv : meth.sig.returnType = none → v = none) (hlocks : meth.locks = false)
    (hst : ∀ fs : List Frame, (∀ (f : JFrame) (acts : List Action), f.method = m → f.locked = none → f.entered = [] → (doReturn e (T.setTop f) acts v).1 = T.setFrames fs) → Steps p.tables e below (T.setTop (mkF m pc Ls st)) (T.setFrames fs))
    (hq : Q v T.heap locs) (hc : cells ≤ C) (hs : slots ≤ S) : own_E p.tables e below (own_End s below Q C S) (T.setTop (mkF m pc Ls st)) := by
  obtain ⟨fs, hr, hrun, hended, hW, hsame⟩ := X.leave hv hlocks
  exact ⟨_, _, hst fs hr, hrun, hended, v, locs, rfl, hq, ⟨_, rfl⟩, hW, hsame.mono hc hs⟩
theorem own_retN (X : Stand p l e R s m args below meth c T locs cells slots) (hx : p.tables.exec = Jvm.exec) (hby : c.code = B) {Q : Option Value → Heap → List Loc → Prop} {C S : Nat} {t : FieldType} {z z' : Int32} (hlocks : meth.locks = false) (hret : meth.sig.returnType = some t) (ht : t = .boolean ∨ t = .byte ∨ t = .char ∨ t = .short)
    (hd : decode B pc = .ok (.ireturn, 1)) (hz : nar t z = z') (hq : Q (some (.int z')) T.heap locs) (hc : cells ≤ C) (hs : slots ≤ S) : own_E p.tables e below (own_End s below Q C S) (T.setTop (mkF m pc Ls (.int z :: st))) :=
  own_ret X (fun h => by rw [hret] at h; cases h) hlocks (fun fs hl => retN X hx (t := t) hret ht (hb hby hd) (by rw [hz]; exact hl)) hq hc hs
theorem own_retI (X : Stand p l e R s m args below meth c T locs cells slots) (hx : p.tables.exec = Jvm.exec) (hby : c.code = B) {Q : Option Value → Heap → List Loc → Prop} {C S : Nat} {z : Int32} (hlocks : meth.locks = false) (hret : meth.sig.returnType = some .int)
    (hd : decode B pc = .ok (.ireturn, 1)) (hq : Q (some (.int z)) T.heap locs) (hc : cells ≤ C) (hs : slots ≤ S) : own_E p.tables e below (own_End s below Q C S) (T.setTop (mkF m pc Ls (.int z :: st))) :=
  own_ret X (fun h => by rw [hret] at h; cases h) hlocks (fun fs hl => retOut X hx hret rfl (Or.inl ⟨rfl, Or.inl rfl, _, rfl⟩) (hb hby hd) hl) hq hc hs
theorem own_retL (X : Stand p l e R s m args below meth c T locs cells slots) (hx : p.tables.exec = Jvm.exec) (hby : c.code = B) {Q : Option Value → Heap → List Loc → Prop} {C S : Nat} {z : Int64} (hlocks : meth.locks = false) (hret : meth.sig.returnType = some .long)
    (hd : decode B pc = .ok (.lreturn, 1)) (hq : Q (some (.long z)) T.heap locs) (hc : cells ≤ C) (hs : slots ≤ S) : own_E p.tables e below (own_End s below Q C S) (T.setTop (mkF m pc Ls (.long z :: st))) :=
  own_ret X (fun h => by rw [hret] at h; cases h) hlocks (fun fs hl => retOut X hx hret rfl (Or.inr (Or.inl ⟨rfl, rfl, _, rfl⟩)) (hb hby hd) hl) hq hc hs
theorem own_retD (X : Stand p l e R s m args below meth c T locs cells slots) (hx : p.tables.exec = Jvm.exec) (hby : c.code = B) {Q : Option Value → Heap → List Loc → Prop} {C S : Nat} {z : UInt64} (hlocks : meth.locks = false) (hret : meth.sig.returnType = some .double)
    (hd : decode B pc = .ok (.dreturn, 1)) (hq : Q (some (.double z)) T.heap locs) (hc : cells ≤ C) (hs : slots ≤ S) : own_E p.tables e below (own_End s below Q C S) (T.setTop (mkF m pc Ls (.double z :: st))) :=
  own_ret X (fun h => by rw [hret] at h; cases h) hlocks (fun fs hl => retOut X hx hret rfl (Or.inr (Or.inr (Or.inl ⟨rfl, rfl, _, rfl⟩))) (hb hby hd) hl) hq hc hs
theorem own_retA (X : Stand p l e R s m args below meth c T locs cells slots) (hx : p.tables.exec = Jvm.exec) (hby : c.code = B) {Q : Option Value → Heap → List Loc → Prop} {C S : Nat} {t : FieldType} {v : Value} (hlocks : meth.locks = false) (hret : meth.sig.returnType = some t) (ht : t.isReference = true) (hv : v.isRef = true)
    (hd : decode B pc = .ok (.areturn, 1)) (hq : Q (some v) T.heap locs) (hc : cells ≤ C) (hs : slots ≤ S) : own_E p.tables e below (own_End s below Q C S) (T.setTop (mkF m pc Ls (v :: st))) :=
  own_ret X (fun h => by rw [hret] at h; cases h) hlocks (fun fs hl => retOut X hx hret (by cases t <;> first | (cases ht; done) | (rcases ref_cases hv with rfl | ⟨_, rfl⟩ <;> rfl)) (Or.inr (Or.inr (Or.inr (Or.inr ⟨rfl, ht, hv⟩)))) (hb hby hd) hl) hq hc hs
theorem own_ret0 (X : Stand p l e R s m args below meth c T locs cells slots) (hx : p.tables.exec = Jvm.exec) (hby : c.code = B) {Q : Option Value → Heap → List Loc → Prop} {C S : Nat} (hlocks : meth.locks = false) (hret : meth.sig.returnType = none)
    (hd : decode B pc = .ok (.return_, 1)) (hq : Q none T.heap locs) (hc : cells ≤ C) (hs : slots ≤ S) : own_E p.tables e below (own_End s below Q C S) (T.setTop (mkF m pc Ls [])) :=
  own_ret X (fun _ => rfl) hlocks (fun fs hl => X.returnOut hx hret (hb hby hd) hl) hq hc hs
theorem own_callS (X : Stand p l e R s m args below meth c T locs cells slots) (hx : p.tables.exec = Jvm.exec) (hby : c.code = B) {Z : State} {a0 : Array Value} {h : Heap} {own : String} {index nl : Nat} {as' : Array Value} {W cc ss : Nat} {Q : Option Value → Heap → List Loc → Prop} {y : MethodName} {bytes : ByteArray} {maxL : Nat} {ret : Option FieldType} (hml : c.maxLocals = nl) (hZ : Z.Warmed39 s.vm) (hown : s.vm.findClass own = some m.cls)
    (w1 : (Cond.methodLink own index y).before a0 Z = true) (w2 : (Cond.static y).before a0 Z = true) (w3 : (Cond.initialized y.cls).before a0 Z = true) (w4 : (Cond.code y bytes maxL ret).before a0 Z = true) (hy : y.cls ≠ "java/lang/invoke/MethodHandle" ∧ y.cls ≠ "java/lang/invoke/VarHandle")
    (hK : Back l R p e below s args y 3 W (fun P a => a = as' ∧ P.U.heap = h ∧ P.cells + cc ≤ R.cells ∧ P.slots + ss ≤ R.slots) (fun P _ v B => ∃ L, Q v B.U.heap L ∧ B.locs = P.locs ++ L ∧ B.cells = P.cells + cc ∧ B.slots = P.slots + ss)) (hsz : Ls.size = nl) {argsL rest : List Value} {ps : List FieldType} {r : Option FieldType} (hpd : parseMethodDescriptor y.desc = some ⟨ps, r⟩) (hlen : argsL.length = ps.length) (hst : st = argsL.reverse ++ rest) (hW : (rest.map fun v => v.category).sum ≤ W)
    (hd : decode B pc = .ok (.invokestatic index, 3)) (hp : pc + 3 = pc') (hargs : argsL.toArray = as') (eT : T.heap = h) (hc : cells + cc ≤ R.cells) (hs : slots + ss ≤ R.slots)
    (k : ∀ (v : Option Value) (T' : State) (h' : Heap) (L : List Loc), Stand p l e R s m args below meth c T' (locs ++ L) (cells + cc) (slots + ss) → T'.heap = h' → Q v h' L → own_E p.tables e below G (T'.setTop (mkF m pc' Ls (v.toList ++ rest)))) : own_E p.tables e below G (T.setTop (mkF m pc Ls st)) := by
  subst hp
  obtain ⟨v, vm₁, ⟨T', L', k', n'⟩, -, X', ⟨L, hQ, q1, q2, q3⟩, stp⟩ := Jvm.LawKit.callS X hx hown (mvT hZ w1) (mvT hZ w2) (mvT hZ w3) (mvT hZ w4) hy hK (g := mkF m pc Ls st) rfl (by rw [hml]; exact hsz) (argsL := argsL) (rest := rest) (lenOf hpd hlen) hst (by show 2 * 0 + _ ≤ _; rw [Nat.mul_zero, Nat.zero_add]; exact hW) (hb hby hd) (fun _ _ => ⟨hargs, eT, hc, hs⟩)
  dsimp only at X' hQ q1 q2 q3 stp
  subst q1 q2 q3
  exact own_go stp (k v T' _ L X' rfl hQ)
theorem own_spec (X : Stand p l e R s m args below meth c T locs cells slots) (hx : p.tables.exec = Jvm.exec) (hby : c.code = B) {Z : State} {a0 : Array Value} {h : Heap} {own : String} {index nl : Nat} {as' : Array Value} {W cc ss : Nat} {Q : Option Value → Heap → List Loc → Prop} {y : MethodName} {bytes : ByteArray} {maxL : Nat} (hml : c.maxLocals = nl) (hZ : Z.Warmed39 s.vm) (hown : s.vm.findClass own = some m.cls) (hy1 : y.name = "<init>")
    (w1 : (Cond.methodLink own index y).before a0 Z = true) (w2 : (Cond.instanceMethod y).before a0 Z = true) (w4 : (Cond.code y bytes maxL none).before a0 Z = true) (hy : y.cls ≠ "java/lang/invoke/MethodHandle" ∧ y.cls ≠ "java/lang/invoke/VarHandle")
    (hK : Back l R p e below s args y 3 W (fun P a => a = as' ∧ P.U.heap = h ∧ P.cells + cc ≤ R.cells ∧ P.slots + ss ≤ R.slots) (fun P _ v B => ∃ L, Q v B.U.heap L ∧ B.locs = P.locs ++ L ∧ B.cells = P.cells + cc ∧ B.slots = P.slots + ss)) (hsz : Ls.size = nl) {a : Addr} {argsL rest : List Value} {ps : List FieldType} {r : Option FieldType} (hpd : parseMethodDescriptor y.desc = some ⟨ps, r⟩) (hlen : argsL.length = ps.length) (hst : st = argsL.reverse ++ .ref a :: rest) (hW : (rest.map fun v => v.category).sum ≤ W)
    (hd : decode B pc = .ok (.invokespecial index, 3)) (hp : pc + 3 = pc') (hargs : (.ref a :: argsL).toArray = as') (eT : T.heap = h) (hc : cells + cc ≤ R.cells) (hs : slots + ss ≤ R.slots)
    (k : ∀ (v : Option Value) (T' : State) (h' : Heap) (L : List Loc), Stand p l e R s m args below meth c T' (locs ++ L) (cells + cc) (slots + ss) → T'.heap = h' → Q v h' L → own_E p.tables e below G (T'.setTop (mkF m pc' Ls (v.toList ++ rest)))) : own_E p.tables e below G (T.setTop (mkF m pc Ls st)) := by
  subst hp
  obtain ⟨v, vm₁, ⟨T', L', k', n'⟩, -, X', ⟨L, hQ, q1, q2, q3⟩, stp⟩ := X.specialBack hx hy1 hown (mvT hZ w1) (mvT hZ w2) (mvT hZ w4) hy hK (g := mkF m pc Ls st) rfl (by rw [hml]; exact hsz) (Steps.refl _) (a := a) (argsL := argsL) (rest := rest) (lenOf hpd hlen) hst (by show 2 * 0 + _ ≤ _; rw [Nat.mul_zero, Nat.zero_add]; exact hW) (hb hby hd) (fun _ _ => ⟨hargs, eT, hc, hs⟩)
  dsimp only at X' hQ q1 q2 q3 stp
  subst q1 q2 q3
  exact own_tr stp (k v T' _ L X' rfl hQ)
theorem own_virt (X : Stand p l e R s m args below meth c T locs cells slots) (hx : p.tables.exec = Jvm.exec) (hby : c.code = B) {Z : State} {a0 : Array Value} {h : Heap} {own : String} {index nl : Nat} {as' : Array Value} {W cc ss : Nat} {Q : Option Value → Heap → List Loc → Prop} {C : String} {y z : MethodName} (hml : c.maxLocals = nl) (hZ : Z.Warmed39 s.vm) (hown : s.vm.findClass own = some m.cls)
    (w1 : (Cond.methodLink own index y).before a0 Z = true) (w2 : (Cond.declares y).before a0 Z = true) (hnf : NotFace s y) (w3 : (Cond.selects C y z).before a0 Z = true) (w4 : (Cond.instanceMethod z).before a0 Z = true) (hy : y.cls ≠ "java/lang/invoke/MethodHandle" ∧ y.cls ≠ "java/lang/invoke/VarHandle")
    (hK : Back l R p e below s args z 3 W (fun P a => a = as' ∧ P.U.heap = h ∧ P.cells + cc ≤ R.cells ∧ P.slots + ss ≤ R.slots) (fun P _ v B => ∃ L, Q v B.U.heap L ∧ B.locs = P.locs ++ L ∧ B.cells = P.cells + cc ∧ B.slots = P.slots + ss)) (hsz : Ls.size = nl) {a : Addr} (hE : Exa Z h a C) {argsL rest : List Value} {ps : List FieldType} {r : Option FieldType} (hpd : parseMethodDescriptor y.desc = some ⟨ps, r⟩) (hlen : argsL.length = ps.length) (hst : st = argsL.reverse ++ .ref a :: rest) (hW : (rest.map fun v => v.category).sum ≤ W)
    (hd : decode B pc = .ok (.invokevirtual index, 3)) (hp : pc + 3 = pc') (hargs : (.ref a :: argsL).toArray = as') (eT : T.heap = h) (hc : cells + cc ≤ R.cells) (hs : slots + ss ≤ R.slots)
    (k : ∀ (v : Option Value) (T' : State) (h' : Heap) (L : List Loc), Stand p l e R s m args below meth c T' (locs ++ L) (cells + cc) (slots + ss) → T'.heap = h' → Q v h' L → own_E p.tables e below G (T'.setTop (mkF m pc' Ls (v.toList ++ rest)))) : own_E p.tables e below G (T.setTop (mkF m pc Ls st)) := by
  subst hp
  obtain ⟨cq, kq, qa, qb, qc⟩ := isOf hZ eT hE
  obtain ⟨v, vm₁, ⟨T', L', k', n'⟩, -, X', ⟨L, hQ, q1, q2, q3⟩, stp⟩ := X.virtualBack hx hown (mvT hZ w1) (mvT hZ w2) hnf (mvT hZ w3) (mvT hZ w4) hy hK qa qc (g := mkF m pc Ls st) rfl (by rw [hml]; exact hsz) (Steps.refl _) (argsL := argsL) (rest := rest) (lenOf hpd hlen) hst (by show 2 * 0 + _ ≤ _; rw [Nat.mul_zero, Nat.zero_add]; exact hW) (hb hby hd) (fun _ _ => ⟨hargs, eT, hc, hs⟩)
  dsimp only at X' hQ q1 q2 q3 stp
  subst q1 q2 q3
  exact own_tr stp (k v T' _ L X' rfl hQ)
theorem own_priv (X : Stand p l e R s m args below meth c T locs cells slots) (hx : p.tables.exec = Jvm.exec) (hby : c.code = B) {Z : State} {a0 : Array Value} {h : Heap} {own : String} {index nl : Nat} {as' : Array Value} {W cc ss : Nat} {Q : Option Value → Heap → List Loc → Prop} {y : MethodName} {bytes : ByteArray} {maxL : Nat} {ret : Option FieldType} (hml : c.maxLocals = nl) (hZ : Z.Warmed39 s.vm) (hown : s.vm.findClass own = some m.cls)
    (w1 : (Cond.methodLink own index y).before a0 Z = true) (w2 : (Cond.instanceMethod y).before a0 Z = true) (w3 : (Cond.selects y.cls y y).before a0 Z = true) (w5 : (Cond.privateMethod y).before a0 Z = true) (w4 : (Cond.code y bytes maxL ret).before a0 Z = true) (hy : y.cls ≠ "java/lang/invoke/MethodHandle" ∧ y.cls ≠ "java/lang/invoke/VarHandle")
    (hK : Back l R p e below s args y 3 W (fun P a => a = as' ∧ P.U.heap = h ∧ P.cells + cc ≤ R.cells ∧ P.slots + ss ≤ R.slots) (fun P _ v B => ∃ L, Q v B.U.heap L ∧ B.locs = P.locs ++ L ∧ B.cells = P.cells + cc ∧ B.slots = P.slots + ss)) (hsz : Ls.size = nl) {a : Addr} {C : String} (hE : Exa Z h a C) {argsL rest : List Value} {ps : List FieldType} {r : Option FieldType} (hpd : parseMethodDescriptor y.desc = some ⟨ps, r⟩) (hlen : argsL.length = ps.length) (hst : st = argsL.reverse ++ .ref a :: rest) (hW : (rest.map fun v => v.category).sum ≤ W)
    (hd : decode B pc = .ok (.invokevirtual index, 3)) (hp : pc + 3 = pc') (hargs : (.ref a :: argsL).toArray = as') (eT : T.heap = h) (hc : cells + cc ≤ R.cells) (hs : slots + ss ≤ R.slots)
    (k : ∀ (v : Option Value) (T' : State) (h' : Heap) (L : List Loc), Stand p l e R s m args below meth c T' (locs ++ L) (cells + cc) (slots + ss) → T'.heap = h' → Q v h' L → own_E p.tables e below G (T'.setTop (mkF m pc' Ls (v.toList ++ rest)))) : own_E p.tables e below G (T.setTop (mkF m pc Ls st)) := by
  subst hp
  obtain ⟨cq, qa, qb⟩ := hE.cell
  obtain ⟨v, vm₁, ⟨T', L', k', n'⟩, -, X', ⟨L, hQ, q1, q2, q3⟩, stp⟩ := X.privateBack hx hown (mvT hZ w1) (mvT hZ w2) (mvT hZ w3) (Cond.privateMethod_at (mvP hZ w5 (args := #[]))) (mvT hZ w4) hy hK (g := mkF m pc Ls st) rfl (by rw [hml]; exact hsz) (Steps.refl _) (a := a) (by rw [eT]; exact qa) qb (argsL := argsL) (rest := rest) (lenOf hpd hlen) hst (by show 2 * 0 + _ ≤ _; rw [Nat.mul_zero, Nat.zero_add]; exact hW) (hb hby hd) (fun _ _ => ⟨hargs, eT, hc, hs⟩)
  dsimp only at X' hQ q1 q2 q3 stp
  subst q1 q2 q3
  exact own_tr stp (k v T' _ L X' rfl hQ)
theorem own_intf (X : Stand p l e R s m args below meth c T locs cells slots) (hx : p.tables.exec = Jvm.exec) (hby : c.code = B) {Z : State} {a0 : Array Value} {h : Heap} {own : String} {index nl : Nat} {as' : Array Value} {W cc ss : Nat} {Q : Option Value → Heap → List Loc → Prop} {C : String} {y z : MethodName} {cnt : Nat} (hml : c.maxLocals = nl) (hZ : Z.Warmed39 s.vm) (hown : s.vm.findClass own = some m.cls)
    (w1 : (Cond.methodLink own index y).before args s = true) (w2 : (Cond.declares y).before args s = true) (w5 : (Cond.interfaceMethod y.cls y.cls y.name y.desc).before args s = true) (w3 : (Cond.selects C y z).before args s = true) (w4 : (Cond.instanceMethod z).before args s = true) (w6 : (Cond.publicMethod z).before args s = true) (w7 : (Cond.unhidden C y.name y.desc).before args s = true) (w8 : (Cond.castable C y.cls).before args s = true) (hy : y.cls ≠ "java/lang/invoke/MethodHandle" ∧ y.cls ≠ "java/lang/invoke/VarHandle")
    (hK : Back l R p e below s args z 5 W (fun P a => a = as' ∧ P.U.heap = h ∧ P.cells + cc ≤ R.cells ∧ P.slots + ss ≤ R.slots) (fun P _ v B => ∃ L, Q v B.U.heap L ∧ B.locs = P.locs ++ L ∧ B.cells = P.cells + cc ∧ B.slots = P.slots + ss)) (hsz : Ls.size = nl) {a : Addr} (hE : Exa Z h a C) {argsL rest : List Value} {ps : List FieldType} {r : Option FieldType} (hpd : parseMethodDescriptor y.desc = some ⟨ps, r⟩) (hlen : argsL.length = ps.length) (hst : st = argsL.reverse ++ .ref a :: rest) (hW : (rest.map fun v => v.category).sum ≤ W)
    (hd : decode B pc = .ok (.invokeinterface index cnt, 5)) (hp : pc + 5 = pc') (hargs : (.ref a :: argsL).toArray = as') (eT : T.heap = h) (hc : cells + cc ≤ R.cells) (hs : slots + ss ≤ R.slots)
    (k : ∀ (v : Option Value) (T' : State) (h' : Heap) (L : List Loc), Stand p l e R s m args below meth c T' (locs ++ L) (cells + cc) (slots + ss) → T'.heap = h' → Q v h' L → own_E p.tables e below G (T'.setTop (mkF m pc' Ls (v.toList ++ rest)))) : own_E p.tables e below G (T.setTop (mkF m pc Ls st)) := by
  subst hp
  obtain ⟨cq, kq, qa, qb, qc⟩ := isOf hZ eT hE
  obtain ⟨v, vm₁, ⟨T', L', k', n'⟩, -, X', ⟨L, hQ, q1, q2, q3⟩, stp⟩ := X.interfaceBack hx hown w1 w2 w5 w3 w4 w6 w7 w8 hy hK qa qb qc (g := mkF m pc Ls st) rfl (by rw [hml]; exact hsz) (Steps.refl _) (argsL := argsL) (rest := rest) (lenOf hpd hlen) hst (by show 2 * 0 + _ ≤ _; rw [Nat.mul_zero, Nat.zero_add]; exact hW) (hb hby hd) (fun _ _ => ⟨hargs, eT, hc, hs⟩)
  dsimp only at X' hQ q1 q2 q3 stp
  subst q1 q2 q3
  exact own_tr stp (k v T' _ L X' rfl hQ)
end OwnSteps

section OwnHeap
variable {p : Program} {l : Launch} {e : Env} {R : Room} {s : State} {m : MethodId} {args : Array Value} {below : List Frame} {meth : Method} {c : Code} {T : State} {locs : List Loc} {cells slots : Nat} {G : State → Outcome → Prop} {B : ByteArray} {pc pc' : Nat} {Ls Ls' : Array Slot} {st : List Value} {Z : State} {a0 : Array Value} {h h' h'' : Heap}
theorem own_xr : Ext h h := ⟨Nat.le_refl _, fun _ _ q => q⟩
theorem own_xt (E : Ext h h') (E' : Ext h' h'') : Ext h h'' := ⟨Nat.le_trans E.1 E'.1, fun a c q => E'.2 a c (E.2 a c q)⟩
theorem own_xk {ws : List Addr} (E : Ext h h') (K : Keep h' h'' ws) (q : ∀ x ∈ ws, h.size ≤ x) : Ext h h'' := ⟨Nat.le_trans E.1 K.1, fun a c r => K.2.1 a c (E.2 a c r) fun z => absurd (Array.getElem?_eq_some_iff.mp r).1 (Nat.not_lt.mpr (q a z))⟩
theorem own_xw {a : Addr} {sl : Nat} {v : Value} (E : Ext h h') (W : Wr h' h'' a sl v) (q : h.size ≤ a) : Ext h h'' := own_xk E (Keep.of_wr W) (allS q all0)
theorem own_kx {ws : List Addr} (E : Ext h h') : Keep h h' ws := (Keep.refl h ws).ext E
theorem own_fr1 {k : Nat} {L : List Loc} (N : Fr k L) {a : Addr} {sl : Nat} (q : k ≤ a) : Fr k (L ++ [⟨a, sl⟩]) := N.app fun y hy => by cases List.mem_singleton.mp hy; exact q
/-- a body's contract: called with these arguments over the heap h0 it returns as Q says -/
def own_Met (l : Launch) (Z : State) (x : MethodName) (bytes : ByteArray) (maxL : Nat) (ret : Option FieldType) (rm : Room) (as' : Array Value) (h0 : Heap) (Q : Option Value → Heap → List Loc → Prop) : Prop :=
  ∀ ws : List Jvm.Cond, MetFree l x (head1 (Jvm.Cond.code x bytes maxL ret :: ws) rm) (fun a U => a = as' ∧ Z.Warmed39 U.vm ∧ U.heap = h0) (fun _ _ _ _ _ => True) (fun _ U o U' => ∃ v L, o = .returned v ∧ Q v U'.heap L ∧ FrameEnd U o U' L rm.cells rm.slots)
theorem own_body {x : MethodName} {bytes : ByteArray} {maxL : Nat} {ret : Option FieldType} {rm : Room} {as' : Array Value} {h0 : Heap} {Q : Option Value → Heap → List Loc → Prop} (hpl : plainFor x = true)
    (body : ∀ (p : Program) (e : Env) (s : State) (m : MethodId) (below : List Frame) (meth : Method) (c : Code) (s₁ : State), p.tables.exec = Jvm.exec → c.code = bytes → c.maxLocals = maxL → s.vm.findClass x.cls = some m.cls → meth.name = x.name → meth.locks = false → meth.sig.returnType = ret → Z.Warmed39 s.vm → Stand p l e rm s m as' below meth c s₁ [] 0 0 → s₁.heap = h0 →
      own_E p.tables e below (own_End s below Q rm.cells rm.slots) (s₁.setTop (entryFrame m as' maxL))) : own_Met l Z x bytes maxL ret rm as' h0 Q := by
  intro ws
  refine MetFree.of_bodySF hpl hisR ?_
  intro p e s m args below meth c s₁ Bd hml0 hP hK
  obtain ⟨rfl, hZ, hh⟩ := hP
  obtain ⟨s₂, o, q1, q2, q3, q4⟩ := body p e s m below meth c s₁ Bd.exec Bd.bytes hml0 (findClass_of_methodNamed Bd.named) (name_of_methodNamed Bd.named Bd.method).1 (BodyLoose.notSynchronized Bd) Bd.returns hZ (Stand.of_body Bd) (by rw [← hh, Bd.state]; rfl)
  exact ⟨s₂, o, q1, q2, q3, q4⟩
theorem own_back {y : MethodName} {bytes : ByteArray} {maxL : Nat} {ret : Option FieldType} {rm : Room} {len W : Nat} {as' : Array Value} {Q : Option Value → Heap → List Loc → Prop} (hM : own_Met l Z y bytes maxL ret rm as' h Q)
    (hZ : Z.Warmed39 s.vm) (wc : (Jvm.Cond.code y bytes maxL ret).before a0 Z = true) (wz : (Jvm.Cond.initialized y.cls).before a0 Z = true) (hf : rm.frames + 1 ≤ R.frames) (hl : W + (maxL + 11) + rm.locals ≤ R.locals) :
    Back l R p e below s args y len W (fun A a => a = as' ∧ A.U.heap = h ∧ A.cells + rm.cells ≤ R.cells ∧ A.slots + rm.slots ≤ R.slots)
      (fun A _ v B => ∃ L, Q v B.U.heap L ∧ B.locs = A.locs ++ L ∧ B.cells = A.cells + rm.cells ∧ B.slots = A.slots + rm.slots) := backOf (hM []) hZ wc wz hf hl
theorem own_enter {m : MethodId} {A : Array Value} {ml : Nat} {Ls : Array Slot} (ef : entryFrame m A ml = mkF m 0 Ls []) (k : own_E p.tables e below G (T.setTop (mkF m 0 Ls []))) : own_E p.tables e below G (T.setTop (entryFrame m A ml)) := own_go (fun _ q => castTop ef q) k
theorem own_callM (X : Stand p l e R s m args below meth c T locs cells slots) (hx : p.tables.exec = Jvm.exec) (hby : c.code = B) {own : String} {index nl : Nat} {as' : Array Value} {cc ss maxL : Nat} {bytes : ByteArray} {ret : Option FieldType} {rm : Room} {Q : Option Value → Heap → List Loc → Prop} {y : MethodName} (hml : c.maxLocals = nl) (hZ : Z.Warmed39 s.vm) (hown : s.vm.findClass own = some m.cls) (w1 : (Jvm.Cond.methodLink own index y).before a0 Z = true) (w2 : (Jvm.Cond.static y).before a0 Z = true) (w3 : (Jvm.Cond.initialized y.cls).before a0 Z = true) (w4 : (Jvm.Cond.code y bytes maxL ret).before a0 Z = true) (hy : y.cls ≠ "java/lang/invoke/MethodHandle" ∧ y.cls ≠ "java/lang/invoke/VarHandle")
    (hM : own_Met l Z y bytes maxL ret rm as' h Q) (W : Nat) (hcc : rm.cells = cc) (hss : rm.slots = ss) (hf : rm.frames + 1 ≤ R.frames) (hl : W + (maxL + 11) + rm.locals ≤ R.locals) (hsz : Ls.size = nl) {argsL rest : List Value} {ps : List FieldType} {r : Option FieldType} (hpd : parseMethodDescriptor y.desc = some ⟨ps, r⟩) (hlen : argsL.length = ps.length) (hst : st = argsL.reverse ++ rest) (hW : (rest.map fun v => v.category).sum ≤ W) (hd : decode B pc = .ok (.invokestatic index, 3)) (hp : pc + 3 = pc') (hargs : argsL.toArray = as') (eT : T.heap = h) (hc : cells + cc ≤ R.cells) (hs : slots + ss ≤ R.slots)
    (k : ∀ (v : Option Value) (T' : State) (h' : Heap) (L : List Loc), Stand p l e R s m args below meth c T' (locs ++ L) (cells + cc) (slots + ss) → T'.heap = h' → Q v h' L → own_E p.tables e below G (T'.setTop (mkF m pc' Ls (v.toList ++ rest)))) : own_E p.tables e below G (T.setTop (mkF m pc Ls st)) := by
  subst hcc hss
  exact own_callS X hx hby hml hZ hown w1 w2 w3 w4 hy (own_back hM hZ w4 w3 hf hl) hsz hpd hlen hst hW hd hp hargs eT hc hs k
theorem own_specM (X : Stand p l e R s m args below meth c T locs cells slots) (hx : p.tables.exec = Jvm.exec) (hby : c.code = B) {own : String} {index nl : Nat} {as' : Array Value} {cc ss maxL : Nat} {bytes : ByteArray} {rm : Room} {Q : Option Value → Heap → List Loc → Prop} {y : MethodName} (hml : c.maxLocals = nl) (hZ : Z.Warmed39 s.vm) (hown : s.vm.findClass own = some m.cls) (hy1 : y.name = "<init>") (w1 : (Jvm.Cond.methodLink own index y).before a0 Z = true) (w2 : (Jvm.Cond.instanceMethod y).before a0 Z = true) (w3 : (Jvm.Cond.initialized y.cls).before a0 Z = true) (w4 : (Jvm.Cond.code y bytes maxL none).before a0 Z = true) (hy : y.cls ≠ "java/lang/invoke/MethodHandle" ∧ y.cls ≠ "java/lang/invoke/VarHandle")
    (hM : own_Met l Z y bytes maxL none rm as' h Q) (W : Nat) (hcc : rm.cells = cc) (hss : rm.slots = ss) (hf : rm.frames + 1 ≤ R.frames) (hl : W + (maxL + 11) + rm.locals ≤ R.locals) (hsz : Ls.size = nl) {a : Addr} {argsL rest : List Value} {ps : List FieldType} {r : Option FieldType} (hpd : parseMethodDescriptor y.desc = some ⟨ps, r⟩) (hlen : argsL.length = ps.length) (hst : st = argsL.reverse ++ .ref a :: rest) (hW : (rest.map fun v => v.category).sum ≤ W) (hd : decode B pc = .ok (.invokespecial index, 3)) (hp : pc + 3 = pc') (hargs : (.ref a :: argsL).toArray = as') (eT : T.heap = h) (hc : cells + cc ≤ R.cells) (hs : slots + ss ≤ R.slots)
    (k : ∀ (v : Option Value) (T' : State) (h' : Heap) (L : List Loc), Stand p l e R s m args below meth c T' (locs ++ L) (cells + cc) (slots + ss) → T'.heap = h' → Q v h' L → own_E p.tables e below G (T'.setTop (mkF m pc' Ls (v.toList ++ rest)))) : own_E p.tables e below G (T.setTop (mkF m pc Ls st)) := by
  subst hcc hss
  exact own_spec X hx hby hml hZ hown hy1 w1 w2 w4 hy (own_back hM hZ w4 w3 hf hl) hsz hpd hlen hst hW hd hp hargs eT hc hs k
theorem own_virtM (X : Stand p l e R s m args below meth c T locs cells slots) (hx : p.tables.exec = Jvm.exec) (hby : c.code = B) {own : String} {index nl : Nat} {as' : Array Value} {cc ss maxL : Nat} {bytes : ByteArray} {ret : Option FieldType} {rm : Room} {Q : Option Value → Heap → List Loc → Prop} {C : String} {y z : MethodName} (hml : c.maxLocals = nl) (hZ : Z.Warmed39 s.vm) (hown : s.vm.findClass own = some m.cls) (w1 : (Jvm.Cond.methodLink own index y).before a0 Z = true) (w2 : (Jvm.Cond.declares y).before a0 Z = true) (hnf : NotFace s y) (w5 : (Jvm.Cond.selects C y z).before a0 Z = true) (w6 : (Jvm.Cond.instanceMethod z).before a0 Z = true) (w3 : (Jvm.Cond.initialized z.cls).before a0 Z = true) (w4 : (Jvm.Cond.code z bytes maxL ret).before a0 Z = true) (hy : y.cls ≠ "java/lang/invoke/MethodHandle" ∧ y.cls ≠ "java/lang/invoke/VarHandle")
    (hM : own_Met l Z z bytes maxL ret rm as' h Q) (W : Nat) (hcc : rm.cells = cc) (hss : rm.slots = ss) (hf : rm.frames + 1 ≤ R.frames) (hl : W + (maxL + 11) + rm.locals ≤ R.locals) (hsz : Ls.size = nl) {a : Addr} (hE : Exa Z h a C) {argsL rest : List Value} {ps : List FieldType} {r : Option FieldType} (hpd : parseMethodDescriptor y.desc = some ⟨ps, r⟩) (hlen : argsL.length = ps.length) (hst : st = argsL.reverse ++ .ref a :: rest) (hW : (rest.map fun v => v.category).sum ≤ W) (hd : decode B pc = .ok (.invokevirtual index, 3)) (hp : pc + 3 = pc') (hargs : (.ref a :: argsL).toArray = as') (eT : T.heap = h) (hc : cells + cc ≤ R.cells) (hs : slots + ss ≤ R.slots)
    (k : ∀ (v : Option Value) (T' : State) (h' : Heap) (L : List Loc), Stand p l e R s m args below meth c T' (locs ++ L) (cells + cc) (slots + ss) → T'.heap = h' → Q v h' L → own_E p.tables e below G (T'.setTop (mkF m pc' Ls (v.toList ++ rest)))) : own_E p.tables e below G (T.setTop (mkF m pc Ls st)) := by
  subst hcc hss
  exact own_virt X hx hby hml hZ hown w1 w2 hnf w5 w6 hy (own_back hM hZ w4 w3 hf hl) hsz hE hpd hlen hst hW hd hp hargs eT hc hs k
theorem own_privM (X : Stand p l e R s m args below meth c T locs cells slots) (hx : p.tables.exec = Jvm.exec) (hby : c.code = B) {own : String} {index nl : Nat} {as' : Array Value} {cc ss maxL : Nat} {bytes : ByteArray} {ret : Option FieldType} {rm : Room} {Q : Option Value → Heap → List Loc → Prop} {C : String} {y : MethodName} (hml : c.maxLocals = nl) (hZ : Z.Warmed39 s.vm) (hown : s.vm.findClass own = some m.cls) (w1 : (Jvm.Cond.methodLink own index y).before a0 Z = true) (w6 : (Jvm.Cond.instanceMethod y).before a0 Z = true) (w5 : (Jvm.Cond.selects y.cls y y).before a0 Z = true) (w7 : (Jvm.Cond.privateMethod y).before a0 Z = true) (w3 : (Jvm.Cond.initialized y.cls).before a0 Z = true) (w4 : (Jvm.Cond.code y bytes maxL ret).before a0 Z = true) (hy : y.cls ≠ "java/lang/invoke/MethodHandle" ∧ y.cls ≠ "java/lang/invoke/VarHandle")
    (hM : own_Met l Z y bytes maxL ret rm as' h Q) (W : Nat) (hcc : rm.cells = cc) (hss : rm.slots = ss) (hf : rm.frames + 1 ≤ R.frames) (hl : W + (maxL + 11) + rm.locals ≤ R.locals) (hsz : Ls.size = nl) {a : Addr} (hE : Exa Z h a C) {argsL rest : List Value} {ps : List FieldType} {r : Option FieldType} (hpd : parseMethodDescriptor y.desc = some ⟨ps, r⟩) (hlen : argsL.length = ps.length) (hst : st = argsL.reverse ++ .ref a :: rest) (hW : (rest.map fun v => v.category).sum ≤ W) (hd : decode B pc = .ok (.invokevirtual index, 3)) (hp : pc + 3 = pc') (hargs : (.ref a :: argsL).toArray = as') (eT : T.heap = h) (hc : cells + cc ≤ R.cells) (hs : slots + ss ≤ R.slots)
    (k : ∀ (v : Option Value) (T' : State) (h' : Heap) (L : List Loc), Stand p l e R s m args below meth c T' (locs ++ L) (cells + cc) (slots + ss) → T'.heap = h' → Q v h' L → own_E p.tables e below G (T'.setTop (mkF m pc' Ls (v.toList ++ rest)))) : own_E p.tables e below G (T.setTop (mkF m pc Ls st)) := by
  subst hcc hss
  exact own_priv X hx hby hml hZ hown w1 w6 w5 w7 w4 hy (own_back hM hZ w4 w3 hf hl) hsz hE hpd hlen hst hW hd hp hargs eT hc hs k
theorem own_intfM (X : Stand p l e R s m args below meth c T locs cells slots) (hx : p.tables.exec = Jvm.exec) (hby : c.code = B) {own : String} {index nl : Nat} {as' : Array Value} {cc ss maxL : Nat} {bytes : ByteArray} {ret : Option FieldType} {rm : Room} {Q : Option Value → Heap → List Loc → Prop} {C : String} {y z : MethodName} {cnt : Nat} (hml : c.maxLocals = nl) (hZ : Z.Warmed39 s.vm) (hown : s.vm.findClass own = some m.cls) (w1 : (Jvm.Cond.methodLink own index y).before args s = true) (w2 : (Jvm.Cond.declares y).before args s = true) (w5 : (Jvm.Cond.interfaceMethod y.cls y.cls y.name y.desc).before args s = true) (w6 : (Jvm.Cond.selects C y z).before args s = true) (w7 : (Jvm.Cond.instanceMethod z).before args s = true) (w8 : (Jvm.Cond.publicMethod z).before args s = true) (w9 : (Jvm.Cond.unhidden C y.name y.desc).before args s = true) (w10 : (Jvm.Cond.castable C y.cls).before args s = true) (w3 : (Jvm.Cond.initialized z.cls).before a0 Z = true) (w4 : (Jvm.Cond.code z bytes maxL ret).before a0 Z = true) (hy : y.cls ≠ "java/lang/invoke/MethodHandle" ∧ y.cls ≠ "java/lang/invoke/VarHandle")
    (hM : own_Met l Z z bytes maxL ret rm as' h Q) (W : Nat) (hcc : rm.cells = cc) (hss : rm.slots = ss) (hf : rm.frames + 1 ≤ R.frames) (hl : W + (maxL + 11) + rm.locals ≤ R.locals) (hsz : Ls.size = nl) {a : Addr} (hE : Exa Z h a C) {argsL rest : List Value} {ps : List FieldType} {r : Option FieldType} (hpd : parseMethodDescriptor y.desc = some ⟨ps, r⟩) (hlen : argsL.length = ps.length) (hst : st = argsL.reverse ++ .ref a :: rest) (hW : (rest.map fun v => v.category).sum ≤ W) (hd : decode B pc = .ok (.invokeinterface index cnt, 5)) (hp : pc + 5 = pc') (hargs : (.ref a :: argsL).toArray = as') (eT : T.heap = h) (hc : cells + cc ≤ R.cells) (hs : slots + ss ≤ R.slots)
    (k : ∀ (v : Option Value) (T' : State) (h' : Heap) (L : List Loc), Stand p l e R s m args below meth c T' (locs ++ L) (cells + cc) (slots + ss) → T'.heap = h' → Q v h' L → own_E p.tables e below G (T'.setTop (mkF m pc' Ls (v.toList ++ rest)))) : own_E p.tables e below G (T.setTop (mkF m pc Ls st)) := by
  subst hcc hss
  exact own_intf (a0 := a0) X hx hby hml hZ hown w1 w2 w5 w6 w7 w8 w9 w10 hy (own_back hM hZ w4 w3 hf hl) hsz hE hpd hlen hst hW hd hp hargs eT hc hs k
theorem own_newO (X : Stand p l e R s m args below meth c T locs cells slots) (hx : p.tables.exec = Jvm.exec) (hby : c.code = B) (hZ : Z.Warmed39 s.vm) {own C : String} {index n : Nat} (hown : s.vm.findClass own = some m.cls) (w : (Jvm.Cond.classLink own index C).before a0 Z = true) (wi : (Jvm.Cond.instantiable C n).before a0 Z = true) (wz : (Jvm.Cond.initialized C).before a0 Z = true) (eT : T.heap = h)
    (hd : decode B pc = .ok (.new index, 3)) (hp : pc + 3 = pc') (hc : cells + 1 ≤ R.cells) (hl : slots + n ≤ R.slots)
    (k : ∀ (T' : State) (h' : Heap) (b : Addr), b = h.size → Stand p l e R s m args below meth c T' locs (cells + 1) (slots + n) → T'.heap = h' → Ext h h' → Exa Z h' b C → (∀ {O nm d : String} {ty : FieldType}, Laid Z a0 C O nm d → parseFieldDescriptor d = some ty → Fld Z h' b O nm d (defaultValue ty)) → own_E p.tables e below G (T'.setTop (mkF m pc' Ls (.ref b :: st)))) : own_E p.tables e below G (T.setTop (mkF m pc Ls (st))) := by
  subst hp
  obtain ⟨T', h', X', e', E', A', D', -, stp⟩ := newO X hx hZ hown w wi wz eT (g := mkF m pc Ls st) rfl (hb hby hd) hc hl
  exact own_go stp (k T' h' _ rfl X' e' E' A' D')
theorem own_newP (X : Stand p l e R s m args below meth c T locs cells slots) (hx : p.tables.exec = Jvm.exec) (hby : c.code = B) (hZ : Z.Warmed39 s.vm) {aty : ArrayType} (w : (Jvm.Cond.arrayClass (newarray.typeOf aty)).before a0 Z = true) (eT : T.heap = h) {n : Int32} {cap : Nat} (hd : decode B pc = .ok (.newarray aty, 2)) (hp : pc + 2 = pc') (hn : ¬ n < 0) (hcap : n.toNatClampNeg ≤ cap) (hbig : cap * 8 ≤ 536870912) (hc : cells + 1 ≤ R.cells) (hl : slots + cap ≤ R.slots)
    (k : ∀ (T' : State) (h' : Heap) (b : Addr) (kA : ClassId), b = h.size → Stand p l e R s m args below meth c T' locs (cells + 1) (slots + cap) → T'.heap = h' → Ext h h' → Arv Z h' b kA (newarray.typeOf aty) n [] (defaultValue (newarray.typeOf aty)) → own_E p.tables e below G (T'.setTop (mkF m pc' Ls (.ref b :: st)))) : own_E p.tables e below G (T.setTop (mkF m pc Ls (.int n :: st))) := by
  subst hp
  obtain ⟨T', h', kA, X', e', E', A', stp⟩ := newP X hx hZ w eT (g := mkF m pc Ls (.int n :: st)) rfl (hb hby hd) rfl hn hcap hbig hc hl
  exact own_go stp (k T' h' _ kA rfl X' e' E' (Arv.new A' hn))
theorem own_newR (X : Stand p l e R s m args below meth c T locs cells slots) (hx : p.tables.exec = Jvm.exec) (hby : c.code = B) (hZ : Z.Warmed39 s.vm) {own C : String} {index : Nat} (hown : s.vm.findClass own = some m.cls) (w1 : (Jvm.Cond.classLink own index C).before a0 Z = true) (w2 : (Jvm.Cond.arrayOver (.object C)).before a0 Z = true) (eT : T.heap = h) {n : Int32} {cap : Nat} (hd : decode B pc = .ok (.anewarray index, 3)) (hp : pc + 3 = pc') (hn : ¬ n < 0) (hcap : n.toNatClampNeg ≤ cap) (hbig : cap * 8 ≤ 536870912) (hc : cells + 1 ≤ R.cells) (hl : slots + cap ≤ R.slots)
    (k : ∀ (T' : State) (h' : Heap) (b : Addr) (kA : ClassId), b = h.size → Stand p l e R s m args below meth c T' locs (cells + 1) (slots + cap) → T'.heap = h' → Ext h h' → Arv Z h' b kA (.object C) n [] .null → Ovr Z kA C → own_E p.tables e below G (T'.setTop (mkF m pc' Ls (.ref b :: st)))) : own_E p.tables e below G (T.setTop (mkF m pc Ls (.int n :: st))) := by
  subst hp
  obtain ⟨T', h', kA, X', e', E', A', O', stp⟩ := newR X hx hZ hown w1 w2 eT (g := mkF m pc Ls (.int n :: st)) rfl (hb hby hd) rfl hn hcap hbig hc hl
  exact own_go stp (k T' h' _ kA rfl X' e' E' (Arv.new A' hn) O')
theorem own_getF (X : Stand p l e R s m args below meth c T locs cells slots) (hx : p.tables.exec = Jvm.exec) (hby : c.code = B) (hZ : Z.Warmed39 s.vm) {own R0 O n d host : String} {index : Nat} (hown : s.vm.findClass own = some m.cls) (w : (Jvm.Cond.fieldLink own index R0 n d).before a0 Z = true ∨ (Jvm.Cond.fieldLinkNest own index R0 n d host).before a0 Z = true) (via : Via Z R0 O n d) (eT : T.heap = h) {a : Addr} {v : Value} (F : Fld Z h a O n d v) (hd : decode B pc = .ok (.getfield index, 3)) (hp : pc + 3 = pc')
    (k : ∀ T' : State, Stand p l e R s m args below meth c T' locs cells slots → T'.heap = h → own_E p.tables e below G (T'.setTop (mkF m pc' Ls (v :: st)))) : own_E p.tables e below G (T.setTop (mkF m pc Ls (.ref a :: st))) := by
  subst hp
  obtain ⟨T', X', e', stp⟩ := getF X hx hZ hown w via eT F (g := mkF m pc Ls (.ref a :: st)) rfl rfl (hb hby hd)
  exact own_go stp (k T' X' e')
theorem own_getS (X : Stand p l e R s m args below meth c T locs cells slots) (hx : p.tables.exec = Jvm.exec) (hby : c.code = B) (hZ : Z.Warmed39 s.vm) {own R0 O n d host : String} {index : Nat} (hown : s.vm.findClass own = some m.cls) (w : (Jvm.Cond.fieldLink own index R0 n d).before a0 Z = true ∨ (Jvm.Cond.fieldLinkNest own index R0 n d host).before a0 Z = true) (via : Via Z R0 O n d) (eT : T.heap = h) {v : Value} (F : Sta Z h O n d v) (hd : decode B pc = .ok (.getstatic index, 3)) (hp : pc + 3 = pc')
    (k : ∀ T' : State, Stand p l e R s m args below meth c T' locs cells slots → T'.heap = h → own_E p.tables e below G (T'.setTop (mkF m pc' Ls (v :: st)))) : own_E p.tables e below G (T.setTop (mkF m pc Ls (st))) := by
  subst hp
  obtain ⟨T', X', e', stp⟩ := getS2 X hx hZ hown w via eT F (g := mkF m pc Ls st) rfl (hb hby hd)
  exact own_go stp (k T' X' e')
theorem own_putF (X : Stand p l e R s m args below meth c T locs cells slots) (hx : p.tables.exec = Jvm.exec) (hby : c.code = B) (hZ : Z.Warmed39 s.vm) {own R0 O n d host C : String} {index kk : Nat} {ty : FieldType} (hown : s.vm.findClass own = some m.cls) (w : (Jvm.Cond.fieldLink own index R0 n d).before a0 Z = true ∨ (Jvm.Cond.fieldLinkNest own index R0 n d host).before a0 Z = true) (via : Via Z R0 O n d) (eT : T.heap = h) {a : Addr} {v old : Value} (F : Fld Z h a O n d old) (A : Exa Z h a C)
    (L : (Jvm.Cond.lays C O n d).before a0 Z = true ∨ ((Jvm.Cond.laysFinal C O n d).before a0 Z = true ∧ own = O ∧ meth.name = "<init>")) (wi : (Jvm.Cond.instantiable C kk).before a0 Z = true) (hty : parseFieldDescriptor d = some ty) (hn : narrow ty v = v) (hf : fits ty v = true) (hd : decode B pc = .ok (.putfield index, 3)) (hp : pc + 3 = pc')
    (k : ∀ (T' : State) (h' : Heap), Stand p l e R s m args below meth c T' (locs ++ [⟨a, Jvm.RoadKit.slotOf Z O n d⟩]) cells slots → T'.heap = h' → Wr h h' a (Jvm.RoadKit.slotOf Z O n d) v → Fld Z h' a O n d v → Exa Z h' a C → own_E p.tables e below G (T'.setTop (mkF m pc' Ls (st)))) : own_E p.tables e below G (T.setTop (mkF m pc Ls (v :: .ref a :: st))) := by
  subst hp
  obtain ⟨T', h', X', e', W', stp⟩ := putF X hx hZ hown w via eT F A L wi hty hn hf (g := mkF m pc Ls (v :: .ref a :: st)) rfl rfl (hb hby hd)
  exact own_go stp (k T' h' X' e' W' (F.same W') (A.wr W'))
theorem own_putFN (X : Stand p l e R s m args below meth c T locs cells slots) (hx : p.tables.exec = Jvm.exec) (hby : c.code = B) (hZ : Z.Warmed39 s.vm) {own R0 O n d C : String} {index kk : Nat} {ty : FieldType} (hown : s.vm.findClass own = some m.cls) (w : (Jvm.Cond.fieldLink own index R0 n d).before a0 Z = true) (via : Via Z R0 O n d) (eT : T.heap = h) {a : Addr} {v v' old : Value} (F : Fld Z h a O n d old) (A : Exa Z h a C)
    (L : (Jvm.Cond.lays C O n d).before a0 Z = true ∨ ((Jvm.Cond.laysFinal C O n d).before a0 Z = true ∧ own = O ∧ meth.name = "<init>")) (wi : (Jvm.Cond.instantiable C kk).before a0 Z = true) (hty : parseFieldDescriptor d = some ty) (hn : narrow ty v = v') (hf : fits ty v' = true) (hd : decode B pc = .ok (.putfield index, 3)) (hp : pc + 3 = pc')
    (k : ∀ (T' : State) (h' : Heap), Stand p l e R s m args below meth c T' (locs ++ [⟨a, Jvm.RoadKit.slotOf Z O n d⟩]) cells slots → T'.heap = h' → Wr h h' a (Jvm.RoadKit.slotOf Z O n d) v' → Fld Z h' a O n d v' → Exa Z h' a C → own_E p.tables e below G (T'.setTop (mkF m pc' Ls (st)))) : own_E p.tables e below G (T.setTop (mkF m pc Ls (v :: .ref a :: st))) := by
  subst hp
  obtain ⟨T', h', X', e', W', stp⟩ := putFN X hx hZ hown w via eT F A L wi hty hn hf (g := mkF m pc Ls (v :: .ref a :: st)) rfl rfl (hb hby hd)
  exact own_go stp (k T' h' X' e' W' (F.same W') (A.wr W'))
theorem own_initO (X : Stand p l e R s m args below meth c T locs cells slots) (hx : p.tables.exec = Jvm.exec) (hby : c.code = B) (hZ : Z.Warmed39 s.vm) {own : String} {idx nl W : Nat} (hml : c.maxLocals = nl) (hown : s.vm.findClass own = some m.cls) (w1 : (Jvm.Cond.methodLink own idx Lib.objectInit).before a0 Z = true) (w2 : (Jvm.Cond.instanceMethod Lib.objectInit).before a0 Z = true) (w3 : (Jvm.Cond.code Lib.objectInit ⟨#[0xb1]⟩ 1 none).before a0 Z = true) (eT : T.heap = h) (hsz : Ls.size = nl) {a : Addr} (hd : decode B pc = .ok (.invokespecial idx, 3)) (hp : pc + 3 = pc') (hf : 1 ≤ R.frames) (hW : (st.map fun v => v.category).sum ≤ W) (hl : W + 12 ≤ R.locals)
    (k : ∀ T' : State, Stand p l e R s m args below meth c T' locs cells slots → T'.heap = h → own_E p.tables e below G (T'.setTop (mkF m pc' Ls (st)))) : own_E p.tables e below G (T.setTop (mkF m pc Ls (.ref a :: st))) := by
  subst hp
  obtain ⟨T', X', e', stp⟩ := initO X hx hZ hown w1 w2 w3 eT (g := mkF m pc Ls (.ref a :: st)) rfl (by rw [hml]; exact hsz) rfl (hb hby hd) hf (W := W) (by show 2 * 0 + _ ≤ _; rw [Nat.mul_zero, Nat.zero_add]; exact hW) hl
  exact own_go stp (k T' X' e')
theorem own_ialoadV (X : Stand p l e R s m args below meth c T locs cells slots) (hx : p.tables.exec = Jvm.exec) (hby : c.code = B) (hZ : Z.Warmed39 s.vm) (eT : T.heap = h) {a : Addr} {kA : ClassId} {z j : Int32} {vs : List Value} {dv v : Value} (A : Arv Z h a kA .int z vs dv) (hj : ¬ j < 0 ∧ j < z) (hv : vs.getD j.toNatClampNeg dv = v) (hd : decode B pc = .ok (.iaload, 1)) (hp : pc + 1 = pc')
    (k : own_E p.tables e below G (T.setTop (mkF m pc' Ls (v :: st)))) : own_E p.tables e below G (T.setTop (mkF m pc Ls (.int j :: .ref a :: st))) := by
  subst hp
  obtain ⟨cl, Ar, -, S, -, H, -⟩ := A
  exact own_go (fun t q => X.iaload hx (by rw [eT]; exact Ar.1) (State.isArrayOf_alike hZ.alike Ar.2.1) Ar.2.2 (inb_of S hj) (H.at (inb_of S hj) hv) (g := mkF m pc Ls (.int j :: .ref a :: st)) rfl rfl (hb hby hd) t q) k
theorem own_laloadV (X : Stand p l e R s m args below meth c T locs cells slots) (hx : p.tables.exec = Jvm.exec) (hby : c.code = B) (hZ : Z.Warmed39 s.vm) (eT : T.heap = h) {a : Addr} {kA : ClassId} {z j : Int32} {vs : List Value} {dv v : Value} (A : Arv Z h a kA .long z vs dv) (hj : ¬ j < 0 ∧ j < z) (hv : vs.getD j.toNatClampNeg dv = v) (hd : decode B pc = .ok (.laload, 1)) (hp : pc + 1 = pc')
    (k : own_E p.tables e below G (T.setTop (mkF m pc' Ls (v :: st)))) : own_E p.tables e below G (T.setTop (mkF m pc Ls (.int j :: .ref a :: st))) := by
  subst hp
  obtain ⟨cl, Ar, -, S, -, H, -⟩ := A
  exact own_go (fun t q => X.laload hx (by rw [eT]; exact Ar.1) (State.isArrayOf_alike hZ.alike Ar.2.1) Ar.2.2 (inb_of S hj) (H.at (inb_of S hj) hv) (g := mkF m pc Ls (.int j :: .ref a :: st)) rfl rfl (hb hby hd) t q) k
theorem own_caloadV (X : Stand p l e R s m args below meth c T locs cells slots) (hx : p.tables.exec = Jvm.exec) (hby : c.code = B) (hZ : Z.Warmed39 s.vm) (eT : T.heap = h) {a : Addr} {kA : ClassId} {z j : Int32} {vs : List Value} {dv v : Value} (A : Arv Z h a kA .char z vs dv) (hj : ¬ j < 0 ∧ j < z) (hv : vs.getD j.toNatClampNeg dv = v) (hd : decode B pc = .ok (.caload, 1)) (hp : pc + 1 = pc')
    (k : own_E p.tables e below G (T.setTop (mkF m pc' Ls (v :: st)))) : own_E p.tables e below G (T.setTop (mkF m pc Ls (.int j :: .ref a :: st))) := by
  subst hp
  obtain ⟨cl, Ar, -, S, -, H, -⟩ := A
  exact own_go (fun t q => X.caload hx (by rw [eT]; exact Ar.1) (State.isArrayOf_alike hZ.alike Ar.2.1) Ar.2.2 (inb_of S hj) (H.at (inb_of S hj) hv) (g := mkF m pc Ls (.int j :: .ref a :: st)) rfl rfl (hb hby hd) t q) k
theorem own_baloadV (X : Stand p l e R s m args below meth c T locs cells slots) (hx : p.tables.exec = Jvm.exec) (hby : c.code = B) (hZ : Z.Warmed39 s.vm) (eT : T.heap = h) {a : Addr} {kA : ClassId} {z j : Int32} {vs : List Value} {dv v : Value} (A : Arv Z h a kA .byte z vs dv) (hj : ¬ j < 0 ∧ j < z) (hv : vs.getD j.toNatClampNeg dv = v) (hd : decode B pc = .ok (.baload, 1)) (hp : pc + 1 = pc')
    (k : own_E p.tables e below G (T.setTop (mkF m pc' Ls (v :: st)))) : own_E p.tables e below G (T.setTop (mkF m pc Ls (.int j :: .ref a :: st))) := by
  subst hp
  obtain ⟨cl, Ar, -, S, -, H, -⟩ := A
  exact own_go (fun t q => X.baloadBytes hx (by rw [eT]; exact Ar.1) (State.isArrayOf_alike hZ.alike Ar.2.1) Ar.2.2 (inb_of S hj) (H.at (inb_of S hj) hv) (g := mkF m pc Ls (.int j :: .ref a :: st)) rfl rfl (hb hby hd) t q) k
theorem own_daloadV (X : Stand p l e R s m args below meth c T locs cells slots) (hx : p.tables.exec = Jvm.exec) (hby : c.code = B) (hZ : Z.Warmed39 s.vm) (eT : T.heap = h) {a : Addr} {kA : ClassId} {z j : Int32} {vs : List Value} {dv v : Value} (A : Arv Z h a kA .double z vs dv) (hj : ¬ j < 0 ∧ j < z) (hv : vs.getD j.toNatClampNeg dv = v) (hd : decode B pc = .ok (.daload, 1)) (hp : pc + 1 = pc')
    (k : own_E p.tables e below G (T.setTop (mkF m pc' Ls (v :: st)))) : own_E p.tables e below G (T.setTop (mkF m pc Ls (.int j :: .ref a :: st))) := by
  subst hp
  obtain ⟨cl, Ar, -, S, -, H, -⟩ := A
  exact own_go (fun t q => X.daload hx (by rw [eT]; exact Ar.1) (State.isArrayOf_alike hZ.alike Ar.2.1) Ar.2.2 (inb_of S hj) (H.at (inb_of S hj) hv) (g := mkF m pc Ls (.int j :: .ref a :: st)) rfl rfl (hb hby hd) t q) k
theorem own_aaloadV (X : Stand p l e R s m args below meth c T locs cells slots) (hx : p.tables.exec = Jvm.exec) (hby : c.code = B) (hZ : Z.Warmed39 s.vm) (eT : T.heap = h) {a : Addr} {kA : ClassId} {ty : FieldType} {z j : Int32} {vs : List Value} {dv v : Value} (A : Arv Z h a kA ty z vs dv) (hty : ty.isReference = true) (hj : ¬ j < 0 ∧ j < z) (hv : vs.getD j.toNatClampNeg dv = v) (hd : decode B pc = .ok (.aaload, 1)) (hp : pc + 1 = pc')
    (k : own_E p.tables e below G (T.setTop (mkF m pc' Ls (v :: st)))) : own_E p.tables e below G (T.setTop (mkF m pc Ls (.int j :: .ref a :: st))) := by
  subst hp
  obtain ⟨cl, Ar, -, S, -, H, -⟩ := A
  exact own_go (fun t q => X.aaload hx (by rw [eT]; exact Ar.1) (State.isArrayOf_alike hZ.alike Ar.2.1) hty Ar.2.2 (inb_of S hj) (H.at (inb_of S hj) hv) (g := mkF m pc Ls (.int j :: .ref a :: st)) rfl rfl (hb hby hd) t q) k
theorem own_alenV (X : Stand p l e R s m args below meth c T locs cells slots) (hx : p.tables.exec = Jvm.exec) (hby : c.code = B) (hZ : Z.Warmed39 s.vm) (eT : T.heap = h) {a : Addr} {kA : ClassId} {ty : FieldType} {z : Int32} {vs : List Value} {dv : Value} (A : Arv Z h a kA ty z vs dv) (hd : decode B pc = .ok (.arraylength, 1)) (hp : pc + 1 = pc')
    (k : own_E p.tables e below G (T.setTop (mkF m pc' Ls (.int z :: st)))) : own_E p.tables e below G (T.setTop (mkF m pc Ls (.ref a :: st))) := by
  subst hp
  obtain ⟨cl, Ar, -, S, N, -, -⟩ := A
  refine own_go (fun t q => X.arraylength hx (by rw [eT]; exact Ar.1) (State.isArrayOf_alike hZ.alike Ar.2.1) (g := mkF m pc Ls (.ref a :: st)) rfl rfl (hb hby hd) t ?_) k
  rw [len_of S N]; exact q
theorem own_stI (X : Stand p l e R s m args below meth c T locs cells slots) (hx : p.tables.exec = Jvm.exec) (hby : c.code = B) (hZ : Z.Warmed39 s.vm) (eT : T.heap = h) {a : Addr} {kA : ClassId} {z j : Int32} {vs : List Value} {dv : Value} {x : Int32} (A : Arv Z h a kA .int z vs dv) (hj : ¬ j < 0 ∧ j < z) (i : Nat) (hi : j.toNatClampNeg = i) (hlen : i < vs.length) (hd : decode B pc = .ok (.iastore, 1)) (hp : pc + 1 = pc')
    (k : ∀ (T' : State) (h' : Heap), Stand p l e R s m args below meth c T' (locs ++ [⟨a, j.toNatClampNeg⟩]) cells slots → T'.heap = h' → Wr h h' a j.toNatClampNeg (.int x) → Arv Z h' a kA .int z (vs.set i (.int x)) dv → own_E p.tables e below G (T'.setTop (mkF m pc' Ls (st)))) : own_E p.tables e below G (T.setTop (mkF m pc Ls (.int x :: .int j :: .ref a :: st))) := by
  subst hp
  obtain ⟨cl, Ar, q, S, N, H, F⟩ := A
  obtain ⟨T', h', X', e', W', stp⟩ := stI X hx hZ eT Ar (j := j) (inb_of S hj) (g := mkF m pc Ls (.int x :: .int j :: .ref a :: st)) rfl rfl (hb hby hd)
  exact own_go stp (k T' h' X' e' W' (Arv.set Ar q S N H F rfl W' i hi hlen))
theorem own_stJ (X : Stand p l e R s m args below meth c T locs cells slots) (hx : p.tables.exec = Jvm.exec) (hby : c.code = B) (hZ : Z.Warmed39 s.vm) (eT : T.heap = h) {a : Addr} {kA : ClassId} {z j : Int32} {vs : List Value} {dv : Value} {x : Int64} (A : Arv Z h a kA .long z vs dv) (hj : ¬ j < 0 ∧ j < z) (i : Nat) (hi : j.toNatClampNeg = i) (hlen : i < vs.length) (hd : decode B pc = .ok (.lastore, 1)) (hp : pc + 1 = pc')
    (k : ∀ (T' : State) (h' : Heap), Stand p l e R s m args below meth c T' (locs ++ [⟨a, j.toNatClampNeg⟩]) cells slots → T'.heap = h' → Wr h h' a j.toNatClampNeg (.long x) → Arv Z h' a kA .long z (vs.set i (.long x)) dv → own_E p.tables e below G (T'.setTop (mkF m pc' Ls (st)))) : own_E p.tables e below G (T.setTop (mkF m pc Ls (.long x :: .int j :: .ref a :: st))) := by
  subst hp
  obtain ⟨cl, Ar, q, S, N, H, F⟩ := A
  obtain ⟨T', h', X', e', W', stp⟩ := stJ X hx hZ eT Ar (j := j) (inb_of S hj) (g := mkF m pc Ls (.long x :: .int j :: .ref a :: st)) rfl rfl (hb hby hd)
  exact own_go stp (k T' h' X' e' W' (Arv.set Ar q S N H F rfl W' i hi hlen))
theorem own_stC (X : Stand p l e R s m args below meth c T locs cells slots) (hx : p.tables.exec = Jvm.exec) (hby : c.code = B) (hZ : Z.Warmed39 s.vm) (eT : T.heap = h) {a : Addr} {kA : ClassId} {z j : Int32} {vs : List Value} {dv : Value} {x : Int32} (A : Arv Z h a kA .char z vs dv) (hj : ¬ j < 0 ∧ j < z) (i : Nat) (hi : j.toNatClampNeg = i) (hlen : i < vs.length) (hd : decode B pc = .ok (.castore, 1)) (hp : pc + 1 = pc')
    (k : ∀ (T' : State) (h' : Heap), Stand p l e R s m args below meth c T' (locs ++ [⟨a, j.toNatClampNeg⟩]) cells slots → T'.heap = h' → Wr h h' a j.toNatClampNeg (.int (nar .char x)) → Arv Z h' a kA .char z (vs.set i (.int (nar .char x))) dv → own_E p.tables e below G (T'.setTop (mkF m pc' Ls (st)))) : own_E p.tables e below G (T.setTop (mkF m pc Ls (.int x :: .int j :: .ref a :: st))) := by
  subst hp
  obtain ⟨cl, Ar, q, S, N, H, F⟩ := A
  obtain ⟨T', h', X', e', W', stp⟩ := stC X hx hZ eT Ar (j := j) (inb_of S hj) (g := mkF m pc Ls (.int x :: .int j :: .ref a :: st)) rfl rfl (hb hby hd)
  exact own_go stp (k T' h' X' e' W' (Arv.set Ar q S N H F (fits_nar_char _) W' i hi hlen))
theorem own_stB (X : Stand p l e R s m args below meth c T locs cells slots) (hx : p.tables.exec = Jvm.exec) (hby : c.code = B) (hZ : Z.Warmed39 s.vm) (eT : T.heap = h) {a : Addr} {kA : ClassId} {z j : Int32} {vs : List Value} {dv : Value} {x : Int32} (A : Arv Z h a kA .byte z vs dv) (hj : ¬ j < 0 ∧ j < z) (i : Nat) (hi : j.toNatClampNeg = i) (hlen : i < vs.length) (hd : decode B pc = .ok (.bastore, 1)) (hp : pc + 1 = pc')
    (k : ∀ (T' : State) (h' : Heap), Stand p l e R s m args below meth c T' (locs ++ [⟨a, j.toNatClampNeg⟩]) cells slots → T'.heap = h' → Wr h h' a j.toNatClampNeg (.int (nar .byte x)) → Arv Z h' a kA .byte z (vs.set i (.int (nar .byte x))) dv → own_E p.tables e below G (T'.setTop (mkF m pc' Ls (st)))) : own_E p.tables e below G (T.setTop (mkF m pc Ls (.int x :: .int j :: .ref a :: st))) := by
  subst hp
  obtain ⟨cl, Ar, q, S, N, H, F⟩ := A
  obtain ⟨T', h', X', e', W', stp⟩ := stB X hx hZ eT Ar (j := j) (inb_of S hj) (g := mkF m pc Ls (.int x :: .int j :: .ref a :: st)) rfl rfl (hb hby hd)
  exact own_go stp (k T' h' X' e' W' (Arv.set Ar q S N H F (fits_nar_byte _) W' i hi hlen))
theorem own_stZ (X : Stand p l e R s m args below meth c T locs cells slots) (hx : p.tables.exec = Jvm.exec) (hby : c.code = B) (hZ : Z.Warmed39 s.vm) (eT : T.heap = h) {a : Addr} {kA : ClassId} {z j : Int32} {vs : List Value} {dv : Value} {x : Int32} (A : Arv Z h a kA .boolean z vs dv) (hj : ¬ j < 0 ∧ j < z) (i : Nat) (hi : j.toNatClampNeg = i) (hlen : i < vs.length) (hd : decode B pc = .ok (.bastore, 1)) (hp : pc + 1 = pc')
    (k : ∀ (T' : State) (h' : Heap), Stand p l e R s m args below meth c T' (locs ++ [⟨a, j.toNatClampNeg⟩]) cells slots → T'.heap = h' → Wr h h' a j.toNatClampNeg (.int (nar .boolean x)) → Arv Z h' a kA .boolean z (vs.set i (.int (nar .boolean x))) dv → own_E p.tables e below G (T'.setTop (mkF m pc' Ls (st)))) : own_E p.tables e below G (T.setTop (mkF m pc Ls (.int x :: .int j :: .ref a :: st))) := by
  subst hp
  obtain ⟨cl, Ar, q, S, N, H, F⟩ := A
  obtain ⟨T', h', X', e', W', stp⟩ := stZ X hx hZ eT Ar (j := j) (inb_of S hj) (g := mkF m pc Ls (.int x :: .int j :: .ref a :: st)) rfl rfl (hb hby hd)
  exact own_go stp (k T' h' X' e' W' (Arv.set Ar q S N H F (fits_nar_bool _) W' i hi hlen))
theorem own_stD (X : Stand p l e R s m args below meth c T locs cells slots) (hx : p.tables.exec = Jvm.exec) (hby : c.code = B) (hZ : Z.Warmed39 s.vm) (eT : T.heap = h) {a : Addr} {kA : ClassId} {z j : Int32} {vs : List Value} {dv : Value} {x : UInt64} (A : Arv Z h a kA .double z vs dv) (hj : ¬ j < 0 ∧ j < z) (i : Nat) (hi : j.toNatClampNeg = i) (hlen : i < vs.length) (hd : decode B pc = .ok (.dastore, 1)) (hp : pc + 1 = pc')
    (k : ∀ (T' : State) (h' : Heap), Stand p l e R s m args below meth c T' (locs ++ [⟨a, j.toNatClampNeg⟩]) cells slots → T'.heap = h' → Wr h h' a j.toNatClampNeg (.double x) → Arv Z h' a kA .double z (vs.set i (.double x)) dv → own_E p.tables e below G (T'.setTop (mkF m pc' Ls (st)))) : own_E p.tables e below G (T.setTop (mkF m pc Ls (.double x :: .int j :: .ref a :: st))) := by
  subst hp
  obtain ⟨cl, Ar, q, S, N, H, F⟩ := A
  obtain ⟨T', h', X', e', W', stp⟩ := stD X hx hZ eT Ar (j := j) (inb_of S hj) (g := mkF m pc Ls (.double x :: .int j :: .ref a :: st)) rfl rfl (hb hby hd)
  exact own_go stp (k T' h' X' e' W' (Arv.set Ar q S N H F rfl W' i hi hlen))
theorem own_stR (X : Stand p l e R s m args below meth c T locs cells slots) (hx : p.tables.exec = Jvm.exec) (hby : c.code = B) (hZ : Z.Warmed39 s.vm) (eT : T.heap = h) {a : Addr} {kA : ClassId} {ty : FieldType} {z j : Int32} {vs : List Value} {dv v : Value} (A : Arv Z h a kA ty z vs dv) (hty : ty.isReference = true) (hv : v.isRef = true) (F : Sto Z h a v) (hj : ¬ j < 0 ∧ j < z) (i : Nat) (hi : j.toNatClampNeg = i) (hlen : i < vs.length) (hd : decode B pc = .ok (.aastore, 1)) (hp : pc + 1 = pc')
    (k : ∀ (T' : State) (h' : Heap), Stand p l e R s m args below meth c T' (locs ++ [⟨a, j.toNatClampNeg⟩]) cells slots → T'.heap = h' → Wr h h' a j.toNatClampNeg v → Arv Z h' a kA ty z (vs.set i v) dv → own_E p.tables e below G (T'.setTop (mkF m pc' Ls (st)))) : own_E p.tables e below G (T.setTop (mkF m pc Ls (v :: .int j :: .ref a :: st))) := by
  subst hp
  obtain ⟨cl, Ar, q, S, N, H, F'⟩ := A
  obtain ⟨T', h', X', e', W', stp⟩ := stR X hx hZ eT Ar (j := j) (inb_of S hj) hty F (g := mkF m pc Ls (v :: .int j :: .ref a :: st)) rfl rfl (hb hby hd)
  exact own_go stp (k T' h' X' e' W' (Arv.set Ar q S N H F' (by cases ty <;> first | (cases hty; done) | (rcases ref_cases hv with rfl | ⟨_, rfl⟩ <;> rfl)) W' i hi hlen))
theorem own_sto {a y : Addr} {kA : ClassId} {ty : FieldType} {z : Int32} {vs : List Value} {dv : Value} {C : String} (A : Arv Z h a kA ty z vs dv) (O : Ovr Z kA C) (I : Ins Z h y C true) : Sto Z h a (.ref y) := by
  obtain ⟨cl, Ar, q, -⟩ := A; exact Sto.ofV Ar q O I
theorem own_ldcI (X : Stand p l e R s m args below meth c T locs cells slots) (hx : p.tables.exec = Jvm.exec) (hby : c.code = B) (hZ : Z.Warmed39 s.vm) {own : String} {index : Nat} {v : Int32} (hown : s.vm.findClass own = some m.cls) (w : (Jvm.Cond.constant own index v).before a0 Z = true) (hd : decode B pc = .ok (.ldc index, 2)) (hp : pc + 2 = pc')
    (k : own_E p.tables e below G (T.setTop (mkF m pc' Ls (.int v :: st)))) : own_E p.tables e below G (T.setTop (mkF m pc Ls (st))) := by
  subst hp; exact own_go (fun t q => X.ldcInt hx hown (mvT hZ w) (g := mkF m pc Ls st) rfl (hb hby hd) t q) k
theorem own_ldcJ (X : Stand p l e R s m args below meth c T locs cells slots) (hx : p.tables.exec = Jvm.exec) (hby : c.code = B) (hZ : Z.Warmed39 s.vm) {own : String} {index : Nat} {v : Int64} (hown : s.vm.findClass own = some m.cls) (w : (Jvm.Cond.constantLong own index v).before a0 Z = true) (hd : decode B pc = .ok (.ldc2_w index, 3)) (hp : pc + 3 = pc')
    (k : own_E p.tables e below G (T.setTop (mkF m pc' Ls (.long v :: st)))) : own_E p.tables e below G (T.setTop (mkF m pc Ls (st))) := by
  subst hp; exact own_go (fun t q => X.ldc2Long hx hown (mvT hZ w) (g := mkF m pc Ls st) rfl (hb hby hd) t q) k
theorem own_ldcD (X : Stand p l e R s m args below meth c T locs cells slots) (hx : p.tables.exec = Jvm.exec) (hby : c.code = B) (hZ : Z.Warmed39 s.vm) {own : String} {index : Nat} {v : UInt64} (hown : s.vm.findClass own = some m.cls) (w : (Jvm.Cond.constantDouble own index v).before a0 Z = true) (hd : decode B pc = .ok (.ldc2_w index, 3)) (hp : pc + 3 = pc')
    (k : own_E p.tables e below G (T.setTop (mkF m pc' Ls (.double v :: st)))) : own_E p.tables e below G (T.setTop (mkF m pc Ls (st))) := by
  subst hp; exact own_go (fun t q => X.ldc2DoubleC hx hown (mvT hZ w) (g := mkF m pc Ls st) rfl (hb hby hd) t q) k
theorem own_cast (X : Stand p l e R s m args below meth c T locs cells slots) (hx : p.tables.exec = Jvm.exec) (hby : c.code = B) (hZ : Z.Warmed39 s.vm) {own K : String} {index : Nat} (hown : s.vm.findClass own = some m.cls) (w : (Jvm.Cond.classLink own index K).before a0 Z = true) (eT : T.heap = h) {a : Addr} (F : Ins Z h a K true) (hd : decode B pc = .ok (.checkcast index, 3)) (hp : pc + 3 = pc')
    (k : ∀ T' : State, Stand p l e R s m args below meth c T' locs cells slots → T'.heap = h → own_E p.tables e below G (T'.setTop (mkF m pc' Ls (.ref a :: st)))) : own_E p.tables e below G (T.setTop (mkF m pc Ls (.ref a :: st))) := by
  subst hp
  obtain ⟨T', X', e', stp⟩ := castY X hx hZ hown w eT F (g := mkF m pc Ls (.ref a :: st)) rfl rfl (hb hby hd)
  exact own_go stp (k T' X' e')
theorem own_instY (X : Stand p l e R s m args below meth c T locs cells slots) (hx : p.tables.exec = Jvm.exec) (hby : c.code = B) (hZ : Z.Warmed39 s.vm) {own K : String} {index : Nat} (hown : s.vm.findClass own = some m.cls) (w : (Jvm.Cond.classLink own index K).before a0 Z = true) (eT : T.heap = h) {a : Addr} (F : Ins Z h a K true) (hd : decode B pc = .ok (.instanceof index, 3)) (hp : pc + 3 = pc')
    (k : ∀ T' : State, Stand p l e R s m args below meth c T' locs cells slots → T'.heap = h → own_E p.tables e below G (T'.setTop (mkF m pc' Ls (.int 1 :: st)))) : own_E p.tables e below G (T.setTop (mkF m pc Ls (.ref a :: st))) := by
  subst hp
  obtain ⟨T', X', e', stp⟩ := instY X hx hZ hown w eT F (g := mkF m pc Ls (.ref a :: st)) rfl rfl (hb hby hd)
  exact own_go stp (k T' X' e')
theorem own_dloadN (X : Stand p l e R s m args below meth c T locs cells slots) (hx : p.tables.exec = Jvm.exec) (hby : c.code = B) {k : Fin 4} {v : UInt64} (hd : decode B pc = .ok (.dload_n k, 1)) (hp : pc + 1 = pc') (hl : Ls[k.val]? = some (.val (.double v)))
    (k : own_E p.tables e below G (T.setTop (mkF m pc' Ls (.double v :: st)))) : own_E p.tables e below G (T.setTop (mkF m pc Ls (st))) := by
  subst hp; exact own_go (fun t q => XS.dloadN X.here hx rfl (hb hby hd) hl q) k
theorem own_dload (X : Stand p l e R s m args below meth c T locs cells slots) (hx : p.tables.exec = Jvm.exec) (hby : c.code = B) {k : Nat} {v : UInt64} (hd : decode B pc = .ok (.dload k, 2)) (hp : pc + 2 = pc') (hl : Ls[k]? = some (.val (.double v)))
    (k : own_E p.tables e below G (T.setTop (mkF m pc' Ls (.double v :: st)))) : own_E p.tables e below G (T.setTop (mkF m pc Ls (st))) := by
  subst hp; exact own_go (fun t q => XS.dload X.here hx rfl (hb hby hd) hl q) k
theorem own_dstoreN (X : Stand p l e R s m args below meth c T locs cells slots) (hx : p.tables.exec = Jvm.exec) (hby : c.code = B) {k : Fin 4} {v : UInt64} (hd : decode B pc = .ok (.dstore_n k, 1)) (hp : pc + 1 = pc') (hl : storeLocals Ls k.val (.double v) = some Ls')
    (k : own_E p.tables e below G (T.setTop (mkF m pc' Ls' (st)))) : own_E p.tables e below G (T.setTop (mkF m pc Ls (.double v :: st))) := by
  subst hp; exact own_go (fun t q => XS.dstoreN X.here hx rfl (hb hby hd) rfl hl q) k
theorem own_dstore (X : Stand p l e R s m args below meth c T locs cells slots) (hx : p.tables.exec = Jvm.exec) (hby : c.code = B) {k : Nat} {v : UInt64} (hd : decode B pc = .ok (.dstore k, 2)) (hp : pc + 2 = pc') (hl : storeLocals Ls k (.double v) = some Ls')
    (k : own_E p.tables e below G (T.setTop (mkF m pc' Ls' (st)))) : own_E p.tables e below G (T.setTop (mkF m pc Ls (.double v :: st))) := by
  subst hp; exact own_go (fun t q => XS.dstore X.here hx rfl (hb hby hd) rfl hl q) k
theorem own_dconst0 (X : Stand p l e R s m args below meth c T locs cells slots) (hx : p.tables.exec = Jvm.exec) (hby : c.code = B) {v : UInt64} (hd : decode B pc = .ok (.dconst 0, 1)) (hp : pc + 1 = pc') (hv : FP.dconst0 = v)
    (k : own_E p.tables e below G (T.setTop (mkF m pc' Ls (.double v :: st)))) : own_E p.tables e below G (T.setTop (mkF m pc Ls (st))) := by
  subst hp; exact own_go (fun t q => XS.dconst0 X.here hx rfl (hb hby hd) hv q) k
theorem own_dconst1 (X : Stand p l e R s m args below meth c T locs cells slots) (hx : p.tables.exec = Jvm.exec) (hby : c.code = B) {v : UInt64} (hd : decode B pc = .ok (.dconst 1, 1)) (hp : pc + 1 = pc') (hv : FP.dconst1 = v)
    (k : own_E p.tables e below G (T.setTop (mkF m pc' Ls (.double v :: st)))) : own_E p.tables e below G (T.setTop (mkF m pc Ls (st))) := by
  subst hp; exact own_go (fun t q => XS.dconst1 X.here hx rfl (hb hby hd) hv q) k
theorem own_i2d (X : Stand p l e R s m args below meth c T locs cells slots) (hx : p.tables.exec = Jvm.exec) (hby : c.code = B) {x : Int32} {v : UInt64} (hd : decode B pc = .ok (.i2d, 1)) (hp : pc + 1 = pc') (hv : FP.i2d x = v)
    (k : own_E p.tables e below G (T.setTop (mkF m pc' Ls (.double v :: st)))) : own_E p.tables e below G (T.setTop (mkF m pc Ls (.int x :: st))) := by
  subst hp; exact own_go (fun t q => XS.i2dS X.here hx rfl (hb hby hd) rfl hv q) k
theorem own_l2d (X : Stand p l e R s m args below meth c T locs cells slots) (hx : p.tables.exec = Jvm.exec) (hby : c.code = B) {x : Int64} {v : UInt64} (hd : decode B pc = .ok (.l2d, 1)) (hp : pc + 1 = pc') (hv : FP.l2d x = v)
    (k : own_E p.tables e below G (T.setTop (mkF m pc' Ls (.double v :: st)))) : own_E p.tables e below G (T.setTop (mkF m pc Ls (.long x :: st))) := by
  subst hp; exact own_go (fun t q => XS.l2dS X.here hx rfl (hb hby hd) rfl hv q) k
theorem own_dadd (X : Stand p l e R s m args below meth c T locs cells slots) (hx : p.tables.exec = Jvm.exec) (hby : c.code = B) {x y v : UInt64} (hd : decode B pc = .ok (.dadd, 1)) (hp : pc + 1 = pc') (hn : Jvm.Free.Fl.NoNaN64 (FP.dadd x y)) (hv : FP.dadd x y = v)
    (k : own_E p.tables e below G (T.setTop (mkF m pc' Ls (.double v :: st)))) : own_E p.tables e below G (T.setTop (mkF m pc Ls (.double y :: .double x :: st))) := by
  subst hp; exact own_go (fun t q => XS.daddS X.here hx rfl (hb hby hd) rfl hn hv q) k
theorem own_dsub (X : Stand p l e R s m args below meth c T locs cells slots) (hx : p.tables.exec = Jvm.exec) (hby : c.code = B) {x y v : UInt64} (hd : decode B pc = .ok (.dsub, 1)) (hp : pc + 1 = pc') (hn : Jvm.Free.Fl.NoNaN64 (FP.dsub x y)) (hv : FP.dsub x y = v)
    (k : own_E p.tables e below G (T.setTop (mkF m pc' Ls (.double v :: st)))) : own_E p.tables e below G (T.setTop (mkF m pc Ls (.double y :: .double x :: st))) := by
  subst hp; exact own_go (fun t q => XS.dsubS X.here hx rfl (hb hby hd) rfl hn hv q) k
theorem own_dmul (X : Stand p l e R s m args below meth c T locs cells slots) (hx : p.tables.exec = Jvm.exec) (hby : c.code = B) {x y v : UInt64} (hd : decode B pc = .ok (.dmul, 1)) (hp : pc + 1 = pc') (hn : Jvm.Free.Fl.NoNaN64 (FP.dmul x y)) (hv : FP.dmul x y = v)
    (k : own_E p.tables e below G (T.setTop (mkF m pc' Ls (.double v :: st)))) : own_E p.tables e below G (T.setTop (mkF m pc Ls (.double y :: .double x :: st))) := by
  subst hp; exact own_go (fun t q => XS.dmulS X.here hx rfl (hb hby hd) rfl hn hv q) k
theorem own_ddiv (X : Stand p l e R s m args below meth c T locs cells slots) (hx : p.tables.exec = Jvm.exec) (hby : c.code = B) {x y v : UInt64} (hd : decode B pc = .ok (.ddiv, 1)) (hp : pc + 1 = pc') (hn : Jvm.Free.Fl.NoNaN64 (FP.ddiv x y)) (hv : FP.ddiv x y = v)
    (k : own_E p.tables e below G (T.setTop (mkF m pc' Ls (.double v :: st)))) : own_E p.tables e below G (T.setTop (mkF m pc Ls (.double y :: .double x :: st))) := by
  subst hp; exact own_go (fun t q => XS.ddivS X.here hx rfl (hb hby hd) rfl hn hv q) k
theorem own_dcmp (X : Stand p l e R s m args below meth c T locs cells slots) (hx : p.tables.exec = Jvm.exec) (hby : c.code = B) {o : CmpOp} {x y : UInt64} {v : Int32} (hd : decode B pc = .ok (.dcmp o, 1)) (hp : pc + 1 = pc') (hv : cmpValue (FP.dcmp x y) o = v)
    (k : own_E p.tables e below G (T.setTop (mkF m pc' Ls (.int v :: st)))) : own_E p.tables e below G (T.setTop (mkF m pc Ls (.double y :: .double x :: st))) := by
  subst hp; exact own_go (fun t q => XS.dcmpS X.here hx rfl (hb hby hd) rfl hv q) k
/-- an array of arrays, each place filled -/
def own_Grid (Z : State) (h : Heap) (a : Addr) (n : Int32) : Prop := ∃ (kA : ClassId) (ty : FieldType) (xs : List Addr), Arv Z h a kA ty n (xs.map Value.ref) .null ∧ ty.isReference = true ∧ xs.length = n.toNatClampNeg
theorem own_Grid.ext {a : Addr} {n : Int32} (G : own_Grid Z h a n) (E : Ext h h') : own_Grid Z h' a n := by
  obtain ⟨kA, ty, xs, A, r⟩ := G; exact ⟨kA, ty, xs, A.ext E, r⟩
theorem own_grid (X : Stand p l e R s m args below meth c T locs cells slots) (hx : p.tables.exec = Jvm.exec) (hby : c.code = B) (hZ : Z.Warmed39 s.vm) {own C ad : String} {ty : FieldType} {index : Nat} (hown : s.vm.findClass own = some m.cls) (hC : (FieldType.array ty).toString = C) (had : "[" ++ C = ad)
    (w1 : (Jvm.Cond.classLink own index ad).before a0 Z = true) (w2 : (Jvm.Cond.arrayOver (.array ty)).before a0 Z = true) (w3 : (Jvm.Cond.arrayClass ty).before a0 Z = true) (eT : T.heap = h) (hd : decode B pc = .ok (.multianewarray index 2, 4)) (hp : pc + 4 = pc') {n : Int32}
    (hn : ¬ n < 0) {CC SS : Nat} (hN : n.toNatClampNeg ≤ SS) (hdf : fits ty (defaultValue ty) = true) (hdd : (defaultValue ty).isDefault = true) (hb1 : SS ≤ 1000) (hCC : 1 + SS ≤ CC) (hc : cells + CC ≤ R.cells) (hl : slots + SS ≤ R.slots)
    (k : ∀ (T' : State) (h' : Heap) (b : Addr), b = h.size → Stand p l e R s m args below meth c T' locs (cells + CC) (slots + SS) → T'.heap = h' → Ext h h' → own_Grid Z h' b n → own_E p.tables e below G (T'.setTop (mkF m pc' Ls (.ref b :: st)))) : own_E p.tables e below G (T.setTop (mkF m pc Ls (.int 0 :: .int n :: st))) := by
  subst hp
  obtain ⟨T', h', cA, comp, X', e', E', V', -, -, -, stp⟩ := gridM X hx hZ hown hC had w1 w2 w3 eT (g := mkF m pc Ls (.int 0 :: .int n :: st)) rfl (hb hby hd) rfl hn (by decide) rfl rfl (cap := 0) (by decide) (by decide) (by omega) hdf hdd (by omega) (by omega)
  exact own_go stp (k T' h' _ rfl (X'.mono (by omega) (by omega)) e' E' ⟨cA, _, _, V', rfl, by simp⟩)
theorem own_aaloadG (X : Stand p l e R s m args below meth c T locs cells slots) (hx : p.tables.exec = Jvm.exec) (hby : c.code = B) (hZ : Z.Warmed39 s.vm) (eT : T.heap = h) {a : Addr} {n j : Int32} (A : own_Grid Z h a n) (hj : ¬ j < 0 ∧ j < n) (hd : decode B pc = .ok (.aaload, 1)) (hp : pc + 1 = pc')
    (k : ∀ x : Addr, own_E p.tables e below G (T.setTop (mkF m pc' Ls (.ref x :: st)))) : own_E p.tables e below G (T.setTop (mkF m pc Ls (.int j :: .ref a :: st))) := by
  obtain ⟨kA, ty, xs, A, ht, hlen⟩ := A
  have hlt : j.toNatClampNeg < xs.length := by
    have h1 := hj.1; have h2 := hj.2
    simp only [Int32.lt_iff_toInt_lt, Int32.reduceToInt] at h1 h2
    rw [hlen]; simp only [Int32.toNatClampNeg]; omega
  exact own_aaloadV X hx hby hZ eT A ht hj (v := .ref xs[j.toNatClampNeg]) (by simp [List.getD_eq_getElem?_getD, hlt]) hd hp (k _)
end OwnHeap

theorem own_d0 : FP.dconst0 = FP.l2d 0 := by rw [l2d_zero]; rfl
theorem own_dself (a : Int64) (o : CmpOp) : cmpValue (FP.dcmp (FP.l2d a) (FP.l2d a)) o = 0 := dcmpV_self (nn_w rfl) o
theorem own_and63 {x q : Int32} (h : x &&& (63 : Int32) = q) : ¬ q < 0 ∧ q.toNatClampNeg ≤ 63 := by
  have h0 := c_and x 63 (by decide)
  rw [h] at h0
  have e : (63 : Int32).toInt = 63 := rfl
  rw [e] at h0
  refine ⟨?_, ?_⟩
  · rw [Int32.lt_iff_toInt_lt]; show ¬ q.toInt < 0; omega
  · simp only [Int32.toNatClampNeg]; omega
theorem own_modq {x q j : Int32} (hn : ¬ q < 0) (hz : ¬ q = 0) (h : (x &&& (2147483647 : Int32)) % q = j) : ¬ j < 0 ∧ j < q := by
  have h0 := (c_and x 2147483647 (by decide)).1
  have hq : 0 < q.toInt := by
    rw [Int32.lt_iff_toInt_lt] at hn
    have e : (0 : Int32).toInt = 0 := rfl
    rw [e] at hn
    have : q.toInt ≠ 0 := fun z => hz (Int32.toInt_inj.mp z)
    omega
  have h1 := (c_iremV (x &&& 2147483647) q).1 h0 hq
  rw [h] at h1
  refine ⟨?_, ?_⟩
  · rw [Int32.lt_iff_toInt_lt]; show ¬ j.toInt < 0; omega
  · rw [Int32.lt_iff_toInt_lt]; omega
theorem ow_0 {Z : State} {a0 : Array Value} (hw : ∀ d ∈ tables_1, d.before a0 Z = true) : (Jvm.Cond.arrayClass Jvm.ClassFile.FieldType.double).before a0 Z = true := hw _ (List.mem_of_getElem? (i := 0) rfl)
theorem ow_1 {Z : State} {a0 : Array Value} (hw : ∀ d ∈ tables_1, d.before a0 Z = true) : (Jvm.Cond.arrayClass Jvm.ClassFile.FieldType.int).before a0 Z = true := hw _ (List.mem_of_getElem? (i := 1) rfl)
theorem ow_2 {Z : State} {a0 : Array Value} (hw : ∀ d ∈ tables_1, d.before a0 Z = true) : (Jvm.Cond.methodLink "com/example/bindery/bindery/selection/LimitRowsNonePinLaw" (7 : Nat) ({ cls := "com/example/bindery/bindery/selection/LimitRows", name := "none", desc := "(I)Lcom/example/bindery/bindery/selection/LimitRows;" } : Jvm.MethodName)).before a0 Z = true := hw _ (List.mem_of_getElem? (i := 2) rfl)
theorem ow_3 {Z : State} {a0 : Array Value} (hw : ∀ d ∈ tables_1, d.before a0 Z = true) : (Jvm.Cond.static ({ cls := "com/example/bindery/bindery/selection/LimitRows", name := "none", desc := "(I)Lcom/example/bindery/bindery/selection/LimitRows;" } : Jvm.MethodName)).before a0 Z = true := hw _ (List.mem_of_getElem? (i := 3) rfl)
theorem ow_4 {Z : State} {a0 : Array Value} (hw : ∀ d ∈ tables_1, d.before a0 Z = true) : (Jvm.Cond.initialized "com/example/bindery/bindery/selection/LimitRows").before a0 Z = true := hw _ (List.mem_of_getElem? (i := 4) rfl)
theorem ow_5 {Z : State} {a0 : Array Value} (hw : ∀ d ∈ tables_1, d.before a0 Z = true) : (Jvm.Cond.code ({ cls := "com/example/bindery/bindery/selection/LimitRows", name := "none", desc := "(I)Lcom/example/bindery/bindery/selection/LimitRows;" } : Jvm.MethodName) prog_44_method_3_code (2 : Nat) (Option.some (Jvm.ClassFile.FieldType.object "com/example/bindery/bindery/selection/LimitRows"))).before a0 Z = true := hw _ (List.mem_of_getElem? (i := 5) rfl)
theorem ow_6 {Z : State} {a0 : Array Value} (hw : ∀ d ∈ tables_1, d.before a0 Z = true) : (Jvm.Cond.classLink "com/example/bindery/bindery/selection/LimitRows" (42 : Nat) "[[D").before a0 Z = true := hw _ (List.mem_of_getElem? (i := 6) rfl)
theorem ow_7 {Z : State} {a0 : Array Value} (hw : ∀ d ∈ tables_1, d.before a0 Z = true) : (Jvm.Cond.arrayOver (Jvm.ClassFile.FieldType.array Jvm.ClassFile.FieldType.double)).before a0 Z = true := hw _ (List.mem_of_getElem? (i := 7) rfl)
theorem ow_8 {Z : State} {a0 : Array Value} (hw : ∀ d ∈ tables_1, d.before a0 Z = true) : (Jvm.Cond.classLink "com/example/bindery/bindery/selection/LimitRows" (8 : Nat) "com/example/bindery/bindery/selection/LimitRows").before a0 Z = true := hw _ (List.mem_of_getElem? (i := 8) rfl)
theorem ow_9 {Z : State} {a0 : Array Value} (hw : ∀ d ∈ tables_1, d.before a0 Z = true) : (Jvm.Cond.instantiable "com/example/bindery/bindery/selection/LimitRows" (5 : Nat)).before a0 Z = true := hw _ (List.mem_of_getElem? (i := 9) rfl)
theorem ow_10 {Z : State} {a0 : Array Value} (hw : ∀ d ∈ tables_1, d.before a0 Z = true) : (Jvm.Cond.methodLink "com/example/bindery/bindery/selection/LimitRows" (117 : Nat) ({ cls := "com/example/bindery/bindery/selection/LimitRows", name := "<init>", desc := "(I[[D[D[D[D)V" } : Jvm.MethodName)).before a0 Z = true := hw _ (List.mem_of_getElem? (i := 10) rfl)
theorem ow_11 {Z : State} {a0 : Array Value} (hw : ∀ d ∈ tables_1, d.before a0 Z = true) : (Jvm.Cond.instanceMethod ({ cls := "com/example/bindery/bindery/selection/LimitRows", name := "<init>", desc := "(I[[D[D[D[D)V" } : Jvm.MethodName)).before a0 Z = true := hw _ (List.mem_of_getElem? (i := 11) rfl)
theorem ow_12 {Z : State} {a0 : Array Value} (hw : ∀ d ∈ tables_1, d.before a0 Z = true) : (Jvm.Cond.code ({ cls := "com/example/bindery/bindery/selection/LimitRows", name := "<init>", desc := "(I[[D[D[D[D)V" } : Jvm.MethodName) prog_44_method_1_code (6 : Nat) (Option.none : Option Jvm.ClassFile.FieldType)).before a0 Z = true := hw _ (List.mem_of_getElem? (i := 12) rfl)
theorem ow_13 {Z : State} {a0 : Array Value} (hw : ∀ d ∈ tables_1, d.before a0 Z = true) : (Jvm.Cond.methodLink "com/example/bindery/bindery/selection/LimitRows" (1 : Nat) ({ cls := "java/lang/Object", name := "<init>", desc := "()V" } : Jvm.MethodName)).before a0 Z = true := hw _ (List.mem_of_getElem? (i := 13) rfl)
theorem ow_14 {Z : State} {a0 : Array Value} (hw : ∀ d ∈ tables_1, d.before a0 Z = true) : (Jvm.Cond.instanceMethod ({ cls := "java/lang/Object", name := "<init>", desc := "()V" } : Jvm.MethodName)).before a0 Z = true := hw _ (List.mem_of_getElem? (i := 14) rfl)
theorem ow_15 {Z : State} {a0 : Array Value} (hw : ∀ d ∈ tables_1, d.before a0 Z = true) : (Jvm.Cond.code ({ cls := "java/lang/Object", name := "<init>", desc := "()V" } : Jvm.MethodName) object_method_1_code (1 : Nat) (Option.none : Option Jvm.ClassFile.FieldType)).before a0 Z = true := hw _ (List.mem_of_getElem? (i := 15) rfl)
theorem ow_16 {Z : State} {a0 : Array Value} (hw : ∀ d ∈ tables_1, d.before a0 Z = true) : (Jvm.Cond.fieldLink "com/example/bindery/bindery/selection/LimitRows" (7 : Nat) "com/example/bindery/bindery/selection/LimitRows" "count" "I").before a0 Z = true := hw _ (List.mem_of_getElem? (i := 16) rfl)
theorem ow_17 {Z : State} {a0 : Array Value} (hw : ∀ d ∈ tables_1, d.before a0 Z = true) : (Jvm.Cond.laysFinal "com/example/bindery/bindery/selection/LimitRows" "com/example/bindery/bindery/selection/LimitRows" "count" "I").before a0 Z = true := hw _ (List.mem_of_getElem? (i := 17) rfl)
theorem ow_18 {Z : State} {a0 : Array Value} (hw : ∀ d ∈ tables_1, d.before a0 Z = true) : (Jvm.Cond.fieldLink "com/example/bindery/bindery/selection/LimitRows" (13 : Nat) "com/example/bindery/bindery/selection/LimitRows" "use" "[[D").before a0 Z = true := hw _ (List.mem_of_getElem? (i := 18) rfl)
theorem ow_19 {Z : State} {a0 : Array Value} (hw : ∀ d ∈ tables_1, d.before a0 Z = true) : (Jvm.Cond.laysFinal "com/example/bindery/bindery/selection/LimitRows" "com/example/bindery/bindery/selection/LimitRows" "use" "[[D").before a0 Z = true := hw _ (List.mem_of_getElem? (i := 19) rfl)
theorem ow_20 {Z : State} {a0 : Array Value} (hw : ∀ d ∈ tables_1, d.before a0 Z = true) : (Jvm.Cond.fieldLink "com/example/bindery/bindery/selection/LimitRows" (17 : Nat) "com/example/bindery/bindery/selection/LimitRows" "capacity" "[D").before a0 Z = true := hw _ (List.mem_of_getElem? (i := 20) rfl)
theorem ow_21 {Z : State} {a0 : Array Value} (hw : ∀ d ∈ tables_1, d.before a0 Z = true) : (Jvm.Cond.laysFinal "com/example/bindery/bindery/selection/LimitRows" "com/example/bindery/bindery/selection/LimitRows" "capacity" "[D").before a0 Z = true := hw _ (List.mem_of_getElem? (i := 21) rfl)
theorem ow_22 {Z : State} {a0 : Array Value} (hw : ∀ d ∈ tables_1, d.before a0 Z = true) : (Jvm.Cond.fieldLink "com/example/bindery/bindery/selection/LimitRows" (21 : Nat) "com/example/bindery/bindery/selection/LimitRows" "tightCapacity" "[D").before a0 Z = true := hw _ (List.mem_of_getElem? (i := 22) rfl)
theorem ow_23 {Z : State} {a0 : Array Value} (hw : ∀ d ∈ tables_1, d.before a0 Z = true) : (Jvm.Cond.laysFinal "com/example/bindery/bindery/selection/LimitRows" "com/example/bindery/bindery/selection/LimitRows" "tightCapacity" "[D").before a0 Z = true := hw _ (List.mem_of_getElem? (i := 23) rfl)
theorem ow_24 {Z : State} {a0 : Array Value} (hw : ∀ d ∈ tables_1, d.before a0 Z = true) : (Jvm.Cond.fieldLink "com/example/bindery/bindery/selection/LimitRows" (24 : Nat) "com/example/bindery/bindery/selection/LimitRows" "magnitude" "[D").before a0 Z = true := hw _ (List.mem_of_getElem? (i := 24) rfl)
theorem ow_25 {Z : State} {a0 : Array Value} (hw : ∀ d ∈ tables_1, d.before a0 Z = true) : (Jvm.Cond.laysFinal "com/example/bindery/bindery/selection/LimitRows" "com/example/bindery/bindery/selection/LimitRows" "magnitude" "[D").before a0 Z = true := hw _ (List.mem_of_getElem? (i := 25) rfl)
theorem ow_26 {Z : State} {a0 : Array Value} (hw : ∀ d ∈ tables_1, d.before a0 Z = true) : (Jvm.Cond.methodLink "com/example/bindery/bindery/selection/LimitRowsNonePinLaw" (13 : Nat) ({ cls := "com/example/bindery/bindery/selection/LimitRows", name := "count", desc := "()I" } : Jvm.MethodName)).before a0 Z = true := hw _ (List.mem_of_getElem? (i := 26) rfl)
theorem ow_27 {Z : State} {a0 : Array Value} (hw : ∀ d ∈ tables_1, d.before a0 Z = true) : (Jvm.Cond.declares ({ cls := "com/example/bindery/bindery/selection/LimitRows", name := "count", desc := "()I" } : Jvm.MethodName)).before a0 Z = true := hw _ (List.mem_of_getElem? (i := 27) rfl)
theorem ow_28 {Z : State} {a0 : Array Value} (hw : ∀ d ∈ tables_1, d.before a0 Z = true) : (Jvm.Cond.instanceMethod ({ cls := "com/example/bindery/bindery/selection/LimitRows", name := "count", desc := "()I" } : Jvm.MethodName)).before a0 Z = true := hw _ (List.mem_of_getElem? (i := 28) rfl)
theorem ow_29 {Z : State} {a0 : Array Value} (hw : ∀ d ∈ tables_1, d.before a0 Z = true) : (Jvm.Cond.selects "com/example/bindery/bindery/selection/LimitRows" ({ cls := "com/example/bindery/bindery/selection/LimitRows", name := "count", desc := "()I" } : Jvm.MethodName) ({ cls := "com/example/bindery/bindery/selection/LimitRows", name := "count", desc := "()I" } : Jvm.MethodName)).before a0 Z = true := hw _ (List.mem_of_getElem? (i := 29) rfl)
theorem ow_30 {Z : State} {a0 : Array Value} (hw : ∀ d ∈ tables_1, d.before a0 Z = true) : (Jvm.Cond.code ({ cls := "com/example/bindery/bindery/selection/LimitRows", name := "count", desc := "()I" } : Jvm.MethodName) prog_44_method_4_code (1 : Nat) (Option.some Jvm.ClassFile.FieldType.int)).before a0 Z = true := hw _ (List.mem_of_getElem? (i := 30) rfl)
theorem ow_31 {Z : State} {a0 : Array Value} (hw : ∀ d ∈ tables_1, d.before a0 Z = true) : (Jvm.Cond.methodLink "com/example/bindery/bindery/selection/LimitRowsNonePinLaw" (17 : Nat) ({ cls := "com/example/bindery/bindery/selection/LimitRows", name := "within", desc := "([D)Z" } : Jvm.MethodName)).before a0 Z = true := hw _ (List.mem_of_getElem? (i := 31) rfl)
theorem ow_32 {Z : State} {a0 : Array Value} (hw : ∀ d ∈ tables_1, d.before a0 Z = true) : (Jvm.Cond.declares ({ cls := "com/example/bindery/bindery/selection/LimitRows", name := "within", desc := "([D)Z" } : Jvm.MethodName)).before a0 Z = true := hw _ (List.mem_of_getElem? (i := 32) rfl)
theorem ow_33 {Z : State} {a0 : Array Value} (hw : ∀ d ∈ tables_1, d.before a0 Z = true) : (Jvm.Cond.instanceMethod ({ cls := "com/example/bindery/bindery/selection/LimitRows", name := "within", desc := "([D)Z" } : Jvm.MethodName)).before a0 Z = true := hw _ (List.mem_of_getElem? (i := 33) rfl)
theorem ow_34 {Z : State} {a0 : Array Value} (hw : ∀ d ∈ tables_1, d.before a0 Z = true) : (Jvm.Cond.selects "com/example/bindery/bindery/selection/LimitRows" ({ cls := "com/example/bindery/bindery/selection/LimitRows", name := "within", desc := "([D)Z" } : Jvm.MethodName) ({ cls := "com/example/bindery/bindery/selection/LimitRows", name := "within", desc := "([D)Z" } : Jvm.MethodName)).before a0 Z = true := hw _ (List.mem_of_getElem? (i := 34) rfl)
theorem ow_35 {Z : State} {a0 : Array Value} (hw : ∀ d ∈ tables_1, d.before a0 Z = true) : (Jvm.Cond.code ({ cls := "com/example/bindery/bindery/selection/LimitRows", name := "within", desc := "([D)Z" } : Jvm.MethodName) prog_44_method_14_code (3 : Nat) (Option.some Jvm.ClassFile.FieldType.boolean)).before a0 Z = true := hw _ (List.mem_of_getElem? (i := 35) rfl)
theorem ow_36 {Z : State} {a0 : Array Value} (hw : ∀ d ∈ tables_1, d.before a0 Z = true) : (Jvm.Cond.methodLink "com/example/bindery/bindery/selection/LimitRowsNonePinLaw" (21 : Nat) ({ cls := "com/example/bindery/bindery/selection/LimitRows", name := "overrun", desc := "([D)D" } : Jvm.MethodName)).before a0 Z = true := hw _ (List.mem_of_getElem? (i := 36) rfl)
theorem ow_37 {Z : State} {a0 : Array Value} (hw : ∀ d ∈ tables_1, d.before a0 Z = true) : (Jvm.Cond.declares ({ cls := "com/example/bindery/bindery/selection/LimitRows", name := "overrun", desc := "([D)D" } : Jvm.MethodName)).before a0 Z = true := hw _ (List.mem_of_getElem? (i := 37) rfl)
theorem ow_38 {Z : State} {a0 : Array Value} (hw : ∀ d ∈ tables_1, d.before a0 Z = true) : (Jvm.Cond.instanceMethod ({ cls := "com/example/bindery/bindery/selection/LimitRows", name := "overrun", desc := "([D)D" } : Jvm.MethodName)).before a0 Z = true := hw _ (List.mem_of_getElem? (i := 38) rfl)
theorem ow_39 {Z : State} {a0 : Array Value} (hw : ∀ d ∈ tables_1, d.before a0 Z = true) : (Jvm.Cond.selects "com/example/bindery/bindery/selection/LimitRows" ({ cls := "com/example/bindery/bindery/selection/LimitRows", name := "overrun", desc := "([D)D" } : Jvm.MethodName) ({ cls := "com/example/bindery/bindery/selection/LimitRows", name := "overrun", desc := "([D)D" } : Jvm.MethodName)).before a0 Z = true := hw _ (List.mem_of_getElem? (i := 39) rfl)
theorem ow_40 {Z : State} {a0 : Array Value} (hw : ∀ d ∈ tables_1, d.before a0 Z = true) : (Jvm.Cond.code ({ cls := "com/example/bindery/bindery/selection/LimitRows", name := "overrun", desc := "([D)D" } : Jvm.MethodName) prog_44_method_11_code (5 : Nat) (Option.some Jvm.ClassFile.FieldType.double)).before a0 Z = true := hw _ (List.mem_of_getElem? (i := 40) rfl)
theorem ow_41 {Z : State} {a0 : Array Value} (hw : ∀ d ∈ tables_1, d.before a0 Z = true) : (Jvm.Cond.methodLink "com/example/bindery/bindery/selection/LimitRowsNonePinLaw" (25 : Nat) ({ cls := "com/example/bindery/bindery/selection/LimitRows", name := "loads", desc := "([I)[D" } : Jvm.MethodName)).before a0 Z = true := hw _ (List.mem_of_getElem? (i := 41) rfl)
theorem ow_42 {Z : State} {a0 : Array Value} (hw : ∀ d ∈ tables_1, d.before a0 Z = true) : (Jvm.Cond.declares ({ cls := "com/example/bindery/bindery/selection/LimitRows", name := "loads", desc := "([I)[D" } : Jvm.MethodName)).before a0 Z = true := hw _ (List.mem_of_getElem? (i := 42) rfl)
theorem ow_43 {Z : State} {a0 : Array Value} (hw : ∀ d ∈ tables_1, d.before a0 Z = true) : (Jvm.Cond.instanceMethod ({ cls := "com/example/bindery/bindery/selection/LimitRows", name := "loads", desc := "([I)[D" } : Jvm.MethodName)).before a0 Z = true := hw _ (List.mem_of_getElem? (i := 43) rfl)
theorem ow_44 {Z : State} {a0 : Array Value} (hw : ∀ d ∈ tables_1, d.before a0 Z = true) : (Jvm.Cond.selects "com/example/bindery/bindery/selection/LimitRows" ({ cls := "com/example/bindery/bindery/selection/LimitRows", name := "loads", desc := "([I)[D" } : Jvm.MethodName) ({ cls := "com/example/bindery/bindery/selection/LimitRows", name := "loads", desc := "([I)[D" } : Jvm.MethodName)).before a0 Z = true := hw _ (List.mem_of_getElem? (i := 44) rfl)
theorem ow_45 {Z : State} {a0 : Array Value} (hw : ∀ d ∈ tables_1, d.before a0 Z = true) : (Jvm.Cond.code ({ cls := "com/example/bindery/bindery/selection/LimitRows", name := "loads", desc := "([I)[D" } : Jvm.MethodName) prog_44_method_9_code (5 : Nat) (Option.some (Jvm.ClassFile.FieldType.array Jvm.ClassFile.FieldType.double))).before a0 Z = true := hw _ (List.mem_of_getElem? (i := 45) rfl)
theorem ow_46 {Z : State} {a0 : Array Value} (hw : ∀ d ∈ tables_1, d.before a0 Z = true) : (Jvm.Cond.constant "com/example/bindery/bindery/selection/LimitRowsNonePinLaw" (29 : Nat) (2147483647 : Int32)).before a0 Z = true := hw _ (List.mem_of_getElem? (i := 46) rfl)
theorem ow_47 {Z : State} {a0 : Array Value} (hw : ∀ d ∈ tables_1, d.before a0 Z = true) : (Jvm.Cond.methodLink "com/example/bindery/bindery/selection/LimitRowsNonePinLaw" (30 : Nat) ({ cls := "com/example/bindery/bindery/selection/LimitRows", name := "useSum", desc := "(II)D" } : Jvm.MethodName)).before a0 Z = true := hw _ (List.mem_of_getElem? (i := 47) rfl)
theorem ow_48 {Z : State} {a0 : Array Value} (hw : ∀ d ∈ tables_1, d.before a0 Z = true) : (Jvm.Cond.declares ({ cls := "com/example/bindery/bindery/selection/LimitRows", name := "useSum", desc := "(II)D" } : Jvm.MethodName)).before a0 Z = true := hw _ (List.mem_of_getElem? (i := 48) rfl)
theorem ow_49 {Z : State} {a0 : Array Value} (hw : ∀ d ∈ tables_1, d.before a0 Z = true) : (Jvm.Cond.instanceMethod ({ cls := "com/example/bindery/bindery/selection/LimitRows", name := "useSum", desc := "(II)D" } : Jvm.MethodName)).before a0 Z = true := hw _ (List.mem_of_getElem? (i := 49) rfl)
theorem ow_50 {Z : State} {a0 : Array Value} (hw : ∀ d ∈ tables_1, d.before a0 Z = true) : (Jvm.Cond.selects "com/example/bindery/bindery/selection/LimitRows" ({ cls := "com/example/bindery/bindery/selection/LimitRows", name := "useSum", desc := "(II)D" } : Jvm.MethodName) ({ cls := "com/example/bindery/bindery/selection/LimitRows", name := "useSum", desc := "(II)D" } : Jvm.MethodName)).before a0 Z = true := hw _ (List.mem_of_getElem? (i := 50) rfl)
theorem ow_51 {Z : State} {a0 : Array Value} (hw : ∀ d ∈ tables_1, d.before a0 Z = true) : (Jvm.Cond.code ({ cls := "com/example/bindery/bindery/selection/LimitRows", name := "useSum", desc := "(II)D" } : Jvm.MethodName) prog_44_method_7_code (8 : Nat) (Option.some Jvm.ClassFile.FieldType.double)).before a0 Z = true := hw _ (List.mem_of_getElem? (i := 51) rfl)
theorem ow_52 {Z : State} {a0 : Array Value} (hw : ∀ d ∈ tables_1, d.before a0 Z = true) : (Jvm.Cond.methodLink "com/example/bindery/bindery/selection/LimitRowsNonePinLaw" (34 : Nat) ({ cls := "com/example/bindery/bindery/selection/LimitRows", name := "priced", desc := "(D[DII)D" } : Jvm.MethodName)).before a0 Z = true := hw _ (List.mem_of_getElem? (i := 52) rfl)
theorem ow_53 {Z : State} {a0 : Array Value} (hw : ∀ d ∈ tables_1, d.before a0 Z = true) : (Jvm.Cond.declares ({ cls := "com/example/bindery/bindery/selection/LimitRows", name := "priced", desc := "(D[DII)D" } : Jvm.MethodName)).before a0 Z = true := hw _ (List.mem_of_getElem? (i := 53) rfl)
theorem ow_54 {Z : State} {a0 : Array Value} (hw : ∀ d ∈ tables_1, d.before a0 Z = true) : (Jvm.Cond.instanceMethod ({ cls := "com/example/bindery/bindery/selection/LimitRows", name := "priced", desc := "(D[DII)D" } : Jvm.MethodName)).before a0 Z = true := hw _ (List.mem_of_getElem? (i := 54) rfl)
theorem ow_55 {Z : State} {a0 : Array Value} (hw : ∀ d ∈ tables_1, d.before a0 Z = true) : (Jvm.Cond.selects "com/example/bindery/bindery/selection/LimitRows" ({ cls := "com/example/bindery/bindery/selection/LimitRows", name := "priced", desc := "(D[DII)D" } : Jvm.MethodName) ({ cls := "com/example/bindery/bindery/selection/LimitRows", name := "priced", desc := "(D[DII)D" } : Jvm.MethodName)).before a0 Z = true := hw _ (List.mem_of_getElem? (i := 55) rfl)
theorem ow_56 {Z : State} {a0 : Array Value} (hw : ∀ d ∈ tables_1, d.before a0 Z = true) : (Jvm.Cond.code ({ cls := "com/example/bindery/bindery/selection/LimitRows", name := "priced", desc := "(D[DII)D" } : Jvm.MethodName) prog_44_method_8_code (11 : Nat) (Option.some Jvm.ClassFile.FieldType.double)).before a0 Z = true := hw _ (List.mem_of_getElem? (i := 56) rfl)
theorem ow_57 {Z : State} {a0 : Array Value} (hw : ∀ d ∈ tables_1, d.before a0 Z = true) : (Jvm.Cond.methodLink "com/example/bindery/bindery/selection/LimitRowsNonePinLaw" (38 : Nat) ({ cls := "com/example/bindery/bindery/selection/LimitRows", name := "leastUse", desc := "(I[I)[D" } : Jvm.MethodName)).before a0 Z = true := hw _ (List.mem_of_getElem? (i := 57) rfl)
theorem ow_58 {Z : State} {a0 : Array Value} (hw : ∀ d ∈ tables_1, d.before a0 Z = true) : (Jvm.Cond.declares ({ cls := "com/example/bindery/bindery/selection/LimitRows", name := "leastUse", desc := "(I[I)[D" } : Jvm.MethodName)).before a0 Z = true := hw _ (List.mem_of_getElem? (i := 58) rfl)
theorem ow_59 {Z : State} {a0 : Array Value} (hw : ∀ d ∈ tables_1, d.before a0 Z = true) : (Jvm.Cond.instanceMethod ({ cls := "com/example/bindery/bindery/selection/LimitRows", name := "leastUse", desc := "(I[I)[D" } : Jvm.MethodName)).before a0 Z = true := hw _ (List.mem_of_getElem? (i := 59) rfl)
theorem ow_60 {Z : State} {a0 : Array Value} (hw : ∀ d ∈ tables_1, d.before a0 Z = true) : (Jvm.Cond.selects "com/example/bindery/bindery/selection/LimitRows" ({ cls := "com/example/bindery/bindery/selection/LimitRows", name := "leastUse", desc := "(I[I)[D" } : Jvm.MethodName) ({ cls := "com/example/bindery/bindery/selection/LimitRows", name := "leastUse", desc := "(I[I)[D" } : Jvm.MethodName)).before a0 Z = true := hw _ (List.mem_of_getElem? (i := 60) rfl)
theorem ow_61 {Z : State} {a0 : Array Value} (hw : ∀ d ∈ tables_1, d.before a0 Z = true) : (Jvm.Cond.code ({ cls := "com/example/bindery/bindery/selection/LimitRows", name := "leastUse", desc := "(I[I)[D" } : Jvm.MethodName) prog_44_method_12_code (11 : Nat) (Option.some (Jvm.ClassFile.FieldType.array Jvm.ClassFile.FieldType.double))).before a0 Z = true := hw _ (List.mem_of_getElem? (i := 61) rfl)
theorem ow_62 {Z : State} {a0 : Array Value} (hw : ∀ d ∈ tables_1, d.before a0 Z = true) : (Jvm.Cond.constantDouble "com/example/bindery/bindery/selection/LimitRows" (79 : Nat) (9218868437227405312 : UInt64)).before a0 Z = true := hw _ (List.mem_of_getElem? (i := 62) rfl)
theorem ow_63 {Z : State} {a0 : Array Value} (hw : ∀ d ∈ tables_1, d.before a0 Z = true) : (Jvm.Cond.methodLink "com/example/bindery/bindery/selection/LimitRows" (120 : Nat) ({ cls := "java/util/Arrays", name := "fill", desc := "([DD)V" } : Jvm.MethodName)).before a0 Z = true := hw _ (List.mem_of_getElem? (i := 63) rfl)
theorem ow_64 {Z : State} {a0 : Array Value} (hw : ∀ d ∈ tables_1, d.before a0 Z = true) : (Jvm.Cond.static ({ cls := "java/util/Arrays", name := "fill", desc := "([DD)V" } : Jvm.MethodName)).before a0 Z = true := hw _ (List.mem_of_getElem? (i := 64) rfl)
theorem ow_65 {Z : State} {a0 : Array Value} (hw : ∀ d ∈ tables_1, d.before a0 Z = true) : (Jvm.Cond.initialized "java/util/Arrays").before a0 Z = true := hw _ (List.mem_of_getElem? (i := 65) rfl)
theorem ow_66 {Z : State} {a0 : Array Value} (hw : ∀ d ∈ tables_1, d.before a0 Z = true) : (Jvm.Cond.code ({ cls := "java/util/Arrays", name := "fill", desc := "([DD)V" } : Jvm.MethodName) jdk_65_method_113_code (5 : Nat) (Option.none : Option Jvm.ClassFile.FieldType)).before a0 Z = true := hw _ (List.mem_of_getElem? (i := 66) rfl)
theorem ow_67 {Z : State} {a0 : Array Value} (hw : ∀ d ∈ tables_1, d.before a0 Z = true) : (Jvm.Cond.methodLink "com/example/bindery/bindery/selection/LimitRowsNonePinLaw" (42 : Nat) ({ cls := "com/example/bindery/bindery/selection/LimitRows", name := "mayStayWithin", desc := "([DII[D)Z" } : Jvm.MethodName)).before a0 Z = true := hw _ (List.mem_of_getElem? (i := 67) rfl)
theorem ow_68 {Z : State} {a0 : Array Value} (hw : ∀ d ∈ tables_1, d.before a0 Z = true) : (Jvm.Cond.declares ({ cls := "com/example/bindery/bindery/selection/LimitRows", name := "mayStayWithin", desc := "([DII[D)Z" } : Jvm.MethodName)).before a0 Z = true := hw _ (List.mem_of_getElem? (i := 68) rfl)
theorem ow_69 {Z : State} {a0 : Array Value} (hw : ∀ d ∈ tables_1, d.before a0 Z = true) : (Jvm.Cond.instanceMethod ({ cls := "com/example/bindery/bindery/selection/LimitRows", name := "mayStayWithin", desc := "([DII[D)Z" } : Jvm.MethodName)).before a0 Z = true := hw _ (List.mem_of_getElem? (i := 69) rfl)
theorem ow_70 {Z : State} {a0 : Array Value} (hw : ∀ d ∈ tables_1, d.before a0 Z = true) : (Jvm.Cond.selects "com/example/bindery/bindery/selection/LimitRows" ({ cls := "com/example/bindery/bindery/selection/LimitRows", name := "mayStayWithin", desc := "([DII[D)Z" } : Jvm.MethodName) ({ cls := "com/example/bindery/bindery/selection/LimitRows", name := "mayStayWithin", desc := "([DII[D)Z" } : Jvm.MethodName)).before a0 Z = true := hw _ (List.mem_of_getElem? (i := 70) rfl)
theorem ow_71 {Z : State} {a0 : Array Value} (hw : ∀ d ∈ tables_1, d.before a0 Z = true) : (Jvm.Cond.code ({ cls := "com/example/bindery/bindery/selection/LimitRows", name := "mayStayWithin", desc := "([DII[D)Z" } : Jvm.MethodName) prog_44_method_13_code (8 : Nat) (Option.some Jvm.ClassFile.FieldType.boolean)).before a0 Z = true := hw _ (List.mem_of_getElem? (i := 71) rfl)
theorem od_prog_44_method_1_0 : decode prog_44_method_1_code 0 = .ok (.aload_n 0, 1) := by decide +kernel
theorem od_prog_44_method_1_1 : decode prog_44_method_1_code 1 = .ok (.invokespecial 1, 3) := by decide +kernel
theorem od_prog_44_method_1_4 : decode prog_44_method_1_code 4 = .ok (.aload_n 0, 1) := by decide +kernel
theorem od_prog_44_method_1_5 : decode prog_44_method_1_code 5 = .ok (.iload_n 1, 1) := by decide +kernel
theorem od_prog_44_method_1_6 : decode prog_44_method_1_code 6 = .ok (.putfield 7, 3) := by decide +kernel
theorem od_prog_44_method_1_9 : decode prog_44_method_1_code 9 = .ok (.aload_n 0, 1) := by decide +kernel
theorem od_prog_44_method_1_10 : decode prog_44_method_1_code 10 = .ok (.aload_n 2, 1) := by decide +kernel
theorem od_prog_44_method_1_11 : decode prog_44_method_1_code 11 = .ok (.putfield 13, 3) := by decide +kernel
theorem od_prog_44_method_1_14 : decode prog_44_method_1_code 14 = .ok (.aload_n 0, 1) := by decide +kernel
theorem od_prog_44_method_1_15 : decode prog_44_method_1_code 15 = .ok (.aload_n 3, 1) := by decide +kernel
theorem od_prog_44_method_1_16 : decode prog_44_method_1_code 16 = .ok (.putfield 17, 3) := by decide +kernel
theorem od_prog_44_method_1_19 : decode prog_44_method_1_code 19 = .ok (.aload_n 0, 1) := by decide +kernel
theorem od_prog_44_method_1_20 : decode prog_44_method_1_code 20 = .ok (.aload 4, 2) := by decide +kernel
theorem od_prog_44_method_1_22 : decode prog_44_method_1_code 22 = .ok (.putfield 21, 3) := by decide +kernel
theorem od_prog_44_method_1_25 : decode prog_44_method_1_code 25 = .ok (.aload_n 0, 1) := by decide +kernel
theorem od_prog_44_method_1_26 : decode prog_44_method_1_code 26 = .ok (.aload 5, 2) := by decide +kernel
theorem od_prog_44_method_1_28 : decode prog_44_method_1_code 28 = .ok (.putfield 24, 3) := by decide +kernel
theorem od_prog_44_method_1_31 : decode prog_44_method_1_code 31 = .ok (.return_, 1) := by decide +kernel
theorem od_prog_44_method_3_0 : decode prog_44_method_3_code 0 = .ok (.iload_n 0, 1) := by decide +kernel
theorem od_prog_44_method_3_1 : decode prog_44_method_3_code 1 = .ok (.iconst 0, 1) := by decide +kernel
theorem od_prog_44_method_3_2 : decode prog_44_method_3_code 2 = .ok (.multianewarray 42 2, 4) := by decide +kernel
theorem od_prog_44_method_3_6 : decode prog_44_method_3_code 6 = .ok (.astore_n 1, 1) := by decide +kernel
theorem od_prog_44_method_3_7 : decode prog_44_method_3_code 7 = .ok (.new 8, 3) := by decide +kernel
theorem od_prog_44_method_3_10 : decode prog_44_method_3_code 10 = .ok (.dup, 1) := by decide +kernel
theorem od_prog_44_method_3_11 : decode prog_44_method_3_code 11 = .ok (.iconst 0, 1) := by decide +kernel
theorem od_prog_44_method_3_12 : decode prog_44_method_3_code 12 = .ok (.aload_n 1, 1) := by decide +kernel
theorem od_prog_44_method_3_13 : decode prog_44_method_3_code 13 = .ok (.iconst 0, 1) := by decide +kernel
theorem od_prog_44_method_3_14 : decode prog_44_method_3_code 14 = .ok (.newarray .double, 2) := by decide +kernel
theorem od_prog_44_method_3_16 : decode prog_44_method_3_code 16 = .ok (.iconst 0, 1) := by decide +kernel
theorem od_prog_44_method_3_17 : decode prog_44_method_3_code 17 = .ok (.newarray .double, 2) := by decide +kernel
theorem od_prog_44_method_3_19 : decode prog_44_method_3_code 19 = .ok (.iconst 0, 1) := by decide +kernel
theorem od_prog_44_method_3_20 : decode prog_44_method_3_code 20 = .ok (.newarray .double, 2) := by decide +kernel
theorem od_prog_44_method_3_22 : decode prog_44_method_3_code 22 = .ok (.invokespecial 117, 3) := by decide +kernel
theorem od_prog_44_method_3_25 : decode prog_44_method_3_code 25 = .ok (.areturn, 1) := by decide +kernel
theorem od_prog_44_method_4_0 : decode prog_44_method_4_code 0 = .ok (.aload_n 0, 1) := by decide +kernel
theorem od_prog_44_method_4_1 : decode prog_44_method_4_code 1 = .ok (.getfield 7, 3) := by decide +kernel
theorem od_prog_44_method_4_4 : decode prog_44_method_4_code 4 = .ok (.ireturn, 1) := by decide +kernel
theorem od_prog_44_method_14_0 : decode prog_44_method_14_code 0 = .ok (.iconst 0, 1) := by decide +kernel
theorem od_prog_44_method_14_1 : decode prog_44_method_14_code 1 = .ok (.istore_n 2, 1) := by decide +kernel
theorem od_prog_44_method_14_2 : decode prog_44_method_14_code 2 = .ok (.iload_n 2, 1) := by decide +kernel
theorem od_prog_44_method_14_3 : decode prog_44_method_14_code 3 = .ok (.aload_n 0, 1) := by decide +kernel
theorem od_prog_44_method_14_4 : decode prog_44_method_14_code 4 = .ok (.getfield 7, 3) := by decide +kernel
theorem od_prog_44_method_14_7 : decode prog_44_method_14_code 7 = .ok (.if_icmp .ge 24, 3) := by decide +kernel
theorem od_prog_44_method_14_31 : decode prog_44_method_14_code 31 = .ok (.iconst 1, 1) := by decide +kernel
theorem od_prog_44_method_14_32 : decode prog_44_method_14_code 32 = .ok (.ireturn, 1) := by decide +kernel
theorem od_prog_44_method_11_0 : decode prog_44_method_11_code 0 = .ok (.dconst 0, 1) := by decide +kernel
theorem od_prog_44_method_11_1 : decode prog_44_method_11_code 1 = .ok (.dstore_n 2, 1) := by decide +kernel
theorem od_prog_44_method_11_2 : decode prog_44_method_11_code 2 = .ok (.iconst 0, 1) := by decide +kernel
theorem od_prog_44_method_11_3 : decode prog_44_method_11_code 3 = .ok (.istore 4, 2) := by decide +kernel
theorem od_prog_44_method_11_5 : decode prog_44_method_11_code 5 = .ok (.iload 4, 2) := by decide +kernel
theorem od_prog_44_method_11_7 : decode prog_44_method_11_code 7 = .ok (.aload_n 0, 1) := by decide +kernel
theorem od_prog_44_method_11_8 : decode prog_44_method_11_code 8 = .ok (.getfield 7, 3) := by decide +kernel
theorem od_prog_44_method_11_11 : decode prog_44_method_11_code 11 = .ok (.if_icmp .ge 28, 3) := by decide +kernel
theorem od_prog_44_method_11_39 : decode prog_44_method_11_code 39 = .ok (.dload_n 2, 1) := by decide +kernel
theorem od_prog_44_method_11_40 : decode prog_44_method_11_code 40 = .ok (.dreturn, 1) := by decide +kernel
theorem od_prog_44_method_9_0 : decode prog_44_method_9_code 0 = .ok (.aload_n 0, 1) := by decide +kernel
theorem od_prog_44_method_9_1 : decode prog_44_method_9_code 1 = .ok (.getfield 7, 3) := by decide +kernel
theorem od_prog_44_method_9_4 : decode prog_44_method_9_code 4 = .ok (.newarray .double, 2) := by decide +kernel
theorem od_prog_44_method_9_6 : decode prog_44_method_9_code 6 = .ok (.astore_n 2, 1) := by decide +kernel
theorem od_prog_44_method_9_7 : decode prog_44_method_9_code 7 = .ok (.iconst 0, 1) := by decide +kernel
theorem od_prog_44_method_9_8 : decode prog_44_method_9_code 8 = .ok (.istore_n 3, 1) := by decide +kernel
theorem od_prog_44_method_9_9 : decode prog_44_method_9_code 9 = .ok (.iload_n 3, 1) := by decide +kernel
theorem od_prog_44_method_9_10 : decode prog_44_method_9_code 10 = .ok (.aload_n 0, 1) := by decide +kernel
theorem od_prog_44_method_9_11 : decode prog_44_method_9_code 11 = .ok (.getfield 7, 3) := by decide +kernel
theorem od_prog_44_method_9_14 : decode prog_44_method_9_code 14 = .ok (.if_icmp .ge 50, 3) := by decide +kernel
theorem od_prog_44_method_9_64 : decode prog_44_method_9_code 64 = .ok (.aload_n 2, 1) := by decide +kernel
theorem od_prog_44_method_9_65 : decode prog_44_method_9_code 65 = .ok (.areturn, 1) := by decide +kernel
theorem od_prog_44_method_7_0 : decode prog_44_method_7_code 0 = .ok (.aload_n 0, 1) := by decide +kernel
theorem od_prog_44_method_7_1 : decode prog_44_method_7_code 1 = .ok (.getfield 13, 3) := by decide +kernel
theorem od_prog_44_method_7_4 : decode prog_44_method_7_code 4 = .ok (.iload_n 1, 1) := by decide +kernel
theorem od_prog_44_method_7_5 : decode prog_44_method_7_code 5 = .ok (.aaload, 1) := by decide +kernel
theorem od_prog_44_method_7_6 : decode prog_44_method_7_code 6 = .ok (.astore_n 3, 1) := by decide +kernel
theorem od_prog_44_method_7_7 : decode prog_44_method_7_code 7 = .ok (.iload_n 2, 1) := by decide +kernel
theorem od_prog_44_method_7_8 : decode prog_44_method_7_code 8 = .ok (.aload_n 0, 1) := by decide +kernel
theorem od_prog_44_method_7_9 : decode prog_44_method_7_code 9 = .ok (.getfield 7, 3) := by decide +kernel
theorem od_prog_44_method_7_12 : decode prog_44_method_7_code 12 = .ok (.imul, 1) := by decide +kernel
theorem od_prog_44_method_7_13 : decode prog_44_method_7_code 13 = .ok (.istore 4, 2) := by decide +kernel
theorem od_prog_44_method_7_15 : decode prog_44_method_7_code 15 = .ok (.dconst 0, 1) := by decide +kernel
theorem od_prog_44_method_7_16 : decode prog_44_method_7_code 16 = .ok (.dstore 5, 2) := by decide +kernel
theorem od_prog_44_method_7_18 : decode prog_44_method_7_code 18 = .ok (.iconst 0, 1) := by decide +kernel
theorem od_prog_44_method_7_19 : decode prog_44_method_7_code 19 = .ok (.istore 7, 2) := by decide +kernel
theorem od_prog_44_method_7_21 : decode prog_44_method_7_code 21 = .ok (.iload 7, 2) := by decide +kernel
theorem od_prog_44_method_7_23 : decode prog_44_method_7_code 23 = .ok (.aload_n 0, 1) := by decide +kernel
theorem od_prog_44_method_7_24 : decode prog_44_method_7_code 24 = .ok (.getfield 7, 3) := by decide +kernel
theorem od_prog_44_method_7_27 : decode prog_44_method_7_code 27 = .ok (.if_icmp .ge 21, 3) := by decide +kernel
theorem od_prog_44_method_7_48 : decode prog_44_method_7_code 48 = .ok (.dload 5, 2) := by decide +kernel
theorem od_prog_44_method_7_50 : decode prog_44_method_7_code 50 = .ok (.dreturn, 1) := by decide +kernel
theorem od_prog_44_method_8_0 : decode prog_44_method_8_code 0 = .ok (.aload_n 0, 1) := by decide +kernel
theorem od_prog_44_method_8_1 : decode prog_44_method_8_code 1 = .ok (.getfield 13, 3) := by decide +kernel
theorem od_prog_44_method_8_4 : decode prog_44_method_8_code 4 = .ok (.iload 4, 2) := by decide +kernel
theorem od_prog_44_method_8_6 : decode prog_44_method_8_code 6 = .ok (.aaload, 1) := by decide +kernel
theorem od_prog_44_method_8_7 : decode prog_44_method_8_code 7 = .ok (.astore 6, 2) := by decide +kernel
theorem od_prog_44_method_8_9 : decode prog_44_method_8_code 9 = .ok (.iload 5, 2) := by decide +kernel
theorem od_prog_44_method_8_11 : decode prog_44_method_8_code 11 = .ok (.aload_n 0, 1) := by decide +kernel
theorem od_prog_44_method_8_12 : decode prog_44_method_8_code 12 = .ok (.getfield 7, 3) := by decide +kernel
theorem od_prog_44_method_8_15 : decode prog_44_method_8_code 15 = .ok (.imul, 1) := by decide +kernel
theorem od_prog_44_method_8_16 : decode prog_44_method_8_code 16 = .ok (.istore 7, 2) := by decide +kernel
theorem od_prog_44_method_8_18 : decode prog_44_method_8_code 18 = .ok (.dload_n 1, 1) := by decide +kernel
theorem od_prog_44_method_8_19 : decode prog_44_method_8_code 19 = .ok (.dstore 8, 2) := by decide +kernel
theorem od_prog_44_method_8_21 : decode prog_44_method_8_code 21 = .ok (.iconst 0, 1) := by decide +kernel
theorem od_prog_44_method_8_22 : decode prog_44_method_8_code 22 = .ok (.istore 10, 2) := by decide +kernel
theorem od_prog_44_method_8_24 : decode prog_44_method_8_code 24 = .ok (.iload 10, 2) := by decide +kernel
theorem od_prog_44_method_8_26 : decode prog_44_method_8_code 26 = .ok (.aload_n 0, 1) := by decide +kernel
theorem od_prog_44_method_8_27 : decode prog_44_method_8_code 27 = .ok (.getfield 7, 3) := by decide +kernel
theorem od_prog_44_method_8_30 : decode prog_44_method_8_code 30 = .ok (.if_icmp .ge 27, 3) := by decide +kernel
theorem od_prog_44_method_8_57 : decode prog_44_method_8_code 57 = .ok (.dload 8, 2) := by decide +kernel
theorem od_prog_44_method_8_59 : decode prog_44_method_8_code 59 = .ok (.dreturn, 1) := by decide +kernel
theorem od_jdk_65_method_113_0 : decode jdk_65_method_113_code 0 = .ok (.iconst 0, 1) := by decide +kernel
theorem od_jdk_65_method_113_1 : decode jdk_65_method_113_code 1 = .ok (.istore_n 3, 1) := by decide +kernel
theorem od_jdk_65_method_113_2 : decode jdk_65_method_113_code 2 = .ok (.aload_n 0, 1) := by decide +kernel
theorem od_jdk_65_method_113_3 : decode jdk_65_method_113_code 3 = .ok (.arraylength, 1) := by decide +kernel
theorem od_jdk_65_method_113_4 : decode jdk_65_method_113_code 4 = .ok (.istore 4, 2) := by decide +kernel
theorem od_jdk_65_method_113_6 : decode jdk_65_method_113_code 6 = .ok (.iload_n 3, 1) := by decide +kernel
theorem od_jdk_65_method_113_7 : decode jdk_65_method_113_code 7 = .ok (.iload 4, 2) := by decide +kernel
theorem od_jdk_65_method_113_9 : decode jdk_65_method_113_code 9 = .ok (.if_icmp .ge 13, 3) := by decide +kernel
theorem od_jdk_65_method_113_22 : decode jdk_65_method_113_code 22 = .ok (.return_, 1) := by decide +kernel
theorem od_prog_44_method_12_0 : decode prog_44_method_12_code 0 = .ok (.aload_n 0, 1) := by decide +kernel
theorem od_prog_44_method_12_1 : decode prog_44_method_12_code 1 = .ok (.getfield 7, 3) := by decide +kernel
theorem od_prog_44_method_12_4 : decode prog_44_method_12_code 4 = .ok (.newarray .double, 2) := by decide +kernel
theorem od_prog_44_method_12_6 : decode prog_44_method_12_code 6 = .ok (.astore_n 3, 1) := by decide +kernel
theorem od_prog_44_method_12_7 : decode prog_44_method_12_code 7 = .ok (.aload_n 3, 1) := by decide +kernel
theorem od_prog_44_method_12_8 : decode prog_44_method_12_code 8 = .ok (.ldc2_w 79, 3) := by decide +kernel
theorem od_prog_44_method_12_11 : decode prog_44_method_12_code 11 = .ok (.invokestatic 120, 3) := by decide +kernel
theorem od_prog_44_method_12_14 : decode prog_44_method_12_code 14 = .ok (.aload_n 0, 1) := by decide +kernel
theorem od_prog_44_method_12_15 : decode prog_44_method_12_code 15 = .ok (.getfield 13, 3) := by decide +kernel
theorem od_prog_44_method_12_18 : decode prog_44_method_12_code 18 = .ok (.iload_n 1, 1) := by decide +kernel
theorem od_prog_44_method_12_19 : decode prog_44_method_12_code 19 = .ok (.aaload, 1) := by decide +kernel
theorem od_prog_44_method_12_20 : decode prog_44_method_12_code 20 = .ok (.astore 4, 2) := by decide +kernel
theorem od_prog_44_method_12_22 : decode prog_44_method_12_code 22 = .ok (.aload_n 2, 1) := by decide +kernel
theorem od_prog_44_method_12_23 : decode prog_44_method_12_code 23 = .ok (.astore 5, 2) := by decide +kernel
theorem od_prog_44_method_12_25 : decode prog_44_method_12_code 25 = .ok (.aload 5, 2) := by decide +kernel
theorem od_prog_44_method_12_27 : decode prog_44_method_12_code 27 = .ok (.arraylength, 1) := by decide +kernel
theorem od_prog_44_method_12_28 : decode prog_44_method_12_code 28 = .ok (.istore 6, 2) := by decide +kernel
theorem od_prog_44_method_12_30 : decode prog_44_method_12_code 30 = .ok (.iconst 0, 1) := by decide +kernel
theorem od_prog_44_method_12_31 : decode prog_44_method_12_code 31 = .ok (.istore 7, 2) := by decide +kernel
theorem od_prog_44_method_12_33 : decode prog_44_method_12_code 33 = .ok (.iload 7, 2) := by decide +kernel
theorem od_prog_44_method_12_35 : decode prog_44_method_12_code 35 = .ok (.iload 6, 2) := by decide +kernel
theorem od_prog_44_method_12_37 : decode prog_44_method_12_code 37 = .ok (.if_icmp .ge 62, 3) := by decide +kernel
theorem od_prog_44_method_12_40 : decode prog_44_method_12_code 40 = .ok (.aload 5, 2) := by decide +kernel
theorem od_prog_44_method_12_42 : decode prog_44_method_12_code 42 = .ok (.iload 7, 2) := by decide +kernel
theorem od_prog_44_method_12_44 : decode prog_44_method_12_code 44 = .ok (.iaload, 1) := by decide +kernel
theorem od_prog_44_method_12_45 : decode prog_44_method_12_code 45 = .ok (.istore 8, 2) := by decide +kernel
theorem od_prog_44_method_12_47 : decode prog_44_method_12_code 47 = .ok (.iload 8, 2) := by decide +kernel
theorem od_prog_44_method_12_49 : decode prog_44_method_12_code 49 = .ok (.aload_n 0, 1) := by decide +kernel
theorem od_prog_44_method_12_50 : decode prog_44_method_12_code 50 = .ok (.getfield 7, 3) := by decide +kernel
theorem od_prog_44_method_12_53 : decode prog_44_method_12_code 53 = .ok (.imul, 1) := by decide +kernel
theorem od_prog_44_method_12_54 : decode prog_44_method_12_code 54 = .ok (.istore 9, 2) := by decide +kernel
theorem od_prog_44_method_12_56 : decode prog_44_method_12_code 56 = .ok (.iconst 0, 1) := by decide +kernel
theorem od_prog_44_method_12_57 : decode prog_44_method_12_code 57 = .ok (.istore 10, 2) := by decide +kernel
theorem od_prog_44_method_12_59 : decode prog_44_method_12_code 59 = .ok (.iload 10, 2) := by decide +kernel
theorem od_prog_44_method_12_61 : decode prog_44_method_12_code 61 = .ok (.aload_n 0, 1) := by decide +kernel
theorem od_prog_44_method_12_62 : decode prog_44_method_12_code 62 = .ok (.getfield 7, 3) := by decide +kernel
theorem od_prog_44_method_12_65 : decode prog_44_method_12_code 65 = .ok (.if_icmp .ge 28, 3) := by decide +kernel
theorem od_prog_44_method_12_93 : decode prog_44_method_12_code 93 = .ok (.iinc 7 1, 3) := by decide +kernel
theorem od_prog_44_method_12_96 : decode prog_44_method_12_code 96 = .ok (.goto (-63), 3) := by decide +kernel
theorem od_prog_44_method_12_99 : decode prog_44_method_12_code 99 = .ok (.aload_n 3, 1) := by decide +kernel
theorem od_prog_44_method_12_100 : decode prog_44_method_12_code 100 = .ok (.areturn, 1) := by decide +kernel
theorem od_prog_44_method_13_0 : decode prog_44_method_13_code 0 = .ok (.aload_n 0, 1) := by decide +kernel
theorem od_prog_44_method_13_1 : decode prog_44_method_13_code 1 = .ok (.getfield 13, 3) := by decide +kernel
theorem od_prog_44_method_13_4 : decode prog_44_method_13_code 4 = .ok (.iload_n 2, 1) := by decide +kernel
theorem od_prog_44_method_13_5 : decode prog_44_method_13_code 5 = .ok (.aaload, 1) := by decide +kernel
theorem od_prog_44_method_13_6 : decode prog_44_method_13_code 6 = .ok (.astore 5, 2) := by decide +kernel
theorem od_prog_44_method_13_8 : decode prog_44_method_13_code 8 = .ok (.iload_n 3, 1) := by decide +kernel
theorem od_prog_44_method_13_9 : decode prog_44_method_13_code 9 = .ok (.aload_n 0, 1) := by decide +kernel
theorem od_prog_44_method_13_10 : decode prog_44_method_13_code 10 = .ok (.getfield 7, 3) := by decide +kernel
theorem od_prog_44_method_13_13 : decode prog_44_method_13_code 13 = .ok (.imul, 1) := by decide +kernel
theorem od_prog_44_method_13_14 : decode prog_44_method_13_code 14 = .ok (.istore 6, 2) := by decide +kernel
theorem od_prog_44_method_13_16 : decode prog_44_method_13_code 16 = .ok (.iconst 0, 1) := by decide +kernel
theorem od_prog_44_method_13_17 : decode prog_44_method_13_code 17 = .ok (.istore 7, 2) := by decide +kernel
theorem od_prog_44_method_13_19 : decode prog_44_method_13_code 19 = .ok (.iload 7, 2) := by decide +kernel
theorem od_prog_44_method_13_21 : decode prog_44_method_13_code 21 = .ok (.aload_n 0, 1) := by decide +kernel
theorem od_prog_44_method_13_22 : decode prog_44_method_13_code 22 = .ok (.getfield 7, 3) := by decide +kernel
theorem od_prog_44_method_13_25 : decode prog_44_method_13_code 25 = .ok (.if_icmp .ge 41, 3) := by decide +kernel
theorem od_prog_44_method_13_66 : decode prog_44_method_13_code 66 = .ok (.iconst 1, 1) := by decide +kernel
theorem od_prog_44_method_13_67 : decode prog_44_method_13_code 67 = .ok (.ireturn, 1) := by decide +kernel
theorem opd_0 : parseMethodDescriptor "(I[[D[D[D[D)V" = some ⟨[.int, (.array (.array .double)), (.array .double), (.array .double), (.array .double)], none⟩ := by decide +kernel
theorem opd_1 : parseMethodDescriptor "([DD)V" = some ⟨[(.array .double), .double], none⟩ := by decide +kernel
theorem opd_2 : parseMethodDescriptor "(I)Lcom/example/bindery/bindery/selection/LimitRows;" = some ⟨[.int], some (.object "com/example/bindery/bindery/selection/LimitRows")⟩ := by decide +kernel
theorem opd_3 : parseMethodDescriptor "()I" = some ⟨[], some .int⟩ := by decide +kernel
theorem opd_4 : parseMethodDescriptor "([D)Z" = some ⟨[(.array .double)], some .boolean⟩ := by decide +kernel
theorem opd_5 : parseMethodDescriptor "([D)D" = some ⟨[(.array .double)], some .double⟩ := by decide +kernel
theorem opd_6 : parseMethodDescriptor "([I)[D" = some ⟨[(.array .int)], some (.array .double)⟩ := by decide +kernel
theorem opd_7 : parseMethodDescriptor "(II)D" = some ⟨[.int, .int], some .double⟩ := by decide +kernel
theorem opd_8 : parseMethodDescriptor "(D[DII)D" = some ⟨[.double, (.array .double), .int, .int], some .double⟩ := by decide +kernel
theorem opd_9 : parseMethodDescriptor "(I[I)[D" = some ⟨[.int, (.array .int)], some (.array .double)⟩ := by decide +kernel
theorem opd_10 : parseMethodDescriptor "([DII[D)Z" = some ⟨[(.array .double), .int, .int, (.array .double)], some .boolean⟩ := by decide +kernel
theorem ef_rm_init (m : MethodId) (x0 : Addr) (x1 : Int32) (x2 : Addr) (x3 : Addr) (x4 : Addr) (x5 : Addr) : entryFrame m #[(.ref x0), (.int x1), (.ref x2), (.ref x3), (.ref x4), (.ref x5)] 6 = mkF m 0 #[.val (.ref x0), .val (.int x1), .val (.ref x2), .val (.ref x3), .val (.ref x4), .val (.ref x5)] [] := by first | (simp [entryFrame, mkF, argsToLocals, Value.category]; done) | rfl
set_option maxRecDepth 65536 in
set_option maxHeartbeats 40000000 in
theorem rm_init (l : Launch) (Z : State) (a0 : Array Value) (hw : ∀ d ∈ tables_1, d.before a0 Z = true) (a1 a2 a3 a4 a5 : Addr) (p1 : Int32) (h0 : Heap) (n0 : Nat) (Z0 : n0 ≤ h0.size) (n0_a1 : n0 ≤ a1) (A_a1 : Exa Z h0 a1 "com/example/bindery/bindery/selection/LimitRows") (F_count : Fld Z h0 a1 "com/example/bindery/bindery/selection/LimitRows" "count" "I" (.int (0 : Int32))) (F_use : Fld Z h0 a1 "com/example/bindery/bindery/selection/LimitRows" "use" "[[D" .null) (F_capacity : Fld Z h0 a1 "com/example/bindery/bindery/selection/LimitRows" "capacity" "[D" .null) (F_tightCapacity : Fld Z h0 a1 "com/example/bindery/bindery/selection/LimitRows" "tightCapacity" "[D" .null) (F_magnitude : Fld Z h0 a1 "com/example/bindery/bindery/selection/LimitRows" "magnitude" "[D" .null) :
    own_Met l Z (⟨"com/example/bindery/bindery/selection/LimitRows", "<init>", "(I[[D[D[D[D)V"⟩ : MethodName) prog_44_method_1_code 6 none ({ frames := 1, cells := 0, slots := 0, locals := 12 } : Room) #[(.ref a1), (.int p1), (.ref a2), (.ref a3), (.ref a4), (.ref a5)] h0 (fun v h L => v = none ∧ Fr n0 L ∧ Keep h0 h [a1] ∧ Exa Z h a1 "com/example/bindery/bindery/selection/LimitRows" ∧ Fld Z h a1 "com/example/bindery/bindery/selection/LimitRows" "count" "I" (.int p1) ∧ Fld Z h a1 "com/example/bindery/bindery/selection/LimitRows" "use" "[[D" (.ref a2)) := by
  refine own_body (plainFor_of_name (by first | (simp [plainName, overriddenIn]; done) | decide +kernel)) ?_
  intro p e s m below meth c s₁ hx hby hml hown hnm hlk hrt hZ X0 e0
  refine own_enter (ef_rm_init m a1 p1 a2 a3 a4 a5) ?_
  have N0 := Fr.nil n0
  have K0 := Keep.refl h0 [a1]
  refine own_aloadN X0 hx hby od_prog_44_method_1_0 (pc' := 1) rfl rfl rfl ?_
  refine own_initO X0 hx hby hZ hml hown (ow_13 hw) (ow_14 hw) (ow_15 hw) e0 rfl od_prog_44_method_1_1 (pc' := 4) rfl (by decide) (W := 0) (Nat.le_refl _) (by decide) ?_
  intro T1 X1 e1
  refine own_aloadN X1 hx hby od_prog_44_method_1_4 (pc' := 5) rfl rfl rfl ?_
  refine own_iloadN X1 hx hby od_prog_44_method_1_5 (pc' := 6) rfl rfl ?_
  refine own_putF X1 hx hby hZ hown (host := "") (Or.inl (ow_16 hw)) Via.refl e1 F_count A_a1 (Or.inr ⟨(ow_17 hw), rfl, hnm⟩) (ow_9 hw) (ty := .int) (by decide) rfl rfl od_prog_44_method_1_6 (pc' := 9) rfl ?_
  intro T2 h2 X2 e2 W2 F2_count_a1 A2_a1
  have Fw2_3 := F_use.other W2 (Or.inr (slot_ne (Or.inr (ow_19 hw)) (Or.inr (ow_17 hw)) (by decide) (t := (.array (.array .double))) (t' := .int) (by decide) (by decide)))
  have Fw2_4 := F_capacity.other W2 (Or.inr (slot_ne (Or.inr (ow_21 hw)) (Or.inr (ow_17 hw)) (by decide) (t := (.array .double)) (t' := .int) (by decide) (by decide)))
  have Fw2_5 := F_tightCapacity.other W2 (Or.inr (slot_ne (Or.inr (ow_23 hw)) (Or.inr (ow_17 hw)) (by decide) (t := (.array .double)) (t' := .int) (by decide) (by decide)))
  have Fw2_6 := F_magnitude.other W2 (Or.inr (slot_ne (Or.inr (ow_25 hw)) (Or.inr (ow_17 hw)) (by decide) (t := (.array .double)) (t' := .int) (by decide) (by decide)))
  have K7 := K0.wr W2 (Or.inl (List.mem_of_getElem? (i := 0) rfl))
  have N2 := own_fr1 (sl := Jvm.RoadKit.slotOf Z "com/example/bindery/bindery/selection/LimitRows" "count" "I") N0 n0_a1
  refine own_aloadN X2 hx hby od_prog_44_method_1_9 (pc' := 10) rfl rfl rfl ?_
  refine own_aloadN X2 hx hby od_prog_44_method_1_10 (pc' := 11) rfl rfl rfl ?_
  refine own_putF X2 hx hby hZ hown (host := "") (Or.inl (ow_18 hw)) Via.refl e2 Fw2_3 A2_a1 (Or.inr ⟨(ow_19 hw), rfl, hnm⟩) (ow_9 hw) (ty := (.array (.array .double))) (by decide) rfl rfl od_prog_44_method_1_11 (pc' := 14) rfl ?_
  intro T8 h8 X8 e8 W8 F8_use_a1 A8_a1
  have Fw8_9 := F2_count_a1.other W8 (Or.inr (slot_ne (Or.inr (ow_17 hw)) (Or.inr (ow_19 hw)) (by decide) (t := .int) (t' := (.array (.array .double))) (by decide) (by decide)))
  have Fw8_10 := Fw2_4.other W8 (Or.inr (slot_ne (Or.inr (ow_21 hw)) (Or.inr (ow_19 hw)) (by decide) (t := (.array .double)) (t' := (.array (.array .double))) (by decide) (by decide)))
  have Fw8_11 := Fw2_5.other W8 (Or.inr (slot_ne (Or.inr (ow_23 hw)) (Or.inr (ow_19 hw)) (by decide) (t := (.array .double)) (t' := (.array (.array .double))) (by decide) (by decide)))
  have Fw8_12 := Fw2_6.other W8 (Or.inr (slot_ne (Or.inr (ow_25 hw)) (Or.inr (ow_19 hw)) (by decide) (t := (.array .double)) (t' := (.array (.array .double))) (by decide) (by decide)))
  have K13 := K7.wr W8 (Or.inl (List.mem_of_getElem? (i := 0) rfl))
  have N8 := own_fr1 (sl := Jvm.RoadKit.slotOf Z "com/example/bindery/bindery/selection/LimitRows" "use" "[[D") N2 n0_a1
  refine own_aloadN X8 hx hby od_prog_44_method_1_14 (pc' := 15) rfl rfl rfl ?_
  refine own_aloadN X8 hx hby od_prog_44_method_1_15 (pc' := 16) rfl rfl rfl ?_
  refine own_putF X8 hx hby hZ hown (host := "") (Or.inl (ow_20 hw)) Via.refl e8 Fw8_10 A8_a1 (Or.inr ⟨(ow_21 hw), rfl, hnm⟩) (ow_9 hw) (ty := (.array .double)) (by decide) rfl rfl od_prog_44_method_1_16 (pc' := 19) rfl ?_
  intro T14 h14 X14 e14 W14 F14_capacity_a1 A14_a1
  have Fw14_15 := F8_use_a1.other W14 (Or.inr (slot_ne (Or.inr (ow_19 hw)) (Or.inr (ow_21 hw)) (by decide) (t := (.array (.array .double))) (t' := (.array .double)) (by decide) (by decide)))
  have Fw14_16 := Fw8_9.other W14 (Or.inr (slot_ne (Or.inr (ow_17 hw)) (Or.inr (ow_21 hw)) (by decide) (t := .int) (t' := (.array .double)) (by decide) (by decide)))
  have Fw14_17 := Fw8_11.other W14 (Or.inr (slot_ne (Or.inr (ow_23 hw)) (Or.inr (ow_21 hw)) (by decide) (t := (.array .double)) (t' := (.array .double)) (by decide) (by decide)))
  have Fw14_18 := Fw8_12.other W14 (Or.inr (slot_ne (Or.inr (ow_25 hw)) (Or.inr (ow_21 hw)) (by decide) (t := (.array .double)) (t' := (.array .double)) (by decide) (by decide)))
  have K19 := K13.wr W14 (Or.inl (List.mem_of_getElem? (i := 0) rfl))
  have N14 := own_fr1 (sl := Jvm.RoadKit.slotOf Z "com/example/bindery/bindery/selection/LimitRows" "capacity" "[D") N8 n0_a1
  refine own_aloadN X14 hx hby od_prog_44_method_1_19 (pc' := 20) rfl rfl rfl ?_
  refine own_aload X14 hx hby od_prog_44_method_1_20 (pc' := 22) rfl rfl rfl ?_
  refine own_putF X14 hx hby hZ hown (host := "") (Or.inl (ow_22 hw)) Via.refl e14 Fw14_17 A14_a1 (Or.inr ⟨(ow_23 hw), rfl, hnm⟩) (ow_9 hw) (ty := (.array .double)) (by decide) rfl rfl od_prog_44_method_1_22 (pc' := 25) rfl ?_
  intro T20 h20 X20 e20 W20 F20_tightCapacity_a1 A20_a1
  have Fw20_21 := F14_capacity_a1.other W20 (Or.inr (slot_ne (Or.inr (ow_21 hw)) (Or.inr (ow_23 hw)) (by decide) (t := (.array .double)) (t' := (.array .double)) (by decide) (by decide)))
  have Fw20_22 := Fw14_15.other W20 (Or.inr (slot_ne (Or.inr (ow_19 hw)) (Or.inr (ow_23 hw)) (by decide) (t := (.array (.array .double))) (t' := (.array .double)) (by decide) (by decide)))
  have Fw20_23 := Fw14_16.other W20 (Or.inr (slot_ne (Or.inr (ow_17 hw)) (Or.inr (ow_23 hw)) (by decide) (t := .int) (t' := (.array .double)) (by decide) (by decide)))
  have Fw20_24 := Fw14_18.other W20 (Or.inr (slot_ne (Or.inr (ow_25 hw)) (Or.inr (ow_23 hw)) (by decide) (t := (.array .double)) (t' := (.array .double)) (by decide) (by decide)))
  have K25 := K19.wr W20 (Or.inl (List.mem_of_getElem? (i := 0) rfl))
  have N20 := own_fr1 (sl := Jvm.RoadKit.slotOf Z "com/example/bindery/bindery/selection/LimitRows" "tightCapacity" "[D") N14 n0_a1
  refine own_aloadN X20 hx hby od_prog_44_method_1_25 (pc' := 26) rfl rfl rfl ?_
  refine own_aload X20 hx hby od_prog_44_method_1_26 (pc' := 28) rfl rfl rfl ?_
  refine own_putF X20 hx hby hZ hown (host := "") (Or.inl (ow_24 hw)) Via.refl e20 Fw20_24 A20_a1 (Or.inr ⟨(ow_25 hw), rfl, hnm⟩) (ow_9 hw) (ty := (.array .double)) (by decide) rfl rfl od_prog_44_method_1_28 (pc' := 31) rfl ?_
  intro T26 h26 X26 e26 W26 F26_magnitude_a1 A26_a1
  have Fw26_27 := F20_tightCapacity_a1.other W26 (Or.inr (slot_ne (Or.inr (ow_23 hw)) (Or.inr (ow_25 hw)) (by decide) (t := (.array .double)) (t' := (.array .double)) (by decide) (by decide)))
  have Fw26_28 := Fw20_21.other W26 (Or.inr (slot_ne (Or.inr (ow_21 hw)) (Or.inr (ow_25 hw)) (by decide) (t := (.array .double)) (t' := (.array .double)) (by decide) (by decide)))
  have Fw26_29 := Fw20_22.other W26 (Or.inr (slot_ne (Or.inr (ow_19 hw)) (Or.inr (ow_25 hw)) (by decide) (t := (.array (.array .double))) (t' := (.array .double)) (by decide) (by decide)))
  have Fw26_30 := Fw20_23.other W26 (Or.inr (slot_ne (Or.inr (ow_17 hw)) (Or.inr (ow_25 hw)) (by decide) (t := .int) (t' := (.array .double)) (by decide) (by decide)))
  have K31 := K25.wr W26 (Or.inl (List.mem_of_getElem? (i := 0) rfl))
  have N26 := own_fr1 (sl := Jvm.RoadKit.slotOf Z "com/example/bindery/bindery/selection/LimitRows" "magnitude" "[D") N20 n0_a1
  exact own_ret0 X26 hx hby hlk hrt od_prog_44_method_1_31 (by first | exact ⟨rfl, N26, K31, A26_a1, Fw26_30, Fw26_29⟩ | (rw [e26]; exact ⟨rfl, N26, K31, A26_a1, Fw26_30, Fw26_29⟩)) (by decide) (by decide)
theorem ef_rm_none (m : MethodId) (x0 : Int32) : entryFrame m #[(.int x0)] 2 = mkF m 0 #[.val (.int x0), .unset] [] := by first | (simp [entryFrame, mkF, argsToLocals, Value.category]; done) | rfl
set_option maxRecDepth 65536 in
set_option maxHeartbeats 40000000 in
theorem rm_none (l : Launch) (Z : State) (a0 : Array Value) (hw : ∀ d ∈ tables_1, d.before a0 Z = true) (p1 : Int32) (h0 : Heap) (n0 : Nat) (Z0 : n0 ≤ h0.size) (hn : ¬ p1 < 0) (hN : p1.toNatClampNeg ≤ 63) :
    own_Met l Z (⟨"com/example/bindery/bindery/selection/LimitRows", "none", "(I)Lcom/example/bindery/bindery/selection/LimitRows;"⟩ : MethodName) prog_44_method_3_code 2 (some (.object "com/example/bindery/bindery/selection/LimitRows")) ({ frames := 2, cells := 68, slots := 68, locals := 30 } : Room) #[(.int p1)] h0 (fun v h L => ∃ r u : Addr, v = some (.ref r) ∧ n0 ≤ r ∧ Ext h0 h ∧ Fr n0 L ∧ Exa Z h r "com/example/bindery/bindery/selection/LimitRows" ∧ Fld Z h r "com/example/bindery/bindery/selection/LimitRows" "count" "I" (.int (0 : Int32)) ∧ Fld Z h r "com/example/bindery/bindery/selection/LimitRows" "use" "[[D" (.ref u) ∧ own_Grid Z h u p1) := by
  refine own_body (plainFor_of_name (by first | (simp [plainName, overriddenIn]; done) | decide +kernel)) ?_
  intro p e s m below meth c s₁ hx hby hml hown hnm hlk hrt hZ X0 e0
  refine own_enter (ef_rm_none m p1) ?_
  have N0 := Fr.nil n0
  refine own_iloadN X0 hx hby od_prog_44_method_3_0 (pc' := 1) rfl rfl ?_
  refine own_iconst X0 hx hby od_prog_44_method_3_1 (pc' := 2) rfl (z := 0) rfl ?_
  refine own_grid X0 hx hby hZ hown (C := "[D") rfl rfl (ow_6 hw) (ow_7 hw) (ow_0 hw) e0 od_prog_44_method_3_2 (pc' := 6) rfl hn hN (by decide) (by decide) (CC := 64) (SS := 63) (by decide) (by decide) (by decide) (by decide) ?_
  intro T1 h1 b1 g1 X1 e1 E1 G_b1
  have le2 : h0.size ≤ b1 := Nat.le_of_eq g1.symm
  have n0_b1 : n0 ≤ b1 := Nat.le_trans Z0 (Nat.le_of_eq g1.symm)
  refine own_astoreN X1 hx hby od_prog_44_method_3_6 (pc' := 7) rfl rfl (Ls' := #[.val (.int p1), .val (.ref b1)]) rfl ?_
  refine own_newO X1 hx hby hZ hown (ow_8 hw) (ow_9 hw) (ow_4 hw) e1 od_prog_44_method_3_7 (pc' := 10) rfl (by decide) (by decide) ?_
  intro T3 h3 b3 g3 X3 e3 E3 A3 D3
  have le4 : h0.size ≤ b3 := Nat.le_trans E1.1 (Nat.le_of_eq g3.symm)
  have le5 : h1.size ≤ b3 := Nat.le_of_eq g3.symm
  have n0_b3 : n0 ≤ b3 := Nat.le_trans (Nat.le_trans Z0 E1.1) (Nat.le_of_eq g3.symm)
  have Ea6 := own_xt E1 E3
  have F_count_b3 : Fld Z h3 b3 "com/example/bindery/bindery/selection/LimitRows" "count" "I" (.int (0 : Int32)) := D3 (Or.inr (ow_17 hw)) (ty := .int) (by decide)
  have F_use_b3 : Fld Z h3 b3 "com/example/bindery/bindery/selection/LimitRows" "use" "[[D" .null := D3 (Or.inr (ow_19 hw)) (ty := (.array (.array .double))) (by decide)
  have F_capacity_b3 : Fld Z h3 b3 "com/example/bindery/bindery/selection/LimitRows" "capacity" "[D" .null := D3 (Or.inr (ow_21 hw)) (ty := (.array .double)) (by decide)
  have F_tightCapacity_b3 : Fld Z h3 b3 "com/example/bindery/bindery/selection/LimitRows" "tightCapacity" "[D" .null := D3 (Or.inr (ow_23 hw)) (ty := (.array .double)) (by decide)
  have F_magnitude_b3 : Fld Z h3 b3 "com/example/bindery/bindery/selection/LimitRows" "magnitude" "[D" .null := D3 (Or.inr (ow_25 hw)) (ty := (.array .double)) (by decide)
  refine own_dup X3 hx hby od_prog_44_method_3_10 (pc' := 11) rfl rfl ?_
  refine own_iconst X3 hx hby od_prog_44_method_3_11 (pc' := 12) rfl (z := 0) rfl ?_
  refine own_aloadN X3 hx hby od_prog_44_method_3_12 (pc' := 13) rfl rfl rfl ?_
  refine own_iconst X3 hx hby od_prog_44_method_3_13 (pc' := 14) rfl (z := 0) rfl ?_
  refine own_newP (aty := .double) X3 hx hby hZ (ow_0 hw) e3 od_prog_44_method_3_14 (pc' := 16) rfl (by decide) (cap := 0) (by decide) (by decide) (by decide) (by decide) ?_
  intro T7 h7 b7 kA7 g7 X7 e7 E7 V_b7
  have le8 : h0.size ≤ b7 := Nat.le_trans Ea6.1 (Nat.le_of_eq g7.symm)
  have le9 : h1.size ≤ b7 := Nat.le_trans E3.1 (Nat.le_of_eq g7.symm)
  have le10 : h3.size ≤ b7 := Nat.le_of_eq g7.symm
  have n0_b7 : n0 ≤ b7 := Nat.le_trans (Nat.le_trans Z0 Ea6.1) (Nat.le_of_eq g7.symm)
  have Ea11 := own_xt Ea6 E7
  have Ea12 := own_xt E3 E7
  replace V_b7 : Arv Z h7 b7 kA7 .double (0 : Int32) [] (.double (0 : UInt64)) := V_b7
  refine own_iconst X7 hx hby od_prog_44_method_3_16 (pc' := 17) rfl (z := 0) rfl ?_
  refine own_newP (aty := .double) X7 hx hby hZ (ow_0 hw) e7 od_prog_44_method_3_17 (pc' := 19) rfl (by decide) (cap := 0) (by decide) (by decide) (by decide) (by decide) ?_
  intro T13 h13 b13 kA13 g13 X13 e13 E13 V_b13
  have le14 : h0.size ≤ b13 := Nat.le_trans Ea11.1 (Nat.le_of_eq g13.symm)
  have le15 : h1.size ≤ b13 := Nat.le_trans Ea12.1 (Nat.le_of_eq g13.symm)
  have le16 : h3.size ≤ b13 := Nat.le_trans E7.1 (Nat.le_of_eq g13.symm)
  have le17 : h7.size ≤ b13 := Nat.le_of_eq g13.symm
  have n0_b13 : n0 ≤ b13 := Nat.le_trans (Nat.le_trans Z0 Ea11.1) (Nat.le_of_eq g13.symm)
  have Ea18 := own_xt Ea11 E13
  have Ea19 := own_xt Ea12 E13
  have Ea20 := own_xt E7 E13
  replace V_b13 : Arv Z h13 b13 kA13 .double (0 : Int32) [] (.double (0 : UInt64)) := V_b13
  refine own_iconst X13 hx hby od_prog_44_method_3_19 (pc' := 20) rfl (z := 0) rfl ?_
  refine own_newP (aty := .double) X13 hx hby hZ (ow_0 hw) e13 od_prog_44_method_3_20 (pc' := 22) rfl (by decide) (cap := 0) (by decide) (by decide) (by decide) (by decide) ?_
  intro T21 h21 b21 kA21 g21 X21 e21 E21 V_b21
  have le22 : h0.size ≤ b21 := Nat.le_trans Ea18.1 (Nat.le_of_eq g21.symm)
  have le23 : h1.size ≤ b21 := Nat.le_trans Ea19.1 (Nat.le_of_eq g21.symm)
  have le24 : h3.size ≤ b21 := Nat.le_trans Ea20.1 (Nat.le_of_eq g21.symm)
  have le25 : h7.size ≤ b21 := Nat.le_trans E13.1 (Nat.le_of_eq g21.symm)
  have le26 : h13.size ≤ b21 := Nat.le_of_eq g21.symm
  have n0_b21 : n0 ≤ b21 := Nat.le_trans (Nat.le_trans Z0 Ea18.1) (Nat.le_of_eq g21.symm)
  have Ea27 := own_xt Ea18 E21
  have Ea28 := own_xt Ea19 E21
  have Ea29 := own_xt Ea20 E21
  have Ea30 := own_xt E13 E21
  replace V_b21 : Arv Z h21 b21 kA21 .double (0 : Int32) [] (.double (0 : UInt64)) := V_b21
  refine own_specM X21 hx hby hml hZ hown rfl (ow_10 hw) (ow_11 hw) (ow_4 hw) (ow_12 hw) (by decide) (cc := 0) (ss := 0) (rm_init l Z a0 hw b3 b1 b7 b13 b21 (0 : Int32) h21 n0 (Nat.le_trans Z0 Ea27.1) n0_b3 (A3.ext Ea29) (F_count_b3.ext Ea29) (F_use_b3.ext Ea29) (F_capacity_b3.ext Ea29) (F_tightCapacity_b3.ext Ea29) (F_magnitude_b3.ext Ea29)) 1 rfl rfl (by decide) (by decide) rfl (argsL := [(.int (0 : Int32)), (.ref b1), (.ref b7), (.ref b13), (.ref b21)]) (rest := [(.ref b3)]) opd_0 rfl rfl (Nat.le_refl _) od_prog_44_method_3_22 (pc' := 25) rfl rfl e21 (by decide) (by decide) ?_
  rintro v31 T31 h31 L31 X31 e31 ⟨rfl, Nq31, Kq31, Ar, Fc, Fu⟩
  have N31 := N0.app Nq31
  have Ea32 := own_xk Ea27 Kq31 (allS le4 all0)
  have Ea33 := own_xk Ea28 Kq31 (allS le5 all0)
  replace G_b1 := G_b1.ext Ea33
  exact own_retA X31 hx hby hlk hrt rfl rfl od_prog_44_method_3_25 (by first | exact ⟨b3, b1, rfl, n0_b3, Ea32, N31, Ar, Fc, Fu, G_b1⟩ | (rw [e31]; exact ⟨b3, b1, rfl, n0_b3, Ea32, N31, Ar, Fc, Fu, G_b1⟩)) (by decide) (by decide)
theorem ef_rm_count (m : MethodId) (x0 : Addr) : entryFrame m #[(.ref x0)] 1 = mkF m 0 #[.val (.ref x0)] [] := by first | (simp [entryFrame, mkF, argsToLocals, Value.category]; done) | rfl
set_option maxRecDepth 65536 in
set_option maxHeartbeats 40000000 in
theorem rm_count (l : Launch) (Z : State) (a0 : Array Value) (hw : ∀ d ∈ tables_1, d.before a0 Z = true) (r : Addr) (h0 : Heap) (n0 : Nat) (Z0 : n0 ≤ h0.size) (Fc : Fld Z h0 r "com/example/bindery/bindery/selection/LimitRows" "count" "I" (.int (0 : Int32))) :
    own_Met l Z (⟨"com/example/bindery/bindery/selection/LimitRows", "count", "()I"⟩ : MethodName) prog_44_method_4_code 1 (some .int) ({ frames := 0, cells := 0, slots := 0, locals := 0 } : Room) #[(.ref r)] h0 (fun v h L => v = some (.int (0 : Int32)) ∧ Fr n0 L ∧ h0 = h) := by
  refine own_body (plainFor_of_name (by first | (simp [plainName, overriddenIn]; done) | decide +kernel)) ?_
  intro p e s m below meth c s₁ hx hby hml hown hnm hlk hrt hZ X0 e0
  refine own_enter (ef_rm_count m r) ?_
  have N0 := Fr.nil n0
  refine own_aloadN X0 hx hby od_prog_44_method_4_0 (pc' := 1) rfl rfl rfl ?_
  refine own_getF X0 hx hby hZ hown (host := "") (Or.inl (ow_16 hw)) Via.refl e0 Fc od_prog_44_method_4_1 (pc' := 4) rfl ?_
  intro T1 X1 e1
  exact own_retI X1 hx hby hlk hrt od_prog_44_method_4_4 (by first | exact ⟨rfl, N0, rfl⟩ | (rw [e1]; exact ⟨rfl, N0, rfl⟩)) (by decide) (by decide)
theorem ef_rm_within (m : MethodId) (x0 : Addr) (x1 : Addr) : entryFrame m #[(.ref x0), (.ref x1)] 3 = mkF m 0 #[.val (.ref x0), .val (.ref x1), .unset] [] := by first | (simp [entryFrame, mkF, argsToLocals, Value.category]; done) | rfl
set_option maxRecDepth 65536 in
set_option maxHeartbeats 40000000 in
theorem rm_within (l : Launch) (Z : State) (a0 : Array Value) (hw : ∀ d ∈ tables_1, d.before a0 Z = true) (r a1 : Addr) (h0 : Heap) (n0 : Nat) (Z0 : n0 ≤ h0.size) (Fc : Fld Z h0 r "com/example/bindery/bindery/selection/LimitRows" "count" "I" (.int (0 : Int32))) :
    own_Met l Z (⟨"com/example/bindery/bindery/selection/LimitRows", "within", "([D)Z"⟩ : MethodName) prog_44_method_14_code 3 (some .boolean) ({ frames := 0, cells := 0, slots := 0, locals := 0 } : Room) #[(.ref r), (.ref a1)] h0 (fun v h L => v = some (.int (1 : Int32)) ∧ Fr n0 L ∧ h0 = h) := by
  refine own_body (plainFor_of_name (by first | (simp [plainName, overriddenIn]; done) | decide +kernel)) ?_
  intro p e s m below meth c s₁ hx hby hml hown hnm hlk hrt hZ X0 e0
  refine own_enter (ef_rm_within m r a1) ?_
  have N0 := Fr.nil n0
  refine own_iconst X0 hx hby od_prog_44_method_14_0 (pc' := 1) rfl (z := 0) rfl ?_
  refine own_istoreN X0 hx hby od_prog_44_method_14_1 (pc' := 2) rfl (Ls' := #[.val (.ref r), .val (.ref a1), .val (.int (0 : Int32))]) rfl ?_
  refine own_iloadN X0 hx hby od_prog_44_method_14_2 (pc' := 3) rfl rfl ?_
  refine own_aloadN X0 hx hby od_prog_44_method_14_3 (pc' := 4) rfl rfl rfl ?_
  refine own_getF X0 hx hby hZ hown (host := "") (Or.inl (ow_16 hw)) Via.refl e0 Fc od_prog_44_method_14_4 (pc' := 7) rfl ?_
  intro T1 X1 e1
  refine own_icmpY X1 hx hby od_prog_44_method_14_7 (by decide) (pc' := 31) (by decide) (flt (by decide)).2.1 ?_
  refine own_iconst X1 hx hby od_prog_44_method_14_31 (pc' := 32) rfl (z := 1) rfl ?_
  exact own_retN X1 hx hby hlk hrt (by simp) od_prog_44_method_14_32 (z' := (1 : Int32)) rfl (by first | exact ⟨rfl, N0, rfl⟩ | (rw [e1]; exact ⟨rfl, N0, rfl⟩)) (by decide) (by decide)
theorem ef_rm_overrun (m : MethodId) (x0 : Addr) (x1 : Addr) : entryFrame m #[(.ref x0), (.ref x1)] 5 = mkF m 0 #[.val (.ref x0), .val (.ref x1), .unset, .unset, .unset] [] := by first | (simp [entryFrame, mkF, argsToLocals, Value.category]; done) | rfl
set_option maxRecDepth 65536 in
set_option maxHeartbeats 40000000 in
theorem rm_overrun (l : Launch) (Z : State) (a0 : Array Value) (hw : ∀ d ∈ tables_1, d.before a0 Z = true) (r a1 : Addr) (h0 : Heap) (n0 : Nat) (Z0 : n0 ≤ h0.size) (Fc : Fld Z h0 r "com/example/bindery/bindery/selection/LimitRows" "count" "I" (.int (0 : Int32))) :
    own_Met l Z (⟨"com/example/bindery/bindery/selection/LimitRows", "overrun", "([D)D"⟩ : MethodName) prog_44_method_11_code 5 (some .double) ({ frames := 0, cells := 0, slots := 0, locals := 0 } : Room) #[(.ref r), (.ref a1)] h0 (fun v h L => v = some (.double (FP.l2d 0)) ∧ Fr n0 L ∧ h0 = h) := by
  refine own_body (plainFor_of_name (by first | (simp [plainName, overriddenIn]; done) | decide +kernel)) ?_
  intro p e s m below meth c s₁ hx hby hml hown hnm hlk hrt hZ X0 e0
  refine own_enter (ef_rm_overrun m r a1) ?_
  have N0 := Fr.nil n0
  refine own_dconst0 X0 hx hby od_prog_44_method_11_0 (pc' := 1) rfl own_d0 ?_
  refine own_dstoreN X0 hx hby od_prog_44_method_11_1 (pc' := 2) rfl (Ls' := #[.val (.ref r), .val (.ref a1), .val (.double (FP.l2d 0)), .second, .unset]) rfl ?_
  refine own_iconst X0 hx hby od_prog_44_method_11_2 (pc' := 3) rfl (z := 0) rfl ?_
  refine own_istore X0 hx hby od_prog_44_method_11_3 (pc' := 5) rfl (Ls' := #[.val (.ref r), .val (.ref a1), .val (.double (FP.l2d 0)), .second, .val (.int (0 : Int32))]) rfl ?_
  refine own_iload X0 hx hby od_prog_44_method_11_5 (pc' := 7) rfl rfl ?_
  refine own_aloadN X0 hx hby od_prog_44_method_11_7 (pc' := 8) rfl rfl rfl ?_
  refine own_getF X0 hx hby hZ hown (host := "") (Or.inl (ow_16 hw)) Via.refl e0 Fc od_prog_44_method_11_8 (pc' := 11) rfl ?_
  intro T1 X1 e1
  refine own_icmpY X1 hx hby od_prog_44_method_11_11 (by decide) (pc' := 39) (by decide) (flt (by decide)).2.1 ?_
  refine own_dloadN X1 hx hby od_prog_44_method_11_39 (pc' := 40) rfl rfl ?_
  exact own_retD X1 hx hby hlk hrt od_prog_44_method_11_40 (by first | exact ⟨rfl, N0, rfl⟩ | (rw [e1]; exact ⟨rfl, N0, rfl⟩)) (by decide) (by decide)
theorem ef_rm_loads (m : MethodId) (x0 : Addr) (x1 : Addr) : entryFrame m #[(.ref x0), (.ref x1)] 5 = mkF m 0 #[.val (.ref x0), .val (.ref x1), .unset, .unset, .unset] [] := by first | (simp [entryFrame, mkF, argsToLocals, Value.category]; done) | rfl
set_option maxRecDepth 65536 in
set_option maxHeartbeats 40000000 in
theorem rm_loads (l : Launch) (Z : State) (a0 : Array Value) (hw : ∀ d ∈ tables_1, d.before a0 Z = true) (r a1 : Addr) (h0 : Heap) (n0 : Nat) (Z0 : n0 ≤ h0.size) (Fc : Fld Z h0 r "com/example/bindery/bindery/selection/LimitRows" "count" "I" (.int (0 : Int32))) :
    own_Met l Z (⟨"com/example/bindery/bindery/selection/LimitRows", "loads", "([I)[D"⟩ : MethodName) prog_44_method_9_code 5 (some (.array .double)) ({ frames := 0, cells := 1, slots := 0, locals := 0 } : Room) #[(.ref r), (.ref a1)] h0 (fun v h L => ∃ (b : Addr) (kA : ClassId), v = some (.ref b) ∧ Ext h0 h ∧ Fr n0 L ∧ Arv Z h b kA .double (0 : Int32) [] (.double (0 : UInt64))) := by
  refine own_body (plainFor_of_name (by first | (simp [plainName, overriddenIn]; done) | decide +kernel)) ?_
  intro p e s m below meth c s₁ hx hby hml hown hnm hlk hrt hZ X0 e0
  refine own_enter (ef_rm_loads m r a1) ?_
  have N0 := Fr.nil n0
  refine own_aloadN X0 hx hby od_prog_44_method_9_0 (pc' := 1) rfl rfl rfl ?_
  refine own_getF X0 hx hby hZ hown (host := "") (Or.inl (ow_16 hw)) Via.refl e0 Fc od_prog_44_method_9_1 (pc' := 4) rfl ?_
  intro T1 X1 e1
  refine own_newP (aty := .double) X1 hx hby hZ (ow_0 hw) e1 od_prog_44_method_9_4 (pc' := 6) rfl (by decide) (cap := 0) (by decide) (by decide) (by decide) (by decide) ?_
  intro T2 h2 b2 kA2 g2 X2 e2 E2 V_b2
  have le3 : h0.size ≤ b2 := Nat.le_of_eq g2.symm
  have n0_b2 : n0 ≤ b2 := Nat.le_trans Z0 (Nat.le_of_eq g2.symm)
  replace V_b2 : Arv Z h2 b2 kA2 .double (0 : Int32) [] (.double (0 : UInt64)) := V_b2
  replace Fc := Fc.ext E2
  refine own_astoreN X2 hx hby od_prog_44_method_9_6 (pc' := 7) rfl rfl (Ls' := #[.val (.ref r), .val (.ref a1), .val (.ref b2), .unset, .unset]) rfl ?_
  refine own_iconst X2 hx hby od_prog_44_method_9_7 (pc' := 8) rfl (z := 0) rfl ?_
  refine own_istoreN X2 hx hby od_prog_44_method_9_8 (pc' := 9) rfl (Ls' := #[.val (.ref r), .val (.ref a1), .val (.ref b2), .val (.int (0 : Int32)), .unset]) rfl ?_
  refine own_iloadN X2 hx hby od_prog_44_method_9_9 (pc' := 10) rfl rfl ?_
  refine own_aloadN X2 hx hby od_prog_44_method_9_10 (pc' := 11) rfl rfl rfl ?_
  refine own_getF X2 hx hby hZ hown (host := "") (Or.inl (ow_16 hw)) Via.refl e2 Fc od_prog_44_method_9_11 (pc' := 14) rfl ?_
  intro T4 X4 e4
  refine own_icmpY X4 hx hby od_prog_44_method_9_14 (by decide) (pc' := 64) (by decide) (flt (by decide)).2.1 ?_
  refine own_aloadN X4 hx hby od_prog_44_method_9_64 (pc' := 65) rfl rfl rfl ?_
  exact own_retA X4 hx hby hlk hrt rfl rfl od_prog_44_method_9_65 (by first | exact ⟨b2, kA2, rfl, E2, N0, V_b2⟩ | (rw [e4]; exact ⟨b2, kA2, rfl, E2, N0, V_b2⟩)) (by decide) (by decide)
theorem ef_rm_useSum (m : MethodId) (x0 : Addr) (x1 : Int32) (x2 : Int32) : entryFrame m #[(.ref x0), (.int x1), (.int x2)] 8 = mkF m 0 #[.val (.ref x0), .val (.int x1), .val (.int x2), .unset, .unset, .unset, .unset, .unset] [] := by first | (simp [entryFrame, mkF, argsToLocals, Value.category]; done) | rfl
set_option maxRecDepth 65536 in
set_option maxHeartbeats 40000000 in
theorem rm_useSum (l : Launch) (Z : State) (a0 : Array Value) (hw : ∀ d ∈ tables_1, d.before a0 Z = true) (r u : Addr) (j p2 q : Int32) (h0 : Heap) (n0 : Nat) (Z0 : n0 ≤ h0.size) (Fc : Fld Z h0 r "com/example/bindery/bindery/selection/LimitRows" "count" "I" (.int (0 : Int32))) (Fu : Fld Z h0 r "com/example/bindery/bindery/selection/LimitRows" "use" "[[D" (.ref u)) (Gu : own_Grid Z h0 u q) (hj : ¬ j < 0 ∧ j < q) :
    own_Met l Z (⟨"com/example/bindery/bindery/selection/LimitRows", "useSum", "(II)D"⟩ : MethodName) prog_44_method_7_code 8 (some .double) ({ frames := 0, cells := 0, slots := 0, locals := 0 } : Room) #[(.ref r), (.int j), (.int p2)] h0 (fun v h L => v = some (.double (FP.l2d 0)) ∧ Fr n0 L ∧ h0 = h) := by
  refine own_body (plainFor_of_name (by first | (simp [plainName, overriddenIn]; done) | decide +kernel)) ?_
  intro p e s m below meth c s₁ hx hby hml hown hnm hlk hrt hZ X0 e0
  refine own_enter (ef_rm_useSum m r j p2) ?_
  have N0 := Fr.nil n0
  refine own_aloadN X0 hx hby od_prog_44_method_7_0 (pc' := 1) rfl rfl rfl ?_
  refine own_getF X0 hx hby hZ hown (host := "") (Or.inl (ow_18 hw)) Via.refl e0 Fu od_prog_44_method_7_1 (pc' := 4) rfl ?_
  intro T1 X1 e1
  refine own_iloadN X1 hx hby od_prog_44_method_7_4 (pc' := 5) rfl rfl ?_
  refine own_aaloadG X1 hx hby hZ e1 Gu hj od_prog_44_method_7_5 (pc' := 6) rfl ?_
  intro x2
  refine own_astoreN X1 hx hby od_prog_44_method_7_6 (pc' := 7) rfl rfl (Ls' := #[.val (.ref r), .val (.int j), .val (.int p2), .val (.ref x2), .unset, .unset, .unset, .unset]) rfl ?_
  refine own_iloadN X1 hx hby od_prog_44_method_7_7 (pc' := 8) rfl rfl ?_
  refine own_aloadN X1 hx hby od_prog_44_method_7_8 (pc' := 9) rfl rfl rfl ?_
  refine own_getF X1 hx hby hZ hown (host := "") (Or.inl (ow_16 hw)) Via.refl e1 Fc od_prog_44_method_7_9 (pc' := 12) rfl ?_
  intro T3 X3 e3
  refine own_imul X3 hx hby od_prog_44_method_7_12 (pc' := 13) rfl ?_
  refine own_istore X3 hx hby od_prog_44_method_7_13 (pc' := 15) rfl (Ls' := #[.val (.ref r), .val (.int j), .val (.int p2), .val (.ref x2), .val (.int (p2 * (0 : Int32))), .unset, .unset, .unset]) rfl ?_
  refine own_dconst0 X3 hx hby od_prog_44_method_7_15 (pc' := 16) rfl own_d0 ?_
  refine own_dstore X3 hx hby od_prog_44_method_7_16 (pc' := 18) rfl (Ls' := #[.val (.ref r), .val (.int j), .val (.int p2), .val (.ref x2), .val (.int (p2 * (0 : Int32))), .val (.double (FP.l2d 0)), .second, .unset]) rfl ?_
  refine own_iconst X3 hx hby od_prog_44_method_7_18 (pc' := 19) rfl (z := 0) rfl ?_
  refine own_istore X3 hx hby od_prog_44_method_7_19 (pc' := 21) rfl (Ls' := #[.val (.ref r), .val (.int j), .val (.int p2), .val (.ref x2), .val (.int (p2 * (0 : Int32))), .val (.double (FP.l2d 0)), .second, .val (.int (0 : Int32))]) rfl ?_
  refine own_iload X3 hx hby od_prog_44_method_7_21 (pc' := 23) rfl rfl ?_
  refine own_aloadN X3 hx hby od_prog_44_method_7_23 (pc' := 24) rfl rfl rfl ?_
  refine own_getF X3 hx hby hZ hown (host := "") (Or.inl (ow_16 hw)) Via.refl e3 Fc od_prog_44_method_7_24 (pc' := 27) rfl ?_
  intro T4 X4 e4
  refine own_icmpY X4 hx hby od_prog_44_method_7_27 (by decide) (pc' := 48) (by decide) (flt (by decide)).2.1 ?_
  refine own_dload X4 hx hby od_prog_44_method_7_48 (pc' := 50) rfl rfl ?_
  exact own_retD X4 hx hby hlk hrt od_prog_44_method_7_50 (by first | exact ⟨rfl, N0, rfl⟩ | (rw [e4]; exact ⟨rfl, N0, rfl⟩)) (by decide) (by decide)
theorem ef_rm_priced (m : MethodId) (x0 : Addr) (x1 : UInt64) (x2 : Addr) (x3 : Int32) (x4 : Int32) : entryFrame m #[(.ref x0), (.double x1), (.ref x2), (.int x3), (.int x4)] 11 = mkF m 0 #[.val (.ref x0), .val (.double x1), .second, .val (.ref x2), .val (.int x3), .val (.int x4), .unset, .unset, .unset, .unset, .unset] [] := by first | (simp [entryFrame, mkF, argsToLocals, Value.category]; done) | rfl
set_option maxRecDepth 65536 in
set_option maxHeartbeats 40000000 in
theorem rm_priced (l : Launch) (Z : State) (a0 : Array Value) (hw : ∀ d ∈ tables_1, d.before a0 Z = true) (r u a1 : Addr) (d1 : UInt64) (j p2 q : Int32) (h0 : Heap) (n0 : Nat) (Z0 : n0 ≤ h0.size) (Fc : Fld Z h0 r "com/example/bindery/bindery/selection/LimitRows" "count" "I" (.int (0 : Int32))) (Fu : Fld Z h0 r "com/example/bindery/bindery/selection/LimitRows" "use" "[[D" (.ref u)) (Gu : own_Grid Z h0 u q) (hj : ¬ j < 0 ∧ j < q) :
    own_Met l Z (⟨"com/example/bindery/bindery/selection/LimitRows", "priced", "(D[DII)D"⟩ : MethodName) prog_44_method_8_code 11 (some .double) ({ frames := 0, cells := 0, slots := 0, locals := 0 } : Room) #[(.ref r), (.double d1), (.ref a1), (.int j), (.int p2)] h0 (fun v h L => v = some (.double d1) ∧ Fr n0 L ∧ h0 = h) := by
  refine own_body (plainFor_of_name (by first | (simp [plainName, overriddenIn]; done) | decide +kernel)) ?_
  intro p e s m below meth c s₁ hx hby hml hown hnm hlk hrt hZ X0 e0
  refine own_enter (ef_rm_priced m r d1 a1 j p2) ?_
  have N0 := Fr.nil n0
  refine own_aloadN X0 hx hby od_prog_44_method_8_0 (pc' := 1) rfl rfl rfl ?_
  refine own_getF X0 hx hby hZ hown (host := "") (Or.inl (ow_18 hw)) Via.refl e0 Fu od_prog_44_method_8_1 (pc' := 4) rfl ?_
  intro T1 X1 e1
  refine own_iload X1 hx hby od_prog_44_method_8_4 (pc' := 6) rfl rfl ?_
  refine own_aaloadG X1 hx hby hZ e1 Gu hj od_prog_44_method_8_6 (pc' := 7) rfl ?_
  intro x2
  refine own_astore X1 hx hby od_prog_44_method_8_7 (pc' := 9) rfl rfl (Ls' := #[.val (.ref r), .val (.double d1), .second, .val (.ref a1), .val (.int j), .val (.int p2), .val (.ref x2), .unset, .unset, .unset, .unset]) rfl ?_
  refine own_iload X1 hx hby od_prog_44_method_8_9 (pc' := 11) rfl rfl ?_
  refine own_aloadN X1 hx hby od_prog_44_method_8_11 (pc' := 12) rfl rfl rfl ?_
  refine own_getF X1 hx hby hZ hown (host := "") (Or.inl (ow_16 hw)) Via.refl e1 Fc od_prog_44_method_8_12 (pc' := 15) rfl ?_
  intro T3 X3 e3
  refine own_imul X3 hx hby od_prog_44_method_8_15 (pc' := 16) rfl ?_
  refine own_istore X3 hx hby od_prog_44_method_8_16 (pc' := 18) rfl (Ls' := #[.val (.ref r), .val (.double d1), .second, .val (.ref a1), .val (.int j), .val (.int p2), .val (.ref x2), .val (.int (p2 * (0 : Int32))), .unset, .unset, .unset]) rfl ?_
  refine own_dloadN X3 hx hby od_prog_44_method_8_18 (pc' := 19) rfl rfl ?_
  refine own_dstore X3 hx hby od_prog_44_method_8_19 (pc' := 21) rfl (Ls' := #[.val (.ref r), .val (.double d1), .second, .val (.ref a1), .val (.int j), .val (.int p2), .val (.ref x2), .val (.int (p2 * (0 : Int32))), .val (.double d1), .second, .unset]) rfl ?_
  refine own_iconst X3 hx hby od_prog_44_method_8_21 (pc' := 22) rfl (z := 0) rfl ?_
  refine own_istore X3 hx hby od_prog_44_method_8_22 (pc' := 24) rfl (Ls' := #[.val (.ref r), .val (.double d1), .second, .val (.ref a1), .val (.int j), .val (.int p2), .val (.ref x2), .val (.int (p2 * (0 : Int32))), .val (.double d1), .second, .val (.int (0 : Int32))]) rfl ?_
  refine own_iload X3 hx hby od_prog_44_method_8_24 (pc' := 26) rfl rfl ?_
  refine own_aloadN X3 hx hby od_prog_44_method_8_26 (pc' := 27) rfl rfl rfl ?_
  refine own_getF X3 hx hby hZ hown (host := "") (Or.inl (ow_16 hw)) Via.refl e3 Fc od_prog_44_method_8_27 (pc' := 30) rfl ?_
  intro T4 X4 e4
  refine own_icmpY X4 hx hby od_prog_44_method_8_30 (by decide) (pc' := 57) (by decide) (flt (by decide)).2.1 ?_
  refine own_dload X4 hx hby od_prog_44_method_8_57 (pc' := 59) rfl rfl ?_
  exact own_retD X4 hx hby hlk hrt od_prog_44_method_8_59 (by first | exact ⟨rfl, N0, rfl⟩ | (rw [e4]; exact ⟨rfl, N0, rfl⟩)) (by decide) (by decide)
theorem ef_rm_fill (m : MethodId) (x0 : Addr) (x1 : UInt64) : entryFrame m #[(.ref x0), (.double x1)] 5 = mkF m 0 #[.val (.ref x0), .val (.double x1), .second, .unset, .unset] [] := by first | (simp [entryFrame, mkF, argsToLocals, Value.category]; done) | rfl
set_option maxRecDepth 65536 in
set_option maxHeartbeats 40000000 in
theorem rm_fill (l : Launch) (Z : State) (a0 : Array Value) (hw : ∀ d ∈ tables_1, d.before a0 Z = true) (a1 : Addr) (kA : ClassId) (d1 : UInt64) (h0 : Heap) (n0 : Nat) (Z0 : n0 ≤ h0.size) (V1 : Arv Z h0 a1 kA .double (0 : Int32) [] (.double (0 : UInt64))) :
    own_Met l Z (⟨"java/util/Arrays", "fill", "([DD)V"⟩ : MethodName) jdk_65_method_113_code 5 none ({ frames := 0, cells := 0, slots := 0, locals := 0 } : Room) #[(.ref a1), (.double d1)] h0 (fun v h L => v = none ∧ Fr n0 L ∧ h0 = h) := by
  refine own_body (plainFor_of_name (by first | (simp [plainName, overriddenIn]; done) | decide +kernel)) ?_
  intro p e s m below meth c s₁ hx hby hml hown hnm hlk hrt hZ X0 e0
  refine own_enter (ef_rm_fill m a1 d1) ?_
  have N0 := Fr.nil n0
  refine own_iconst X0 hx hby od_jdk_65_method_113_0 (pc' := 1) rfl (z := 0) rfl ?_
  refine own_istoreN X0 hx hby od_jdk_65_method_113_1 (pc' := 2) rfl (Ls' := #[.val (.ref a1), .val (.double d1), .second, .val (.int (0 : Int32)), .unset]) rfl ?_
  refine own_aloadN X0 hx hby od_jdk_65_method_113_2 (pc' := 3) rfl rfl rfl ?_
  refine own_alenV X0 hx hby hZ e0 V1 od_jdk_65_method_113_3 (pc' := 4) rfl ?_
  refine own_istore X0 hx hby od_jdk_65_method_113_4 (pc' := 6) rfl (Ls' := #[.val (.ref a1), .val (.double d1), .second, .val (.int (0 : Int32)), .val (.int (0 : Int32))]) rfl ?_
  refine own_iloadN X0 hx hby od_jdk_65_method_113_6 (pc' := 7) rfl rfl ?_
  refine own_iload X0 hx hby od_jdk_65_method_113_7 (pc' := 9) rfl rfl ?_
  refine own_icmpY X0 hx hby od_jdk_65_method_113_9 (by decide) (pc' := 22) (by decide) (flt (by decide)).2.1 ?_
  exact own_ret0 X0 hx hby hlk hrt od_jdk_65_method_113_22 (by first | exact ⟨rfl, N0, rfl⟩ | (rw [e0]; exact ⟨rfl, N0, rfl⟩)) (by decide) (by decide)
theorem ef_rm_leastUse (m : MethodId) (x0 : Addr) (x1 : Int32) (x2 : Addr) : entryFrame m #[(.ref x0), (.int x1), (.ref x2)] 11 = mkF m 0 #[.val (.ref x0), .val (.int x1), .val (.ref x2), .unset, .unset, .unset, .unset, .unset, .unset, .unset, .unset] [] := by first | (simp [entryFrame, mkF, argsToLocals, Value.category]; done) | rfl
set_option maxRecDepth 65536 in
set_option maxHeartbeats 40000000 in
theorem rm_leastUse (l : Launch) (Z : State) (a0 : Array Value) (hw : ∀ d ∈ tables_1, d.before a0 Z = true) (r u a1 : Addr) (kI : ClassId) (j q v1 v2 : Int32) (h0 : Heap) (n0 : Nat) (Z0 : n0 ≤ h0.size) (Fc : Fld Z h0 r "com/example/bindery/bindery/selection/LimitRows" "count" "I" (.int (0 : Int32))) (Fu : Fld Z h0 r "com/example/bindery/bindery/selection/LimitRows" "use" "[[D" (.ref u)) (Gu : own_Grid Z h0 u q) (hj : ¬ j < 0 ∧ j < q) (V1 : Arv Z h0 a1 kI .int (2 : Int32) [(.int v1), (.int v2)] (.int (0 : Int32))) :
    own_Met l Z (⟨"com/example/bindery/bindery/selection/LimitRows", "leastUse", "(I[I)[D"⟩ : MethodName) prog_44_method_12_code 11 (some (.array .double)) ({ frames := 1, cells := 1, slots := 0, locals := 16 } : Room) #[(.ref r), (.int j), (.ref a1)] h0 (fun v h L => ∃ (b : Addr) (kA : ClassId), v = some (.ref b) ∧ Ext h0 h ∧ Fr n0 L ∧ Arv Z h b kA .double (0 : Int32) [] (.double (0 : UInt64))) := by
  refine own_body (plainFor_of_name (by first | (simp [plainName, overriddenIn]; done) | decide +kernel)) ?_
  intro p e s m below meth c s₁ hx hby hml hown hnm hlk hrt hZ X0 e0
  refine own_enter (ef_rm_leastUse m r j a1) ?_
  have N0 := Fr.nil n0
  refine own_aloadN X0 hx hby od_prog_44_method_12_0 (pc' := 1) rfl rfl rfl ?_
  refine own_getF X0 hx hby hZ hown (host := "") (Or.inl (ow_16 hw)) Via.refl e0 Fc od_prog_44_method_12_1 (pc' := 4) rfl ?_
  intro T1 X1 e1
  refine own_newP (aty := .double) X1 hx hby hZ (ow_0 hw) e1 od_prog_44_method_12_4 (pc' := 6) rfl (by decide) (cap := 0) (by decide) (by decide) (by decide) (by decide) ?_
  intro T2 h2 b2 kA2 g2 X2 e2 E2 V_b2
  have le3 : h0.size ≤ b2 := Nat.le_of_eq g2.symm
  have n0_b2 : n0 ≤ b2 := Nat.le_trans Z0 (Nat.le_of_eq g2.symm)
  replace V_b2 : Arv Z h2 b2 kA2 .double (0 : Int32) [] (.double (0 : UInt64)) := V_b2
  replace Fc := Fc.ext E2
  replace Fu := Fu.ext E2
  replace Gu := Gu.ext E2
  replace V1 := V1.ext E2
  refine own_astoreN X2 hx hby od_prog_44_method_12_6 (pc' := 7) rfl rfl (Ls' := #[.val (.ref r), .val (.int j), .val (.ref a1), .val (.ref b2), .unset, .unset, .unset, .unset, .unset, .unset, .unset]) rfl ?_
  refine own_aloadN X2 hx hby od_prog_44_method_12_7 (pc' := 8) rfl rfl rfl ?_
  refine own_ldcD X2 hx hby hZ hown (ow_62 hw) od_prog_44_method_12_8 (pc' := 11) rfl ?_
  refine own_callM X2 hx hby hml hZ hown (ow_63 hw) (ow_64 hw) (ow_65 hw) (ow_66 hw) (by decide) (cc := 0) (ss := 0) (rm_fill l Z a0 hw b2 kA2 (9218868437227405312 : UInt64) h2 n0 (Nat.le_trans Z0 E2.1) V_b2) 0 rfl rfl (by decide) (by decide) rfl (argsL := [(.ref b2), (.double (9218868437227405312 : UInt64))]) (rest := []) opd_1 rfl rfl (Nat.le_refl _) od_prog_44_method_12_11 (pc' := 14) rfl rfl e2 (by decide) (by decide) ?_
  rintro v4 T4 h4 L4 X4 e4 ⟨rfl, Nq4, rfl⟩
  have N4 := N0.app Nq4
  refine own_aloadN X4 hx hby od_prog_44_method_12_14 (pc' := 15) rfl rfl rfl ?_
  refine own_getF X4 hx hby hZ hown (host := "") (Or.inl (ow_18 hw)) Via.refl e4 Fu od_prog_44_method_12_15 (pc' := 18) rfl ?_
  intro T5 X5 e5
  refine own_iloadN X5 hx hby od_prog_44_method_12_18 (pc' := 19) rfl rfl ?_
  refine own_aaloadG X5 hx hby hZ e5 Gu hj od_prog_44_method_12_19 (pc' := 20) rfl ?_
  intro x6
  refine own_astore X5 hx hby od_prog_44_method_12_20 (pc' := 22) rfl rfl (Ls' := #[.val (.ref r), .val (.int j), .val (.ref a1), .val (.ref b2), .val (.ref x6), .unset, .unset, .unset, .unset, .unset, .unset]) rfl ?_
  refine own_aloadN X5 hx hby od_prog_44_method_12_22 (pc' := 23) rfl rfl rfl ?_
  refine own_astore X5 hx hby od_prog_44_method_12_23 (pc' := 25) rfl rfl (Ls' := #[.val (.ref r), .val (.int j), .val (.ref a1), .val (.ref b2), .val (.ref x6), .val (.ref a1), .unset, .unset, .unset, .unset, .unset]) rfl ?_
  refine own_aload X5 hx hby od_prog_44_method_12_25 (pc' := 27) rfl rfl rfl ?_
  refine own_alenV X5 hx hby hZ e5 V1 od_prog_44_method_12_27 (pc' := 28) rfl ?_
  refine own_istore X5 hx hby od_prog_44_method_12_28 (pc' := 30) rfl (Ls' := #[.val (.ref r), .val (.int j), .val (.ref a1), .val (.ref b2), .val (.ref x6), .val (.ref a1), .val (.int (2 : Int32)), .unset, .unset, .unset, .unset]) rfl ?_
  refine own_iconst X5 hx hby od_prog_44_method_12_30 (pc' := 31) rfl (z := 0) rfl ?_
  refine own_istore X5 hx hby od_prog_44_method_12_31 (pc' := 33) rfl (Ls' := #[.val (.ref r), .val (.int j), .val (.ref a1), .val (.ref b2), .val (.ref x6), .val (.ref a1), .val (.int (2 : Int32)), .val (.int (0 : Int32)), .unset, .unset, .unset]) rfl ?_
  refine own_iload X5 hx hby od_prog_44_method_12_33 (pc' := 35) rfl rfl ?_
  refine own_iload X5 hx hby od_prog_44_method_12_35 (pc' := 37) rfl rfl ?_
  refine own_icmpN X5 hx hby od_prog_44_method_12_37 (pc' := 40) rfl (tlt (by decide)).2.1 ?_
  refine own_aload X5 hx hby od_prog_44_method_12_40 (pc' := 42) rfl rfl rfl ?_
  refine own_iload X5 hx hby od_prog_44_method_12_42 (pc' := 44) rfl rfl ?_
  refine own_ialoadV X5 hx hby hZ e5 V1 ⟨by decide, by decide⟩ (v := (.int v1)) rfl od_prog_44_method_12_44 (pc' := 45) rfl ?_
  refine own_istore X5 hx hby od_prog_44_method_12_45 (pc' := 47) rfl (Ls' := #[.val (.ref r), .val (.int j), .val (.ref a1), .val (.ref b2), .val (.ref x6), .val (.ref a1), .val (.int (2 : Int32)), .val (.int (0 : Int32)), .val (.int v1), .unset, .unset]) rfl ?_
  refine own_iload X5 hx hby od_prog_44_method_12_47 (pc' := 49) rfl rfl ?_
  refine own_aloadN X5 hx hby od_prog_44_method_12_49 (pc' := 50) rfl rfl rfl ?_
  refine own_getF X5 hx hby hZ hown (host := "") (Or.inl (ow_16 hw)) Via.refl e5 Fc od_prog_44_method_12_50 (pc' := 53) rfl ?_
  intro T7 X7 e7
  refine own_imul X7 hx hby od_prog_44_method_12_53 (pc' := 54) rfl ?_
  refine own_istore X7 hx hby od_prog_44_method_12_54 (pc' := 56) rfl (Ls' := #[.val (.ref r), .val (.int j), .val (.ref a1), .val (.ref b2), .val (.ref x6), .val (.ref a1), .val (.int (2 : Int32)), .val (.int (0 : Int32)), .val (.int v1), .val (.int (v1 * (0 : Int32))), .unset]) rfl ?_
  refine own_iconst X7 hx hby od_prog_44_method_12_56 (pc' := 57) rfl (z := 0) rfl ?_
  refine own_istore X7 hx hby od_prog_44_method_12_57 (pc' := 59) rfl (Ls' := #[.val (.ref r), .val (.int j), .val (.ref a1), .val (.ref b2), .val (.ref x6), .val (.ref a1), .val (.int (2 : Int32)), .val (.int (0 : Int32)), .val (.int v1), .val (.int (v1 * (0 : Int32))), .val (.int (0 : Int32))]) rfl ?_
  refine own_iload X7 hx hby od_prog_44_method_12_59 (pc' := 61) rfl rfl ?_
  refine own_aloadN X7 hx hby od_prog_44_method_12_61 (pc' := 62) rfl rfl rfl ?_
  refine own_getF X7 hx hby hZ hown (host := "") (Or.inl (ow_16 hw)) Via.refl e7 Fc od_prog_44_method_12_62 (pc' := 65) rfl ?_
  intro T8 X8 e8
  refine own_icmpY X8 hx hby od_prog_44_method_12_65 (by decide) (pc' := 93) (by decide) (flt (by decide)).2.1 ?_
  refine own_iinc X8 hx hby od_prog_44_method_12_93 (pc' := 96) rfl rfl (z := 1) rfl (Ls' := #[.val (.ref r), .val (.int j), .val (.ref a1), .val (.ref b2), .val (.ref x6), .val (.ref a1), .val (.int (2 : Int32)), .val (.int ((0 : Int32) + (1 : Int32))), .val (.int v1), .val (.int (v1 * (0 : Int32))), .val (.int (0 : Int32))]) rfl ?_
  refine own_goto X8 hx hby od_prog_44_method_12_96 (by decide) (pc' := 33) (by decide) ?_
  refine own_iload X8 hx hby od_prog_44_method_12_33 (pc' := 35) rfl rfl ?_
  refine own_iload X8 hx hby od_prog_44_method_12_35 (pc' := 37) rfl rfl ?_
  refine own_icmpN X8 hx hby od_prog_44_method_12_37 (pc' := 40) rfl (tlt (by decide)).2.1 ?_
  refine own_aload X8 hx hby od_prog_44_method_12_40 (pc' := 42) rfl rfl rfl ?_
  refine own_iload X8 hx hby od_prog_44_method_12_42 (pc' := 44) rfl rfl ?_
  refine own_ialoadV X8 hx hby hZ e8 V1 ⟨by decide, by decide⟩ (v := (.int v2)) rfl od_prog_44_method_12_44 (pc' := 45) rfl ?_
  refine own_istore X8 hx hby od_prog_44_method_12_45 (pc' := 47) rfl (Ls' := #[.val (.ref r), .val (.int j), .val (.ref a1), .val (.ref b2), .val (.ref x6), .val (.ref a1), .val (.int (2 : Int32)), .val (.int ((0 : Int32) + (1 : Int32))), .val (.int v2), .val (.int (v1 * (0 : Int32))), .val (.int (0 : Int32))]) rfl ?_
  refine own_iload X8 hx hby od_prog_44_method_12_47 (pc' := 49) rfl rfl ?_
  refine own_aloadN X8 hx hby od_prog_44_method_12_49 (pc' := 50) rfl rfl rfl ?_
  refine own_getF X8 hx hby hZ hown (host := "") (Or.inl (ow_16 hw)) Via.refl e8 Fc od_prog_44_method_12_50 (pc' := 53) rfl ?_
  intro T9 X9 e9
  refine own_imul X9 hx hby od_prog_44_method_12_53 (pc' := 54) rfl ?_
  refine own_istore X9 hx hby od_prog_44_method_12_54 (pc' := 56) rfl (Ls' := #[.val (.ref r), .val (.int j), .val (.ref a1), .val (.ref b2), .val (.ref x6), .val (.ref a1), .val (.int (2 : Int32)), .val (.int ((0 : Int32) + (1 : Int32))), .val (.int v2), .val (.int (v2 * (0 : Int32))), .val (.int (0 : Int32))]) rfl ?_
  refine own_iconst X9 hx hby od_prog_44_method_12_56 (pc' := 57) rfl (z := 0) rfl ?_
  refine own_istore X9 hx hby od_prog_44_method_12_57 (pc' := 59) rfl (Ls' := #[.val (.ref r), .val (.int j), .val (.ref a1), .val (.ref b2), .val (.ref x6), .val (.ref a1), .val (.int (2 : Int32)), .val (.int ((0 : Int32) + (1 : Int32))), .val (.int v2), .val (.int (v2 * (0 : Int32))), .val (.int (0 : Int32))]) rfl ?_
  refine own_iload X9 hx hby od_prog_44_method_12_59 (pc' := 61) rfl rfl ?_
  refine own_aloadN X9 hx hby od_prog_44_method_12_61 (pc' := 62) rfl rfl rfl ?_
  refine own_getF X9 hx hby hZ hown (host := "") (Or.inl (ow_16 hw)) Via.refl e9 Fc od_prog_44_method_12_62 (pc' := 65) rfl ?_
  intro T10 X10 e10
  refine own_icmpY X10 hx hby od_prog_44_method_12_65 (by decide) (pc' := 93) (by decide) (flt (by decide)).2.1 ?_
  refine own_iinc X10 hx hby od_prog_44_method_12_93 (pc' := 96) rfl rfl (z := 1) rfl (Ls' := #[.val (.ref r), .val (.int j), .val (.ref a1), .val (.ref b2), .val (.ref x6), .val (.ref a1), .val (.int (2 : Int32)), .val (.int (((0 : Int32) + (1 : Int32)) + (1 : Int32))), .val (.int v2), .val (.int (v2 * (0 : Int32))), .val (.int (0 : Int32))]) rfl ?_
  refine own_goto X10 hx hby od_prog_44_method_12_96 (by decide) (pc' := 33) (by decide) ?_
  refine own_iload X10 hx hby od_prog_44_method_12_33 (pc' := 35) rfl rfl ?_
  refine own_iload X10 hx hby od_prog_44_method_12_35 (pc' := 37) rfl rfl ?_
  refine own_icmpY X10 hx hby od_prog_44_method_12_37 (by decide) (pc' := 99) (by decide) (flt (by decide)).2.1 ?_
  refine own_aloadN X10 hx hby od_prog_44_method_12_99 (pc' := 100) rfl rfl rfl ?_
  exact own_retA X10 hx hby hlk hrt rfl rfl od_prog_44_method_12_100 (by first | exact ⟨b2, kA2, rfl, E2, N4, V_b2⟩ | (rw [e10]; exact ⟨b2, kA2, rfl, E2, N4, V_b2⟩)) (by decide) (by decide)
theorem ef_rm_may (m : MethodId) (x0 : Addr) (x1 : Addr) (x2 : Int32) (x3 : Int32) (x4 : Addr) : entryFrame m #[(.ref x0), (.ref x1), (.int x2), (.int x3), (.ref x4)] 8 = mkF m 0 #[.val (.ref x0), .val (.ref x1), .val (.int x2), .val (.int x3), .val (.ref x4), .unset, .unset, .unset] [] := by first | (simp [entryFrame, mkF, argsToLocals, Value.category]; done) | rfl
set_option maxRecDepth 65536 in
set_option maxHeartbeats 40000000 in
theorem rm_may (l : Launch) (Z : State) (a0 : Array Value) (hw : ∀ d ∈ tables_1, d.before a0 Z = true) (r u a1 a2 : Addr) (j p2 q : Int32) (h0 : Heap) (n0 : Nat) (Z0 : n0 ≤ h0.size) (Fc : Fld Z h0 r "com/example/bindery/bindery/selection/LimitRows" "count" "I" (.int (0 : Int32))) (Fu : Fld Z h0 r "com/example/bindery/bindery/selection/LimitRows" "use" "[[D" (.ref u)) (Gu : own_Grid Z h0 u q) (hj : ¬ j < 0 ∧ j < q) :
    own_Met l Z (⟨"com/example/bindery/bindery/selection/LimitRows", "mayStayWithin", "([DII[D)Z"⟩ : MethodName) prog_44_method_13_code 8 (some .boolean) ({ frames := 0, cells := 0, slots := 0, locals := 0 } : Room) #[(.ref r), (.ref a1), (.int j), (.int p2), (.ref a2)] h0 (fun v h L => v = some (.int (1 : Int32)) ∧ Fr n0 L ∧ h0 = h) := by
  refine own_body (plainFor_of_name (by first | (simp [plainName, overriddenIn]; done) | decide +kernel)) ?_
  intro p e s m below meth c s₁ hx hby hml hown hnm hlk hrt hZ X0 e0
  refine own_enter (ef_rm_may m r a1 j p2 a2) ?_
  have N0 := Fr.nil n0
  refine own_aloadN X0 hx hby od_prog_44_method_13_0 (pc' := 1) rfl rfl rfl ?_
  refine own_getF X0 hx hby hZ hown (host := "") (Or.inl (ow_18 hw)) Via.refl e0 Fu od_prog_44_method_13_1 (pc' := 4) rfl ?_
  intro T1 X1 e1
  refine own_iloadN X1 hx hby od_prog_44_method_13_4 (pc' := 5) rfl rfl ?_
  refine own_aaloadG X1 hx hby hZ e1 Gu hj od_prog_44_method_13_5 (pc' := 6) rfl ?_
  intro x2
  refine own_astore X1 hx hby od_prog_44_method_13_6 (pc' := 8) rfl rfl (Ls' := #[.val (.ref r), .val (.ref a1), .val (.int j), .val (.int p2), .val (.ref a2), .val (.ref x2), .unset, .unset]) rfl ?_
  refine own_iloadN X1 hx hby od_prog_44_method_13_8 (pc' := 9) rfl rfl ?_
  refine own_aloadN X1 hx hby od_prog_44_method_13_9 (pc' := 10) rfl rfl rfl ?_
  refine own_getF X1 hx hby hZ hown (host := "") (Or.inl (ow_16 hw)) Via.refl e1 Fc od_prog_44_method_13_10 (pc' := 13) rfl ?_
  intro T3 X3 e3
  refine own_imul X3 hx hby od_prog_44_method_13_13 (pc' := 14) rfl ?_
  refine own_istore X3 hx hby od_prog_44_method_13_14 (pc' := 16) rfl (Ls' := #[.val (.ref r), .val (.ref a1), .val (.int j), .val (.int p2), .val (.ref a2), .val (.ref x2), .val (.int (p2 * (0 : Int32))), .unset]) rfl ?_
  refine own_iconst X3 hx hby od_prog_44_method_13_16 (pc' := 17) rfl (z := 0) rfl ?_
  refine own_istore X3 hx hby od_prog_44_method_13_17 (pc' := 19) rfl (Ls' := #[.val (.ref r), .val (.ref a1), .val (.int j), .val (.int p2), .val (.ref a2), .val (.ref x2), .val (.int (p2 * (0 : Int32))), .val (.int (0 : Int32))]) rfl ?_
  refine own_iload X3 hx hby od_prog_44_method_13_19 (pc' := 21) rfl rfl ?_
  refine own_aloadN X3 hx hby od_prog_44_method_13_21 (pc' := 22) rfl rfl rfl ?_
  refine own_getF X3 hx hby hZ hown (host := "") (Or.inl (ow_16 hw)) Via.refl e3 Fc od_prog_44_method_13_22 (pc' := 25) rfl ?_
  intro T4 X4 e4
  refine own_icmpY X4 hx hby od_prog_44_method_13_25 (by decide) (pc' := 66) (by decide) (flt (by decide)).2.1 ?_
  refine own_iconst X4 hx hby od_prog_44_method_13_66 (pc' := 67) rfl (z := 1) rfl ?_
  exact own_retN X4 hx hby hlk hrt (by simp) od_prog_44_method_13_67 (z' := (1 : Int32)) rfl (by first | exact ⟨rfl, N0, rfl⟩ | (rw [e4]; exact ⟨rfl, N0, rfl⟩)) (by decide) (by decide)
theorem ef_rm_law (m : MethodId) (x0 : Int32) (x1 : Int32) (x2 : Int32) (x3 : Int32) (x4 : Int32) : entryFrame m #[(.int x0), (.int x1), (.int x2), (.int x3), (.int x4)] maxLocals = mkF m 0 #[.val (.int x0), .val (.int x1), .val (.int x2), .val (.int x3), .val (.int x4), .unset, .unset, .unset, .unset, .unset, .unset, .unset, .unset, .unset] [] := by first | (simp [entryFrame, mkF, argsToLocals, Value.category, maxLocals]; done) | rfl
set_option maxRecDepth 65536 in
set_option maxHeartbeats 40000000 in
theorem rm_law (l : Launch) (Z : State) (a0 : Array Value) (hw : ∀ d ∈ tables_1, d.before a0 Z = true) (p1 p2 p3 p4 p5 : Int32) (h0 : Heap) (n0 : Nat) (Z0 : n0 ≤ h0.size) :
    own_Met l Z x code maxLocals ret room_1 #[(.int p1), (.int p2), (.int p3), (.int p4), (.int p5)] h0 (fun v h L => v = some (.int 1) ∧ Fr n0 L) := by
  refine own_body (plainFor_of_name (by first | (simp [plainName, overriddenIn]; done) | decide +kernel)) ?_
  intro p e s m below meth c s₁ hx hby hml hown hnm hlk hrt hZ X0 e0
  have hml : c.maxLocals = 14 := hml
  refine own_enter (ef_rm_law m p1 p2 p3 p4 p5) ?_
  have N0 := Fr.nil n0
  refine own_iloadN X0 hx hby at_0 (pc' := 1) rfl rfl ?_
  refine own_bipush X0 hx hby at_1 (pc' := 3) rfl (z := 63) rfl ?_
  refine own_iand X0 hx hby at_3 (pc' := 4) rfl ?_
  generalize hq_q : (p1 &&& (63 : Int32)) = q
  obtain ⟨hn, hN⟩ := own_and63 hq_q
  refine own_istore X0 hx hby at_4 (pc' := 6) rfl (Ls' := #[.val (.int p1), .val (.int p2), .val (.int p3), .val (.int p4), .val (.int p5), .val (.int q), .unset, .unset, .unset, .unset, .unset, .unset, .unset, .unset]) rfl ?_
  refine own_iloadN X0 hx hby at_6 (pc' := 7) rfl rfl ?_
  refine own_i2d X0 hx hby at_7 (pc' := 8) rfl (i2d_w _) ?_
  refine own_dstore X0 hx hby at_8 (pc' := 10) rfl (Ls' := #[.val (.int p1), .val (.int p2), .val (.int p3), .val (.int p4), .val (.int p5), .val (.int q), .val (.double (FP.l2d p4.toInt64)), .second, .unset, .unset, .unset, .unset, .unset, .unset]) rfl ?_
  refine own_iconst X0 hx hby at_10 (pc' := 11) rfl (z := 2) rfl ?_
  refine own_newP (aty := .double) X0 hx hby hZ (ow_0 hw) e0 at_11 (pc' := 13) rfl (by decide) (cap := 2) (by decide) (by decide) (by decide) (by decide) ?_
  intro T1 h1 b1 kA1 g1 X1 e1 E1 V_b1
  have le2 : h0.size ≤ b1 := Nat.le_of_eq g1.symm
  have n0_b1 : n0 ≤ b1 := Nat.le_trans Z0 (Nat.le_of_eq g1.symm)
  replace V_b1 : Arv Z h1 b1 kA1 .double (2 : Int32) [(.double (0 : UInt64)), (.double (0 : UInt64))] (.double (0 : UInt64)) := V_b1.pad (pad_rep [] (.double (0 : UInt64)) 2)
  refine own_dup X1 hx hby at_13 (pc' := 14) rfl rfl ?_
  refine own_iconst X1 hx hby at_14 (pc' := 15) rfl (z := 0) rfl ?_
  refine own_dload X1 hx hby at_15 (pc' := 17) rfl rfl ?_
  refine own_stD X1 hx hby hZ e1 V_b1 ⟨by decide, by decide⟩ 0 rfl (Nat.le_of_ble_eq_true rfl) at_17 (pc' := 18) rfl ?_
  intro T3 h3 X3 e3 W3 V3_b1
  replace V3_b1 : Arv Z h3 b1 kA1 .double (2 : Int32) [(.double (FP.l2d p4.toInt64)), (.double (0 : UInt64))] (.double (0 : UInt64)) := V3_b1
  have Ea4 := own_xw E1 W3 le2
  have N3 := own_fr1 (sl := ((0 : Int32)).toNatClampNeg) N0 n0_b1
  refine own_dup X3 hx hby at_18 (pc' := 19) rfl rfl ?_
  refine own_iconst X3 hx hby at_19 (pc' := 20) rfl (z := 1) rfl ?_
  refine own_iload X3 hx hby at_20 (pc' := 22) rfl rfl ?_
  refine own_i2d X3 hx hby at_22 (pc' := 23) rfl (i2d_w _) ?_
  refine own_stD X3 hx hby hZ e3 V3_b1 ⟨by decide, by decide⟩ 1 rfl (Nat.le_of_ble_eq_true rfl) at_23 (pc' := 24) rfl ?_
  intro T5 h5 X5 e5 W5 V5_b1
  replace V5_b1 : Arv Z h5 b1 kA1 .double (2 : Int32) [(.double (FP.l2d p4.toInt64)), (.double (FP.l2d p5.toInt64))] (.double (0 : UInt64)) := V5_b1
  have Ea6 := own_xw Ea4 W5 le2
  have N5 := own_fr1 (sl := ((1 : Int32)).toNatClampNeg) N3 n0_b1
  refine own_astore X5 hx hby at_24 (pc' := 26) rfl rfl (Ls' := #[.val (.int p1), .val (.int p2), .val (.int p3), .val (.int p4), .val (.int p5), .val (.int q), .val (.double (FP.l2d p4.toInt64)), .second, .val (.ref b1), .unset, .unset, .unset, .unset, .unset]) rfl ?_
  refine own_iconst X5 hx hby at_26 (pc' := 27) rfl (z := 2) rfl ?_
  refine own_newP (aty := .int) X5 hx hby hZ (ow_1 hw) e5 at_27 (pc' := 29) rfl (by decide) (cap := 2) (by decide) (by decide) (by decide) (by decide) ?_
  intro T7 h7 b7 kA7 g7 X7 e7 E7 V_b7
  have le8 : h0.size ≤ b7 := Nat.le_trans Ea6.1 (Nat.le_of_eq g7.symm)
  have le9 : h5.size ≤ b7 := Nat.le_of_eq g7.symm
  have n0_b7 : n0 ≤ b7 := Nat.le_trans (Nat.le_trans Z0 Ea6.1) (Nat.le_of_eq g7.symm)
  have Ea10 := own_xt Ea6 E7
  replace V_b7 : Arv Z h7 b7 kA7 .int (2 : Int32) [(.int (0 : Int32)), (.int (0 : Int32))] (.int (0 : Int32)) := V_b7.pad (pad_rep [] (.int (0 : Int32)) 2)
  refine own_dup X7 hx hby at_29 (pc' := 30) rfl rfl ?_
  refine own_iconst X7 hx hby at_30 (pc' := 31) rfl (z := 0) rfl ?_
  refine own_iloadN X7 hx hby at_31 (pc' := 32) rfl rfl ?_
  refine own_stI X7 hx hby hZ e7 V_b7 ⟨by decide, by decide⟩ 0 rfl (Nat.le_of_ble_eq_true rfl) at_32 (pc' := 33) rfl ?_
  intro T11 h11 X11 e11 W11 V11_b7
  replace V11_b7 : Arv Z h11 b7 kA7 .int (2 : Int32) [(.int p3), (.int (0 : Int32))] (.int (0 : Int32)) := V11_b7
  have Ea12 := own_xw Ea10 W11 le8
  have Ea13 := own_xw E7 W11 le9
  have N11 := own_fr1 (sl := ((0 : Int32)).toNatClampNeg) N5 n0_b7
  refine own_dup X11 hx hby at_33 (pc' := 34) rfl rfl ?_
  refine own_iconst X11 hx hby at_34 (pc' := 35) rfl (z := 1) rfl ?_
  refine own_iload X11 hx hby at_35 (pc' := 37) rfl rfl ?_
  refine own_stI X11 hx hby hZ e11 V11_b7 ⟨by decide, by decide⟩ 1 rfl (Nat.le_of_ble_eq_true rfl) at_37 (pc' := 38) rfl ?_
  intro T14 h14 X14 e14 W14 V14_b7
  replace V14_b7 : Arv Z h14 b7 kA7 .int (2 : Int32) [(.int p3), (.int p5)] (.int (0 : Int32)) := V14_b7
  have Ea15 := own_xw Ea12 W14 le8
  have Ea16 := own_xw Ea13 W14 le9
  have N14 := own_fr1 (sl := ((1 : Int32)).toNatClampNeg) N11 n0_b7
  replace V5_b1 := V5_b1.ext Ea16
  refine own_astore X14 hx hby at_38 (pc' := 40) rfl rfl (Ls' := #[.val (.int p1), .val (.int p2), .val (.int p3), .val (.int p4), .val (.int p5), .val (.int q), .val (.double (FP.l2d p4.toInt64)), .second, .val (.ref b1), .val (.ref b7), .unset, .unset, .unset, .unset]) rfl ?_
  refine own_iconst X14 hx hby at_40 (pc' := 41) rfl (z := 0) rfl ?_
  refine own_newP (aty := .double) X14 hx hby hZ (ow_0 hw) e14 at_41 (pc' := 43) rfl (by decide) (cap := 0) (by decide) (by decide) (by decide) (by decide) ?_
  intro T17 h17 b17 kA17 g17 X17 e17 E17 V_b17
  have le18 : h0.size ≤ b17 := Nat.le_trans Ea15.1 (Nat.le_of_eq g17.symm)
  have le19 : h14.size ≤ b17 := Nat.le_of_eq g17.symm
  have n0_b17 : n0 ≤ b17 := Nat.le_trans (Nat.le_trans Z0 Ea15.1) (Nat.le_of_eq g17.symm)
  have Ea20 := own_xt Ea15 E17
  replace V_b17 : Arv Z h17 b17 kA17 .double (0 : Int32) [] (.double (0 : UInt64)) := V_b17
  replace V5_b1 := V5_b1.ext E17
  replace V14_b7 := V14_b7.ext E17
  refine own_astore X17 hx hby at_43 (pc' := 45) rfl rfl (Ls' := #[.val (.int p1), .val (.int p2), .val (.int p3), .val (.int p4), .val (.int p5), .val (.int q), .val (.double (FP.l2d p4.toInt64)), .second, .val (.ref b1), .val (.ref b7), .val (.ref b17), .unset, .unset, .unset]) rfl ?_
  refine own_iconst X17 hx hby at_45 (pc' := 46) rfl (z := 0) rfl ?_
  refine own_newP (aty := .double) X17 hx hby hZ (ow_0 hw) e17 at_46 (pc' := 48) rfl (by decide) (cap := 0) (by decide) (by decide) (by decide) (by decide) ?_
  intro T21 h21 b21 kA21 g21 X21 e21 E21 V_b21
  have le22 : h0.size ≤ b21 := Nat.le_trans Ea20.1 (Nat.le_of_eq g21.symm)
  have le23 : h17.size ≤ b21 := Nat.le_of_eq g21.symm
  have n0_b21 : n0 ≤ b21 := Nat.le_trans (Nat.le_trans Z0 Ea20.1) (Nat.le_of_eq g21.symm)
  have Ea24 := own_xt Ea20 E21
  replace V_b21 : Arv Z h21 b21 kA21 .double (0 : Int32) [] (.double (0 : UInt64)) := V_b21
  replace V5_b1 := V5_b1.ext E21
  replace V14_b7 := V14_b7.ext E21
  replace V_b17 := V_b17.ext E21
  refine own_astore X21 hx hby at_48 (pc' := 50) rfl rfl (Ls' := #[.val (.int p1), .val (.int p2), .val (.int p3), .val (.int p4), .val (.int p5), .val (.int q), .val (.double (FP.l2d p4.toInt64)), .second, .val (.ref b1), .val (.ref b7), .val (.ref b17), .val (.ref b21), .unset, .unset]) rfl ?_
  refine own_iload X21 hx hby at_50 (pc' := 52) rfl rfl ?_
  refine own_callM X21 hx hby hml hZ hown (ow_2 hw) (ow_3 hw) (ow_4 hw) (ow_5 hw) (by decide) (cc := 68) (ss := 68) (rm_none l Z a0 hw q h21 n0 (Nat.le_trans Z0 Ea24.1) hn hN) 0 rfl rfl (by decide) (by decide) rfl (argsL := [(.int q)]) (rest := []) opd_2 rfl rfl (Nat.le_refl _) at_52 (pc' := 55) rfl rfl e21 (by decide) (by decide) ?_
  rintro v25 T25 h25 L25 X25 e25 ⟨r, u, rfl, nr, Eq25, Nq25, Ar, Fc, Fu, Gu⟩
  have N25 := N14.app Nq25
  have Ea26 := own_xt Ea24 Eq25
  replace V5_b1 := V5_b1.ext Eq25
  replace V14_b7 := V14_b7.ext Eq25
  replace V_b17 := V_b17.ext Eq25
  replace V_b21 := V_b21.ext Eq25
  refine own_astore X25 hx hby at_55 (pc' := 57) rfl rfl (Ls' := #[.val (.int p1), .val (.int p2), .val (.int p3), .val (.int p4), .val (.int p5), .val (.int q), .val (.double (FP.l2d p4.toInt64)), .second, .val (.ref b1), .val (.ref b7), .val (.ref b17), .val (.ref b21), .val (.ref r), .unset]) rfl ?_
  refine own_aload X25 hx hby at_57 (pc' := 59) rfl rfl rfl ?_
  refine own_virtM X25 hx hby hml hZ hown (ow_26 hw) (ow_27 hw) (notFace_of_selects (args := #[]) (mvT hZ (ow_29 hw))) (ow_29 hw) (ow_28 hw) (ow_4 hw) (ow_30 hw) (by decide) (cc := 0) (ss := 0) (rm_count l Z a0 hw r h25 n0 (Nat.le_trans Z0 Ea26.1) Fc) 0 rfl rfl (by decide) (by decide) rfl Ar (argsL := []) (rest := []) opd_3 rfl rfl (Nat.le_refl _) at_59 (pc' := 62) rfl rfl e25 (by decide) (by decide) ?_
  rintro v27 T27 h27 L27 X27 e27 ⟨rfl, Nq27, rfl⟩
  have N27 := N25.app Nq27
  refine own_ifY X27 hx hby at_62 (by decide) (pc' := 67) (by decide) (teq rfl).1 ?_
  refine own_aload X27 hx hby at_67 (pc' := 69) rfl rfl rfl ?_
  refine own_aload X27 hx hby at_69 (pc' := 71) rfl rfl rfl ?_
  refine own_virtM X27 hx hby hml hZ hown (ow_31 hw) (ow_32 hw) (notFace_of_selects (args := #[]) (mvT hZ (ow_34 hw))) (ow_34 hw) (ow_33 hw) (ow_4 hw) (ow_35 hw) (by decide) (cc := 0) (ss := 0) (rm_within l Z a0 hw r b1 h25 n0 (Nat.le_trans Z0 Ea26.1) Fc) 0 rfl rfl (by decide) (by decide) rfl Ar (argsL := [(.ref b1)]) (rest := []) opd_4 rfl rfl (Nat.le_refl _) at_71 (pc' := 74) rfl rfl e27 (by decide) (by decide) ?_
  rintro v28 T28 h28 L28 X28 e28 ⟨rfl, Nq28, rfl⟩
  have N28 := N27.app Nq28
  refine own_ifY X28 hx hby at_74 (by decide) (pc' := 79) (by decide) (feq (by decide)).2 ?_
  refine own_aload X28 hx hby at_79 (pc' := 81) rfl rfl rfl ?_
  refine own_aload X28 hx hby at_81 (pc' := 83) rfl rfl rfl ?_
  refine own_virtM X28 hx hby hml hZ hown (ow_36 hw) (ow_37 hw) (notFace_of_selects (args := #[]) (mvT hZ (ow_39 hw))) (ow_39 hw) (ow_38 hw) (ow_4 hw) (ow_40 hw) (by decide) (cc := 0) (ss := 0) (rm_overrun l Z a0 hw r b1 h25 n0 (Nat.le_trans Z0 Ea26.1) Fc) 0 rfl rfl (by decide) (by decide) rfl Ar (argsL := [(.ref b1)]) (rest := []) opd_5 rfl rfl (Nat.le_refl _) at_83 (pc' := 86) rfl rfl e28 (by decide) (by decide) ?_
  rintro v29 T29 h29 L29 X29 e29 ⟨rfl, Nq29, rfl⟩
  have N29 := N28.app Nq29
  refine own_dconst0 X29 hx hby at_86 (pc' := 87) rfl own_d0 ?_
  refine own_dcmp X29 hx hby at_87 (pc' := 88) rfl (v := 0) (own_dself _ _) ?_
  refine own_ifY X29 hx hby at_88 (by decide) (pc' := 93) (by decide) (teq rfl).1 ?_
  refine own_aload X29 hx hby at_93 (pc' := 95) rfl rfl rfl ?_
  refine own_aload X29 hx hby at_95 (pc' := 97) rfl rfl rfl ?_
  refine own_virtM X29 hx hby hml hZ hown (ow_41 hw) (ow_42 hw) (notFace_of_selects (args := #[]) (mvT hZ (ow_44 hw))) (ow_44 hw) (ow_43 hw) (ow_4 hw) (ow_45 hw) (by decide) (cc := 1) (ss := 0) (rm_loads l Z a0 hw r b7 h25 n0 (Nat.le_trans Z0 Ea26.1) Fc) 0 rfl rfl (by decide) (by decide) rfl Ar (argsL := [(.ref b7)]) (rest := []) opd_6 rfl rfl (Nat.le_refl _) at_97 (pc' := 100) rfl rfl e29 (by decide) (by decide) ?_
  rintro v30 T30 h30 L30 X30 e30 ⟨b30, kb30, rfl, Eq30, Nq30, Vq30⟩
  have N30 := N29.app Nq30
  have Ea31 := own_xt Ea26 Eq30
  replace V5_b1 := V5_b1.ext Eq30
  replace V14_b7 := V14_b7.ext Eq30
  replace V_b17 := V_b17.ext Eq30
  replace V_b21 := V_b21.ext Eq30
  replace Ar := Ar.ext Eq30
  replace Fc := Fc.ext Eq30
  replace Fu := Fu.ext Eq30
  replace Gu := Gu.ext Eq30
  refine own_alenV X30 hx hby hZ e30 Vq30 at_100 (pc' := 101) rfl ?_
  refine own_ifY X30 hx hby at_101 (by decide) (pc' := 106) (by decide) (teq rfl).1 ?_
  refine own_iload X30 hx hby at_106 (pc' := 108) rfl rfl ?_
  by_cases hz : q = (0 : Int32)
  · refine own_ifN X30 hx hby at_108 (pc' := 111) rfl (teq hz).2 ?_
    refine own_iconst X30 hx hby at_111 (pc' := 112) rfl (z := 1) rfl ?_
    exact own_retN X30 hx hby hlk hrt (by simp) at_112 (z' := (1 : Int32)) rfl ⟨rfl, N30⟩ (by decide) (by decide)
  · refine own_ifY X30 hx hby at_108 (by decide) (pc' := 113) (by decide) (feq hz).2 ?_
    refine own_iloadN X30 hx hby at_113 (pc' := 114) rfl rfl ?_
    refine own_ldcI X30 hx hby hZ hown (ow_46 hw) at_114 (pc' := 116) rfl ?_
    refine own_iand X30 hx hby at_116 (pc' := 117) rfl ?_
    refine own_iload X30 hx hby at_117 (pc' := 119) rfl rfl ?_
    refine own_irem X30 hx hby at_119 (pc' := 120) rfl hz ?_
    generalize hq_j : ((p2 &&& (2147483647 : Int32)) % q) = j
    have hj := own_modq hn hz hq_j
    refine own_istore X30 hx hby at_120 (pc' := 122) rfl (Ls' := #[.val (.int p1), .val (.int p2), .val (.int p3), .val (.int p4), .val (.int p5), .val (.int q), .val (.double (FP.l2d p4.toInt64)), .second, .val (.ref b1), .val (.ref b7), .val (.ref b17), .val (.ref b21), .val (.ref r), .val (.int j)]) rfl ?_
    refine own_aload X30 hx hby at_122 (pc' := 124) rfl rfl rfl ?_
    refine own_iload X30 hx hby at_124 (pc' := 126) rfl rfl ?_
    refine own_iloadN X30 hx hby at_126 (pc' := 127) rfl rfl ?_
    refine own_virtM X30 hx hby hml hZ hown (ow_47 hw) (ow_48 hw) (notFace_of_selects (args := #[]) (mvT hZ (ow_50 hw))) (ow_50 hw) (ow_49 hw) (ow_4 hw) (ow_51 hw) (by decide) (cc := 0) (ss := 0) (rm_useSum l Z a0 hw r u j p3 q h30 n0 (Nat.le_trans Z0 Ea31.1) Fc Fu Gu hj) 0 rfl rfl (by decide) (by decide) rfl Ar (argsL := [(.int j), (.int p3)]) (rest := []) opd_7 rfl rfl (Nat.le_refl _) at_127 (pc' := 130) rfl rfl e30 (by decide) (by decide) ?_
    rintro v32 T32 h32 L32 X32 e32 ⟨rfl, Nq32, rfl⟩
    have N32 := N30.app Nq32
    refine own_dconst0 X32 hx hby at_130 (pc' := 131) rfl own_d0 ?_
    refine own_dcmp X32 hx hby at_131 (pc' := 132) rfl (v := 0) (own_dself _ _) ?_
    refine own_ifY X32 hx hby at_132 (by decide) (pc' := 137) (by decide) (teq rfl).1 ?_
    refine own_aload X32 hx hby at_137 (pc' := 139) rfl rfl rfl ?_
    refine own_dload X32 hx hby at_139 (pc' := 141) rfl rfl ?_
    refine own_aload X32 hx hby at_141 (pc' := 143) rfl rfl rfl ?_
    refine own_iload X32 hx hby at_143 (pc' := 145) rfl rfl ?_
    refine own_iloadN X32 hx hby at_145 (pc' := 146) rfl rfl ?_
    refine own_virtM X32 hx hby hml hZ hown (ow_52 hw) (ow_53 hw) (notFace_of_selects (args := #[]) (mvT hZ (ow_55 hw))) (ow_55 hw) (ow_54 hw) (ow_4 hw) (ow_56 hw) (by decide) (cc := 0) (ss := 0) (rm_priced l Z a0 hw r u b17 (FP.l2d p4.toInt64) j p3 q h30 n0 (Nat.le_trans Z0 Ea31.1) Fc Fu Gu hj) 0 rfl rfl (by decide) (by decide) rfl Ar (argsL := [(.double (FP.l2d p4.toInt64)), (.ref b17), (.int j), (.int p3)]) (rest := []) opd_8 rfl rfl (Nat.le_refl _) at_146 (pc' := 149) rfl rfl e32 (by decide) (by decide) ?_
    rintro v33 T33 h33 L33 X33 e33 ⟨rfl, Nq33, rfl⟩
    have N33 := N32.app Nq33
    refine own_dload X33 hx hby at_149 (pc' := 151) rfl rfl ?_
    refine own_dcmp X33 hx hby at_151 (pc' := 152) rfl (v := 0) (own_dself _ _) ?_
    refine own_ifY X33 hx hby at_152 (by decide) (pc' := 157) (by decide) (teq rfl).1 ?_
    refine own_aload X33 hx hby at_157 (pc' := 159) rfl rfl rfl ?_
    refine own_iload X33 hx hby at_159 (pc' := 161) rfl rfl ?_
    refine own_aload X33 hx hby at_161 (pc' := 163) rfl rfl rfl ?_
    refine own_virtM X33 hx hby hml hZ hown (ow_57 hw) (ow_58 hw) (notFace_of_selects (args := #[]) (mvT hZ (ow_60 hw))) (ow_60 hw) (ow_59 hw) (ow_4 hw) (ow_61 hw) (by decide) (cc := 1) (ss := 0) (rm_leastUse l Z a0 hw r u b7 kA7 j q p3 p5 h30 n0 (Nat.le_trans Z0 Ea31.1) Fc Fu Gu hj V14_b7) 0 rfl rfl (by decide) (by decide) rfl Ar (argsL := [(.int j), (.ref b7)]) (rest := []) opd_9 rfl rfl (Nat.le_refl _) at_163 (pc' := 166) rfl rfl e33 (by decide) (by decide) ?_
    rintro v34 T34 h34 L34 X34 e34 ⟨b34, kb34, rfl, Eq34, Nq34, Vq34⟩
    have N34 := N33.app Nq34
    have Ea35 := own_xt Ea31 Eq34
    replace V5_b1 := V5_b1.ext Eq34
    replace V14_b7 := V14_b7.ext Eq34
    replace V_b17 := V_b17.ext Eq34
    replace V_b21 := V_b21.ext Eq34
    replace Ar := Ar.ext Eq34
    replace Fc := Fc.ext Eq34
    replace Fu := Fu.ext Eq34
    replace Gu := Gu.ext Eq34
    replace Vq30 := Vq30.ext Eq34
    refine own_alenV X34 hx hby hZ e34 Vq34 at_166 (pc' := 167) rfl ?_
    refine own_ifY X34 hx hby at_167 (by decide) (pc' := 172) (by decide) (teq rfl).1 ?_
    refine own_aload X34 hx hby at_172 (pc' := 174) rfl rfl rfl ?_
    refine own_aload X34 hx hby at_174 (pc' := 176) rfl rfl rfl ?_
    refine own_iload X34 hx hby at_176 (pc' := 178) rfl rfl ?_
    refine own_iloadN X34 hx hby at_178 (pc' := 179) rfl rfl ?_
    refine own_aload X34 hx hby at_179 (pc' := 181) rfl rfl rfl ?_
    refine own_virtM X34 hx hby hml hZ hown (ow_67 hw) (ow_68 hw) (notFace_of_selects (args := #[]) (mvT hZ (ow_70 hw))) (ow_70 hw) (ow_69 hw) (ow_4 hw) (ow_71 hw) (by decide) (cc := 0) (ss := 0) (rm_may l Z a0 hw r u b1 b21 j p3 q h34 n0 (Nat.le_trans Z0 Ea35.1) Fc Fu Gu hj) 0 rfl rfl (by decide) (by decide) rfl Ar (argsL := [(.ref b1), (.int j), (.int p3), (.ref b21)]) (rest := []) opd_10 rfl rfl (Nat.le_refl _) at_181 (pc' := 184) rfl rfl e34 (by decide) (by decide) ?_
    rintro v36 T36 h36 L36 X36 e36 ⟨rfl, Nq36, rfl⟩
    have N36 := N34.app Nq36
    refine own_ifY X36 hx hby at_184 (by decide) (pc' := 189) (by decide) (feq (by decide)).2 ?_
    refine own_iconst X36 hx hby at_189 (pc' := 190) rfl (z := 1) rfl ?_
    exact own_retN X36 hx hby hlk hrt (by simp) at_190 (z' := (1 : Int32)) rfl ⟨rfl, N36⟩ (by decide) (by decide)
set_option maxRecDepth 65536 in
set_option maxHeartbeats 40000000 in
theorem comes_1 {Post : Tables → Env → Array Value → State → Outcome → State → Prop} (hpost : ∀ tb e args s v u, (limb_1_1.after args s (.returned v) u = true ∧ limb_1_2.after args s (.returned v) u = true ∧ True) → FrameEnd s (.returned v) u (Jvm.fieldLocs frame_1_writes args s ++ Jvm.arrayLocs frame_1_arrays args s ++ Jvm.staticLocs frame_1_statics s) 160 256 → Post tb e args s (.returned v) u) :
    ArmFor flags0 classFile x code maxLocals ret World_1 tables_1 room_1 Calls_1 rest_1 Pre_1 Post := by
  intro l hfl _ _ p e ha hc hk s m args below hf hA hF happ hP
  obtain ⟨hcalls, hrest, hpre⟩ := hP
  obtain ⟨-, -, -, hnamed, -, -, -, hat⟩ := (Spec.applies_iff hf).mp happ
  obtain ⟨hg, hn⟩ := and_e (Cond.before_iff.mp (show (Jvm.Cond.and given_1 narrow_1).before args s = true from hpre))
  obtain ⟨g1, g2⟩ := and_e hg
  obtain ⟨g3, g4⟩ := and_e g2
  obtain ⟨g5, g6⟩ := and_e g4
  obtain ⟨g7, g8⟩ := and_e g6
  obtain ⟨g9, g10⟩ := and_e g8
  obtain ⟨w0, w1, w2, w3, w4, rfl⟩ : ∃ w0 w1 w2 w3 w4 : Value, args = #[w0, w1, w2, w3, w4] := by
    have hs : args.size = 5 := by simpa [Cond.value, given_1] using g1
    obtain ⟨L⟩ := args
    match L, hs with
    | [w0, w1, w2, w3, w4], _ => exact ⟨w0, w1, w2, w3, w4, rfl⟩
  have hw := fun d (hd : d ∈ tables_1) => atoms_spec (ws := Jvm.Cond.code x code maxLocals ret :: tables_1) hat d (List.mem_cons_of_mem _ hd)
  have hfit : Fit s := fun {y c} hc i hi => by
    obtain ⟨ha, rfl⟩ := Array.getElem?_eq_some_iff.mp hc
    have q := List.all_eq_true.mp ((Array.all_eq_true_iff_forall_mem.mp hF) _ (Array.getElem_mem ha)) i (List.mem_range.mpr hi)
    simpa [Array.getElem?_eq_getElem hi] using q
  obtain ⟨i0, ei0⟩ := is_v g3
  obtain rfl : w0 = (.int i0) := Option.some.inj ei0
  obtain ⟨i1, ei1⟩ := is_v g5
  obtain rfl : w1 = (.int i1) := Option.some.inj ei1
  obtain ⟨i2, ei2⟩ := is_v g7
  obtain rfl : w2 = (.int i2) := Option.some.inj ei2
  obtain ⟨i3, ei3⟩ := is_v g9
  obtain rfl : w3 = (.int i3) := Option.some.inj ei3
  obtain ⟨i4, ei4⟩ := is_v g10
  obtain rfl : w4 = (.int i4) := Option.some.inj ei4
  obtain ⟨n, o, h1, h2, h3, _, L, rfl, ⟨rfl, N⟩, hq⟩ := rm_law l s _ hw i0 i1 i2 i3 i4  s.heap s.heap.size (Nat.le_refl _)  tables_1 p e ha hc hk s m _ below hf ((Spec.applies_iff_loose hf).mp happ).1 ⟨rfl, State.Warmed39.refl s, rfl⟩ trivial
  refine ⟨n, _, h1, h2, h3, hpost _ _ _ _ _ _ ⟨Cond.after_iff.mpr rfl, Cond.after_iff.mpr (eq_i res_at (Term.int_eval (1)) rfl), trivial⟩ ⟨hq.1, hq.2.1, (hq.2.2.sift fun y hy => Or.inr (N y hy)).mono (by decide) (by decide)⟩⟩
theorem main_1_1 : Claimed_1_1 := comes_1 fun _ _ _ _ _ _ h hF => ⟨h.1, hF⟩
theorem main_1_2 : Claimed_1_2 := comes_1 fun _ _ _ _ _ _ h hF => ⟨h.2.1, hF⟩
end Jvm.Pilot.@@N@@
namespace Jvm.Pilot.@@N@@
open Jvm Jvm.ClassFile Sem Op Lib Jvm.Free Jvm.Stand Jvm.Pilot.@@N@@.Jvm.D
/-! MADE BY PROGRAM (witnessworld.py) out of the Statement's table words and the real class files: 13 classes; the members and pool entries that the words name. The judged class is class 1, her method 1. -/
namespace start1
open Jvm.ClassFile
def u (s : String) : CpInfo := .utf8 (stringToUtf16 s)
/-- a pool by its gaps: so many unusable entries, then the entry; so many at the end -/
def gap : Nat → List CpInfo → List CpInfo
  | 0, r => r
  | n + 1, r => .unusable :: gap n r
def poolList (es : List (Nat × CpInfo)) (last : Nat) : List CpInfo := es.foldr (fun e r => gap e.1 (e.2 :: r)) (gap last [])
def pool (es : List (Nat × CpInfo)) (last : Nat) : Array CpInfo := ⟨poolList es last⟩
def fileOf (pool : Array CpInfo) (this : Nat) (attrs : Array Attribute := #[]) (ms : Array MethodInfo := #[]) (fl : Nat := 33) (sup : Nat := 0) (ifs : Array Nat := #[]) (fds : Array FieldInfo := #[]) : ClassFile where
  minorVersion := 0
  majorVersion := 65
  constantPool := pool
  accessFlags := fl
  thisClass := this
  superClass := sup
  interfaces := ifs
  fields := fds
  methods := ms
  attributes := attrs
def plain (name : String) (sup : Option ClassId) : Class where
  name := name
  kind := .ordinary
  loader := none
  accessFlags := 33
  super := sup
  interfaces := #[]
  cf := none
  fields := #[]
  methods := #[]
  instanceTypes := #[]
  staticTypes := #[]
  resolved := #[]
  callSites := []
  init := .initialized
  statics := none
  mirror := none

def pool0 : Array CpInfo := pool [(5, u "<init>"), (0, u "()V"), (1, .class_ 10), (1, u "java/lang/Object")] 113

def k0c0 : Code := { maxStack := 0, maxLocals := 1, code := object_method_1_code, exceptionTable := #[], attributes := #[] }
def k0m0 : Method := { name := "<init>", desc := "()V", sig := { parameters := [], returnType := none }, accessFlags := 1, code := some k0c0 }
/-- java/lang/Object -/
def k0 : Class := { plain "java/lang/Object" none with
  accessFlags := 33
  interfaces := #[]
  cf := some (fileOf pool0 8 #[] #[{ accessFlags := 1, nameIndex := 5, descriptorIndex := 6, attributes := #[] }] 33 0 #[] #[])
  fields := #[]
  methods := #[k0m0]
  instanceTypes := #[]
  staticTypes := #[]
  resolved := Array.replicate 124 none
  statics := none }

def pool1 : Array CpInfo := pool [(2, .class_ 4), (1, u "java/lang/Object"), (0, u "<init>"), (0, u "()V"), (0, .methodref 8 9), (0, .class_ 10), (0, .nameAndType 11 12), (0, u "com/example/bindery/bindery/selection/LimitRows"), (0, u "none"), (0, u "(I)Lcom/example/bindery/bindery/selection/LimitRows;"), (0, .methodref 8 14), (0, .nameAndType 15 16), (0, u "count"), (0, u "()I"), (0, .methodref 8 18), (0, .nameAndType 19 20), (0, u "within"), (0, u "([D)Z"), (0, .methodref 8 22), (0, .nameAndType 23 24), (0, u "overrun"), (0, u "([D)D"), (0, .methodref 8 26), (0, .nameAndType 27 28), (0, u "loads"), (0, u "([I)[D"), (0, .integer 2147483647), (0, .methodref 8 31), (0, .nameAndType 32 33), (0, u "useSum"), (0, u "(II)D"), (0, .methodref 8 35), (0, .nameAndType 36 37), (0, u "priced"), (0, u "(D[DII)D"), (0, .methodref 8 39), (0, .nameAndType 40 41), (0, u "leastUse"), (0, u "(I[I)[D"), (0, .methodref 8 43), (0, .nameAndType 44 45), (0, u "mayStayWithin"), (0, u "([DII[D)Z"), (0, .class_ 47), (0, u "com/example/bindery/bindery/selection/LimitRowsNonePinLaw"), (2, u "law"), (0, u "(IIIII)Z")] 7

def k1m0 : Method := { name := "<init>", desc := "()V", sig := { parameters := [], returnType := none }, accessFlags := 1, code := none }
def k1c1 : Code := { maxStack := 6, maxLocals := 14, code := code, exceptionTable := #[], attributes := #[] }
def k1m1 : Method := { name := "law", desc := "(IIIII)Z", sig := { parameters := [.int, .int, .int, .int, .int], returnType := some .boolean }, accessFlags := 9, code := some k1c1 }
/-- com/example/bindery/bindery/selection/LimitRowsNonePinLaw -/
def k1 : Class := { plain "com/example/bindery/bindery/selection/LimitRowsNonePinLaw" (some 0) with
  accessFlags := 49
  interfaces := #[]
  cf := some (fileOf pool1 46 #[] #[{ accessFlags := 1, nameIndex := 5, descriptorIndex := 6, attributes := #[] }, { accessFlags := 9, nameIndex := 50, descriptorIndex := 51, attributes := #[] }] 49 2 #[] #[])
  fields := #[]
  methods := #[k1m0, k1m1]
  instanceTypes := #[]
  staticTypes := #[]
  resolved := Array.replicate 59 none
  statics := none }

def pool2 : Array CpInfo := pool [(1, .methodref 2 3), (0, .class_ 4), (0, .nameAndType 5 6), (0, u "java/lang/Object"), (0, u "<init>"), (0, u "()V"), (0, .fieldref 8 9), (0, .class_ 10), (0, .nameAndType 11 12), (0, u "com/example/bindery/bindery/selection/LimitRows"), (0, u "count"), (0, u "I"), (0, .fieldref 8 14), (0, .nameAndType 15 16), (0, u "use"), (0, u "[[D"), (0, .fieldref 8 18), (0, .nameAndType 19 20), (0, u "capacity"), (0, u "[D"), (0, .fieldref 8 22), (0, .nameAndType 23 20), (0, u "tightCapacity"), (0, .fieldref 8 25), (0, .nameAndType 26 20), (0, u "magnitude"), (11, u "()I"), (3, .class_ 16), (36, .double 9218868437227405312), (32, .class_ 114), (1, u "java/util/Arrays"), (2, .methodref 8 118), (0, .nameAndType 5 119), (0, u "(I[[D[D[D[D)V"), (0, .methodref 112 121), (0, .nameAndType 122 123), (0, u "fill"), (0, u "([DD)V"), (7, u "none"), (0, u "(I)Lcom/example/bindery/bindery/selection/LimitRows;"), (0, u "useSum"), (0, u "(II)D"), (0, u "priced"), (0, u "(D[DII)D"), (0, u "loads"), (0, u "([I)[D"), (2, u "overrun"), (0, u "([D)D"), (0, u "leastUse"), (0, u "(I[I)[D"), (2, u "mayStayWithin"), (0, u "([DII[D)Z"), (0, u "within"), (0, u "([D)Z")] 4

def k2c0 : Code := { maxStack := 2, maxLocals := 6, code := prog_44_method_1_code, exceptionTable := #[], attributes := #[] }
def k2m0 : Method := { name := "<init>", desc := "(I[[D[D[D[D)V", sig := { parameters := [.int, (.array (.array .double)), (.array .double), (.array .double), (.array .double)], returnType := none }, accessFlags := 2, code := some k2c0 }
def k2c1 : Code := { maxStack := 7, maxLocals := 2, code := prog_44_method_3_code, exceptionTable := #[], attributes := #[] }
def k2m1 : Method := { name := "none", desc := "(I)Lcom/example/bindery/bindery/selection/LimitRows;", sig := { parameters := [.int], returnType := some (.object "com/example/bindery/bindery/selection/LimitRows") }, accessFlags := 8, code := some k2c1 }
def k2c2 : Code := { maxStack := 1, maxLocals := 1, code := prog_44_method_4_code, exceptionTable := #[], attributes := #[] }
def k2m2 : Method := { name := "count", desc := "()I", sig := { parameters := [], returnType := some .int }, accessFlags := 0, code := some k2c2 }
def k2c3 : Code := { maxStack := 5, maxLocals := 8, code := prog_44_method_7_code, exceptionTable := #[], attributes := #[] }
def k2m3 : Method := { name := "useSum", desc := "(II)D", sig := { parameters := [.int, .int], returnType := some .double }, accessFlags := 0, code := some k2c3 }
def k2c4 : Code := { maxStack := 7, maxLocals := 11, code := prog_44_method_8_code, exceptionTable := #[], attributes := #[] }
def k2m4 : Method := { name := "priced", desc := "(D[DII)D", sig := { parameters := [.double, (.array .double), .int, .int], returnType := some .double }, accessFlags := 0, code := some k2c4 }
def k2c5 : Code := { maxStack := 7, maxLocals := 5, code := prog_44_method_9_code, exceptionTable := #[], attributes := #[] }
def k2m5 : Method := { name := "loads", desc := "([I)[D", sig := { parameters := [(.array .int)], returnType := some (.array .double) }, accessFlags := 0, code := some k2c5 }
def k2c6 : Code := { maxStack := 8, maxLocals := 5, code := prog_44_method_11_code, exceptionTable := #[], attributes := #[] }
def k2m6 : Method := { name := "overrun", desc := "([D)D", sig := { parameters := [(.array .double)], returnType := some .double }, accessFlags := 0, code := some k2c6 }
def k2c7 : Code := { maxStack := 7, maxLocals := 11, code := prog_44_method_12_code, exceptionTable := #[], attributes := #[] }
def k2m7 : Method := { name := "leastUse", desc := "(I[I)[D", sig := { parameters := [.int, (.array .int)], returnType := some (.array .double) }, accessFlags := 0, code := some k2c7 }
def k2c8 : Code := { maxStack := 7, maxLocals := 8, code := prog_44_method_13_code, exceptionTable := #[], attributes := #[] }
def k2m8 : Method := { name := "mayStayWithin", desc := "([DII[D)Z", sig := { parameters := [(.array .double), .int, .int, (.array .double)], returnType := some .boolean }, accessFlags := 0, code := some k2c8 }
def k2c9 : Code := { maxStack := 4, maxLocals := 3, code := prog_44_method_14_code, exceptionTable := #[], attributes := #[] }
def k2m9 : Method := { name := "within", desc := "([D)Z", sig := { parameters := [(.array .double)], returnType := some .boolean }, accessFlags := 0, code := some k2c9 }
/-- com/example/bindery/bindery/selection/LimitRows -/
def k2 : Class := { plain "com/example/bindery/bindery/selection/LimitRows" (some 0) with
  accessFlags := 48
  interfaces := #[]
  cf := some (fileOf pool2 8 #[] #[{ accessFlags := 2, nameIndex := 5, descriptorIndex := 119, attributes := #[] }, { accessFlags := 8, nameIndex := 131, descriptorIndex := 132, attributes := #[] }, { accessFlags := 0, nameIndex := 11, descriptorIndex := 38, attributes := #[] }, { accessFlags := 0, nameIndex := 133, descriptorIndex := 134, attributes := #[] }, { accessFlags := 0, nameIndex := 135, descriptorIndex := 136, attributes := #[] }, { accessFlags := 0, nameIndex := 137, descriptorIndex := 138, attributes := #[] }, { accessFlags := 0, nameIndex := 141, descriptorIndex := 142, attributes := #[] }, { accessFlags := 0, nameIndex := 143, descriptorIndex := 144, attributes := #[] }, { accessFlags := 0, nameIndex := 147, descriptorIndex := 148, attributes := #[] }, { accessFlags := 0, nameIndex := 149, descriptorIndex := 150, attributes := #[] }] 48 2 #[] #[{ accessFlags := 18, nameIndex := 11, descriptorIndex := 12, attributes := #[] }, { accessFlags := 18, nameIndex := 15, descriptorIndex := 16, attributes := #[] }, { accessFlags := 18, nameIndex := 19, descriptorIndex := 20, attributes := #[] }, { accessFlags := 18, nameIndex := 23, descriptorIndex := 20, attributes := #[] }, { accessFlags := 18, nameIndex := 26, descriptorIndex := 20, attributes := #[] }])
  fields := #[{ name := "count", type := .int, accessFlags := 18, slot := 0, constantValue := 0 }, { name := "use", type := (.array (.array .double)), accessFlags := 18, slot := 1, constantValue := 0 }, { name := "capacity", type := (.array .double), accessFlags := 18, slot := 2, constantValue := 0 }, { name := "tightCapacity", type := (.array .double), accessFlags := 18, slot := 3, constantValue := 0 }, { name := "magnitude", type := (.array .double), accessFlags := 18, slot := 4, constantValue := 0 }]
  methods := #[k2m0, k2m1, k2m2, k2m3, k2m4, k2m5, k2m6, k2m7, k2m8, k2m9]
  instanceTypes := #[.int, (.array (.array .double)), (.array .double), (.array .double), (.array .double)]
  staticTypes := #[]
  resolved := Array.replicate 155 none
  statics := none }

def pool3 : Array CpInfo := pool [(2, .class_ 4), (1, u "java/lang/Object"), (0, u "<init>"), (0, u "()V"), (7, .class_ 16), (1, u "java/util/Arrays"), (57, .class_ 76), (1, u "java/util/Arrays$NaturalOrder"), (36, .class_ 115), (1, u "java/util/Arrays$LegacyMergeSort"), (1, u "Z"), (257, .class_ 376), (0, u "java/util/Arrays$ArrayList"), (68, u "$assertionsDisabled"), (269, u "MIN_ARRAY_SORT_GRAN"), (0, u "I"), (2, u "INSERTIONSORT_THRESHOLD"), (120, u "fill"), (13, u "([DD)V"), (120, .class_ 976), (0, u "java/util/Arrays$ArrayItr")] 52

def k3m0 : Method := { name := "<init>", desc := "()V", sig := { parameters := [], returnType := none }, accessFlags := 2, code := none }
def k3c1 : Code := { maxStack := 4, maxLocals := 5, code := jdk_65_method_113_code, exceptionTable := #[], attributes := #[] }
def k3m1 : Method := { name := "fill", desc := "([DD)V", sig := { parameters := [(.array .double), .double], returnType := none }, accessFlags := 9, code := some k3c1 }
/-- java/util/Arrays -/
def k3 : Class := { plain "java/util/Arrays" (some 0) with
  accessFlags := 49
  interfaces := #[]
  cf := some (fileOf pool3 14 #[.nestMembers #[975, 375, 113, 74]] #[{ accessFlags := 2, nameIndex := 5, descriptorIndex := 6, attributes := #[] }, { accessFlags := 9, nameIndex := 840, descriptorIndex := 854, attributes := #[] }] 49 2 #[] #[{ accessFlags := 26, nameIndex := 715, descriptorIndex := 716, attributes := #[] }, { accessFlags := 26, nameIndex := 719, descriptorIndex := 716, attributes := #[] }, { accessFlags := 4120, nameIndex := 445, descriptorIndex := 117, attributes := #[] }])
  fields := #[{ name := "MIN_ARRAY_SORT_GRAN", type := .int, accessFlags := 26, slot := 0, constantValue := 0 }, { name := "INSERTIONSORT_THRESHOLD", type := .int, accessFlags := 26, slot := 1, constantValue := 0 }, { name := "$assertionsDisabled", type := .boolean, accessFlags := 4120, slot := 2, constantValue := 0 }]
  methods := #[k3m0, k3m1]
  instanceTypes := #[]
  staticTypes := #[.int, .int, .boolean]
  resolved := Array.replicate 1029 none
  statics := none }

def pool4 : Array CpInfo := pool [(1, u "java/lang/Cloneable"), (0, .class_ 1), (0, u "java/lang/Object"), (0, .class_ 3)] 3

/-- java/lang/Cloneable -/
def k4 : Class := { plain "java/lang/Cloneable" (some 0) with
  accessFlags := 1537
  interfaces := #[]
  cf := some (fileOf pool4 2 #[] #[] 1537 4 #[] #[])
  fields := #[]
  methods := #[]
  instanceTypes := #[]
  staticTypes := #[]
  resolved := Array.replicate 8 none
  statics := none }

def pool5 : Array CpInfo := pool [(1, u "java/io/Serializable"), (0, .class_ 1), (0, u "java/lang/Object"), (0, .class_ 3)] 3

/-- java/io/Serializable -/
def k5 : Class := { plain "java/io/Serializable" (some 0) with
  accessFlags := 1537
  interfaces := #[]
  cf := some (fileOf pool5 2 #[] #[] 1537 4 #[] #[])
  fields := #[]
  methods := #[]
  instanceTypes := #[]
  staticTypes := #[]
  resolved := Array.replicate 8 none
  statics := none }

/-- the primitive byte -/
def k6 : Class := { plain "byte" none with kind := .primitive 'B', accessFlags := 0x411 }
/-- [B -/
def k7 : Class := { plain "[B" (some 0) with kind := .array 6 .byte, interfaces := #[4, 5], accessFlags := 1041 }

/-- the primitive double -/
def k8 : Class := { plain "double" none with kind := .primitive 'D', accessFlags := 0x411 }
/-- [D -/
def k9 : Class := { plain "[D" (some 0) with kind := .array 8 .double, interfaces := #[4, 5], accessFlags := 1041 }

/-- the primitive int -/
def k10 : Class := { plain "int" none with kind := .primitive 'I', accessFlags := 0x411 }
/-- [I -/
def k11 : Class := { plain "[I" (some 0) with kind := .array 10 .int, interfaces := #[4, 5], accessFlags := 1041 }

/-- [[D -/
def k12 : Class := { plain "[[D" (some 0) with kind := .array 9 (.array .double), interfaces := #[4, 5], accessFlags := 1041 }

def heap : Heap := #[]
def classes : Array Class := #[k0, k1, k2, k3, k4, k5, k6, k7, k8, k9, k10, k11, k12]
def interned : List (Array UInt16 × Addr) := []
def slotsUsed : Nat := 0
def theMethod : MethodId := ⟨1, 1⟩
def args0 : Array Value := #[.int 5, .int 1, .int 2, .int 3, .int 4]
def aboutOver (below : List Frame) : State where
  vm := { classes := classes, interned := interned.toArray }
  heap := heap
  slotsUsed := slotsUsed
  threads := #[{ frames := .invoking theMethod args0 :: below }]
def below0 : List Frame := [.native { method := ⟨0, 0⟩, args := #[] }]
def about1 : State := aboutOver below0
def p0 : Program := .bare "" "" ""
def e0 : Env := launch0.env 0 0 0
theorem w_frames : about1.frames = Frame.invoking theMethod args0 :: below0 := rfl
set_option maxRecDepth 65536 in
theorem w_args : argsFit about1.vm theMethod args0 = true := by decide +kernel
set_option maxRecDepth 65536 in
theorem w_heap : heapFits about1 = true := by decide +kernel
set_option maxRecDepth 65536 in
theorem w_runnable : about1.curStatus? = some .runnable := by decide +kernel
set_option maxRecDepth 65536 in
theorem w_alone : about1.alone = true := by decide +kernel
set_option maxRecDepth 65536 in
theorem w_named : about1.methodNamed? x = some theMethod := by decide +kernel
set_option maxRecDepth 65536 in
theorem w_hears : about1.hears theMethod below0 = true := by decide +kernel
set_option maxRecDepth 65536 in
theorem w_ripe : about1.ripe theMethod args0 below0 = true := by decide +kernel
theorem w_running : about1.status = .running := rfl
set_option maxRecDepth 65536 in
theorem w_room : about1.hasRoom e0.platform room_1 = true :=
  launch0.hasRoom_least _ room_1 (by decide +kernel) (by decide +kernel) (by decide +kernel) (by decide +kernel) (by decide +kernel) (by decide +kernel)
theorem allAtoms_all (ts : List Jvm.Cond) (a : Array Jvm.Value) (st : Jvm.State) : (allAtoms ts).before a st = ts.all (fun c => c.before a st) := by
  induction ts with
  | nil => rfl
  | cons c t ih =>
    show (Jvm.Cond.and c (allAtoms t)).before a st = _
    rw [Jvm.Cond.before_and, ih, List.all_cons]
def words1 : List Jvm.Cond := Jvm.Cond.code x code maxLocals ret :: tables_1
/-- a 'code' word, met by the world's own term for the bytes: nothing is compared byte by byte -/
theorem code_word {y : MethodName} {bytes : ByteArray} {mx : Nat} {rt : Option FieldType} {a : Array Value} {s : State} {m : MethodId} {meth : Method} {c : Code} (h1 : s.methodNamed? y = some m) (h2 : s.vm.method? m = some meth) (h3 : meth.code = some c) (h4 : c.code = bytes)
    (h5 : (c.maxLocals == mx && c.exceptionTable.isEmpty && decide (c.maxStack ≤ mostOperands) && decide (meth.sig.returnType = rt) && !meth.locks && decide (parseMethodDescriptor y.desc = some meth.sig)) = true) : (Jvm.Cond.code y bytes mx rt).before a s = true := by
  simp only [Bool.and_eq_true, beq_iff_eq, Bool.not_eq_true', decide_eq_true_eq] at h5
  obtain ⟨⟨⟨⟨⟨g1, g2⟩, g3⟩, g4⟩, g5⟩, g6⟩ := h5
  simp [Cond.before, Cond.holds, Cond.value, h1, h2, h3, h4, g1, g2, g3, g4, g5, g6]
def isCode : Jvm.Cond → Bool
  | .code _ _ _ _ => true
  | _ => false
theorem all_split {L : List Jvm.Cond} {P : Jvm.Cond → Bool} (h1 : L.all (fun c => isCode c || P c) = true) (h2 : ∀ c ∈ L.filter isCode, P c = true) : L.all P = true := by
  refine List.all_eq_true.mpr fun c hc => ?_
  have h := List.all_eq_true.mp h1 c hc
  rcases Bool.eq_false_or_eq_true (isCode c) with hi | hi
  · exact h2 c (List.mem_filter.mpr ⟨hc, hi⟩)
  · simpa [hi] using h
set_option maxRecDepth 65536 in
theorem w_c0 : (Jvm.Cond.code x code maxLocals ret).before args0 about1 = true := code_word (m := ⟨1, 1⟩) (meth := k1m1) (c := k1c1) (by decide +kernel) rfl rfl rfl (by decide +kernel)
set_option maxRecDepth 65536 in
theorem w_c1 : (Jvm.Cond.code ({ cls := "com/example/bindery/bindery/selection/LimitRows", name := "none", desc := "(I)Lcom/example/bindery/bindery/selection/LimitRows;" } : Jvm.MethodName) prog_44_method_3_code (2 : Nat) (Option.some (Jvm.ClassFile.FieldType.object "com/example/bindery/bindery/selection/LimitRows"))).before args0 about1 = true := code_word (m := ⟨2, 1⟩) (meth := k2m1) (c := k2c1) (by decide +kernel) rfl rfl rfl (by decide +kernel)
set_option maxRecDepth 65536 in
theorem w_c2 : (Jvm.Cond.code ({ cls := "com/example/bindery/bindery/selection/LimitRows", name := "<init>", desc := "(I[[D[D[D[D)V" } : Jvm.MethodName) prog_44_method_1_code (6 : Nat) (Option.none : Option Jvm.ClassFile.FieldType)).before args0 about1 = true := code_word (m := ⟨2, 0⟩) (meth := k2m0) (c := k2c0) (by decide +kernel) rfl rfl rfl (by decide +kernel)
set_option maxRecDepth 65536 in
theorem w_c3 : (Jvm.Cond.code ({ cls := "java/lang/Object", name := "<init>", desc := "()V" } : Jvm.MethodName) object_method_1_code (1 : Nat) (Option.none : Option Jvm.ClassFile.FieldType)).before args0 about1 = true := code_word (m := ⟨0, 0⟩) (meth := k0m0) (c := k0c0) (by decide +kernel) rfl rfl rfl (by decide +kernel)
set_option maxRecDepth 65536 in
theorem w_c4 : (Jvm.Cond.code ({ cls := "com/example/bindery/bindery/selection/LimitRows", name := "count", desc := "()I" } : Jvm.MethodName) prog_44_method_4_code (1 : Nat) (Option.some Jvm.ClassFile.FieldType.int)).before args0 about1 = true := code_word (m := ⟨2, 2⟩) (meth := k2m2) (c := k2c2) (by decide +kernel) rfl rfl rfl (by decide +kernel)
set_option maxRecDepth 65536 in
theorem w_c5 : (Jvm.Cond.code ({ cls := "com/example/bindery/bindery/selection/LimitRows", name := "within", desc := "([D)Z" } : Jvm.MethodName) prog_44_method_14_code (3 : Nat) (Option.some Jvm.ClassFile.FieldType.boolean)).before args0 about1 = true := code_word (m := ⟨2, 9⟩) (meth := k2m9) (c := k2c9) (by decide +kernel) rfl rfl rfl (by decide +kernel)
set_option maxRecDepth 65536 in
theorem w_c6 : (Jvm.Cond.code ({ cls := "com/example/bindery/bindery/selection/LimitRows", name := "overrun", desc := "([D)D" } : Jvm.MethodName) prog_44_method_11_code (5 : Nat) (Option.some Jvm.ClassFile.FieldType.double)).before args0 about1 = true := code_word (m := ⟨2, 6⟩) (meth := k2m6) (c := k2c6) (by decide +kernel) rfl rfl rfl (by decide +kernel)
set_option maxRecDepth 65536 in
theorem w_c7 : (Jvm.Cond.code ({ cls := "com/example/bindery/bindery/selection/LimitRows", name := "loads", desc := "([I)[D" } : Jvm.MethodName) prog_44_method_9_code (5 : Nat) (Option.some (Jvm.ClassFile.FieldType.array Jvm.ClassFile.FieldType.double))).before args0 about1 = true := code_word (m := ⟨2, 5⟩) (meth := k2m5) (c := k2c5) (by decide +kernel) rfl rfl rfl (by decide +kernel)
set_option maxRecDepth 65536 in
theorem w_c8 : (Jvm.Cond.code ({ cls := "com/example/bindery/bindery/selection/LimitRows", name := "useSum", desc := "(II)D" } : Jvm.MethodName) prog_44_method_7_code (8 : Nat) (Option.some Jvm.ClassFile.FieldType.double)).before args0 about1 = true := code_word (m := ⟨2, 3⟩) (meth := k2m3) (c := k2c3) (by decide +kernel) rfl rfl rfl (by decide +kernel)
set_option maxRecDepth 65536 in
theorem w_c9 : (Jvm.Cond.code ({ cls := "com/example/bindery/bindery/selection/LimitRows", name := "priced", desc := "(D[DII)D" } : Jvm.MethodName) prog_44_method_8_code (11 : Nat) (Option.some Jvm.ClassFile.FieldType.double)).before args0 about1 = true := code_word (m := ⟨2, 4⟩) (meth := k2m4) (c := k2c4) (by decide +kernel) rfl rfl rfl (by decide +kernel)
set_option maxRecDepth 65536 in
theorem w_c10 : (Jvm.Cond.code ({ cls := "com/example/bindery/bindery/selection/LimitRows", name := "leastUse", desc := "(I[I)[D" } : Jvm.MethodName) prog_44_method_12_code (11 : Nat) (Option.some (Jvm.ClassFile.FieldType.array Jvm.ClassFile.FieldType.double))).before args0 about1 = true := code_word (m := ⟨2, 7⟩) (meth := k2m7) (c := k2c7) (by decide +kernel) rfl rfl rfl (by decide +kernel)
set_option maxRecDepth 65536 in
theorem w_c11 : (Jvm.Cond.code ({ cls := "java/util/Arrays", name := "fill", desc := "([DD)V" } : Jvm.MethodName) jdk_65_method_113_code (5 : Nat) (Option.none : Option Jvm.ClassFile.FieldType)).before args0 about1 = true := code_word (m := ⟨3, 1⟩) (meth := k3m1) (c := k3c1) (by decide +kernel) rfl rfl rfl (by decide +kernel)
set_option maxRecDepth 65536 in
theorem w_c12 : (Jvm.Cond.code ({ cls := "com/example/bindery/bindery/selection/LimitRows", name := "mayStayWithin", desc := "([DII[D)Z" } : Jvm.MethodName) prog_44_method_13_code (8 : Nat) (Option.some Jvm.ClassFile.FieldType.boolean)).before args0 about1 = true := code_word (m := ⟨2, 8⟩) (meth := k2m8) (c := k2c8) (by decide +kernel) rfl rfl rfl (by decide +kernel)
def codes1 : List Jvm.Cond := [Jvm.Cond.code x code maxLocals ret, Jvm.Cond.code ({ cls := "com/example/bindery/bindery/selection/LimitRows", name := "none", desc := "(I)Lcom/example/bindery/bindery/selection/LimitRows;" } : Jvm.MethodName) prog_44_method_3_code (2 : Nat) (Option.some (Jvm.ClassFile.FieldType.object "com/example/bindery/bindery/selection/LimitRows")), Jvm.Cond.code ({ cls := "com/example/bindery/bindery/selection/LimitRows", name := "<init>", desc := "(I[[D[D[D[D)V" } : Jvm.MethodName) prog_44_method_1_code (6 : Nat) (Option.none : Option Jvm.ClassFile.FieldType), Jvm.Cond.code ({ cls := "java/lang/Object", name := "<init>", desc := "()V" } : Jvm.MethodName) object_method_1_code (1 : Nat) (Option.none : Option Jvm.ClassFile.FieldType), Jvm.Cond.code ({ cls := "com/example/bindery/bindery/selection/LimitRows", name := "count", desc := "()I" } : Jvm.MethodName) prog_44_method_4_code (1 : Nat) (Option.some Jvm.ClassFile.FieldType.int), Jvm.Cond.code ({ cls := "com/example/bindery/bindery/selection/LimitRows", name := "within", desc := "([D)Z" } : Jvm.MethodName) prog_44_method_14_code (3 : Nat) (Option.some Jvm.ClassFile.FieldType.boolean), Jvm.Cond.code ({ cls := "com/example/bindery/bindery/selection/LimitRows", name := "overrun", desc := "([D)D" } : Jvm.MethodName) prog_44_method_11_code (5 : Nat) (Option.some Jvm.ClassFile.FieldType.double), Jvm.Cond.code ({ cls := "com/example/bindery/bindery/selection/LimitRows", name := "loads", desc := "([I)[D" } : Jvm.MethodName) prog_44_method_9_code (5 : Nat) (Option.some (Jvm.ClassFile.FieldType.array Jvm.ClassFile.FieldType.double)), Jvm.Cond.code ({ cls := "com/example/bindery/bindery/selection/LimitRows", name := "useSum", desc := "(II)D" } : Jvm.MethodName) prog_44_method_7_code (8 : Nat) (Option.some Jvm.ClassFile.FieldType.double), Jvm.Cond.code ({ cls := "com/example/bindery/bindery/selection/LimitRows", name := "priced", desc := "(D[DII)D" } : Jvm.MethodName) prog_44_method_8_code (11 : Nat) (Option.some Jvm.ClassFile.FieldType.double), Jvm.Cond.code ({ cls := "com/example/bindery/bindery/selection/LimitRows", name := "leastUse", desc := "(I[I)[D" } : Jvm.MethodName) prog_44_method_12_code (11 : Nat) (Option.some (Jvm.ClassFile.FieldType.array Jvm.ClassFile.FieldType.double)), Jvm.Cond.code ({ cls := "java/util/Arrays", name := "fill", desc := "([DD)V" } : Jvm.MethodName) jdk_65_method_113_code (5 : Nat) (Option.none : Option Jvm.ClassFile.FieldType), Jvm.Cond.code ({ cls := "com/example/bindery/bindery/selection/LimitRows", name := "mayStayWithin", desc := "([DII[D)Z" } : Jvm.MethodName) prog_44_method_13_code (8 : Nat) (Option.some Jvm.ClassFile.FieldType.boolean)]
set_option maxRecDepth 65536 in
theorem codes_eq : words1.filter isCode = codes1 := rfl
theorem w_codes : ∀ c ∈ words1.filter isCode, c.before args0 about1 = true := by
  rw [codes_eq]
  intro c hc
  simp only [codes1, List.mem_cons, List.not_mem_nil, or_false] at hc
  rcases hc with rfl | rfl | rfl | rfl | rfl | rfl | rfl | rfl | rfl | rfl | rfl | rfl | rfl
  · exact w_c0
  · exact w_c1
  · exact w_c2
  · exact w_c3
  · exact w_c4
  · exact w_c5
  · exact w_c6
  · exact w_c7
  · exact w_c8
  · exact w_c9
  · exact w_c10
  · exact w_c11
  · exact w_c12
set_option maxRecDepth 65536 in
theorem w_t1 : (words1.take 24).all (fun c => isCode c || c.before args0 about1) = true := by decide +kernel
set_option maxRecDepth 65536 in
theorem w_t2 : ((words1.drop 24).take 24).all (fun c => isCode c || c.before args0 about1) = true := by decide +kernel
set_option maxRecDepth 65536 in
theorem w_t3 : (((words1.drop 24).drop 24).take 24).all (fun c => isCode c || c.before args0 about1) = true := by decide +kernel
set_option maxRecDepth 65536 in
theorem w_t4 : (((words1.drop 24).drop 24).drop 24).all (fun c => isCode c || c.before args0 about1) = true := by decide +kernel
theorem w_tables : (allAtoms (Jvm.Cond.code x code maxLocals ret :: tables_1)).before args0 about1 = true := by
  rw [allAtoms_all]
  show words1.all (fun c => c.before args0 about1) = true
  refine all_split ?_ w_codes
  rw [← List.take_append_drop 24 words1, List.all_append, w_t1, ← List.take_append_drop 24 (words1.drop 24), List.all_append, w_t2, ← List.take_append_drop 24 ((words1.drop 24).drop 24), List.all_append, w_t3, w_t4]
  rfl
set_option maxRecDepth 65536 in
theorem w_case : (Jvm.Cond.and given_1 narrow_1).before args0 about1 = true := by decide +kernel
theorem w_applies : (headSpec (Jvm.Cond.code x code maxLocals ret :: tables_1) room_1).applies x e0.platform about1 = true :=
  (Spec.applies_iff w_frames).mpr ⟨w_running, w_runnable, w_alone, w_named, w_hears, w_ripe, w_room, w_tables⟩
theorem atStart : AtStart classFile x code maxLocals ret World_1 tables_1 room_1 Calls_1 rest_1 Pre_1 launch0 p0 e0 about1 theMethod args0 below0 :=
  ⟨lists_1, trivial, launch0.admits_env _ _ _, launch0.least_env, fairChoices_fair.cas, fairChoices_fair.clock, w_frames, w_args, w_heap, w_applies, trivial, trivial, w_case⟩
end start1
theorem witness_1 : WitnessClaimed_1 := ⟨start1.p0, start1.e0, start1.about1, start1.theMethod, start1.args0, start1.below0, start1.atStart⟩
end Jvm.Pilot.@@N@@

import JvmDerived
import JvmDerived.Pilot.@@N@@Statement
import JvmDerived.Pilot.@@N@@Code
set_option linter.unusedVariables false
set_option linter.unusedSimpArgs false
namespace Jvm.Pilot.@@N@@
open Jvm Jvm.ClassFile Sem Op Lib Jvm.Free Jvm.Stand Jvm.LawKit Jvm.RoadKit Bundle Jvm.Pilot.@@N@@.Jvm.D
section OwnSteps
variable {p : Program} {l : Launch} {e : Env} {R : Room} {s : State} {m : MethodId} {args : Array Value} {below : List Frame} {meth : Method} {c : Code} {T : State} {locs : List Loc} {cells slots : Nat} {G : State → Outcome → Prop} {B : ByteArray} {pc pc' : Nat} {Ls Ls' : Array Slot} {st : List Value}
/-- from here the run ends as G says -/
def own_E (tb : Tables) (e : Env) (below : List Frame) (G : State → Outcome → Prop) (A : State) : Prop := ∃ s₂ o, Steps tb e below A s₂ ∧ G s₂ o
theorem own_go {tb : Tables} {A A' : State} (h : ∀ t, Steps tb e below A' t → Steps tb e below A t) (k : own_E tb e below G A') : own_E tb e below G A := by
  obtain ⟨s₂, o, h1, h2⟩ := k; exact ⟨s₂, o, h _ h1, h2⟩
theorem own_tr {tb : Tables} {A A' : State} (h : Steps tb e below A A') (k : own_E tb e below G A') : own_E tb e below G A := own_go (fun _ q => h.trans q) k
theorem own_iloadN (X : Stand p l e R s m args below meth c T locs cells slots) (hx : p.tables.exec = Jvm.exec) (hby : c.code = B) {k : Fin 4} {v : Int32} (hd : decode B pc = .ok (.iload_n k, 1)) (hp : pc + 1 = pc') (hl : Ls[k.val]? = some (.val (.int v)))
    (k : own_E p.tables e below G (T.setTop (mkF m pc' Ls (.int v :: st)))) : own_E p.tables e below G (T.setTop (mkF m pc Ls (st))) := by
  subst hp; exact own_go (fun t q => XS.iloadN X.here hx rfl (hb hby hd) hl q) k
theorem own_iload (X : Stand p l e R s m args below meth c T locs cells slots) (hx : p.tables.exec = Jvm.exec) (hby : c.code = B) {k : Nat} {v : Int32} (hd : decode B pc = .ok (.iload k, 2)) (hp : pc + 2 = pc') (hl : Ls[k]? = some (.val (.int v)))
    (k : own_E p.tables e below G (T.setTop (mkF m pc' Ls (.int v :: st)))) : own_E p.tables e below G (T.setTop (mkF m pc Ls (st))) := by
  subst hp; exact own_go (fun t q => XS.iload X.here hx rfl (hb hby hd) hl q) k
theorem own_lloadN (X : Stand p l e R s m args below meth c T locs cells slots) (hx : p.tables.exec = Jvm.exec) (hby : c.code = B) {k : Fin 4} {v : Int64} (hd : decode B pc = .ok (.lload_n k, 1)) (hp : pc + 1 = pc') (hl : Ls[k.val]? = some (.val (.long v)))
    (k : own_E p.tables e below G (T.setTop (mkF m pc' Ls (.long v :: st)))) : own_E p.tables e below G (T.setTop (mkF m pc Ls (st))) := by
  subst hp; exact own_go (fun t q => XS.lloadN X.here hx rfl (hb hby hd) hl q) k
theorem own_lload (X : Stand p l e R s m args below meth c T locs cells slots) (hx : p.tables.exec = Jvm.exec) (hby : c.code = B) {k : Nat} {v : Int64} (hd : decode B pc = .ok (.lload k, 2)) (hp : pc + 2 = pc') (hl : Ls[k]? = some (.val (.long v)))
    (k : own_E p.tables e below G (T.setTop (mkF m pc' Ls (.long v :: st)))) : own_E p.tables e below G (T.setTop (mkF m pc Ls (st))) := by
  subst hp; exact own_go (fun t q => XS.lload X.here hx rfl (hb hby hd) hl q) k
theorem own_aloadN (X : Stand p l e R s m args below meth c T locs cells slots) (hx : p.tables.exec = Jvm.exec) (hby : c.code = B) {k : Fin 4} {v : Value} (hd : decode B pc = .ok (.aload_n k, 1)) (hp : pc + 1 = pc') (hl : Ls[k.val]? = some (.val v)) (hv : v.isRef = true)
    (k : own_E p.tables e below G (T.setTop (mkF m pc' Ls (v :: st)))) : own_E p.tables e below G (T.setTop (mkF m pc Ls (st))) := by
  subst hp; exact own_go (fun t q => XS.aloadN X.here hx rfl (hb hby hd) hl hv q) k
theorem own_aload (X : Stand p l e R s m args below meth c T locs cells slots) (hx : p.tables.exec = Jvm.exec) (hby : c.code = B) {k : Nat} {v : Value} (hd : decode B pc = .ok (.aload k, 2)) (hp : pc + 2 = pc') (hl : Ls[k]? = some (.val v)) (hv : v.isRef = true)
    (k : own_E p.tables e below G (T.setTop (mkF m pc' Ls (v :: st)))) : own_E p.tables e below G (T.setTop (mkF m pc Ls (st))) := by
  subst hp; exact own_go (fun t q => XS.aload X.here hx rfl (hb hby hd) hl hv q) k
theorem own_istoreN (X : Stand p l e R s m args below meth c T locs cells slots) (hx : p.tables.exec = Jvm.exec) (hby : c.code = B) {k : Fin 4} {v : Int32} (hd : decode B pc = .ok (.istore_n k, 1)) (hp : pc + 1 = pc') (hl : storeLocals Ls k.val (.int v) = some Ls')
    (k : own_E p.tables e below G (T.setTop (mkF m pc' Ls' (st)))) : own_E p.tables e below G (T.setTop (mkF m pc Ls (.int v :: st))) := by
  subst hp; exact own_go (fun t q => XS.istoreN X.here hx rfl (hb hby hd) rfl hl q) k
theorem own_istore (X : Stand p l e R s m args below meth c T locs cells slots) (hx : p.tables.exec = Jvm.exec) (hby : c.code = B) {k : Nat} {v : Int32} (hd : decode B pc = .ok (.istore k, 2)) (hp : pc + 2 = pc') (hl : storeLocals Ls k (.int v) = some Ls')
    (k : own_E p.tables e below G (T.setTop (mkF m pc' Ls' (st)))) : own_E p.tables e below G (T.setTop (mkF m pc Ls (.int v :: st))) := by
  subst hp; exact own_go (fun t q => XS.istore X.here hx rfl (hb hby hd) rfl hl q) k
theorem own_lstoreN (X : Stand p l e R s m args below meth c T locs cells slots) (hx : p.tables.exec = Jvm.exec) (hby : c.code = B) {k : Fin 4} {v : Int64} (hd : decode B pc = .ok (.lstore_n k, 1)) (hp : pc + 1 = pc') (hl : storeLocals Ls k.val (.long v) = some Ls')
    (k : own_E p.tables e below G (T.setTop (mkF m pc' Ls' (st)))) : own_E p.tables e below G (T.setTop (mkF m pc Ls (.long v :: st))) := by
  subst hp; exact own_go (fun t q => XS.lstoreN X.here hx rfl (hb hby hd) rfl hl q) k
theorem own_lstore (X : Stand p l e R s m args below meth c T locs cells slots) (hx : p.tables.exec = Jvm.exec) (hby : c.code = B) {k : Nat} {v : Int64} (hd : decode B pc = .ok (.lstore k, 2)) (hp : pc + 2 = pc') (hl : storeLocals Ls k (.long v) = some Ls')
    (k : own_E p.tables e below G (T.setTop (mkF m pc' Ls' (st)))) : own_E p.tables e below G (T.setTop (mkF m pc Ls (.long v :: st))) := by
  subst hp; exact own_go (fun t q => XS.lstore X.here hx rfl (hb hby hd) rfl hl q) k
theorem own_astoreN (X : Stand p l e R s m args below meth c T locs cells slots) (hx : p.tables.exec = Jvm.exec) (hby : c.code = B) {k : Fin 4} {v : Value} (hd : decode B pc = .ok (.astore_n k, 1)) (hp : pc + 1 = pc') (hv : v.isRef = true) (hl : storeLocals Ls k.val v = some Ls')
    (k : own_E p.tables e below G (T.setTop (mkF m pc' Ls' (st)))) : own_E p.tables e below G (T.setTop (mkF m pc Ls (v :: st))) := by
  subst hp; exact own_go (fun t q => XS.astoreN X.here hx rfl (hb hby hd) rfl hv hl q) k
theorem own_astore (X : Stand p l e R s m args below meth c T locs cells slots) (hx : p.tables.exec = Jvm.exec) (hby : c.code = B) {k : Nat} {v : Value} (hd : decode B pc = .ok (.astore k, 2)) (hp : pc + 2 = pc') (hv : v.isRef = true) (hl : storeLocals Ls k v = some Ls')
    (k : own_E p.tables e below G (T.setTop (mkF m pc' Ls' (st)))) : own_E p.tables e below G (T.setTop (mkF m pc Ls (v :: st))) := by
  subst hp; exact own_go (fun t q => XS.astore X.here hx rfl (hb hby hd) rfl hv hl q) k
theorem own_iinc (X : Stand p l e R s m args below meth c T locs cells slots) (hx : p.tables.exec = Jvm.exec) (hby : c.code = B) {k : Nat} {cst : Int} {v z : Int32} (hd : decode B pc = .ok (.iinc k cst, 3)) (hp : pc + 3 = pc') (hl : Ls[k]? = some (.val (.int v))) (hz : Int32.ofInt cst = z) (hl' : storeLocals Ls k (.int (v + z)) = some Ls')
    (k : own_E p.tables e below G (T.setTop (mkF m pc' Ls' (st)))) : own_E p.tables e below G (T.setTop (mkF m pc Ls (st))) := by
  subst hp; exact own_go (fun t q => XS.iinc X.here hx rfl (hb hby hd) hl (hz ▸ hl') q) k
theorem own_iconst (X : Stand p l e R s m args below meth c T locs cells slots) (hx : p.tables.exec = Jvm.exec) (hby : c.code = B) {i : Int} {z : Int32} (hd : decode B pc = .ok (.iconst i, 1)) (hp : pc + 1 = pc') (hz : Int32.ofInt i = z)
    (k : own_E p.tables e below G (T.setTop (mkF m pc' Ls (.int z :: st)))) : own_E p.tables e below G (T.setTop (mkF m pc Ls (st))) := by
  subst hp hz; exact own_go (fun t q => XS.iconst X.here hx rfl (hb hby hd) q) k
theorem own_bipush (X : Stand p l e R s m args below meth c T locs cells slots) (hx : p.tables.exec = Jvm.exec) (hby : c.code = B) {i : Int} {z : Int32} (hd : decode B pc = .ok (.bipush i, 2)) (hp : pc + 2 = pc') (hz : (Int8.ofInt i).toInt32 = z)
    (k : own_E p.tables e below G (T.setTop (mkF m pc' Ls (.int z :: st)))) : own_E p.tables e below G (T.setTop (mkF m pc Ls (st))) := by
  subst hp hz; exact own_go (fun t q => XS.bipush X.here hx rfl (hb hby hd) q) k
theorem own_sipush (X : Stand p l e R s m args below meth c T locs cells slots) (hx : p.tables.exec = Jvm.exec) (hby : c.code = B) {i : Int} {z : Int32} (hd : decode B pc = .ok (.sipush i, 3)) (hp : pc + 3 = pc') (hz : (Int16.ofInt i).toInt32 = z)
    (k : own_E p.tables e below G (T.setTop (mkF m pc' Ls (.int z :: st)))) : own_E p.tables e below G (T.setTop (mkF m pc Ls (st))) := by
  subst hp hz; exact own_go (fun t q => XS.sipush X.here hx rfl (hb hby hd) q) k
theorem own_lconst (X : Stand p l e R s m args below meth c T locs cells slots) (hx : p.tables.exec = Jvm.exec) (hby : c.code = B) {i : Fin 2} {z : Int64} (hd : decode B pc = .ok (.lconst i, 1)) (hp : pc + 1 = pc') (hz : Int64.ofNat i = z)
    (k : own_E p.tables e below G (T.setTop (mkF m pc' Ls (.long z :: st)))) : own_E p.tables e below G (T.setTop (mkF m pc Ls (st))) := by
  subst hp hz; exact own_go (fun t q => XS.lconst X.here hx rfl (hb hby hd) q) k
theorem own_aconst_null (X : Stand p l e R s m args below meth c T locs cells slots) (hx : p.tables.exec = Jvm.exec) (hby : c.code = B)  (hd : decode B pc = .ok (.aconst_null, 1)) (hp : pc + 1 = pc') 
    (k : own_E p.tables e below G (T.setTop (mkF m pc' Ls (.null :: st)))) : own_E p.tables e below G (T.setTop (mkF m pc Ls (st))) := by
  subst hp; exact own_go (fun t q => XS.aconstNull X.here hx rfl (hb hby hd)  q) k
theorem own_iadd (X : Stand p l e R s m args below meth c T locs cells slots) (hx : p.tables.exec = Jvm.exec) (hby : c.code = B) {x y : Int32} (hd : decode B pc = .ok (.iadd, 1)) (hp : pc + 1 = pc') 
    (k : own_E p.tables e below G (T.setTop (mkF m pc' Ls (.int (x + y) :: st)))) : own_E p.tables e below G (T.setTop (mkF m pc Ls (.int y :: .int x :: st))) := by
  subst hp; exact own_go (fun t q => XS.iadd X.here hx rfl (hb hby hd) rfl q) k
theorem own_isub (X : Stand p l e R s m args below meth c T locs cells slots) (hx : p.tables.exec = Jvm.exec) (hby : c.code = B) {x y : Int32} (hd : decode B pc = .ok (.isub, 1)) (hp : pc + 1 = pc') 
    (k : own_E p.tables e below G (T.setTop (mkF m pc' Ls (.int (x - y) :: st)))) : own_E p.tables e below G (T.setTop (mkF m pc Ls (.int y :: .int x :: st))) := by
  subst hp; exact own_go (fun t q => XS.isub X.here hx rfl (hb hby hd) rfl q) k
theorem own_iand (X : Stand p l e R s m args below meth c T locs cells slots) (hx : p.tables.exec = Jvm.exec) (hby : c.code = B) {x y : Int32} (hd : decode B pc = .ok (.iand, 1)) (hp : pc + 1 = pc') 
    (k : own_E p.tables e below G (T.setTop (mkF m pc' Ls (.int (x &&& y) :: st)))) : own_E p.tables e below G (T.setTop (mkF m pc Ls (.int y :: .int x :: st))) := by
  subst hp; exact own_go (fun t q => XS.iand X.here hx rfl (hb hby hd) rfl q) k
theorem own_imul (X : Stand p l e R s m args below meth c T locs cells slots) (hx : p.tables.exec = Jvm.exec) (hby : c.code = B) {x y : Int32} (hd : decode B pc = .ok (.imul, 1)) (hp : pc + 1 = pc') 
    (k : own_E p.tables e below G (T.setTop (mkF m pc' Ls (.int (x * y) :: st)))) : own_E p.tables e below G (T.setTop (mkF m pc Ls (.int y :: .int x :: st))) := by
  subst hp; exact own_go (fun t q => XS.imul X.here hx rfl (hb hby hd) rfl q) k
theorem own_ixor (X : Stand p l e R s m args below meth c T locs cells slots) (hx : p.tables.exec = Jvm.exec) (hby : c.code = B) {x y : Int32} (hd : decode B pc = .ok (.ixor, 1)) (hp : pc + 1 = pc') 
    (k : own_E p.tables e below G (T.setTop (mkF m pc' Ls (.int (x ^^^ y) :: st)))) : own_E p.tables e below G (T.setTop (mkF m pc Ls (.int y :: .int x :: st))) := by
  subst hp; exact own_go (fun t q => XS.ixor X.here hx rfl (hb hby hd) rfl q) k
theorem own_ior (X : Stand p l e R s m args below meth c T locs cells slots) (hx : p.tables.exec = Jvm.exec) (hby : c.code = B) {x y : Int32} (hd : decode B pc = .ok (.ior, 1)) (hp : pc + 1 = pc') 
    (k : own_E p.tables e below G (T.setTop (mkF m pc' Ls (.int (x ||| y) :: st)))) : own_E p.tables e below G (T.setTop (mkF m pc Ls (.int y :: .int x :: st))) := by
  subst hp; exact own_go (fun t q => XS.ior X.here hx rfl (hb hby hd) rfl q) k
theorem own_ishl (X : Stand p l e R s m args below meth c T locs cells slots) (hx : p.tables.exec = Jvm.exec) (hby : c.code = B) {x y : Int32} (hd : decode B pc = .ok (.ishl, 1)) (hp : pc + 1 = pc') 
    (k : own_E p.tables e below G (T.setTop (mkF m pc' Ls (.int (x <<< (y &&& 31)) :: st)))) : own_E p.tables e below G (T.setTop (mkF m pc Ls (.int y :: .int x :: st))) := by
  subst hp; exact own_go (fun t q => XS.ishl X.here hx rfl (hb hby hd) rfl q) k
theorem own_ishr (X : Stand p l e R s m args below meth c T locs cells slots) (hx : p.tables.exec = Jvm.exec) (hby : c.code = B) {x y : Int32} (hd : decode B pc = .ok (.ishr, 1)) (hp : pc + 1 = pc') 
    (k : own_E p.tables e below G (T.setTop (mkF m pc' Ls (.int (x >>> (y &&& 31)) :: st)))) : own_E p.tables e below G (T.setTop (mkF m pc Ls (.int y :: .int x :: st))) := by
  subst hp; exact own_go (fun t q => XS.ishr X.here hx rfl (hb hby hd) rfl q) k
theorem own_iushr (X : Stand p l e R s m args below meth c T locs cells slots) (hx : p.tables.exec = Jvm.exec) (hby : c.code = B) {x y : Int32} (hd : decode B pc = .ok (.iushr, 1)) (hp : pc + 1 = pc') 
    (k : own_E p.tables e below G (T.setTop (mkF m pc' Ls (.int ((x.toUInt32 >>> (y &&& 31).toUInt32).toInt32) :: st)))) : own_E p.tables e below G (T.setTop (mkF m pc Ls (.int y :: .int x :: st))) := by
  subst hp; exact own_go (fun t q => XS.iushr X.here hx rfl (hb hby hd) rfl q) k
theorem own_ladd (X : Stand p l e R s m args below meth c T locs cells slots) (hx : p.tables.exec = Jvm.exec) (hby : c.code = B) {x y : Int64} (hd : decode B pc = .ok (.ladd, 1)) (hp : pc + 1 = pc') 
    (k : own_E p.tables e below G (T.setTop (mkF m pc' Ls (.long (x + y) :: st)))) : own_E p.tables e below G (T.setTop (mkF m pc Ls (.long y :: .long x :: st))) := by
  subst hp; exact own_go (fun t q => XS.ladd X.here hx rfl (hb hby hd) rfl q) k
theorem own_lsub (X : Stand p l e R s m args below meth c T locs cells slots) (hx : p.tables.exec = Jvm.exec) (hby : c.code = B) {x y : Int64} (hd : decode B pc = .ok (.lsub, 1)) (hp : pc + 1 = pc') 
    (k : own_E p.tables e below G (T.setTop (mkF m pc' Ls (.long (x - y) :: st)))) : own_E p.tables e below G (T.setTop (mkF m pc Ls (.long y :: .long x :: st))) := by
  subst hp; exact own_go (fun t q => XS.lsub X.here hx rfl (hb hby hd) rfl q) k
theorem own_lmul (X : Stand p l e R s m args below meth c T locs cells slots) (hx : p.tables.exec = Jvm.exec) (hby : c.code = B) {x y : Int64} (hd : decode B pc = .ok (.lmul, 1)) (hp : pc + 1 = pc') 
    (k : own_E p.tables e below G (T.setTop (mkF m pc' Ls (.long (x * y) :: st)))) : own_E p.tables e below G (T.setTop (mkF m pc Ls (.long y :: .long x :: st))) := by
  subst hp; exact own_go (fun t q => XS.lmul X.here hx rfl (hb hby hd) rfl q) k
theorem own_land (X : Stand p l e R s m args below meth c T locs cells slots) (hx : p.tables.exec = Jvm.exec) (hby : c.code = B) {x y : Int64} (hd : decode B pc = .ok (.land, 1)) (hp : pc + 1 = pc') 
    (k : own_E p.tables e below G (T.setTop (mkF m pc' Ls (.long (x &&& y) :: st)))) : own_E p.tables e below G (T.setTop (mkF m pc Ls (.long y :: .long x :: st))) := by
  subst hp; exact own_go (fun t q => XS.land X.here hx rfl (hb hby hd) rfl q) k
theorem own_lor (X : Stand p l e R s m args below meth c T locs cells slots) (hx : p.tables.exec = Jvm.exec) (hby : c.code = B) {x y : Int64} (hd : decode B pc = .ok (.lor, 1)) (hp : pc + 1 = pc') 
    (k : own_E p.tables e below G (T.setTop (mkF m pc' Ls (.long (x ||| y) :: st)))) : own_E p.tables e below G (T.setTop (mkF m pc Ls (.long y :: .long x :: st))) := by
  subst hp; exact own_go (fun t q => XS.lor X.here hx rfl (hb hby hd) rfl q) k
theorem own_lxor (X : Stand p l e R s m args below meth c T locs cells slots) (hx : p.tables.exec = Jvm.exec) (hby : c.code = B) {x y : Int64} (hd : decode B pc = .ok (.lxor, 1)) (hp : pc + 1 = pc') 
    (k : own_E p.tables e below G (T.setTop (mkF m pc' Ls (.long (x ^^^ y) :: st)))) : own_E p.tables e below G (T.setTop (mkF m pc Ls (.long y :: .long x :: st))) := by
  subst hp; exact own_go (fun t q => XS.lxor X.here hx rfl (hb hby hd) rfl q) k
theorem own_lshl (X : Stand p l e R s m args below meth c T locs cells slots) (hx : p.tables.exec = Jvm.exec) (hby : c.code = B) {x : Int64} {y : Int32} (hd : decode B pc = .ok (.lshl, 1)) (hp : pc + 1 = pc')
    (k : own_E p.tables e below G (T.setTop (mkF m pc' Ls (.long (x <<< (y &&& 0x3f).toInt64) :: st)))) : own_E p.tables e below G (T.setTop (mkF m pc Ls (.int y :: .long x :: st))) := by
  subst hp; exact own_go (fun t q => by
    jvm_step X.here [X.here.top, hx, hb hby hd]
    first | exact q | simpa [Int32.toInt64_and] using q) k
theorem own_lshr (X : Stand p l e R s m args below meth c T locs cells slots) (hx : p.tables.exec = Jvm.exec) (hby : c.code = B) {x : Int64} {y : Int32} (hd : decode B pc = .ok (.lshr, 1)) (hp : pc + 1 = pc')
    (k : own_E p.tables e below G (T.setTop (mkF m pc' Ls (.long (x >>> (y &&& 0x3f).toInt64) :: st)))) : own_E p.tables e below G (T.setTop (mkF m pc Ls (.int y :: .long x :: st))) := by
  subst hp; exact own_go (fun t q => by
    jvm_step X.here [X.here.top, hx, hb hby hd]
    first | exact q | simpa [Int32.toInt64_and] using q) k
theorem own_lushr (X : Stand p l e R s m args below meth c T locs cells slots) (hx : p.tables.exec = Jvm.exec) (hby : c.code = B) {x : Int64} {y : Int32} (hd : decode B pc = .ok (.lushr, 1)) (hp : pc + 1 = pc')
    (k : own_E p.tables e below G (T.setTop (mkF m pc' Ls (.long ((x.toUInt64 >>> (y &&& 0x3f).toInt64.toUInt64).toInt64) :: st)))) : own_E p.tables e below G (T.setTop (mkF m pc Ls (.int y :: .long x :: st))) := by
  subst hp; exact own_go (fun t q => by
    jvm_step X.here [X.here.top, hx, hb hby hd]
    first | exact q | simpa [Int32.toInt64_and] using q) k
theorem own_idiv (X : Stand p l e R s m args below meth c T locs cells slots) (hx : p.tables.exec = Jvm.exec) (hby : c.code = B) {x y : Int32} (hd : decode B pc = .ok (.idiv, 1)) (hp : pc + 1 = pc') (hy : y ≠ 0)
    (k : own_E p.tables e below G (T.setTop (mkF m pc' Ls (.int (x / y) :: st)))) : own_E p.tables e below G (T.setTop (mkF m pc Ls (.int y :: .int x :: st))) := by
  subst hp; exact own_go (fun t q => XS.idiv X.here hx rfl (hb hby hd) rfl hy q) k
theorem own_irem (X : Stand p l e R s m args below meth c T locs cells slots) (hx : p.tables.exec = Jvm.exec) (hby : c.code = B) {x y : Int32} (hd : decode B pc = .ok (.irem, 1)) (hp : pc + 1 = pc') (hy : y ≠ 0)
    (k : own_E p.tables e below G (T.setTop (mkF m pc' Ls (.int (x % y) :: st)))) : own_E p.tables e below G (T.setTop (mkF m pc Ls (.int y :: .int x :: st))) := by
  subst hp; exact own_go (fun t q => iremM X hx rfl (hb hby hd) rfl hy q) k
theorem own_lrem (X : Stand p l e R s m args below meth c T locs cells slots) (hx : p.tables.exec = Jvm.exec) (hby : c.code = B) {x y : Int64} (hd : decode B pc = .ok (.lrem, 1)) (hp : pc + 1 = pc') (hy : y ≠ 0)
    (k : own_E p.tables e below G (T.setTop (mkF m pc' Ls (.long (x % y) :: st)))) : own_E p.tables e below G (T.setTop (mkF m pc Ls (.long y :: .long x :: st))) := by
  subst hp; exact own_go (fun t q => XS.lrem X.here hx rfl (hb hby hd) rfl hy (by rw [lrem_mod]; exact q)) k
theorem own_ineg (X : Stand p l e R s m args below meth c T locs cells slots) (hx : p.tables.exec = Jvm.exec) (hby : c.code = B) {x : Int32} (hd : decode B pc = .ok (.ineg, 1)) (hp : pc + 1 = pc') 
    (k : own_E p.tables e below G (T.setTop (mkF m pc' Ls (.int (-x) :: st)))) : own_E p.tables e below G (T.setTop (mkF m pc Ls (.int x :: st))) := by
  subst hp; exact own_go (fun t q => XS.ineg X.here hx rfl (hb hby hd) rfl q) k
theorem own_lneg (X : Stand p l e R s m args below meth c T locs cells slots) (hx : p.tables.exec = Jvm.exec) (hby : c.code = B) {x : Int64} (hd : decode B pc = .ok (.lneg, 1)) (hp : pc + 1 = pc') 
    (k : own_E p.tables e below G (T.setTop (mkF m pc' Ls (.long (-x) :: st)))) : own_E p.tables e below G (T.setTop (mkF m pc Ls (.long x :: st))) := by
  subst hp; exact own_go (fun t q => XS.lneg X.here hx rfl (hb hby hd) rfl q) k
theorem own_i2l (X : Stand p l e R s m args below meth c T locs cells slots) (hx : p.tables.exec = Jvm.exec) (hby : c.code = B) {x : Int32} (hd : decode B pc = .ok (.i2l, 1)) (hp : pc + 1 = pc') 
    (k : own_E p.tables e below G (T.setTop (mkF m pc' Ls (.long (x.toInt64) :: st)))) : own_E p.tables e below G (T.setTop (mkF m pc Ls (.int x :: st))) := by
  subst hp; exact own_go (fun t q => XS.i2l X.here hx rfl (hb hby hd) rfl q) k
theorem own_l2i (X : Stand p l e R s m args below meth c T locs cells slots) (hx : p.tables.exec = Jvm.exec) (hby : c.code = B) {x : Int64} (hd : decode B pc = .ok (.l2i, 1)) (hp : pc + 1 = pc') 
    (k : own_E p.tables e below G (T.setTop (mkF m pc' Ls (.int (x.toInt32) :: st)))) : own_E p.tables e below G (T.setTop (mkF m pc Ls (.long x :: st))) := by
  subst hp; exact own_go (fun t q => XS.l2i X.here hx rfl (hb hby hd) rfl q) k
theorem own_i2b (X : Stand p l e R s m args below meth c T locs cells slots) (hx : p.tables.exec = Jvm.exec) (hby : c.code = B) {x : Int32} (hd : decode B pc = .ok (.i2b, 1)) (hp : pc + 1 = pc') 
    (k : own_E p.tables e below G (T.setTop (mkF m pc' Ls (.int (x.toInt8.toInt32) :: st)))) : own_E p.tables e below G (T.setTop (mkF m pc Ls (.int x :: st))) := by
  subst hp; exact own_go (fun t q => XS.i2b X.here hx rfl (hb hby hd) rfl q) k
theorem own_i2c (X : Stand p l e R s m args below meth c T locs cells slots) (hx : p.tables.exec = Jvm.exec) (hby : c.code = B) {x : Int32} (hd : decode B pc = .ok (.i2c, 1)) (hp : pc + 1 = pc') 
    (k : own_E p.tables e below G (T.setTop (mkF m pc' Ls (.int (x.toUInt32.toUInt16.toUInt32.toInt32) :: st)))) : own_E p.tables e below G (T.setTop (mkF m pc Ls (.int x :: st))) := by
  subst hp; exact own_go (fun t q => XS.i2c X.here hx rfl (hb hby hd) rfl q) k
theorem own_i2s (X : Stand p l e R s m args below meth c T locs cells slots) (hx : p.tables.exec = Jvm.exec) (hby : c.code = B) {x : Int32} (hd : decode B pc = .ok (.i2s, 1)) (hp : pc + 1 = pc') 
    (k : own_E p.tables e below G (T.setTop (mkF m pc' Ls (.int (x.toInt16.toInt32) :: st)))) : own_E p.tables e below G (T.setTop (mkF m pc Ls (.int x :: st))) := by
  subst hp; exact own_go (fun t q => XS.i2s X.here hx rfl (hb hby hd) rfl q) k
theorem own_i2cE (X : Stand p l e R s m args below meth c T locs cells slots) (hx : p.tables.exec = Jvm.exec) (hby : c.code = B) {x v : Int32} (hd : decode B pc = .ok (.i2c, 1)) (hp : pc + 1 = pc') (hv : x.toUInt32.toUInt16.toUInt32.toInt32 = v)
    (k : own_E p.tables e below G (T.setTop (mkF m pc' Ls (.int v :: st)))) : own_E p.tables e below G (T.setTop (mkF m pc Ls (.int x :: st))) := by
  subst hv; exact own_i2c X hx hby hd hp k
theorem own_lcmp (X : Stand p l e R s m args below meth c T locs cells slots) (hx : p.tables.exec = Jvm.exec) (hby : c.code = B) {x y : Int64} (hd : decode B pc = .ok (.lcmp, 1)) (hp : pc + 1 = pc')
    (k : own_E p.tables e below G (T.setTop (mkF m pc' Ls (.int (lcmpW x y) :: st)))) : own_E p.tables e below G (T.setTop (mkF m pc Ls (.long y :: .long x :: st))) := by
  subst hp; exact own_go (fun t q => XS.lcmp X.here hx rfl (hb hby hd) rfl q) k
theorem own_dup (X : Stand p l e R s m args below meth c T locs cells slots) (hx : p.tables.exec = Jvm.exec) (hby : c.code = B) {v : Value} (hd : decode B pc = .ok (.dup, 1)) (hp : pc + 1 = pc') (hc : v.category = 1)
    (k : own_E p.tables e below G (T.setTop (mkF m pc' Ls (v :: v :: st)))) : own_E p.tables e below G (T.setTop (mkF m pc Ls (v :: st))) := by
  subst hp; exact own_go (fun t q => XS.dup X.here hx rfl (hb hby hd) rfl hc q) k
theorem own_pop (X : Stand p l e R s m args below meth c T locs cells slots) (hx : p.tables.exec = Jvm.exec) (hby : c.code = B) {v : Value} (hd : decode B pc = .ok (.pop, 1)) (hp : pc + 1 = pc') (hc : v.category = 1)
    (k : own_E p.tables e below G (T.setTop (mkF m pc' Ls (st)))) : own_E p.tables e below G (T.setTop (mkF m pc Ls (v :: st))) := by
  subst hp; exact own_go (fun t q => XS.pop X.here hx rfl (hb hby hd) rfl hc q) k
theorem own_dup_x1 (X : Stand p l e R s m args below meth c T locs cells slots) (hx : p.tables.exec = Jvm.exec) (hby : c.code = B) {v w : Value} (hd : decode B pc = .ok (.dup_x1, 1)) (hp : pc + 1 = pc') (hc : v.category = 1) (hc' : w.category = 1)
    (k : own_E p.tables e below G (T.setTop (mkF m pc' Ls (v :: w :: v :: st)))) : own_E p.tables e below G (T.setTop (mkF m pc Ls (v :: w :: st))) := by
  subst hp; exact own_go (fun t q => XS.dupX1 X.here hx rfl (hb hby hd) rfl hc hc' q) k
theorem own_dup2 (X : Stand p l e R s m args below meth c T locs cells slots) (hx : p.tables.exec = Jvm.exec) (hby : c.code = B) {v w : Value} (hd : decode B pc = .ok (.dup2, 1)) (hp : pc + 1 = pc') (hc : v.category = 1) (hc' : w.category = 1)
    (k : own_E p.tables e below G (T.setTop (mkF m pc' Ls (v :: w :: v :: w :: st)))) : own_E p.tables e below G (T.setTop (mkF m pc Ls (v :: w :: st))) := by
  subst hp; exact own_go (fun t q => by
    jvm_step X.here [X.here.top, hx, hb hby hd, hc, hc']
    exact q) k
theorem own_goto (X : Stand p l e R s m args below meth c T locs cells slots) (hx : p.tables.exec = Jvm.exec) (hby : c.code = B) {o : Int} (hd : decode B pc = .ok (.goto o, 3)) (ho : 0 ≤ (pc : Int) + o) (hp : ((pc : Int) + o).toNat = pc')
    (k : own_E p.tables e below G (T.setTop (mkF m pc' Ls (st)))) : own_E p.tables e below G (T.setTop (mkF m pc Ls (st))) := own_go (fun t q => XS.goto X.here hx rfl rfl (hb hby hd) ho hp q) k
theorem own_ifY (X : Stand p l e R s m args below meth c T locs cells slots) (hx : p.tables.exec = Jvm.exec) (hby : c.code = B) {cd : ClassFile.Cond} {x : Int32} {o : Int} (hd : decode B pc = .ok (.ifCond cd o, 3)) (ho : 0 ≤ (pc : Int) + o) (hp : ((pc : Int) + o).toNat = pc') (hc : if_icmp.holds cd x 0 = true)
    (k : own_E p.tables e below G (T.setTop (mkF m pc' Ls (st)))) : own_E p.tables e below G (T.setTop (mkF m pc Ls (.int x :: st))) := own_go (fun t q => XS.ifYes X.here hx rfl rfl (hb hby hd) rfl ((if0 _ _).trans hc) ho hp q) k
theorem own_ifN (X : Stand p l e R s m args below meth c T locs cells slots) (hx : p.tables.exec = Jvm.exec) (hby : c.code = B) {cd : ClassFile.Cond} {x : Int32} {o : Int} (hd : decode B pc = .ok (.ifCond cd o, 3)) (hp : pc + 3 = pc') (hc : if_icmp.holds cd x 0 = false)
    (k : own_E p.tables e below G (T.setTop (mkF m pc' Ls (st)))) : own_E p.tables e below G (T.setTop (mkF m pc Ls (.int x :: st))) := by
  subst hp; exact own_go (fun t q => XS.ifNo X.here hx rfl (hb hby hd) rfl ((if0 _ _).trans hc) q) k
theorem own_icmpY (X : Stand p l e R s m args below meth c T locs cells slots) (hx : p.tables.exec = Jvm.exec) (hby : c.code = B) {cd : ClassFile.Cond} {x y : Int32} {o : Int} (hd : decode B pc = .ok (.if_icmp cd o, 3)) (ho : 0 ≤ (pc : Int) + o) (hp : ((pc : Int) + o).toNat = pc') (hc : if_icmp.holds cd x y = true)
    (k : own_E p.tables e below G (T.setTop (mkF m pc' Ls (st)))) : own_E p.tables e below G (T.setTop (mkF m pc Ls (.int y :: .int x :: st))) := own_go (fun t q => XS.icmpYes X.here hx rfl rfl (hb hby hd) rfl hc ho hp q) k
theorem own_icmpN (X : Stand p l e R s m args below meth c T locs cells slots) (hx : p.tables.exec = Jvm.exec) (hby : c.code = B) {cd : ClassFile.Cond} {x y : Int32} {o : Int} (hd : decode B pc = .ok (.if_icmp cd o, 3)) (hp : pc + 3 = pc') (hc : if_icmp.holds cd x y = false)
    (k : own_E p.tables e below G (T.setTop (mkF m pc' Ls (st)))) : own_E p.tables e below G (T.setTop (mkF m pc Ls (.int y :: .int x :: st))) := by
  subst hp; exact own_go (fun t q => XS.icmpNo X.here hx rfl (hb hby hd) rfl hc q) k
theorem own_ifnullY (X : Stand p l e R s m args below meth c T locs cells slots) (hx : p.tables.exec = Jvm.exec) (hby : c.code = B)  {o : Int} (hd : decode B pc = .ok (.ifnull o, 3)) (ho : 0 ≤ (pc : Int) + o) (hp : ((pc : Int) + o).toNat = pc')
    (k : own_E p.tables e below G (T.setTop (mkF m pc' Ls (st)))) : own_E p.tables e below G (T.setTop (mkF m pc Ls (.null :: st))) := own_go (fun t q => XS.ifnullYes X.here hx rfl rfl (hb hby hd) rfl ho hp q) k
theorem own_ifnonnullY (X : Stand p l e R s m args below meth c T locs cells slots) (hx : p.tables.exec = Jvm.exec) (hby : c.code = B) {b : Addr} {o : Int} (hd : decode B pc = .ok (.ifnonnull o, 3)) (ho : 0 ≤ (pc : Int) + o) (hp : ((pc : Int) + o).toNat = pc')
    (k : own_E p.tables e below G (T.setTop (mkF m pc' Ls (st)))) : own_E p.tables e below G (T.setTop (mkF m pc Ls (.ref b :: st))) := own_go (fun t q => XS.ifnonnullYes X.here hx rfl rfl (hb hby hd) rfl ho hp q) k
theorem own_ifnullN (X : Stand p l e R s m args below meth c T locs cells slots) (hx : p.tables.exec = Jvm.exec) (hby : c.code = B) {b : Addr} {o : Int} (hd : decode B pc = .ok (.ifnull o, 3)) (hp : pc + 3 = pc')
    (k : own_E p.tables e below G (T.setTop (mkF m pc' Ls (st)))) : own_E p.tables e below G (T.setTop (mkF m pc Ls (.ref b :: st))) := by
  subst hp; exact own_go (fun t q => XS.ifnullNo X.here hx rfl (hb hby hd) rfl q) k
theorem own_ifnonnullN (X : Stand p l e R s m args below meth c T locs cells slots) (hx : p.tables.exec = Jvm.exec) (hby : c.code = B)  {o : Int} (hd : decode B pc = .ok (.ifnonnull o, 3)) (hp : pc + 3 = pc')
    (k : own_E p.tables e below G (T.setTop (mkF m pc' Ls (st)))) : own_E p.tables e below G (T.setTop (mkF m pc Ls (.null :: st))) := by
  subst hp; exact own_go (fun t q => XS.ifnonnullNo X.here hx rfl (hb hby hd) rfl q) k
theorem own_acmp (X : Stand p l e R s m args below meth c T locs cells slots) (hx : p.tables.exec = Jvm.exec) (hby : c.code = B) {cd : ClassFile.ACond} {x y : Value} {o : Int} {same : Bool} (hd : decode B pc = .ok (.if_acmp cd o, 3)) (h1 : x.isRef = true) (h2 : y.isRef = true) (hq : decide (x = y) = same) (ho : 0 ≤ (pc : Int) + o) (hp : pc' = if acV cd same = true then ((pc : Int) + o).toNat else pc + 3)
    (k : own_E p.tables e below G (T.setTop (mkF m pc' Ls (st)))) : own_E p.tables e below G (T.setTop (mkF m pc Ls (y :: x :: st))) := own_go (fun t q => Jvm.RoadKit.acmp (g := mkF m pc Ls (y :: x :: st)) X hx rfl h1 h2 rfl (hb hby hd) rfl hq ho hp q) k
/-- what a body owes at its end -/
def own_End (s : State) (below : List Frame) (Q : Option Value → Heap → List Loc → Prop) (C S : Nat) (s₂ : State) (o : Outcome) : Prop := s₂.status = .running ∧ Ended s₂ below o ∧ ∃ v L, o = .returned v ∧ Q v s₂.heap L ∧ FrameEnd s o s₂ L C S
theorem own_ret (X : Stand p l e R s m args below meth c T locs cells slots) {Q : Option Value → Heap → List Loc → Prop} {C S : Nat} {v : Option Value} (hv : meth.sig.returnType = none → v = none) (hlocks : meth.locks = false)
    (hst : ∀ fs : List Frame, (∀ (f : JFrame) (acts : List Action), f.method = m → f.locked = none → f.entered = [] → (doReturn e (T.setTop f) acts v).1 = T.setFrames fs) → Steps p.tables e below (T.setTop (mkF m pc Ls st)) (T.setFrames fs))
    (hq : Q v T.heap locs) (hc : cells ≤ C) (hs : slots ≤ S) : own_E p.tables e below (own_End s below Q C S) (T.setTop (mkF m pc Ls st)) := by
  obtain ⟨fs, hr, hrun, hended, hW, hsame⟩ := X.leave hv hlocks
  exact ⟨_, _, hst fs hr, hrun, hended, v, locs, rfl, hq, ⟨_, rfl⟩, hW, hsame.mono hc hs⟩
theorem own_retN (X : Stand p l e R s m args below meth c T locs cells slots) (hx : p.tables.exec = Jvm.exec) (hby : c.code = B) {Q : Option Value → Heap → List Loc → Prop} {C S : Nat} {t : FieldType} {z z' : Int32} (hlocks : meth.locks = false) (hret : meth.sig.returnType = some t) (ht : t = .boolean ∨ t = .byte ∨ t = .char ∨ t = .short)
    (hd : decode B pc = .ok (.ireturn, 1)) (hz : nar t z = z') (hq : Q (some (.int z')) T.heap locs) (hc : cells ≤ C) (hs : slots ≤ S) : own_E p.tables e below (own_End s below Q C S) (T.setTop (mkF m pc Ls (.int z :: st))) :=
  own_ret X (fun h => by rw [hret] at h; cases h) hlocks (fun fs hl => retN X hx (t := t) hret ht (hb hby hd) (by rw [hz]; exact hl)) hq hc hs
theorem own_retI (X : Stand p l e R s m args below meth c T locs cells slots) (hx : p.tables.exec = Jvm.exec) (hby : c.code = B) {Q : Option Value → Heap → List Loc → Prop} {C S : Nat} {z : Int32} (hlocks : meth.locks = false) (hret : meth.sig.returnType = some .int)
    (hd : decode B pc = .ok (.ireturn, 1)) (hq : Q (some (.int z)) T.heap locs) (hc : cells ≤ C) (hs : slots ≤ S) : own_E p.tables e below (own_End s below Q C S) (T.setTop (mkF m pc Ls (.int z :: st))) :=
  own_ret X (fun h => by rw [hret] at h; cases h) hlocks (fun fs hl => retOut X hx hret rfl (Or.inl ⟨rfl, Or.inl rfl, _, rfl⟩) (hb hby hd) hl) hq hc hs
theorem own_retL (X : Stand p l e R s m args below meth c T locs cells slots) (hx : p.tables.exec = Jvm.exec) (hby : c.code = B) {Q : Option Value → Heap → List Loc → Prop} {C S : Nat} {z : Int64} (hlocks : meth.locks = false) (hret : meth.sig.returnType = some .long)
    (hd : decode B pc = .ok (.lreturn, 1)) (hq : Q (some (.long z)) T.heap locs) (hc : cells ≤ C) (hs : slots ≤ S) : own_E p.tables e below (own_End s below Q C S) (T.setTop (mkF m pc Ls (.long z :: st))) :=
  own_ret X (fun h => by rw [hret] at h; cases h) hlocks (fun fs hl => retOut X hx hret rfl (Or.inr (Or.inl ⟨rfl, rfl, _, rfl⟩)) (hb hby hd) hl) hq hc hs
theorem own_retD (X : Stand p l e R s m args below meth c T locs cells slots) (hx : p.tables.exec = Jvm.exec) (hby : c.code = B) {Q : Option Value → Heap → List Loc → Prop} {C S : Nat} {z : UInt64} (hlocks : meth.locks = false) (hret : meth.sig.returnType = some .double)
    (hd : decode B pc = .ok (.dreturn, 1)) (hq : Q (some (.double z)) T.heap locs) (hc : cells ≤ C) (hs : slots ≤ S) : own_E p.tables e below (own_End s below Q C S) (T.setTop (mkF m pc Ls (.double z :: st))) :=
  own_ret X (fun h => by rw [hret] at h; cases h) hlocks (fun fs hl => retOut X hx hret rfl (Or.inr (Or.inr (Or.inl ⟨rfl, rfl, _, rfl⟩))) (hb hby hd) hl) hq hc hs
theorem own_retA (X : Stand p l e R s m args below meth c T locs cells slots) (hx : p.tables.exec = Jvm.exec) (hby : c.code = B) {Q : Option Value → Heap → List Loc → Prop} {C S : Nat} {t : FieldType} {v : Value} (hlocks : meth.locks = false) (hret : meth.sig.returnType = some t) (ht : t.isReference = true) (hv : v.isRef = true)
    (hd : decode B pc = .ok (.areturn, 1)) (hq : Q (some v) T.heap locs) (hc : cells ≤ C) (hs : slots ≤ S) : own_E p.tables e below (own_End s below Q C S) (T.setTop (mkF m pc Ls (v :: st))) :=
  own_ret X (fun h => by rw [hret] at h; cases h) hlocks (fun fs hl => retOut X hx hret (by cases t <;> first | (cases ht; done) | (rcases ref_cases hv with rfl | ⟨_, rfl⟩ <;> rfl)) (Or.inr (Or.inr (Or.inr (Or.inr ⟨rfl, ht, hv⟩)))) (hb hby hd) hl) hq hc hs
theorem own_ret0 (X : Stand p l e R s m args below meth c T locs cells slots) (hx : p.tables.exec = Jvm.exec) (hby : c.code = B) {Q : Option Value → Heap → List Loc → Prop} {C S : Nat} (hlocks : meth.locks = false) (hret : meth.sig.returnType = none)
    (hd : decode B pc = .ok (.return_, 1)) (hq : Q none T.heap locs) (hc : cells ≤ C) (hs : slots ≤ S) : own_E p.tables e below (own_End s below Q C S) (T.setTop (mkF m pc Ls [])) :=
  own_ret X (fun _ => rfl) hlocks (fun fs hl => X.returnOut hx hret (hb hby hd) hl) hq hc hs
theorem own_callS (X : Stand p l e R s m args below meth c T locs cells slots) (hx : p.tables.exec = Jvm.exec) (hby : c.code = B) {Z : State} {a0 : Array Value} {h : Heap} {own : String} {index nl : Nat} {as' : Array Value} {W cc ss : Nat} {Q : Option Value → Heap → List Loc → Prop} {y : MethodName} {bytes : ByteArray} {maxL : Nat} {ret : Option FieldType} (hml : c.maxLocals = nl) (hZ : Z.Warmed39 s.vm) (hown : s.vm.findClass own = some m.cls)
    (w1 : (Cond.methodLink own index y).before a0 Z = true) (w2 : (Cond.static y).before a0 Z = true) (w3 : (Cond.initialized y.cls).before a0 Z = true) (w4 : (Cond.code y bytes maxL ret).before a0 Z = true) (hy : y.cls ≠ "java/lang/invoke/MethodHandle" ∧ y.cls ≠ "java/lang/invoke/VarHandle")
    (hK : Back l R p e below s args y 3 W (fun P a => a = as' ∧ P.U.heap = h ∧ P.cells + cc ≤ R.cells ∧ P.slots + ss ≤ R.slots) (fun P _ v B => ∃ L, Q v B.U.heap L ∧ B.locs = P.locs ++ L ∧ B.cells = P.cells + cc ∧ B.slots = P.slots + ss)) (hsz : Ls.size = nl) {argsL rest : List Value} {ps : List FieldType} {r : Option FieldType} (hpd : parseMethodDescriptor y.desc = some ⟨ps, r⟩) (hlen : argsL.length = ps.length) (hst : st = argsL.reverse ++ rest) (hW : (rest.map fun v => v.category).sum ≤ W)
    (hd : decode B pc = .ok (.invokestatic index, 3)) (hp : pc + 3 = pc') (hargs : argsL.toArray = as') (eT : T.heap = h) (hc : cells + cc ≤ R.cells) (hs : slots + ss ≤ R.slots)
    (k : ∀ (v : Option Value) (T' : State) (h' : Heap) (L : List Loc), Stand p l e R s m args below meth c T' (locs ++ L) (cells + cc) (slots + ss) → T'.heap = h' → Q v h' L → own_E p.tables e below G (T'.setTop (mkF m pc' Ls (v.toList ++ rest)))) : own_E p.tables e below G (T.setTop (mkF m pc Ls st)) := by
  subst hp
  obtain ⟨v, vm₁, ⟨T', L', k', n'⟩, -, X', ⟨L, hQ, q1, q2, q3⟩, stp⟩ := Jvm.LawKit.callS X hx hown (mvT hZ w1) (mvT hZ w2) (mvT hZ w3) (mvT hZ w4) hy hK (g := mkF m pc Ls st) rfl (by rw [hml]; exact hsz) (argsL := argsL) (rest := rest) (lenOf hpd hlen) hst (by show 2 * 0 + _ ≤ _; rw [Nat.mul_zero, Nat.zero_add]; exact hW) (hb hby hd) (fun _ _ => ⟨hargs, eT, hc, hs⟩)
  dsimp only at X' hQ q1 q2 q3 stp
  subst q1 q2 q3
  exact own_go stp (k v T' _ L X' rfl hQ)
theorem own_spec (X : Stand p l e R s m args below meth c T locs cells slots) (hx : p.tables.exec = Jvm.exec) (hby : c.code = B) {Z : State} {a0 : Array Value} {h : Heap} {own : String} {index nl : Nat} {as' : Array Value} {W cc ss : Nat} {Q : Option Value → Heap → List Loc → Prop} {y : MethodName} {bytes : ByteArray} {maxL : Nat} (hml : c.maxLocals = nl) (hZ : Z.Warmed39 s.vm) (hown : s.vm.findClass own = some m.cls) (hy1 : y.name = "<init>")
    (w1 : (Cond.methodLink own index y).before a0 Z = true) (w2 : (Cond.instanceMethod y).before a0 Z = true) (w4 : (Cond.code y bytes maxL none).before a0 Z = true) (hy : y.cls ≠ "java/lang/invoke/MethodHandle" ∧ y.cls ≠ "java/lang/invoke/VarHandle")
    (hK : Back l R p e below s args y 3 W (fun P a => a = as' ∧ P.U.heap = h ∧ P.cells + cc ≤ R.cells ∧ P.slots + ss ≤ R.slots) (fun P _ v B => ∃ L, Q v B.U.heap L ∧ B.locs = P.locs ++ L ∧ B.cells = P.cells + cc ∧ B.slots = P.slots + ss)) (hsz : Ls.size = nl) {a : Addr} {argsL rest : List Value} {ps : List FieldType} {r : Option FieldType} (hpd : parseMethodDescriptor y.desc = some ⟨ps, r⟩) (hlen : argsL.length = ps.length) (hst : st = argsL.reverse ++ .ref a :: rest) (hW : (rest.map fun v => v.category).sum ≤ W)
    (hd : decode B pc = .ok (.invokespecial index, 3)) (hp : pc + 3 = pc') (hargs : (.ref a :: argsL).toArray = as') (eT : T.heap = h) (hc : cells + cc ≤ R.cells) (hs : slots + ss ≤ R.slots)
    (k : ∀ (v : Option Value) (T' : State) (h' : Heap) (L : List Loc), Stand p l e R s m args below meth c T' (locs ++ L) (cells + cc) (slots + ss) → T'.heap = h' → Q v h' L → own_E p.tables e below G (T'.setTop (mkF m pc' Ls (v.toList ++ rest)))) : own_E p.tables e below G (T.setTop (mkF m pc Ls st)) := by
  subst hp
  obtain ⟨v, vm₁, ⟨T', L', k', n'⟩, -, X', ⟨L, hQ, q1, q2, q3⟩, stp⟩ := X.specialBack hx hy1 hown (mvT hZ w1) (mvT hZ w2) (mvT hZ w4) hy hK (g := mkF m pc Ls st) rfl (by rw [hml]; exact hsz) (Steps.refl _) (a := a) (argsL := argsL) (rest := rest) (lenOf hpd hlen) hst (by show 2 * 0 + _ ≤ _; rw [Nat.mul_zero, Nat.zero_add]; exact hW) (hb hby hd) (fun _ _ => ⟨hargs, eT, hc, hs⟩)
  dsimp only at X' hQ q1 q2 q3 stp
  subst q1 q2 q3
  exact own_tr stp (k v T' _ L X' rfl hQ)
theorem own_virt (X : Stand p l e R s m args below meth c T locs cells slots) (hx : p.tables.exec = Jvm.exec) (hby : c.code = B) {Z : State} {a0 : Array Value} {h : Heap} {own : String} {index nl : Nat} {as' : Array Value} {W cc ss : Nat} {Q : Option Value → Heap → List Loc → Prop} {C : String} {y z : MethodName} (hml : c.maxLocals = nl) (hZ : Z.Warmed39 s.vm) (hown : s.vm.findClass own = some m.cls)
    (w1 : (Cond.methodLink own index y).before a0 Z = true) (w2 : (Cond.declares y).before a0 Z = true) (hnf : NotFace s y) (w3 : (Cond.selects C y z).before a0 Z = true) (w4 : (Cond.instanceMethod z).before a0 Z = true) (hy : y.cls ≠ "java/lang/invoke/MethodHandle" ∧ y.cls ≠ "java/lang/invoke/VarHandle")
    (hK : Back l R p e below s args z 3 W (fun P a => a = as' ∧ P.U.heap = h ∧ P.cells + cc ≤ R.cells ∧ P.slots + ss ≤ R.slots) (fun P _ v B => ∃ L, Q v B.U.heap L ∧ B.locs = P.locs ++ L ∧ B.cells = P.cells + cc ∧ B.slots = P.slots + ss)) (hsz : Ls.size = nl) {a : Addr} (hE : Exa Z h a C) {argsL rest : List Value} {ps : List FieldType} {r : Option FieldType} (hpd : parseMethodDescriptor y.desc = some ⟨ps, r⟩) (hlen : argsL.length = ps.length) (hst : st = argsL.reverse ++ .ref a :: rest) (hW : (rest.map fun v => v.category).sum ≤ W)
    (hd : decode B pc = .ok (.invokevirtual index, 3)) (hp : pc + 3 = pc') (hargs : (.ref a :: argsL).toArray = as') (eT : T.heap = h) (hc : cells + cc ≤ R.cells) (hs : slots + ss ≤ R.slots)
    (k : ∀ (v : Option Value) (T' : State) (h' : Heap) (L : List Loc), Stand p l e R s m args below meth c T' (locs ++ L) (cells + cc) (slots + ss) → T'.heap = h' → Q v h' L → own_E p.tables e below G (T'.setTop (mkF m pc' Ls (v.toList ++ rest)))) : own_E p.tables e below G (T.setTop (mkF m pc Ls st)) := by
  subst hp
  obtain ⟨cq, kq, qa, qb, qc⟩ := isOf hZ eT hE
  obtain ⟨v, vm₁, ⟨T', L', k', n'⟩, -, X', ⟨L, hQ, q1, q2, q3⟩, stp⟩ := X.virtualBack hx hown (mvT hZ w1) (mvT hZ w2) hnf (mvT hZ w3) (mvT hZ w4) hy hK qa qc (g := mkF m pc Ls st) rfl (by rw [hml]; exact hsz) (Steps.refl _) (argsL := argsL) (rest := rest) (lenOf hpd hlen) hst (by show 2 * 0 + _ ≤ _; rw [Nat.mul_zero, Nat.zero_add]; exact hW) (hb hby hd) (fun _ _ => ⟨hargs, eT, hc, hs⟩)
  dsimp only at X' hQ q1 q2 q3 stp
  subst q1 q2 q3
  exact own_tr stp (k v T' _ L X' rfl hQ)
theorem own_priv (X : Stand p l e R s m args below meth c T locs cells slots) (hx : p.tables.exec = Jvm.exec) (hby : c.code = B) {Z : State} {a0 : Array Value} {h : Heap} {own : String} {index nl : Nat} {as' : Array Value} {W cc ss : Nat} {Q : Option Value → Heap → List Loc → Prop} {y : MethodName} {bytes : ByteArray} {maxL : Nat} {ret : Option FieldType} (hml : c.maxLocals = nl) (hZ : Z.Warmed39 s.vm) (hown : s.vm.findClass own = some m.cls)
    (w1 : (Cond.methodLink own index y).before a0 Z = true) (w2 : (Cond.instanceMethod y).before a0 Z = true) (w3 : (Cond.selects y.cls y y).before a0 Z = true) (w5 : (Cond.privateMethod y).before a0 Z = true) (w4 : (Cond.code y bytes maxL ret).before a0 Z = true) (hy : y.cls ≠ "java/lang/invoke/MethodHandle" ∧ y.cls ≠ "java/lang/invoke/VarHandle")
    (hK : Back l R p e below s args y 3 W (fun P a => a = as' ∧ P.U.heap = h ∧ P.cells + cc ≤ R.cells ∧ P.slots + ss ≤ R.slots) (fun P _ v B => ∃ L, Q v B.U.heap L ∧ B.locs = P.locs ++ L ∧ B.cells = P.cells + cc ∧ B.slots = P.slots + ss)) (hsz : Ls.size = nl) {a : Addr} {C : String} (hE : Exa Z h a C) {argsL rest : List Value} {ps : List FieldType} {r : Option FieldType} (hpd : parseMethodDescriptor y.desc = some ⟨ps, r⟩) (hlen : argsL.length = ps.length) (hst : st = argsL.reverse ++ .ref a :: rest) (hW : (rest.map fun v => v.category).sum ≤ W)
    (hd : decode B pc = .ok (.invokevirtual index, 3)) (hp : pc + 3 = pc') (hargs : (.ref a :: argsL).toArray = as') (eT : T.heap = h) (hc : cells + cc ≤ R.cells) (hs : slots + ss ≤ R.slots)
    (k : ∀ (v : Option Value) (T' : State) (h' : Heap) (L : List Loc), Stand p l e R s m args below meth c T' (locs ++ L) (cells + cc) (slots + ss) → T'.heap = h' → Q v h' L → own_E p.tables e below G (T'.setTop (mkF m pc' Ls (v.toList ++ rest)))) : own_E p.tables e below G (T.setTop (mkF m pc Ls st)) := by
  subst hp
  obtain ⟨cq, qa, qb⟩ := hE.cell
  obtain ⟨v, vm₁, ⟨T', L', k', n'⟩, -, X', ⟨L, hQ, q1, q2, q3⟩, stp⟩ := X.privateBack hx hown (mvT hZ w1) (mvT hZ w2) (mvT hZ w3) (Cond.privateMethod_at (mvP hZ w5 (args := #[]))) (mvT hZ w4) hy hK (g := mkF m pc Ls st) rfl (by rw [hml]; exact hsz) (Steps.refl _) (a := a) (by rw [eT]; exact qa) qb (argsL := argsL) (rest := rest) (lenOf hpd hlen) hst (by show 2 * 0 + _ ≤ _; rw [Nat.mul_zero, Nat.zero_add]; exact hW) (hb hby hd) (fun _ _ => ⟨hargs, eT, hc, hs⟩)
  dsimp only at X' hQ q1 q2 q3 stp
  subst q1 q2 q3
  exact own_tr stp (k v T' _ L X' rfl hQ)
theorem own_intf (X : Stand p l e R s m args below meth c T locs cells slots) (hx : p.tables.exec = Jvm.exec) (hby : c.code = B) {Z : State} {a0 : Array Value} {h : Heap} {own : String} {index nl : Nat} {as' : Array Value} {W cc ss : Nat} {Q : Option Value → Heap → List Loc → Prop} {C : String} {y z : MethodName} {cnt : Nat} (hml : c.maxLocals = nl) (hZ : Z.Warmed39 s.vm) (hown : s.vm.findClass own = some m.cls)
    (w1 : (Cond.methodLink own index y).before args s = true) (w2 : (Cond.declares y).before args s = true) (w5 : (Cond.interfaceMethod y.cls y.cls y.name y.desc).before args s = true) (w3 : (Cond.selects C y z).before args s = true) (w4 : (Cond.instanceMethod z).before args s = true) (w6 : (Cond.publicMethod z).before args s = true) (w7 : (Cond.unhidden C y.name y.desc).before args s = true) (w8 : (Cond.castable C y.cls).before args s = true) (hy : y.cls ≠ "java/lang/invoke/MethodHandle" ∧ y.cls ≠ "java/lang/invoke/VarHandle")
    (hK : Back l R p e below s args z 5 W (fun P a => a = as' ∧ P.U.heap = h ∧ P.cells + cc ≤ R.cells ∧ P.slots + ss ≤ R.slots) (fun P _ v B => ∃ L, Q v B.U.heap L ∧ B.locs = P.locs ++ L ∧ B.cells = P.cells + cc ∧ B.slots = P.slots + ss)) (hsz : Ls.size = nl) {a : Addr} (hE : Exa Z h a C) {argsL rest : List Value} {ps : List FieldType} {r : Option FieldType} (hpd : parseMethodDescriptor y.desc = some ⟨ps, r⟩) (hlen : argsL.length = ps.length) (hst : st = argsL.reverse ++ .ref a :: rest) (hW : (rest.map fun v => v.category).sum ≤ W)
    (hd : decode B pc = .ok (.invokeinterface index cnt, 5)) (hp : pc + 5 = pc') (hargs : (.ref a :: argsL).toArray = as') (eT : T.heap = h) (hc : cells + cc ≤ R.cells) (hs : slots + ss ≤ R.slots)
    (k : ∀ (v : Option Value) (T' : State) (h' : Heap) (L : List Loc), Stand p l e R s m args below meth c T' (locs ++ L) (cells + cc) (slots + ss) → T'.heap = h' → Q v h' L → own_E p.tables e below G (T'.setTop (mkF m pc' Ls (v.toList ++ rest)))) : own_E p.tables e below G (T.setTop (mkF m pc Ls st)) := by
  subst hp
  obtain ⟨cq, kq, qa, qb, qc⟩ := isOf hZ eT hE
  obtain ⟨v, vm₁, ⟨T', L', k', n'⟩, -, X', ⟨L, hQ, q1, q2, q3⟩, stp⟩ := X.interfaceBack hx hown w1 w2 w5 w3 w4 w6 w7 w8 hy hK qa qb qc (g := mkF m pc Ls st) rfl (by rw [hml]; exact hsz) (Steps.refl _) (argsL := argsL) (rest := rest) (lenOf hpd hlen) hst (by show 2 * 0 + _ ≤ _; rw [Nat.mul_zero, Nat.zero_add]; exact hW) (hb hby hd) (fun _ _ => ⟨hargs, eT, hc, hs⟩)
  dsimp only at X' hQ q1 q2 q3 stp
  subst q1 q2 q3
  exact own_tr stp (k v T' _ L X' rfl hQ)
end OwnSteps

section OwnHeap
variable {p : Program} {l : Launch} {e : Env} {R : Room} {s : State} {m : MethodId} {args : Array Value} {below : List Frame} {meth : Method} {c : Code} {T : State} {locs : List Loc} {cells slots : Nat} {G : State → Outcome → Prop} {B : ByteArray} {pc pc' : Nat} {Ls Ls' : Array Slot} {st : List Value} {Z : State} {a0 : Array Value} {h h' h'' : Heap}
theorem own_xr : Ext h h := ⟨Nat.le_refl _, fun _ _ q => q⟩
theorem own_xt (E : Ext h h') (E' : Ext h' h'') : Ext h h'' := ⟨Nat.le_trans E.1 E'.1, fun a c q => E'.2 a c (E.2 a c q)⟩
theorem own_xk {ws : List Addr} (E : Ext h h') (K : Keep h' h'' ws) (q : ∀ x ∈ ws, h.size ≤ x) : Ext h h'' := ⟨Nat.le_trans E.1 K.1, fun a c r => K.2.1 a c (E.2 a c r) fun z => absurd (Array.getElem?_eq_some_iff.mp r).1 (Nat.not_lt.mpr (q a z))⟩
theorem own_xw {a : Addr} {sl : Nat} {v : Value} (E : Ext h h') (W : Wr h' h'' a sl v) (q : h.size ≤ a) : Ext h h'' := own_xk E (Keep.of_wr W) (allS q all0)
theorem own_kx {ws : List Addr} (E : Ext h h') : Keep h h' ws := (Keep.refl h ws).ext E
theorem own_fr1 {k : Nat} {L : List Loc} (N : Fr k L) {a : Addr} {sl : Nat} (q : k ≤ a) : Fr k (L ++ [⟨a, sl⟩]) := N.app fun y hy => by cases List.mem_singleton.mp hy; exact q
/-- a body's contract: called with these arguments over the heap h0 it returns as Q says -/
def own_Met (l : Launch) (Z : State) (x : MethodName) (bytes : ByteArray) (maxL : Nat) (ret : Option FieldType) (rm : Room) (as' : Array Value) (h0 : Heap) (Q : Option Value → Heap → List Loc → Prop) : Prop :=
  ∀ ws : List Jvm.Cond, MetFree l x (head1 (Jvm.Cond.code x bytes maxL ret :: ws) rm) (fun a U => a = as' ∧ Z.Warmed39 U.vm ∧ U.heap = h0) (fun _ _ _ _ _ => True) (fun _ U o U' => ∃ v L, o = .returned v ∧ Q v U'.heap L ∧ FrameEnd U o U' L rm.cells rm.slots)
theorem own_body {x : MethodName} {bytes : ByteArray} {maxL : Nat} {ret : Option FieldType} {rm : Room} {as' : Array Value} {h0 : Heap} {Q : Option Value → Heap → List Loc → Prop} (hpl : plainFor x = true)
    (body : ∀ (p : Program) (e : Env) (s : State) (m : MethodId) (below : List Frame) (meth : Method) (c : Code) (s₁ : State), p.tables.exec = Jvm.exec → c.code = bytes → c.maxLocals = maxL → s.vm.findClass x.cls = some m.cls → meth.name = x.name → meth.locks = false → meth.sig.returnType = ret → Z.Warmed39 s.vm → Stand p l e rm s m as' below meth c s₁ [] 0 0 → s₁.heap = h0 →
      own_E p.tables e below (own_End s below Q rm.cells rm.slots) (s₁.setTop (entryFrame m as' maxL))) : own_Met l Z x bytes maxL ret rm as' h0 Q := by
  intro ws
  refine MetFree.of_bodySF hpl hisR ?_
  intro p e s m args below meth c s₁ Bd hml0 hP hK
  obtain ⟨rfl, hZ, hh⟩ := hP
  obtain ⟨s₂, o, q1, q2, q3, q4⟩ := body p e s m below meth c s₁ Bd.exec Bd.bytes hml0 (findClass_of_methodNamed Bd.named) (name_of_methodNamed Bd.named Bd.method).1 (BodyLoose.notSynchronized Bd) Bd.returns hZ (Stand.of_body Bd) (by rw [← hh, Bd.state]; rfl)
  exact ⟨s₂, o, q1, q2, q3, q4⟩
theorem own_back {y : MethodName} {bytes : ByteArray} {maxL : Nat} {ret : Option FieldType} {rm : Room} {len W : Nat} {as' : Array Value} {Q : Option Value → Heap → List Loc → Prop} (hM : own_Met l Z y bytes maxL ret rm as' h Q)
    (hZ : Z.Warmed39 s.vm) (wc : (Jvm.Cond.code y bytes maxL ret).before a0 Z = true) (wz : (Jvm.Cond.initialized y.cls).before a0 Z = true) (hf : rm.frames + 1 ≤ R.frames) (hl : W + (maxL + 11) + rm.locals ≤ R.locals) :
    Back l R p e below s args y len W (fun A a => a = as' ∧ A.U.heap = h ∧ A.cells + rm.cells ≤ R.cells ∧ A.slots + rm.slots ≤ R.slots)
      (fun A _ v B => ∃ L, Q v B.U.heap L ∧ B.locs = A.locs ++ L ∧ B.cells = A.cells + rm.cells ∧ B.slots = A.slots + rm.slots) := backOf (hM []) hZ wc wz hf hl
theorem own_enter {m : MethodId} {A : Array Value} {ml : Nat} {Ls : Array Slot} (ef : entryFrame m A ml = mkF m 0 Ls []) (k : own_E p.tables e below G (T.setTop (mkF m 0 Ls []))) : own_E p.tables e below G (T.setTop (entryFrame m A ml)) := own_go (fun _ q => castTop ef q) k
theorem own_callM (X : Stand p l e R s m args below meth c T locs cells slots) (hx : p.tables.exec = Jvm.exec) (hby : c.code = B) {own : String} {index nl : Nat} {as' : Array Value} {cc ss maxL : Nat} {bytes : ByteArray} {ret : Option FieldType} {rm : Room} {Q : Option Value → Heap → List Loc → Prop} {y : MethodName} (hml : c.maxLocals = nl) (hZ : Z.Warmed39 s.vm) (hown : s.vm.findClass own = some m.cls) (w1 : (Jvm.Cond.methodLink own index y).before a0 Z = true) (w2 : (Jvm.Cond.static y).before a0 Z = true) (w3 : (Jvm.Cond.initialized y.cls).before a0 Z = true) (w4 : (Jvm.Cond.code y bytes maxL ret).before a0 Z = true) (hy : y.cls ≠ "java/lang/invoke/MethodHandle" ∧ y.cls ≠ "java/lang/invoke/VarHandle")
    (hM : own_Met l Z y bytes maxL ret rm as' h Q) (W : Nat) (hcc : rm.cells = cc) (hss : rm.slots = ss) (hf : rm.frames + 1 ≤ R.frames) (hl : W + (maxL + 11) + rm.locals ≤ R.locals) (hsz : Ls.size = nl) {argsL rest : List Value} {ps : List FieldType} {r : Option FieldType} (hpd : parseMethodDescriptor y.desc = some ⟨ps, r⟩) (hlen : argsL.length = ps.length) (hst : st = argsL.reverse ++ rest) (hW : (rest.map fun v => v.category).sum ≤ W) (hd : decode B pc = .ok (.invokestatic index, 3)) (hp : pc + 3 = pc') (hargs : argsL.toArray = as') (eT : T.heap = h) (hc : cells + cc ≤ R.cells) (hs : slots + ss ≤ R.slots)
    (k : ∀ (v : Option Value) (T' : State) (h' : Heap) (L : List Loc), Stand p l e R s m args below meth c T' (locs ++ L) (cells + cc) (slots + ss) → T'.heap = h' → Q v h' L → own_E p.tables e below G (T'.setTop (mkF m pc' Ls (v.toList ++ rest)))) : own_E p.tables e below G (T.setTop (mkF m pc Ls st)) := by
  subst hcc hss
  exact own_callS X hx hby hml hZ hown w1 w2 w3 w4 hy (own_back hM hZ w4 w3 hf hl) hsz hpd hlen hst hW hd hp hargs eT hc hs k
theorem own_specM (X : Stand p l e R s m args below meth c T locs cells slots) (hx : p.tables.exec = Jvm.exec) (hby : c.code = B) {own : String} {index nl : Nat} {as' : Array Value} {cc ss maxL : Nat} {bytes : ByteArray} {rm : Room} {Q : Option Value → Heap → List Loc → Prop} {y : MethodName} (hml : c.maxLocals = nl) (hZ : Z.Warmed39 s.vm) (hown : s.vm.findClass own = some m.cls) (hy1 : y.name = "<init>") (w1 : (Jvm.Cond.methodLink own index y).before a0 Z = true) (w2 : (Jvm.Cond.instanceMethod y).before a0 Z = true) (w3 : (Jvm.Cond.initialized y.cls).before a0 Z = true) (w4 : (Jvm.Cond.code y bytes maxL none).before a0 Z = true) (hy : y.cls ≠ "java/lang/invoke/MethodHandle" ∧ y.cls ≠ "java/lang/invoke/VarHandle")
    (hM : own_Met l Z y bytes maxL none rm as' h Q) (W : Nat) (hcc : rm.cells = cc) (hss : rm.slots = ss) (hf : rm.frames + 1 ≤ R.frames) (hl : W + (maxL + 11) + rm.locals ≤ R.locals) (hsz : Ls.size = nl) {a : Addr} {argsL rest : List Value} {ps : List FieldType} {r : Option FieldType} (hpd : parseMethodDescriptor y.desc = some ⟨ps, r⟩) (hlen : argsL.length = ps.length) (hst : st = argsL.reverse ++ .ref a :: rest) (hW : (rest.map fun v => v.category).sum ≤ W) (hd : decode B pc = .ok (.invokespecial index, 3)) (hp : pc + 3 = pc') (hargs : (.ref a :: argsL).toArray = as') (eT : T.heap = h) (hc : cells + cc ≤ R.cells) (hs : slots + ss ≤ R.slots)
    (k : ∀ (v : Option Value) (T' : State) (h' : Heap) (L : List Loc), Stand p l e R s m args below meth c T' (locs ++ L) (cells + cc) (slots + ss) → T'.heap = h' → Q v h' L → own_E p.tables e below G (T'.setTop (mkF m pc' Ls (v.toList ++ rest)))) : own_E p.tables e below G (T.setTop (mkF m pc Ls st)) := by
  subst hcc hss
  exact own_spec X hx hby hml hZ hown hy1 w1 w2 w4 hy (own_back hM hZ w4 w3 hf hl) hsz hpd hlen hst hW hd hp hargs eT hc hs k
theorem own_virtM (X : Stand p l e R s m args below meth c T locs cells slots) (hx : p.tables.exec = Jvm.exec) (hby : c.code = B) {own : String} {index nl : Nat} {as' : Array Value} {cc ss maxL : Nat} {bytes : ByteArray} {ret : Option FieldType} {rm : Room} {Q : Option Value → Heap → List Loc → Prop} {C : String} {y z : MethodName} (hml : c.maxLocals = nl) (hZ : Z.Warmed39 s.vm) (hown : s.vm.findClass own = some m.cls) (w1 : (Jvm.Cond.methodLink own index y).before a0 Z = true) (w2 : (Jvm.Cond.declares y).before a0 Z = true) (hnf : NotFace s y) (w5 : (Jvm.Cond.selects C y z).before a0 Z = true) (w6 : (Jvm.Cond.instanceMethod z).before a0 Z = true) (w3 : (Jvm.Cond.initialized z.cls).before a0 Z = true) (w4 : (Jvm.Cond.code z bytes maxL ret).before a0 Z = true) (hy : y.cls ≠ "java/lang/invoke/MethodHandle" ∧ y.cls ≠ "java/lang/invoke/VarHandle")
    (hM : own_Met l Z z bytes maxL ret rm as' h Q) (W : Nat) (hcc : rm.cells = cc) (hss : rm.slots = ss) (hf : rm.frames + 1 ≤ R.frames) (hl : W + (maxL + 11) + rm.locals ≤ R.locals) (hsz : Ls.size = nl) {a : Addr} (hE : Exa Z h a C) {argsL rest : List Value} {ps : List FieldType} {r : Option FieldType} (hpd : parseMethodDescriptor y.desc = some ⟨ps, r⟩) (hlen : argsL.length = ps.length) (hst : st = argsL.reverse ++ .ref a :: rest) (hW : (rest.map fun v => v.category).sum ≤ W) (hd : decode B pc = .ok (.invokevirtual index, 3)) (hp : pc + 3 = pc') (hargs : (.ref a :: argsL).toArray = as') (eT : T.heap = h) (hc : cells + cc ≤ R.cells) (hs : slots + ss ≤ R.slots)
    (k : ∀ (v : Option Value) (T' : State) (h' : Heap) (L : List Loc), Stand p l e R s m args below meth c T' (locs ++ L) (cells + cc) (slots + ss) → T'.heap = h' → Q v h' L → own_E p.tables e below G (T'.setTop (mkF m pc' Ls (v.toList ++ rest)))) : own_E p.tables e below G (T.setTop (mkF m pc Ls st)) := by
  subst hcc hss
  exact own_virt X hx hby hml hZ hown w1 w2 hnf w5 w6 hy (own_back hM hZ w4 w3 hf hl) hsz hE hpd hlen hst hW hd hp hargs eT hc hs k
theorem own_privM (X : Stand p l e R s m args below meth c T locs cells slots) (hx : p.tables.exec = Jvm.exec) (hby : c.code = B) {own : String} {index nl : Nat} {as' : Array Value} {cc ss maxL : Nat} {bytes : ByteArray} {ret : Option FieldType} {rm : Room} {Q : Option Value → Heap → List Loc → Prop} {C : String} {y : MethodName} (hml : c.maxLocals = nl) (hZ : Z.Warmed39 s.vm) (hown : s.vm.findClass own = some m.cls) (w1 : (Jvm.Cond.methodLink own index y).before a0 Z = true) (w6 : (Jvm.Cond.instanceMethod y).before a0 Z = true) (w5 : (Jvm.Cond.selects y.cls y y).before a0 Z = true) (w7 : (Jvm.Cond.privateMethod y).before a0 Z = true) (w3 : (Jvm.Cond.initialized y.cls).before a0 Z = true) (w4 : (Jvm.Cond.code y bytes maxL ret).before a0 Z = true) (hy : y.cls ≠ "java/lang/invoke/MethodHandle" ∧ y.cls ≠ "java/lang/invoke/VarHandle")
    (hM : own_Met l Z y bytes maxL ret rm as' h Q) (W : Nat) (hcc : rm.cells = cc) (hss : rm.slots = ss) (hf : rm.frames + 1 ≤ R.frames) (hl : W + (maxL + 11) + rm.locals ≤ R.locals) (hsz : Ls.size = nl) {a : Addr} (hE : Exa Z h a C) {argsL rest : List Value} {ps : List FieldType} {r : Option FieldType} (hpd : parseMethodDescriptor y.desc = some ⟨ps, r⟩) (hlen : argsL.length = ps.length) (hst : st = argsL.reverse ++ .ref a :: rest) (hW : (rest.map fun v => v.category).sum ≤ W) (hd : decode B pc = .ok (.invokevirtual index, 3)) (hp : pc + 3 = pc') (hargs : (.ref a :: argsL).toArray = as') (eT : T.heap = h) (hc : cells + cc ≤ R.cells) (hs : slots + ss ≤ R.slots)
    (k : ∀ (v : Option Value) (T' : State) (h' : Heap) (L : List Loc), Stand p l e R s m args below meth c T' (locs ++ L) (cells + cc) (slots + ss) → T'.heap = h' → Q v h' L → own_E p.tables e below G (T'.setTop (mkF m pc' Ls (v.toList ++ rest)))) : own_E p.tables e below G (T.setTop (mkF m pc Ls st)) := by
  subst hcc hss
  exact own_priv X hx hby hml hZ hown w1 w6 w5 w7 w4 hy (own_back hM hZ w4 w3 hf hl) hsz hE hpd hlen hst hW hd hp hargs eT hc hs k
theorem own_intfM (X : Stand p l e R s m args below meth c T locs cells slots) (hx : p.tables.exec = Jvm.exec) (hby : c.code = B) {own : String} {index nl : Nat} {as' : Array Value} {cc ss maxL : Nat} {bytes : ByteArray} {ret : Option FieldType} {rm : Room} {Q : Option Value → Heap → List Loc → Prop} {C : String} {y z : MethodName} {cnt : Nat} (hml : c.maxLocals = nl) (hZ : Z.Warmed39 s.vm) (hown : s.vm.findClass own = some m.cls) (w1 : (Jvm.Cond.methodLink own index y).before args s = true) (w2 : (Jvm.Cond.declares y).before args s = true) (w5 : (Jvm.Cond.interfaceMethod y.cls y.cls y.name y.desc).before args s = true) (w6 : (Jvm.Cond.selects C y z).before args s = true) (w7 : (Jvm.Cond.instanceMethod z).before args s = true) (w8 : (Jvm.Cond.publicMethod z).before args s = true) (w9 : (Jvm.Cond.unhidden C y.name y.desc).before args s = true) (w10 : (Jvm.Cond.castable C y.cls).before args s = true) (w3 : (Jvm.Cond.initialized z.cls).before a0 Z = true) (w4 : (Jvm.Cond.code z bytes maxL ret).before a0 Z = true) (hy : y.cls ≠ "java/lang/invoke/MethodHandle" ∧ y.cls ≠ "java/lang/invoke/VarHandle")
    (hM : own_Met l Z z bytes maxL ret rm as' h Q) (W : Nat) (hcc : rm.cells = cc) (hss : rm.slots = ss) (hf : rm.frames + 1 ≤ R.frames) (hl : W + (maxL + 11) + rm.locals ≤ R.locals) (hsz : Ls.size = nl) {a : Addr} (hE : Exa Z h a C) {argsL rest : List Value} {ps : List FieldType} {r : Option FieldType} (hpd : parseMethodDescriptor y.desc = some ⟨ps, r⟩) (hlen : argsL.length = ps.length) (hst : st = argsL.reverse ++ .ref a :: rest) (hW : (rest.map fun v => v.category).sum ≤ W) (hd : decode B pc = .ok (.invokeinterface index cnt, 5)) (hp : pc + 5 = pc') (hargs : (.ref a :: argsL).toArray = as') (eT : T.heap = h) (hc : cells + cc ≤ R.cells) (hs : slots + ss ≤ R.slots)
    (k : ∀ (v : Option Value) (T' : State) (h' : Heap) (L : List Loc), Stand p l e R s m args below meth c T' (locs ++ L) (cells + cc) (slots + ss) → T'.heap = h' → Q v h' L → own_E p.tables e below G (T'.setTop (mkF m pc' Ls (v.toList ++ rest)))) : own_E p.tables e below G (T.setTop (mkF m pc Ls st)) := by
  subst hcc hss
  exact own_intf (a0 := a0) X hx hby hml hZ hown w1 w2 w5 w6 w7 w8 w9 w10 hy (own_back hM hZ w4 w3 hf hl) hsz hE hpd hlen hst hW hd hp hargs eT hc hs k
theorem own_newO (X : Stand p l e R s m args below meth c T locs cells slots) (hx : p.tables.exec = Jvm.exec) (hby : c.code = B) (hZ : Z.Warmed39 s.vm) {own C : String} {index n : Nat} (hown : s.vm.findClass own = some m.cls) (w : (Jvm.Cond.classLink own index C).before a0 Z = true) (wi : (Jvm.Cond.instantiable C n).before a0 Z = true) (wz : (Jvm.Cond.initialized C).before a0 Z = true) (eT : T.heap = h)
    (hd : decode B pc = .ok (.new index, 3)) (hp : pc + 3 = pc') (hc : cells + 1 ≤ R.cells) (hl : slots + n ≤ R.slots)
    (k : ∀ (T' : State) (h' : Heap) (b : Addr), b = h.size → Stand p l e R s m args below meth c T' locs (cells + 1) (slots + n) → T'.heap = h' → Ext h h' → Exa Z h' b C → (∀ {O nm d : String} {ty : FieldType}, Laid Z a0 C O nm d → parseFieldDescriptor d = some ty → Fld Z h' b O nm d (defaultValue ty)) → own_E p.tables e below G (T'.setTop (mkF m pc' Ls (.ref b :: st)))) : own_E p.tables e below G (T.setTop (mkF m pc Ls (st))) := by
  subst hp
  obtain ⟨T', h', X', e', E', A', D', -, stp⟩ := newO X hx hZ hown w wi wz eT (g := mkF m pc Ls st) rfl (hb hby hd) hc hl
  exact own_go stp (k T' h' _ rfl X' e' E' A' D')
theorem own_newP (X : Stand p l e R s m args below meth c T locs cells slots) (hx : p.tables.exec = Jvm.exec) (hby : c.code = B) (hZ : Z.Warmed39 s.vm) {aty : ArrayType} (w : (Jvm.Cond.arrayClass (newarray.typeOf aty)).before a0 Z = true) (eT : T.heap = h) {n : Int32} {cap : Nat} (hd : decode B pc = .ok (.newarray aty, 2)) (hp : pc + 2 = pc') (hn : ¬ n < 0) (hcap : n.toNatClampNeg ≤ cap) (hbig : cap * 8 ≤ 536870912) (hc : cells + 1 ≤ R.cells) (hl : slots + cap ≤ R.slots)
    (k : ∀ (T' : State) (h' : Heap) (b : Addr) (kA : ClassId), b = h.size → Stand p l e R s m args below meth c T' locs (cells + 1) (slots + cap) → T'.heap = h' → Ext h h' → Arv Z h' b kA (newarray.typeOf aty) n [] (defaultValue (newarray.typeOf aty)) → own_E p.tables e below G (T'.setTop (mkF m pc' Ls (.ref b :: st)))) : own_E p.tables e below G (T.setTop (mkF m pc Ls (.int n :: st))) := by
  subst hp
  obtain ⟨T', h', kA, X', e', E', A', stp⟩ := newP X hx hZ w eT (g := mkF m pc Ls (.int n :: st)) rfl (hb hby hd) rfl hn hcap hbig hc hl
  exact own_go stp (k T' h' _ kA rfl X' e' E' (Arv.new A' hn))
theorem own_newR (X : Stand p l e R s m args below meth c T locs cells slots) (hx : p.tables.exec = Jvm.exec) (hby : c.code = B) (hZ : Z.Warmed39 s.vm) {own C : String} {index : Nat} (hown : s.vm.findClass own = some m.cls) (w1 : (Jvm.Cond.classLink own index C).before a0 Z = true) (w2 : (Jvm.Cond.arrayOver (.object C)).before a0 Z = true) (eT : T.heap = h) {n : Int32} {cap : Nat} (hd : decode B pc = .ok (.anewarray index, 3)) (hp : pc + 3 = pc') (hn : ¬ n < 0) (hcap : n.toNatClampNeg ≤ cap) (hbig : cap * 8 ≤ 536870912) (hc : cells + 1 ≤ R.cells) (hl : slots + cap ≤ R.slots)
    (k : ∀ (T' : State) (h' : Heap) (b : Addr) (kA : ClassId), b = h.size → Stand p l e R s m args below meth c T' locs (cells + 1) (slots + cap) → T'.heap = h' → Ext h h' → Arv Z h' b kA (.object C) n [] .null → Ovr Z kA C → own_E p.tables e below G (T'.setTop (mkF m pc' Ls (.ref b :: st)))) : own_E p.tables e below G (T.setTop (mkF m pc Ls (.int n :: st))) := by
  subst hp
  obtain ⟨T', h', kA, X', e', E', A', O', stp⟩ := newR X hx hZ hown w1 w2 eT (g := mkF m pc Ls (.int n :: st)) rfl (hb hby hd) rfl hn hcap hbig hc hl
  exact own_go stp (k T' h' _ kA rfl X' e' E' (Arv.new A' hn) O')
theorem own_getF (X : Stand p l e R s m args below meth c T locs cells slots) (hx : p.tables.exec = Jvm.exec) (hby : c.code = B) (hZ : Z.Warmed39 s.vm) {own R0 O n d host : String} {index : Nat} (hown : s.vm.findClass own = some m.cls) (w : (Jvm.Cond.fieldLink own index R0 n d).before a0 Z = true ∨ (Jvm.Cond.fieldLinkNest own index R0 n d host).before a0 Z = true) (via : Via Z R0 O n d) (eT : T.heap = h) {a : Addr} {v : Value} (F : Fld Z h a O n d v) (hd : decode B pc = .ok (.getfield index, 3)) (hp : pc + 3 = pc')
    (k : ∀ T' : State, Stand p l e R s m args below meth c T' locs cells slots → T'.heap = h → own_E p.tables e below G (T'.setTop (mkF m pc' Ls (v :: st)))) : own_E p.tables e below G (T.setTop (mkF m pc Ls (.ref a :: st))) := by
  subst hp
  obtain ⟨T', X', e', stp⟩ := getF X hx hZ hown w via eT F (g := mkF m pc Ls (.ref a :: st)) rfl rfl (hb hby hd)
  exact own_go stp (k T' X' e')
theorem own_getS (X : Stand p l e R s m args below meth c T locs cells slots) (hx : p.tables.exec = Jvm.exec) (hby : c.code = B) (hZ : Z.Warmed39 s.vm) {own R0 O n d host : String} {index : Nat} (hown : s.vm.findClass own = some m.cls) (w : (Jvm.Cond.fieldLink own index R0 n d).before a0 Z = true ∨ (Jvm.Cond.fieldLinkNest own index R0 n d host).before a0 Z = true) (via : Via Z R0 O n d) (eT : T.heap = h) {v : Value} (F : Sta Z h O n d v) (hd : decode B pc = .ok (.getstatic index, 3)) (hp : pc + 3 = pc')
    (k : ∀ T' : State, Stand p l e R s m args below meth c T' locs cells slots → T'.heap = h → own_E p.tables e below G (T'.setTop (mkF m pc' Ls (v :: st)))) : own_E p.tables e below G (T.setTop (mkF m pc Ls (st))) := by
  subst hp
  obtain ⟨T', X', e', stp⟩ := getS2 X hx hZ hown w via eT F (g := mkF m pc Ls st) rfl (hb hby hd)
  exact own_go stp (k T' X' e')
theorem own_putF (X : Stand p l e R s m args below meth c T locs cells slots) (hx : p.tables.exec = Jvm.exec) (hby : c.code = B) (hZ : Z.Warmed39 s.vm) {own R0 O n d host C : String} {index kk : Nat} {ty : FieldType} (hown : s.vm.findClass own = some m.cls) (w : (Jvm.Cond.fieldLink own index R0 n d).before a0 Z = true ∨ (Jvm.Cond.fieldLinkNest own index R0 n d host).before a0 Z = true) (via : Via Z R0 O n d) (eT : T.heap = h) {a : Addr} {v old : Value} (F : Fld Z h a O n d old) (A : Exa Z h a C)
    (L : (Jvm.Cond.lays C O n d).before a0 Z = true ∨ ((Jvm.Cond.laysFinal C O n d).before a0 Z = true ∧ own = O ∧ meth.name = "<init>")) (wi : (Jvm.Cond.instantiable C kk).before a0 Z = true) (hty : parseFieldDescriptor d = some ty) (hn : narrow ty v = v) (hf : fits ty v = true) (hd : decode B pc = .ok (.putfield index, 3)) (hp : pc + 3 = pc')
    (k : ∀ (T' : State) (h' : Heap), Stand p l e R s m args below meth c T' (locs ++ [⟨a, Jvm.RoadKit.slotOf Z O n d⟩]) cells slots → T'.heap = h' → Wr h h' a (Jvm.RoadKit.slotOf Z O n d) v → Fld Z h' a O n d v → Exa Z h' a C → own_E p.tables e below G (T'.setTop (mkF m pc' Ls (st)))) : own_E p.tables e below G (T.setTop (mkF m pc Ls (v :: .ref a :: st))) := by
  subst hp
  obtain ⟨T', h', X', e', W', stp⟩ := putF X hx hZ hown w via eT F A L wi hty hn hf (g := mkF m pc Ls (v :: .ref a :: st)) rfl rfl (hb hby hd)
  exact own_go stp (k T' h' X' e' W' (F.same W') (A.wr W'))
theorem own_putFN (X : Stand p l e R s m args below meth c T locs cells slots) (hx : p.tables.exec = Jvm.exec) (hby : c.code = B) (hZ : Z.Warmed39 s.vm) {own R0 O n d C : String} {index kk : Nat} {ty : FieldType} (hown : s.vm.findClass own = some m.cls) (w : (Jvm.Cond.fieldLink own index R0 n d).before a0 Z = true) (via : Via Z R0 O n d) (eT : T.heap = h) {a : Addr} {v v' old : Value} (F : Fld Z h a O n d old) (A : Exa Z h a C)
    (L : (Jvm.Cond.lays C O n d).before a0 Z = true ∨ ((Jvm.Cond.laysFinal C O n d).before a0 Z = true ∧ own = O ∧ meth.name = "<init>")) (wi : (Jvm.Cond.instantiable C kk).before a0 Z = true) (hty : parseFieldDescriptor d = some ty) (hn : narrow ty v = v') (hf : fits ty v' = true) (hd : decode B pc = .ok (.putfield index, 3)) (hp : pc + 3 = pc')
    (k : ∀ (T' : State) (h' : Heap), Stand p l e R s m args below meth c T' (locs ++ [⟨a, Jvm.RoadKit.slotOf Z O n d⟩]) cells slots → T'.heap = h' → Wr h h' a (Jvm.RoadKit.slotOf Z O n d) v' → Fld Z h' a O n d v' → Exa Z h' a C → own_E p.tables e below G (T'.setTop (mkF m pc' Ls (st)))) : own_E p.tables e below G (T.setTop (mkF m pc Ls (v :: .ref a :: st))) := by
  subst hp
  obtain ⟨T', h', X', e', W', stp⟩ := putFN X hx hZ hown w via eT F A L wi hty hn hf (g := mkF m pc Ls (v :: .ref a :: st)) rfl rfl (hb hby hd)
  exact own_go stp (k T' h' X' e' W' (F.same W') (A.wr W'))
theorem own_initO (X : Stand p l e R s m args below meth c T locs cells slots) (hx : p.tables.exec = Jvm.exec) (hby : c.code = B) (hZ : Z.Warmed39 s.vm) {own : String} {idx nl W : Nat} (hml : c.maxLocals = nl) (hown : s.vm.findClass own = some m.cls) (w1 : (Jvm.Cond.methodLink own idx Lib.objectInit).before a0 Z = true) (w2 : (Jvm.Cond.instanceMethod Lib.objectInit).before a0 Z = true) (w3 : (Jvm.Cond.code Lib.objectInit ⟨#[0xb1]⟩ 1 none).before a0 Z = true) (eT : T.heap = h) (hsz : Ls.size = nl) {a : Addr} (hd : decode B pc = .ok (.invokespecial idx, 3)) (hp : pc + 3 = pc') (hf : 1 ≤ R.frames) (hW : (st.map fun v => v.category).sum ≤ W) (hl : W + 12 ≤ R.locals)
    (k : ∀ T' : State, Stand p l e R s m args below meth c T' locs cells slots → T'.heap = h → own_E p.tables e below G (T'.setTop (mkF m pc' Ls (st)))) : own_E p.tables e below G (T.setTop (mkF m pc Ls (.ref a :: st))) := by
  subst hp
  obtain ⟨T', X', e', stp⟩ := initO X hx hZ hown w1 w2 w3 eT (g := mkF m pc Ls (.ref a :: st)) rfl (by rw [hml]; exact hsz) rfl (hb hby hd) hf (W := W) (by show 2 * 0 + _ ≤ _; rw [Nat.mul_zero, Nat.zero_add]; exact hW) hl
  exact own_go stp (k T' X' e')
theorem own_ialoadV (X : Stand p l e R s m args below meth c T locs cells slots) (hx : p.tables.exec = Jvm.exec) (hby : c.code = B) (hZ : Z.Warmed39 s.vm) (eT : T.heap = h) {a : Addr} {kA : ClassId} {z j : Int32} {vs : List Value} {dv v : Value} (A : Arv Z h a kA .int z vs dv) (hj : ¬ j < 0 ∧ j < z) (hv : vs.getD j.toNatClampNeg dv = v) (hd : decode B pc = .ok (.iaload, 1)) (hp : pc + 1 = pc')
    (k : own_E p.tables e below G (T.setTop (mkF m pc' Ls (v :: st)))) : own_E p.tables e below G (T.setTop (mkF m pc Ls (.int j :: .ref a :: st))) := by
  subst hp
  obtain ⟨cl, Ar, -, S, -, H, -⟩ := A
  exact own_go (fun t q => X.iaload hx (by rw [eT]; exact Ar.1) (State.isArrayOf_alike hZ.alike Ar.2.1) Ar.2.2 (inb_of S hj) (H.at (inb_of S hj) hv) (g := mkF m pc Ls (.int j :: .ref a :: st)) rfl rfl (hb hby hd) t q) k
theorem own_laloadV (X : Stand p l e R s m args below meth c T locs cells slots) (hx : p.tables.exec = Jvm.exec) (hby : c.code = B) (hZ : Z.Warmed39 s.vm) (eT : T.heap = h) {a : Addr} {kA : ClassId} {z j : Int32} {vs : List Value} {dv v : Value} (A : Arv Z h a kA .long z vs dv) (hj : ¬ j < 0 ∧ j < z) (hv : vs.getD j.toNatClampNeg dv = v) (hd : decode B pc = .ok (.laload, 1)) (hp : pc + 1 = pc')
    (k : own_E p.tables e below G (T.setTop (mkF m pc' Ls (v :: st)))) : own_E p.tables e below G (T.setTop (mkF m pc Ls (.int j :: .ref a :: st))) := by
  subst hp
  obtain ⟨cl, Ar, -, S, -, H, -⟩ := A
  exact own_go (fun t q => X.laload hx (by rw [eT]; exact Ar.1) (State.isArrayOf_alike hZ.alike Ar.2.1) Ar.2.2 (inb_of S hj) (H.at (inb_of S hj) hv) (g := mkF m pc Ls (.int j :: .ref a :: st)) rfl rfl (hb hby hd) t q) k
theorem own_caloadV (X : Stand p l e R s m args below meth c T locs cells slots) (hx : p.tables.exec = Jvm.exec) (hby : c.code = B) (hZ : Z.Warmed39 s.vm) (eT : T.heap = h) {a : Addr} {kA : ClassId} {z j : Int32} {vs : List Value} {dv v : Value} (A : Arv Z h a kA .char z vs dv) (hj : ¬ j < 0 ∧ j < z) (hv : vs.getD j.toNatClampNeg dv = v) (hd : decode B pc = .ok (.caload, 1)) (hp : pc + 1 = pc')
    (k : own_E p.tables e below G (T.setTop (mkF m pc' Ls (v :: st)))) : own_E p.tables e below G (T.setTop (mkF m pc Ls (.int j :: .ref a :: st))) := by
  subst hp
  obtain ⟨cl, Ar, -, S, -, H, -⟩ := A
  exact own_go (fun t q => X.caload hx (by rw [eT]; exact Ar.1) (State.isArrayOf_alike hZ.alike Ar.2.1) Ar.2.2 (inb_of S hj) (H.at (inb_of S hj) hv) (g := mkF m pc Ls (.int j :: .ref a :: st)) rfl rfl (hb hby hd) t q) k
theorem own_baloadV (X : Stand p l e R s m args below meth c T locs cells slots) (hx : p.tables.exec = Jvm.exec) (hby : c.code = B) (hZ : Z.Warmed39 s.vm) (eT : T.heap = h) {a : Addr} {kA : ClassId} {z j : Int32} {vs : List Value} {dv v : Value} (A : Arv Z h a kA .byte z vs dv) (hj : ¬ j < 0 ∧ j < z) (hv : vs.getD j.toNatClampNeg dv = v) (hd : decode B pc = .ok (.baload, 1)) (hp : pc + 1 = pc')
    (k : own_E p.tables e below G (T.setTop (mkF m pc' Ls (v :: st)))) : own_E p.tables e below G (T.setTop (mkF m pc Ls (.int j :: .ref a :: st))) := by
  subst hp
  obtain ⟨cl, Ar, -, S, -, H, -⟩ := A
  exact own_go (fun t q => X.baloadBytes hx (by rw [eT]; exact Ar.1) (State.isArrayOf_alike hZ.alike Ar.2.1) Ar.2.2 (inb_of S hj) (H.at (inb_of S hj) hv) (g := mkF m pc Ls (.int j :: .ref a :: st)) rfl rfl (hb hby hd) t q) k
theorem own_daloadV (X : Stand p l e R s m args below meth c T locs cells slots) (hx : p.tables.exec = Jvm.exec) (hby : c.code = B) (hZ : Z.Warmed39 s.vm) (eT : T.heap = h) {a : Addr} {kA : ClassId} {z j : Int32} {vs : List Value} {dv v : Value} (A : Arv Z h a kA .double z vs dv) (hj : ¬ j < 0 ∧ j < z) (hv : vs.getD j.toNatClampNeg dv = v) (hd : decode B pc = .ok (.daload, 1)) (hp : pc + 1 = pc')
    (k : own_E p.tables e below G (T.setTop (mkF m pc' Ls (v :: st)))) : own_E p.tables e below G (T.setTop (mkF m pc Ls (.int j :: .ref a :: st))) := by
  subst hp
  obtain ⟨cl, Ar, -, S, -, H, -⟩ := A
  exact own_go (fun t q => X.daload hx (by rw [eT]; exact Ar.1) (State.isArrayOf_alike hZ.alike Ar.2.1) Ar.2.2 (inb_of S hj) (H.at (inb_of S hj) hv) (g := mkF m pc Ls (.int j :: .ref a :: st)) rfl rfl (hb hby hd) t q) k
theorem own_aaloadV (X : Stand p l e R s m args below meth c T locs cells slots) (hx : p.tables.exec = Jvm.exec) (hby : c.code = B) (hZ : Z.Warmed39 s.vm) (eT : T.heap = h) {a : Addr} {kA : ClassId} {ty : FieldType} {z j : Int32} {vs : List Value} {dv v : Value} (A : Arv Z h a kA ty z vs dv) (hty : ty.isReference = true) (hj : ¬ j < 0 ∧ j < z) (hv : vs.getD j.toNatClampNeg dv = v) (hd : decode B pc = .ok (.aaload, 1)) (hp : pc + 1 = pc')
    (k : own_E p.tables e below G (T.setTop (mkF m pc' Ls (v :: st)))) : own_E p.tables e below G (T.setTop (mkF m pc Ls (.int j :: .ref a :: st))) := by
  subst hp
  obtain ⟨cl, Ar, -, S, -, H, -⟩ := A
  exact own_go (fun t q => X.aaload hx (by rw [eT]; exact Ar.1) (State.isArrayOf_alike hZ.alike Ar.2.1) hty Ar.2.2 (inb_of S hj) (H.at (inb_of S hj) hv) (g := mkF m pc Ls (.int j :: .ref a :: st)) rfl rfl (hb hby hd) t q) k
theorem own_alenV (X : Stand p l e R s m args below meth c T locs cells slots) (hx : p.tables.exec = Jvm.exec) (hby : c.code = B) (hZ : Z.Warmed39 s.vm) (eT : T.heap = h) {a : Addr} {kA : ClassId} {ty : FieldType} {z : Int32} {vs : List Value} {dv : Value} (A : Arv Z h a kA ty z vs dv) (hd : decode B pc = .ok (.arraylength, 1)) (hp : pc + 1 = pc')
    (k : own_E p.tables e below G (T.setTop (mkF m pc' Ls (.int z :: st)))) : own_E p.tables e below G (T.setTop (mkF m pc Ls (.ref a :: st))) := by
  subst hp
  obtain ⟨cl, Ar, -, S, N, -, -⟩ := A
  refine own_go (fun t q => X.arraylength hx (by rw [eT]; exact Ar.1) (State.isArrayOf_alike hZ.alike Ar.2.1) (g := mkF m pc Ls (.ref a :: st)) rfl rfl (hb hby hd) t ?_) k
  rw [len_of S N]; exact q
theorem own_stI (X : Stand p l e R s m args below meth c T locs cells slots) (hx : p.tables.exec = Jvm.exec) (hby : c.code = B) (hZ : Z.Warmed39 s.vm) (eT : T.heap = h) {a : Addr} {kA : ClassId} {z j : Int32} {vs : List Value} {dv : Value} {x : Int32} (A : Arv Z h a kA .int z vs dv) (hj : ¬ j < 0 ∧ j < z) (i : Nat) (hi : j.toNatClampNeg = i) (hlen : i < vs.length) (hd : decode B pc = .ok (.iastore, 1)) (hp : pc + 1 = pc')
    (k : ∀ (T' : State) (h' : Heap), Stand p l e R s m args below meth c T' (locs ++ [⟨a, j.toNatClampNeg⟩]) cells slots → T'.heap = h' → Wr h h' a j.toNatClampNeg (.int x) → Arv Z h' a kA .int z (vs.set i (.int x)) dv → own_E p.tables e below G (T'.setTop (mkF m pc' Ls (st)))) : own_E p.tables e below G (T.setTop (mkF m pc Ls (.int x :: .int j :: .ref a :: st))) := by
  subst hp
  obtain ⟨cl, Ar, q, S, N, H, F⟩ := A
  obtain ⟨T', h', X', e', W', stp⟩ := stI X hx hZ eT Ar (j := j) (inb_of S hj) (g := mkF m pc Ls (.int x :: .int j :: .ref a :: st)) rfl rfl (hb hby hd)
  exact own_go stp (k T' h' X' e' W' (Arv.set Ar q S N H F rfl W' i hi hlen))
theorem own_stJ (X : Stand p l e R s m args below meth c T locs cells slots) (hx : p.tables.exec = Jvm.exec) (hby : c.code = B) (hZ : Z.Warmed39 s.vm) (eT : T.heap = h) {a : Addr} {kA : ClassId} {z j : Int32} {vs : List Value} {dv : Value} {x : Int64} (A : Arv Z h a kA .long z vs dv) (hj : ¬ j < 0 ∧ j < z) (i : Nat) (hi : j.toNatClampNeg = i) (hlen : i < vs.length) (hd : decode B pc = .ok (.lastore, 1)) (hp : pc + 1 = pc')
    (k : ∀ (T' : State) (h' : Heap), Stand p l e R s m args below meth c T' (locs ++ [⟨a, j.toNatClampNeg⟩]) cells slots → T'.heap = h' → Wr h h' a j.toNatClampNeg (.long x) → Arv Z h' a kA .long z (vs.set i (.long x)) dv → own_E p.tables e below G (T'.setTop (mkF m pc' Ls (st)))) : own_E p.tables e below G (T.setTop (mkF m pc Ls (.long x :: .int j :: .ref a :: st))) := by
  subst hp
  obtain ⟨cl, Ar, q, S, N, H, F⟩ := A
  obtain ⟨T', h', X', e', W', stp⟩ := stJ X hx hZ eT Ar (j := j) (inb_of S hj) (g := mkF m pc Ls (.long x :: .int j :: .ref a :: st)) rfl rfl (hb hby hd)
  exact own_go stp (k T' h' X' e' W' (Arv.set Ar q S N H F rfl W' i hi hlen))
theorem own_stC (X : Stand p l e R s m args below meth c T locs cells slots) (hx : p.tables.exec = Jvm.exec) (hby : c.code = B) (hZ : Z.Warmed39 s.vm) (eT : T.heap = h) {a : Addr} {kA : ClassId} {z j : Int32} {vs : List Value} {dv : Value} {x : Int32} (A : Arv Z h a kA .char z vs dv) (hj : ¬ j < 0 ∧ j < z) (i : Nat) (hi : j.toNatClampNeg = i) (hlen : i < vs.length) (hd : decode B pc = .ok (.castore, 1)) (hp : pc + 1 = pc')
    (k : ∀ (T' : State) (h' : Heap), Stand p l e R s m args below meth c T' (locs ++ [⟨a, j.toNatClampNeg⟩]) cells slots → T'.heap = h' → Wr h h' a j.toNatClampNeg (.int (nar .char x)) → Arv Z h' a kA .char z (vs.set i (.int (nar .char x))) dv → own_E p.tables e below G (T'.setTop (mkF m pc' Ls (st)))) : own_E p.tables e below G (T.setTop (mkF m pc Ls (.int x :: .int j :: .ref a :: st))) := by
  subst hp
  obtain ⟨cl, Ar, q, S, N, H, F⟩ := A
  obtain ⟨T', h', X', e', W', stp⟩ := stC X hx hZ eT Ar (j := j) (inb_of S hj) (g := mkF m pc Ls (.int x :: .int j :: .ref a :: st)) rfl rfl (hb hby hd)
  exact own_go stp (k T' h' X' e' W' (Arv.set Ar q S N H F (fits_nar_char _) W' i hi hlen))
theorem own_stB (X : Stand p l e R s m args below meth c T locs cells slots) (hx : p.tables.exec = Jvm.exec) (hby : c.code = B) (hZ : Z.Warmed39 s.vm) (eT : T.heap = h) {a : Addr} {kA : ClassId} {z j : Int32} {vs : List Value} {dv : Value} {x : Int32} (A : Arv Z h a kA .byte z vs dv) (hj : ¬ j < 0 ∧ j < z) (i : Nat) (hi : j.toNatClampNeg = i) (hlen : i < vs.length) (hd : decode B pc = .ok (.bastore, 1)) (hp : pc + 1 = pc')
    (k : ∀ (T' : State) (h' : Heap), Stand p l e R s m args below meth c T' (locs ++ [⟨a, j.toNatClampNeg⟩]) cells slots → T'.heap = h' → Wr h h' a j.toNatClampNeg (.int (nar .byte x)) → Arv Z h' a kA .byte z (vs.set i (.int (nar .byte x))) dv → own_E p.tables e below G (T'.setTop (mkF m pc' Ls (st)))) : own_E p.tables e below G (T.setTop (mkF m pc Ls (.int x :: .int j :: .ref a :: st))) := by
  subst hp
  obtain ⟨cl, Ar, q, S, N, H, F⟩ := A
  obtain ⟨T', h', X', e', W', stp⟩ := stB X hx hZ eT Ar (j := j) (inb_of S hj) (g := mkF m pc Ls (.int x :: .int j :: .ref a :: st)) rfl rfl (hb hby hd)
  exact own_go stp (k T' h' X' e' W' (Arv.set Ar q S N H F (fits_nar_byte _) W' i hi hlen))
theorem own_stZ (X : Stand p l e R s m args below meth c T locs cells slots) (hx : p.tables.exec = Jvm.exec) (hby : c.code = B) (hZ : Z.Warmed39 s.vm) (eT : T.heap = h) {a : Addr} {kA : ClassId} {z j : Int32} {vs : List Value} {dv : Value} {x : Int32} (A : Arv Z h a kA .boolean z vs dv) (hj : ¬ j < 0 ∧ j < z) (i : Nat) (hi : j.toNatClampNeg = i) (hlen : i < vs.length) (hd : decode B pc = .ok (.bastore, 1)) (hp : pc + 1 = pc')
    (k : ∀ (T' : State) (h' : Heap), Stand p l e R s m args below meth c T' (locs ++ [⟨a, j.toNatClampNeg⟩]) cells slots → T'.heap = h' → Wr h h' a j.toNatClampNeg (.int (nar .boolean x)) → Arv Z h' a kA .boolean z (vs.set i (.int (nar .boolean x))) dv → own_E p.tables e below G (T'.setTop (mkF m pc' Ls (st)))) : own_E p.tables e below G (T.setTop (mkF m pc Ls (.int x :: .int j :: .ref a :: st))) := by
  subst hp
  obtain ⟨cl, Ar, q, S, N, H, F⟩ := A
  obtain ⟨T', h', X', e', W', stp⟩ := stZ X hx hZ eT Ar (j := j) (inb_of S hj) (g := mkF m pc Ls (.int x :: .int j :: .ref a :: st)) rfl rfl (hb hby hd)
  exact own_go stp (k T' h' X' e' W' (Arv.set Ar q S N H F (fits_nar_bool _) W' i hi hlen))
theorem own_stD (X : Stand p l e R s m args below meth c T locs cells slots) (hx : p.tables.exec = Jvm.exec) (hby : c.code = B) (hZ : Z.Warmed39 s.vm) (eT : T.heap = h) {a : Addr} {kA : ClassId} {z j : Int32} {vs : List Value} {dv : Value} {x : UInt64} (A : Arv Z h a kA .double z vs dv) (hj : ¬ j < 0 ∧ j < z) (i : Nat) (hi : j.toNatClampNeg = i) (hlen : i < vs.length) (hd : decode B pc = .ok (.dastore, 1)) (hp : pc + 1 = pc')
    (k : ∀ (T' : State) (h' : Heap), Stand p l e R s m args below meth c T' (locs ++ [⟨a, j.toNatClampNeg⟩]) cells slots → T'.heap = h' → Wr h h' a j.toNatClampNeg (.double x) → Arv Z h' a kA .double z (vs.set i (.double x)) dv → own_E p.tables e below G (T'.setTop (mkF m pc' Ls (st)))) : own_E p.tables e below G (T.setTop (mkF m pc Ls (.double x :: .int j :: .ref a :: st))) := by
  subst hp
  obtain ⟨cl, Ar, q, S, N, H, F⟩ := A
  obtain ⟨T', h', X', e', W', stp⟩ := stD X hx hZ eT Ar (j := j) (inb_of S hj) (g := mkF m pc Ls (.double x :: .int j :: .ref a :: st)) rfl rfl (hb hby hd)
  exact own_go stp (k T' h' X' e' W' (Arv.set Ar q S N H F rfl W' i hi hlen))
theorem own_stR (X : Stand p l e R s m args below meth c T locs cells slots) (hx : p.tables.exec = Jvm.exec) (hby : c.code = B) (hZ : Z.Warmed39 s.vm) (eT : T.heap = h) {a : Addr} {kA : ClassId} {ty : FieldType} {z j : Int32} {vs : List Value} {dv v : Value} (A : Arv Z h a kA ty z vs dv) (hty : ty.isReference = true) (hv : v.isRef = true) (F : Sto Z h a v) (hj : ¬ j < 0 ∧ j < z) (i : Nat) (hi : j.toNatClampNeg = i) (hlen : i < vs.length) (hd : decode B pc = .ok (.aastore, 1)) (hp : pc + 1 = pc')
    (k : ∀ (T' : State) (h' : Heap), Stand p l e R s m args below meth c T' (locs ++ [⟨a, j.toNatClampNeg⟩]) cells slots → T'.heap = h' → Wr h h' a j.toNatClampNeg v → Arv Z h' a kA ty z (vs.set i v) dv → own_E p.tables e below G (T'.setTop (mkF m pc' Ls (st)))) : own_E p.tables e below G (T.setTop (mkF m pc Ls (v :: .int j :: .ref a :: st))) := by
  subst hp
  obtain ⟨cl, Ar, q, S, N, H, F'⟩ := A
  obtain ⟨T', h', X', e', W', stp⟩ := stR X hx hZ eT Ar (j := j) (inb_of S hj) hty F (g := mkF m pc Ls (v :: .int j :: .ref a :: st)) rfl rfl (hb hby hd)
  exact own_go stp (k T' h' X' e' W' (Arv.set Ar q S N H F' (by cases ty <;> first | (cases hty; done) | (rcases ref_cases hv with rfl | ⟨_, rfl⟩ <;> rfl)) W' i hi hlen))
theorem own_sto {a y : Addr} {kA : ClassId} {ty : FieldType} {z : Int32} {vs : List Value} {dv : Value} {C : String} (A : Arv Z h a kA ty z vs dv) (O : Ovr Z kA C) (I : Ins Z h y C true) : Sto Z h a (.ref y) := by
  obtain ⟨cl, Ar, q, -⟩ := A; exact Sto.ofV Ar q O I
theorem own_ldcI (X : Stand p l e R s m args below meth c T locs cells slots) (hx : p.tables.exec = Jvm.exec) (hby : c.code = B) (hZ : Z.Warmed39 s.vm) {own : String} {index : Nat} {v : Int32} (hown : s.vm.findClass own = some m.cls) (w : (Jvm.Cond.constant own index v).before a0 Z = true) (hd : decode B pc = .ok (.ldc index, 2)) (hp : pc + 2 = pc')
    (k : own_E p.tables e below G (T.setTop (mkF m pc' Ls (.int v :: st)))) : own_E p.tables e below G (T.setTop (mkF m pc Ls (st))) := by
  subst hp; exact own_go (fun t q => X.ldcInt hx hown (mvT hZ w) (g := mkF m pc Ls st) rfl (hb hby hd) t q) k
theorem own_ldcJ (X : Stand p l e R s m args below meth c T locs cells slots) (hx : p.tables.exec = Jvm.exec) (hby : c.code = B) (hZ : Z.Warmed39 s.vm) {own : String} {index : Nat} {v : Int64} (hown : s.vm.findClass own = some m.cls) (w : (Jvm.Cond.constantLong own index v).before a0 Z = true) (hd : decode B pc = .ok (.ldc2_w index, 3)) (hp : pc + 3 = pc')
    (k : own_E p.tables e below G (T.setTop (mkF m pc' Ls (.long v :: st)))) : own_E p.tables e below G (T.setTop (mkF m pc Ls (st))) := by
  subst hp; exact own_go (fun t q => X.ldc2Long hx hown (mvT hZ w) (g := mkF m pc Ls st) rfl (hb hby hd) t q) k
theorem own_ldcD (X : Stand p l e R s m args below meth c T locs cells slots) (hx : p.tables.exec = Jvm.exec) (hby : c.code = B) (hZ : Z.Warmed39 s.vm) {own : String} {index : Nat} {v : UInt64} (hown : s.vm.findClass own = some m.cls) (w : (Jvm.Cond.constantDouble own index v).before a0 Z = true) (hd : decode B pc = .ok (.ldc2_w index, 3)) (hp : pc + 3 = pc')
    (k : own_E p.tables e below G (T.setTop (mkF m pc' Ls (.double v :: st)))) : own_E p.tables e below G (T.setTop (mkF m pc Ls (st))) := by
  subst hp; exact own_go (fun t q => X.ldc2DoubleC hx hown (mvT hZ w) (g := mkF m pc Ls st) rfl (hb hby hd) t q) k
theorem own_cast (X : Stand p l e R s m args below meth c T locs cells slots) (hx : p.tables.exec = Jvm.exec) (hby : c.code = B) (hZ : Z.Warmed39 s.vm) {own K : String} {index : Nat} (hown : s.vm.findClass own = some m.cls) (w : (Jvm.Cond.classLink own index K).before a0 Z = true) (eT : T.heap = h) {a : Addr} (F : Ins Z h a K true) (hd : decode B pc = .ok (.checkcast index, 3)) (hp : pc + 3 = pc')
    (k : ∀ T' : State, Stand p l e R s m args below meth c T' locs cells slots → T'.heap = h → own_E p.tables e below G (T'.setTop (mkF m pc' Ls (.ref a :: st)))) : own_E p.tables e below G (T.setTop (mkF m pc Ls (.ref a :: st))) := by
  subst hp
  obtain ⟨T', X', e', stp⟩ := castY X hx hZ hown w eT F (g := mkF m pc Ls (.ref a :: st)) rfl rfl (hb hby hd)
  exact own_go stp (k T' X' e')
theorem own_instY (X : Stand p l e R s m args below meth c T locs cells slots) (hx : p.tables.exec = Jvm.exec) (hby : c.code = B) (hZ : Z.Warmed39 s.vm) {own K : String} {index : Nat} (hown : s.vm.findClass own = some m.cls) (w : (Jvm.Cond.classLink own index K).before a0 Z = true) (eT : T.heap = h) {a : Addr} (F : Ins Z h a K true) (hd : decode B pc = .ok (.instanceof index, 3)) (hp : pc + 3 = pc')
    (k : ∀ T' : State, Stand p l e R s m args below meth c T' locs cells slots → T'.heap = h → own_E p.tables e below G (T'.setTop (mkF m pc' Ls (.int 1 :: st)))) : own_E p.tables e below G (T.setTop (mkF m pc Ls (.ref a :: st))) := by
  subst hp
  obtain ⟨T', X', e', stp⟩ := instY X hx hZ hown w eT F (g := mkF m pc Ls (.ref a :: st)) rfl rfl (hb hby hd)
  exact own_go stp (k T' X' e')
theorem own_dloadN (X : Stand p l e R s m args below meth c T locs cells slots) (hx : p.tables.exec = Jvm.exec) (hby : c.code = B) {k : Fin 4} {v : UInt64} (hd : decode B pc = .ok (.dload_n k, 1)) (hp : pc + 1 = pc') (hl : Ls[k.val]? = some (.val (.double v)))
    (k : own_E p.tables e below G (T.setTop (mkF m pc' Ls (.double v :: st)))) : own_E p.tables e below G (T.setTop (mkF m pc Ls (st))) := by
  subst hp; exact own_go (fun t q => XS.dloadN X.here hx rfl (hb hby hd) hl q) k
theorem own_dload (X : Stand p l e R s m args below meth c T locs cells slots) (hx : p.tables.exec = Jvm.exec) (hby : c.code = B) {k : Nat} {v : UInt64} (hd : decode B pc = .ok (.dload k, 2)) (hp : pc + 2 = pc') (hl : Ls[k]? = some (.val (.double v)))
    (k : own_E p.tables e below G (T.setTop (mkF m pc' Ls (.double v :: st)))) : own_E p.tables e below G (T.setTop (mkF m pc Ls (st))) := by
  subst hp; exact own_go (fun t q => XS.dload X.here hx rfl (hb hby hd) hl q) k
theorem own_dstoreN (X : Stand p l e R s m args below meth c T locs cells slots) (hx : p.tables.exec = Jvm.exec) (hby : c.code = B) {k : Fin 4} {v : UInt64} (hd : decode B pc = .ok (.dstore_n k, 1)) (hp : pc + 1 = pc') (hl : storeLocals Ls k.val (.double v) = some Ls')
    (k : own_E p.tables e below G (T.setTop (mkF m pc' Ls' (st)))) : own_E p.tables e below G (T.setTop (mkF m pc Ls (.double v :: st))) := by
  subst hp; exact own_go (fun t q => XS.dstoreN X.here hx rfl (hb hby hd) rfl hl q) k
theorem own_dstore (X : Stand p l e R s m args below meth c T locs cells slots) (hx : p.tables.exec = Jvm.exec) (hby : c.code = B) {k : Nat} {v : UInt64} (hd : decode B pc = .ok (.dstore k, 2)) (hp : pc + 2 = pc') (hl : storeLocals Ls k (.double v) = some Ls')
    (k : own_E p.tables e below G (T.setTop (mkF m pc' Ls' (st)))) : own_E p.tables e below G (T.setTop (mkF m pc Ls (.double v :: st))) := by
  subst hp; exact own_go (fun t q => XS.dstore X.here hx rfl (hb hby hd) rfl hl q) k
theorem own_dconst0 (X : Stand p l e R s m args below meth c T locs cells slots) (hx : p.tables.exec = Jvm.exec) (hby : c.code = B) {v : UInt64} (hd : decode B pc = .ok (.dconst 0, 1)) (hp : pc + 1 = pc') (hv : FP.dconst0 = v)
    (k : own_E p.tables e below G (T.setTop (mkF m pc' Ls (.double v :: st)))) : own_E p.tables e below G (T.setTop (mkF m pc Ls (st))) := by
  subst hp; exact own_go (fun t q => XS.dconst0 X.here hx rfl (hb hby hd) hv q) k
theorem own_dconst1 (X : Stand p l e R s m args below meth c T locs cells slots) (hx : p.tables.exec = Jvm.exec) (hby : c.code = B) {v : UInt64} (hd : decode B pc = .ok (.dconst 1, 1)) (hp : pc + 1 = pc') (hv : FP.dconst1 = v)
    (k : own_E p.tables e below G (T.setTop (mkF m pc' Ls (.double v :: st)))) : own_E p.tables e below G (T.setTop (mkF m pc Ls (st))) := by
  subst hp; exact own_go (fun t q => XS.dconst1 X.here hx rfl (hb hby hd) hv q) k
theorem own_i2d (X : Stand p l e R s m args below meth c T locs cells slots) (hx : p.tables.exec = Jvm.exec) (hby : c.code = B) {x : Int32} {v : UInt64} (hd : decode B pc = .ok (.i2d, 1)) (hp : pc + 1 = pc') (hv : FP.i2d x = v)
    (k : own_E p.tables e below G (T.setTop (mkF m pc' Ls (.double v :: st)))) : own_E p.tables e below G (T.setTop (mkF m pc Ls (.int x :: st))) := by
  subst hp; exact own_go (fun t q => XS.i2dS X.here hx rfl (hb hby hd) rfl hv q) k
theorem own_l2d (X : Stand p l e R s m args below meth c T locs cells slots) (hx : p.tables.exec = Jvm.exec) (hby : c.code = B) {x : Int64} {v : UInt64} (hd : decode B pc = .ok (.l2d, 1)) (hp : pc + 1 = pc') (hv : FP.l2d x = v)
    (k : own_E p.tables e below G (T.setTop (mkF m pc' Ls (.double v :: st)))) : own_E p.tables e below G (T.setTop (mkF m pc Ls (.long x :: st))) := by
  subst hp; exact own_go (fun t q => XS.l2dS X.here hx rfl (hb hby hd) rfl hv q) k
theorem own_dadd (X : Stand p l e R s m args below meth c T locs cells slots) (hx : p.tables.exec = Jvm.exec) (hby : c.code = B) {x y v : UInt64} (hd : decode B pc = .ok (.dadd, 1)) (hp : pc + 1 = pc') (hn : Jvm.Free.Fl.NoNaN64 (FP.dadd x y)) (hv : FP.dadd x y = v)
    (k : own_E p.tables e below G (T.setTop (mkF m pc' Ls (.double v :: st)))) : own_E p.tables e below G (T.setTop (mkF m pc Ls (.double y :: .double x :: st))) := by
  subst hp; exact own_go (fun t q => XS.daddS X.here hx rfl (hb hby hd) rfl hn hv q) k
theorem own_dsub (X : Stand p l e R s m args below meth c T locs cells slots) (hx : p.tables.exec = Jvm.exec) (hby : c.code = B) {x y v : UInt64} (hd : decode B pc = .ok (.dsub, 1)) (hp : pc + 1 = pc') (hn : Jvm.Free.Fl.NoNaN64 (FP.dsub x y)) (hv : FP.dsub x y = v)
    (k : own_E p.tables e below G (T.setTop (mkF m pc' Ls (.double v :: st)))) : own_E p.tables e below G (T.setTop (mkF m pc Ls (.double y :: .double x :: st))) := by
  subst hp; exact own_go (fun t q => XS.dsubS X.here hx rfl (hb hby hd) rfl hn hv q) k
theorem own_dmul (X : Stand p l e R s m args below meth c T locs cells slots) (hx : p.tables.exec = Jvm.exec) (hby : c.code = B) {x y v : UInt64} (hd : decode B pc = .ok (.dmul, 1)) (hp : pc + 1 = pc') (hn : Jvm.Free.Fl.NoNaN64 (FP.dmul x y)) (hv : FP.dmul x y = v)
    (k : own_E p.tables e below G (T.setTop (mkF m pc' Ls (.double v :: st)))) : own_E p.tables e below G (T.setTop (mkF m pc Ls (.double y :: .double x :: st))) := by
  subst hp; exact own_go (fun t q => XS.dmulS X.here hx rfl (hb hby hd) rfl hn hv q) k
theorem own_ddiv (X : Stand p l e R s m args below meth c T locs cells slots) (hx : p.tables.exec = Jvm.exec) (hby : c.code = B) {x y v : UInt64} (hd : decode B pc = .ok (.ddiv, 1)) (hp : pc + 1 = pc') (hn : Jvm.Free.Fl.NoNaN64 (FP.ddiv x y)) (hv : FP.ddiv x y = v)
    (k : own_E p.tables e below G (T.setTop (mkF m pc' Ls (.double v :: st)))) : own_E p.tables e below G (T.setTop (mkF m pc Ls (.double y :: .double x :: st))) := by
  subst hp; exact own_go (fun t q => XS.ddivS X.here hx rfl (hb hby hd) rfl hn hv q) k
theorem own_dcmp (X : Stand p l e R s m args below meth c T locs cells slots) (hx : p.tables.exec = Jvm.exec) (hby : c.code = B) {o : CmpOp} {x y : UInt64} {v : Int32} (hd : decode B pc = .ok (.dcmp o, 1)) (hp : pc + 1 = pc') (hv : cmpValue (FP.dcmp x y) o = v)
    (k : own_E p.tables e below G (T.setTop (mkF m pc' Ls (.int v :: st)))) : own_E p.tables e below G (T.setTop (mkF m pc Ls (.double y :: .double x :: st))) := by
  subst hp; exact own_go (fun t q => XS.dcmpS X.here hx rfl (hb hby hd) rfl hv q) k
theorem own_join {tb : Tables} {α : Type} {F : α → State} {P : α → Prop} {A : State} (rest : ∀ z, P z → own_E tb e below G (F z)) (br : (∀ z, P z → own_E tb e below G (F z)) → own_E tb e below G A) : own_E tb e below G A := br rest
/-- an array of arrays, each place filled -/
def own_Grid (Z : State) (h : Heap) (a : Addr) (n : Int32) : Prop := ∃ (kA : ClassId) (ty : FieldType) (xs : List Addr), Arv Z h a kA ty n (xs.map Value.ref) .null ∧ ty.isReference = true ∧ xs.length = n.toNatClampNeg
theorem own_Grid.ext {a : Addr} {n : Int32} (G : own_Grid Z h a n) (E : Ext h h') : own_Grid Z h' a n := by
  obtain ⟨kA, ty, xs, A, r⟩ := G; exact ⟨kA, ty, xs, A.ext E, r⟩
theorem own_grid (X : Stand p l e R s m args below meth c T locs cells slots) (hx : p.tables.exec = Jvm.exec) (hby : c.code = B) (hZ : Z.Warmed39 s.vm) {own C ad : String} {ty : FieldType} {index : Nat} (hown : s.vm.findClass own = some m.cls) (hC : (FieldType.array ty).toString = C) (had : "[" ++ C = ad)
    (w1 : (Jvm.Cond.classLink own index ad).before a0 Z = true) (w2 : (Jvm.Cond.arrayOver (.array ty)).before a0 Z = true) (w3 : (Jvm.Cond.arrayClass ty).before a0 Z = true) (eT : T.heap = h) (hd : decode B pc = .ok (.multianewarray index 2, 4)) (hp : pc + 4 = pc') {n : Int32}
    (hn : ¬ n < 0) {CC SS : Nat} (hN : n.toNatClampNeg ≤ SS) (hdf : fits ty (defaultValue ty) = true) (hdd : (defaultValue ty).isDefault = true) (hb1 : SS ≤ 1000) (hCC : 1 + SS ≤ CC) (hc : cells + CC ≤ R.cells) (hl : slots + SS ≤ R.slots)
    (k : ∀ (T' : State) (h' : Heap) (b : Addr), b = h.size → Stand p l e R s m args below meth c T' locs (cells + CC) (slots + SS) → T'.heap = h' → Ext h h' → own_Grid Z h' b n → own_E p.tables e below G (T'.setTop (mkF m pc' Ls (.ref b :: st)))) : own_E p.tables e below G (T.setTop (mkF m pc Ls (.int 0 :: .int n :: st))) := by
  subst hp
  obtain ⟨T', h', cA, comp, X', e', E', V', -, -, -, stp⟩ := gridM X hx hZ hown hC had w1 w2 w3 eT (g := mkF m pc Ls (.int 0 :: .int n :: st)) rfl (hb hby hd) rfl hn (by decide) rfl rfl (cap := 0) (by decide) (by decide) (by omega) hdf hdd (by omega) (by omega)
  exact own_go stp (k T' h' _ rfl (X'.mono (by omega) (by omega)) e' E' ⟨cA, _, _, V', rfl, by simp⟩)
theorem own_aaloadG (X : Stand p l e R s m args below meth c T locs cells slots) (hx : p.tables.exec = Jvm.exec) (hby : c.code = B) (hZ : Z.Warmed39 s.vm) (eT : T.heap = h) {a : Addr} {n j : Int32} (A : own_Grid Z h a n) (hj : ¬ j < 0 ∧ j < n) (hd : decode B pc = .ok (.aaload, 1)) (hp : pc + 1 = pc')
    (k : ∀ x : Addr, own_E p.tables e below G (T.setTop (mkF m pc' Ls (.ref x :: st)))) : own_E p.tables e below G (T.setTop (mkF m pc Ls (.int j :: .ref a :: st))) := by
  obtain ⟨kA, ty, xs, A, ht, hlen⟩ := A
  have hlt : j.toNatClampNeg < xs.length := by
    have h1 := hj.1; have h2 := hj.2
    simp only [Int32.lt_iff_toInt_lt, Int32.reduceToInt] at h1 h2
    rw [hlen]; simp only [Int32.toNatClampNeg]; omega
  exact own_aaloadV X hx hby hZ eT A ht hj (v := .ref xs[j.toNatClampNeg]) (by simp [List.getD_eq_getElem?_getD, hlt]) hd hp (k _)
end OwnHeap

section OwnUp
variable {p : Program} {l : Launch} {e : Env} {R : Room} {s : State} {m : MethodId} {args : Array Value} {below : List Frame} {meth : Method} {c : Code} {T : State} {locs : List Loc} {cells slots : Nat} {G : State → Outcome → Prop} {B : ByteArray} {pc pc' : Nat} {Ls Ls' : Array Slot} {st : List Value} {Z : State} {a0 : Array Value} {h h' h'' : Heap}
theorem own_upM (X : Stand p l e R s m args below meth c T locs cells slots) (hx : p.tables.exec = Jvm.exec) (hby : c.code = B) {own : String} {index nl : Nat} {as' : Array Value} {cc ss maxL : Nat} {bytes : ByteArray} {ret : Option FieldType} {rm : Room} {Q : Option Value → Heap → List Loc → Prop} {C owner : String} {y z : MethodName} (hml : c.maxLocals = nl) (hZ : Z.Warmed39 s.vm) (hown : s.vm.findClass own = some m.cls) (w1 : (Jvm.Cond.methodLink own index y).before args s = true) (w8 : (Jvm.Cond.sameMethod y.cls owner y.name y.desc).before args s = true) (w2 : (Jvm.Cond.declares ⟨owner, y.name, y.desc⟩).before args s = true) (hy : owner ≠ "java/lang/invoke/MethodHandle" ∧ owner ≠ "java/lang/invoke/VarHandle") (w5 : (Jvm.Cond.selects C y z).before args s = true) (w6 : (Jvm.Cond.instanceMethod z).before args s = true) (w3 : (Jvm.Cond.initialized z.cls).before a0 Z = true) (w4 : (Jvm.Cond.code z bytes maxL ret).before a0 Z = true)
    (hM : own_Met l Z z bytes maxL ret rm as' h Q) (W : Nat) (hcc : rm.cells = cc) (hss : rm.slots = ss) (hf : rm.frames + 1 ≤ R.frames) (hl : W + (maxL + 11) + rm.locals ≤ R.locals) (hsz : Ls.size = nl) {a : Addr} (hE : Exa Z h a C) {argsL rest : List Value} {ps : List FieldType} {r : Option FieldType} (hpd : parseMethodDescriptor y.desc = some ⟨ps, r⟩) (hlen : argsL.length = ps.length) (hst : st = argsL.reverse ++ .ref a :: rest) (hW : (rest.map fun v => v.category).sum ≤ W) (hd : decode B pc = .ok (.invokevirtual index, 3)) (hp : pc + 3 = pc') (hargs : (.ref a :: argsL).toArray = as') (eT : T.heap = h) (hc : cells + cc ≤ R.cells) (hs : slots + ss ≤ R.slots)
    (k : ∀ (v : Option Value) (T' : State) (h' : Heap) (L : List Loc), Stand p l e R s m args below meth c T' (locs ++ L) (cells + cc) (slots + ss) → T'.heap = h' → Q v h' L → own_E p.tables e below G (T'.setTop (mkF m pc' Ls (v.toList ++ rest)))) : own_E p.tables e below G (T.setTop (mkF m pc Ls st)) := by
  subst hcc hss hp
  obtain ⟨cq, kq, qa, qb, qc⟩ := isOf hZ eT hE
  obtain ⟨v, vm₁, ⟨T', L', k', n'⟩, -, X', ⟨L, hQ, q1, q2, q3⟩, stp⟩ := X.virtualBackUp hx hown w1 w8 w2 hy w5 w6 (own_back hM hZ w4 w3 hf hl) qa qc (g := mkF m pc Ls st) rfl (by rw [hml]; exact hsz) (Steps.refl _) (argsL := argsL) (rest := rest) (lenOf hpd hlen) hst (by show 2 * 0 + _ ≤ _; rw [Nat.mul_zero, Nat.zero_add]; exact hW) (hb hby hd) (fun _ _ => ⟨hargs, eT, hc, hs⟩)
  dsimp only at X' hQ q1 q2 q3 stp
  subst q1 q2 q3
  exact own_tr stp (k v T' _ L X' rfl hQ)
end OwnUp

section OwnFive
variable {p : Program} {l : Launch} {e : Env} {R : Room} {s : State} {m : MethodId} {args : Array Value} {below : List Frame} {meth : Method} {c : Code} {T : State} {locs : List Loc} {cells slots : Nat} {G : State → Outcome → Prop} {B : ByteArray} {pc pc' : Nat} {Ls Ls' : Array Slot} {st : List Value} {Z : State} {a0 : Array Value} {h h' h'' : Heap}
theorem own_lswitch (X : Stand p l e R s m args below meth c T locs cells slots) (hx : p.tables.exec = Jvm.exec) (hby : c.code = B) {x : Int32} {d : Int} {ps : Array (Int × Int)} {len : Nat} {a off : Int} (hd : decode B pc = .ok (.lookupswitch d ps, len)) (hsorted : (ps.toList.zip (ps.toList.drop 1)).all (fun (a, next) => a.1 < next.1) = true) (hfind : ps.find? (·.1 == x.toInt) = some (a, off)) (hoff : 0 ≤ (pc : Int) + off) (hp : ((pc : Int) + off).toNat = pc')
    (k : own_E p.tables e below G (T.setTop (mkF m pc' Ls (st)))) : own_E p.tables e below G (T.setTop (mkF m pc Ls (.int x :: st))) := by
  subst hp; exact own_go (fun t q => X.lookupswitchHit hx (g := mkF m pc Ls (.int x :: st)) rfl rfl (hb hby hd) hsorted hfind hoff t q) k
theorem own_superM (X : Stand p l e R s m args below meth c T locs cells slots) (hx : p.tables.exec = Jvm.exec) (hby : c.code = B) {own : String} {index nl : Nat} {as' : Array Value} {cc ss maxL : Nat} {bytes : ByteArray} {ret : Option FieldType} {rm : Room} {Q : Option Value → Heap → List Loc → Prop} {K : String} {y : MethodName} (hml : c.maxLocals = nl) (hZ : Z.Warmed39 s.vm) (hown : s.vm.findClass own = some m.cls) (w1 : (Jvm.Cond.methodLink own index y).before a0 Z = true) (w2 : (Jvm.Cond.sameMethod y.cls y.cls y.name y.desc).before a0 Z = true) (w5 : (Jvm.Cond.instanceMethod y).before a0 Z = true) (w6 : (Jvm.Cond.superclass own y.cls).before a0 Z = true) (hn : y.name ≠ "<init>") (w3 : (Jvm.Cond.initialized y.cls).before a0 Z = true) (w4 : (Jvm.Cond.code y bytes maxL ret).before a0 Z = true)
    (hM : own_Met l Z y bytes maxL ret rm as' h Q) (W : Nat) (hcc : rm.cells = cc) (hss : rm.slots = ss) (hf : rm.frames + 1 ≤ R.frames) (hl : W + (maxL + 11) + rm.locals ≤ R.locals) (hsz : Ls.size = nl) {a : Addr} (hE : Ins Z h a K true) {argsL rest : List Value} {ps : List FieldType} {r : Option FieldType} (hpd : parseMethodDescriptor y.desc = some ⟨ps, r⟩) (hlen : argsL.length = ps.length) (hst : st = argsL.reverse ++ .ref a :: rest) (hW : (rest.map fun v => v.category).sum ≤ W) (hd : decode B pc = .ok (.invokespecial index, 3)) (hp : pc + 3 = pc') (hargs : (.ref a :: argsL).toArray = as') (eT : T.heap = h) (hc : cells + cc ≤ R.cells) (hs : slots + ss ≤ R.slots)
    (k : ∀ (v : Option Value) (T' : State) (h' : Heap) (L : List Loc), Stand p l e R s m args below meth c T' (locs ++ L) (cells + cc) (slots + ss) → T'.heap = h' → Q v h' L → own_E p.tables e below G (T'.setTop (mkF m pc' Ls (v.toList ++ rest)))) : own_E p.tables e below G (T.setTop (mkF m pc Ls st)) := by
  subst hcc hss hp
  obtain ⟨v, vm₁, ⟨T', L', k', n'⟩, -, X', ⟨L, hQ, q1, q2, q3⟩, stp⟩ := superBack X hx hZ hown w1 w2 w5 w6 hn (own_back hM hZ w4 w3 hf hl) eT hE (g := mkF m pc Ls st) rfl (by rw [hml]; exact hsz) w4 (argsL := argsL) (rest := rest) (lenOf hpd hlen) hst (by show 2 * 0 + _ ≤ _; rw [Nat.mul_zero, Nat.zero_add]; exact hW) (hb hby hd) (fun _ _ => ⟨hargs, eT, hc, hs⟩)
  dsimp only at X' hQ q1 q2 q3 stp
  subst q1 q2 q3
  exact own_tr stp (k v T' _ L X' rfl hQ)
theorem own_cp (X : Stand p l e R s m args below meth c T locs cells slots) (hx : p.tables.exec = Jvm.exec) (hby : c.code = B) (hZ : Z.Warmed39 s.vm) {own : String} {index nl : Nat} (hml : c.maxLocals = nl) (hown : s.vm.findClass own = some m.cls) (w1 : (Jvm.Cond.methodLink own index Jvm.Stand.acN).before a0 Z = true) (w2 : (Jvm.Cond.native Jvm.Stand.acN).before a0 Z = true) (w3 : (Jvm.Cond.static Jvm.Stand.acN).before a0 Z = true) (w4 : (Jvm.Cond.initialized "java/lang/System").before a0 Z = true) (eT : T.heap = h)
    {a b : Addr} {k k' : ClassId} {ty : FieldType} {z z' sp dp nn : Int32} {vs vd us : List Value} {dv dd : Value} (A : Arv Z h a k ty z vs dv) (D : Arv Z h b k' ty z' vd dd) (hty : refKind ty = false) (h1 : ¬ sp < 0) (h2 : ¬ dp < 0) (h3 : ¬ nn < 0) (h4 : sp.toNatClampNeg + nn.toNatClampNeg ≤ z.toNatClampNeg) (h5 : dp.toNatClampNeg + nn.toNatClampNeg ≤ z'.toNatClampNeg)
    (hus : us = (List.range nn.toNatClampNeg).map fun i => vs.getD (sp.toNatClampNeg + i) dv) (hl : dp.toNatClampNeg + nn.toNatClampNeg ≤ vd.length) {n0 : Nat} (N : Fr n0 locs) (ge : n0 ≤ b) (hsz : Ls.size = nl) (hd : decode B pc = .ok (.invokestatic index, 3)) (hp : pc + 3 = pc') (hf : 1 ≤ R.frames) {W : Nat} (hW : (st.map fun v => v.category).sum ≤ W) (hlo : W + (nativeFrameWords "java/lang/System" "arraycopy" 5 + 11) ≤ R.locals)
    (k : ∀ (T' : State) (h' : Heap) (L : List Loc), Stand p l e R s m args below meth c T' L cells slots → T'.heap = h' → Fr n0 L → Keep h h' [b] → Arv Z h' b k' ty z' (vd.take dp.toNatClampNeg ++ us ++ vd.drop (dp.toNatClampNeg + nn.toNatClampNeg)) dd → own_E p.tables e below G (T'.setTop (mkF m pc' Ls (st)))) : own_E p.tables e below G (T.setTop (mkF m pc Ls (.int nn :: .int dp :: .ref b :: .int sp :: .ref a :: st))) := by
  subst hp
  obtain ⟨T', h', L, X', e', N', K', A', stp⟩ := cpA X hx hZ hown w1 w2 w3 w4 eT A D (Or.inl ⟨rfl, hty⟩) h1 h2 h3 h4 h5 hus hl N ge (g := mkF m pc Ls (.int nn :: .int dp :: .ref b :: .int sp :: .ref a :: st)) rfl (by rw [hml]; exact hsz) rfl (hb hby hd) hf (by show 2 * 0 + _ ≤ _; rw [Nat.mul_zero, Nat.zero_add]; exact hW) hlo
  exact own_go stp (k T' h' L X' e' N' K' A')
theorem own_clone (X : Stand p l e R s m args below meth c T locs cells slots) (hx : p.tables.exec = Jvm.exec) (hby : c.code = B) (hZ : Z.Warmed39 s.vm) {own ad : String} {index nl : Nat} (hml : c.maxLocals = nl) (hown : s.vm.findClass own = some m.cls) (w1 : (Jvm.Cond.methodLink own index ⟨ad, "clone", "()Ljava/lang/Object;"⟩).before a0 Z = true) (w2 : (Jvm.Cond.sameMethod ad "java/lang/Object" "clone" "()Ljava/lang/Object;").before a0 Z = true) (w3 : (Jvm.Cond.native ⟨"java/lang/Object", "clone", "()Ljava/lang/Object;"⟩).before a0 Z = true) (w4 : (Jvm.Cond.instanceMethod ⟨"java/lang/Object", "clone", "()Ljava/lang/Object;"⟩).before a0 Z = true) (w5 : (Jvm.Cond.selects ad ⟨ad, "clone", "()Ljava/lang/Object;"⟩ ⟨"java/lang/Object", "clone", "()Ljava/lang/Object;"⟩).before a0 Z = true) (w6 : (Jvm.Cond.castable ad "java/lang/Cloneable").before a0 Z = true) (eT : T.heap = h)
    {a : Addr} {kA : ClassId} {ty : FieldType} {z : Int32} {vs : List Value} {dv : Value} (F : Arv Z h a kA ty z vs dv) (Ea : Exa Z h a ad) (hsz : Ls.size = nl) (hd : decode B pc = .ok (.invokevirtual index, 3)) (hp : pc + 3 = pc') (hf : 1 ≤ R.frames) {W cap : Nat} (hW : (st.map fun v => v.category).sum ≤ W) (hl : W + 14 ≤ R.locals) (hcap : z.toNatClampNeg ≤ cap) (hc : cells + 1 ≤ R.cells) (hsl : slots + cap ≤ R.slots)
    (k : ∀ (T' : State) (h' : Heap) (b : Addr), b = h.size → Stand p l e R s m args below meth c T' locs (cells + 1) (slots + cap) → T'.heap = h' → Ext h h' → Arv Z h' b kA ty z vs dv → Exa Z h' b ad → own_E p.tables e below G (T'.setTop (mkF m pc' Ls (.ref b :: st)))) : own_E p.tables e below G (T.setTop (mkF m pc Ls (.ref a :: st))) := by
  subst hp
  obtain ⟨cl, A, q1, S, q3, H, Gf⟩ := F
  have FC : FitC Z cl := fitC_of A fun i hi v hv => by rw [H i hi] at hv; cases hv; exact Gf i hi
  obtain ⟨T', h', X', e', ex, A', E', stp⟩ := cloneA X hx hZ hown w1 w2 w3 w4 w5 w6 eT A Ea FC (g := mkF m pc Ls (.ref a :: st)) rfl (by rw [hml]; exact hsz) rfl (hb hby hd) hf (by show 2 * 0 + _ ≤ _; rw [Nat.mul_zero, Nat.zero_add]; exact hW) hl (by rw [S]; exact hcap) hc hsl
  exact own_go stp (k T' h' h.size rfl X' e' ex ⟨cloneOf cl, A', q1, S, q3, H, Gf⟩ E')
theorem own_newPE (X : Stand p l e R s m args below meth c T locs cells slots) (hx : p.tables.exec = Jvm.exec) (hby : c.code = B) (hZ : Z.Warmed39 s.vm) {aty : ArrayType} (w : (Jvm.Cond.arrayClass (newarray.typeOf aty)).before a0 Z = true) (eT : T.heap = h) {n : Int32} {cap : Nat} (hd : decode B pc = .ok (.newarray aty, 2)) (hp : pc + 2 = pc') (hn : ¬ n < 0) (hcap : n.toNatClampNeg ≤ cap) (hbig : cap * 8 ≤ 536870912) (hc : cells + 1 ≤ R.cells) (hl : slots + cap ≤ R.slots) {ad : String} (had : "[" ++ (newarray.typeOf aty).toString = ad)
    (k : ∀ (T' : State) (h' : Heap) (b : Addr) (kA : ClassId), b = h.size → Stand p l e R s m args below meth c T' locs (cells + 1) (slots + cap) → T'.heap = h' → Ext h h' → Arv Z h' b kA (newarray.typeOf aty) n [] (defaultValue (newarray.typeOf aty)) → Exa Z h' b ad → own_E p.tables e below G (T'.setTop (mkF m pc' Ls (.ref b :: st)))) : own_E p.tables e below G (T.setTop (mkF m pc Ls (.int n :: st))) := by
  subst hp
  obtain ⟨T', h', kA, X', e', ex, A', E', stp⟩ := newPE X hx hZ w eT (g := mkF m pc Ls (.int n :: st)) rfl (hb hby hd) rfl hn hcap hbig hc hl had
  exact own_go stp (k T' h' h.size kA rfl X' e' ex (Arv.new A' hn) E')
theorem own_nfs {C : String} {y z : MethodName} {s : State} {args : Array Value} (wz : (Jvm.Cond.selects C z z).before args s = true) (hc : z.cls = y.cls) : NotFace s y := fun r0 h0 => by
  obtain ⟨c2, r2, m2, q1, q2, q3, q4, kP, hkP, hkPi⟩ := Cond.selects_spec wz
  have nf : NotFace s z := notFace_of_selects wz
  obtain ⟨kr, hkr, hni⟩ := nf _ q3
  have e2 := findClass_of_methodNamed q3
  rw [hc] at e2
  have e3 : r0.cls = _ := Option.some.inj ((findClass_of_methodNamed h0).symm.trans e2)
  rw [← e3] at hkr
  exact ⟨kr, hkr, hni⟩
theorem own_decl {y : MethodName} {bytes : ByteArray} {maxL : Nat} {ret : Option FieldType} (w1 : (Jvm.Cond.instanceMethod y).before a0 Z = true) (w2 : (Jvm.Cond.code y bytes maxL ret).before a0 Z = true) : (Jvm.Cond.declares y).before a0 Z = true := by
  obtain ⟨mk, methM, hnamed, hmethM, hstM, habM⟩ := Cond.instanceMethod_spec w1
  obtain ⟨m2, cM, q1, -, -, -, -, -, -, hsig⟩ := Cond.code_spec hnamed w2
  cases hmethM.symm.trans q1
  simp [Cond.before, Cond.holds, Cond.value, hnamed, hmethM, hstM, hsig]
theorem own_same {C : String} {y z : MethodName} (w : (Jvm.Cond.declares y).before a0 Z = true) (wz : (Jvm.Cond.selects C z z).before a0 Z = true) (hc : z.cls = y.cls) (hy : y.cls ≠ "java/lang/invoke/MethodHandle" ∧ y.cls ≠ "java/lang/invoke/VarHandle") : (Jvm.Cond.sameMethod y.cls y.cls y.name y.desc).before a0 Z = true := by
  obtain ⟨r0, r, hn, hrm, -, -⟩ := Cond.declares_spec w
  have hf := State.methodFound?_of_named hn hy
  obtain ⟨c2, r2, m2, q1, q2, q3, q4, kP, hkP, hkPi⟩ := Cond.selects_spec wz
  have e1 := findClass_of_methodNamed hn
  have nf : NotFace Z z := notFace_of_selects wz
  obtain ⟨kr, hkr, hni⟩ := nf _ q3
  have e2 := findClass_of_methodNamed q3
  rw [hc] at e2
  have e3 : r0.cls = _ := Option.some.inj (e1.symm.trans e2)
  rw [← e3] at hkr
  have hn' : Z.methodNamed? ⟨y.cls, y.name, y.desc⟩ = some r0 := hn
  simp [Cond.before, Cond.holds, Cond.value, e1, hf, hn', hkr, hni]
end OwnFive

section OwnSix
variable {p : Program} {l : Launch} {e : Env} {R : Room} {s : State} {m : MethodId} {args : Array Value} {below : List Frame} {meth : Method} {c : Code} {T : State} {locs : List Loc} {cells slots : Nat} {G : State → Outcome → Prop} {B : ByteArray} {pc pc' : Nat} {Ls Ls' : Array Slot} {st : List Value} {Z : State} {a0 : Array Value} {h h' h'' : Heap}
def own_D (Z : State) (h : Heap) (a : Addr) (n : Int32) (xs : List Value) : Prop := ∃ kA, Arv Z h a kA .double n xs (.double (0 : UInt64)) ∧ Exa Z h a "[D"
def own_DD (Z : State) (h : Heap) (a : Addr) (n : Int32) (xs : List Value) : Prop := ∃ kA, Arv Z h a kA (.array .double) n xs .null ∧ OvrA Z kA .double "[D"
def own_IA (Z : State) (h : Heap) (a : Addr) (n : Int32) (xs : List Value) : Prop := ∃ kA, Arv Z h a kA .int n xs (.int (0 : Int32))
def own_ZA (Z : State) (h : Heap) (a : Addr) (n : Int32) (xs : List Value) : Prop := ∃ kA, Arv Z h a kA .boolean n xs (.int (0 : Int32))
theorem own_nl {a b n : Nat} (h : a < n) (g : b = n) : a ≠ b := by omega
theorem own_nl1 {a b n : Nat} (h : a < n) (g : b = n + 1) : a ≠ b := by omega
theorem own_nl2 {a b n : Nat} (h : a < n) (g : b = n + 2) : a ≠ b := by omega
theorem own_g0 {b n : Nat} (g : b = n) : n ≤ b := by omega
theorem own_g1 {b n : Nat} (g : b = n + 1) : n ≤ b := by omega
theorem own_g2 {b n : Nat} (g : b = n + 2) : n ≤ b := by omega
theorem own_g01 {a b n : Nat} (g : a = n) (g' : b = n + 1) : a ≠ b := by omega
theorem own_g02 {a b n : Nat} (g : a = n) (g' : b = n + 2) : a ≠ b := by omega
theorem own_g12 {a b n : Nat} (g : a = n + 1) (g' : b = n + 2) : a ≠ b := by omega
theorem own_ni0 {a : Addr} : a ∉ ([] : List Addr) := by simp
theorem own_niS {a w : Addr} {ws : List Addr} (h : a ≠ w) (t : a ∉ ws) : a ∉ w :: ws := by simp [h, t]
theorem own_D.ext {a : Addr} {n : Int32} {xs : List Value} (F : own_D Z h a n xs) (E : Ext h h') : own_D Z h' a n xs := by obtain ⟨k, A, E1⟩ := F; exact ⟨k, A.ext E, E1.ext E⟩
theorem own_D.other {a b : Addr} {sl : Nat} {v : Value} {n : Int32} {xs : List Value} (F : own_D Z h b n xs) (W : Wr h h' a sl v) (q : b ≠ a) : own_D Z h' b n xs := by obtain ⟨k, A, E1⟩ := F; exact ⟨k, A.other W q, E1.wr W⟩
theorem own_D.keep {a : Addr} {ws : List Addr} {n : Int32} {xs : List Value} (F : own_D Z h a n xs) (K : Keep h h' ws) (q : a ∉ ws) : own_D Z h' a n xs := by obtain ⟨k, A, E1⟩ := F; exact ⟨k, A.keep K q, E1.keep K⟩
theorem own_D.lt {a : Addr} {n : Int32} {xs : List Value} (F : own_D Z h a n xs) : a < h.size := by obtain ⟨k, A, E1⟩ := F; exact A.lt
theorem own_DD.ext {a : Addr} {n : Int32} {xs : List Value} (F : own_DD Z h a n xs) (E : Ext h h') : own_DD Z h' a n xs := by obtain ⟨k, A, E1⟩ := F; exact ⟨k, A.ext E, E1⟩
theorem own_DD.other {a b : Addr} {sl : Nat} {v : Value} {n : Int32} {xs : List Value} (F : own_DD Z h b n xs) (W : Wr h h' a sl v) (q : b ≠ a) : own_DD Z h' b n xs := by obtain ⟨k, A, E1⟩ := F; exact ⟨k, A.other W q, E1⟩
theorem own_DD.keep {a : Addr} {ws : List Addr} {n : Int32} {xs : List Value} (F : own_DD Z h a n xs) (K : Keep h h' ws) (q : a ∉ ws) : own_DD Z h' a n xs := by obtain ⟨k, A, E1⟩ := F; exact ⟨k, A.keep K q, E1⟩
theorem own_DD.lt {a : Addr} {n : Int32} {xs : List Value} (F : own_DD Z h a n xs) : a < h.size := by obtain ⟨k, A, E1⟩ := F; exact A.lt
theorem own_IA.ext {a : Addr} {n : Int32} {xs : List Value} (F : own_IA Z h a n xs) (E : Ext h h') : own_IA Z h' a n xs := by obtain ⟨k, A⟩ := F; exact ⟨k, A.ext E⟩
theorem own_IA.other {a b : Addr} {sl : Nat} {v : Value} {n : Int32} {xs : List Value} (F : own_IA Z h b n xs) (W : Wr h h' a sl v) (q : b ≠ a) : own_IA Z h' b n xs := by obtain ⟨k, A⟩ := F; exact ⟨k, A.other W q⟩
theorem own_IA.keep {a : Addr} {ws : List Addr} {n : Int32} {xs : List Value} (F : own_IA Z h a n xs) (K : Keep h h' ws) (q : a ∉ ws) : own_IA Z h' a n xs := by obtain ⟨k, A⟩ := F; exact ⟨k, A.keep K q⟩
theorem own_IA.lt {a : Addr} {n : Int32} {xs : List Value} (F : own_IA Z h a n xs) : a < h.size := by obtain ⟨k, A⟩ := F; exact A.lt
theorem own_ZA.ext {a : Addr} {n : Int32} {xs : List Value} (F : own_ZA Z h a n xs) (E : Ext h h') : own_ZA Z h' a n xs := by obtain ⟨k, A⟩ := F; exact ⟨k, A.ext E⟩
theorem own_ZA.other {a b : Addr} {sl : Nat} {v : Value} {n : Int32} {xs : List Value} (F : own_ZA Z h b n xs) (W : Wr h h' a sl v) (q : b ≠ a) : own_ZA Z h' b n xs := by obtain ⟨k, A⟩ := F; exact ⟨k, A.other W q⟩
theorem own_ZA.keep {a : Addr} {ws : List Addr} {n : Int32} {xs : List Value} (F : own_ZA Z h a n xs) (K : Keep h h' ws) (q : a ∉ ws) : own_ZA Z h' a n xs := by obtain ⟨k, A⟩ := F; exact ⟨k, A.keep K q⟩
theorem own_ZA.lt {a : Addr} {n : Int32} {xs : List Value} (F : own_ZA Z h a n xs) : a < h.size := by obtain ⟨k, A⟩ := F; exact A.lt
theorem own_D.exa {a : Addr} {n : Int32} {xs : List Value} (F : own_D Z h a n xs) : Exa Z h a "[D" := F.choose_spec.2
theorem own_newD (X : Stand p l e R s m args below meth c T locs cells slots) (hx : p.tables.exec = Jvm.exec) (hby : c.code = B) (hZ : Z.Warmed39 s.vm) (w : (Jvm.Cond.arrayClass .double).before a0 Z = true) (eT : T.heap = h) {n : Int32} {cap : Nat} {vs : List Value} (hd : decode B pc = .ok (.newarray .double, 2)) (hp : pc + 2 = pc') (hn : ¬ n < 0) (hcap : n.toNatClampNeg ≤ cap) (hbig : cap * 8 ≤ 536870912) (hc : cells + 1 ≤ R.cells) (hl : slots + cap ≤ R.slots) (hvs : List.replicate cap (.double (0 : UInt64)) = vs)
    (k : ∀ (T' : State) (h' : Heap) (b : Addr), b = h.size → Stand p l e R s m args below meth c T' locs (cells + 1) (slots + cap) → T'.heap = h' → Ext h h' → own_D Z h' b n vs → own_E p.tables e below G (T'.setTop (mkF m pc' Ls (.ref b :: st)))) : own_E p.tables e below G (T.setTop (mkF m pc Ls (.int n :: st))) := by
  subst hvs
  refine own_newPE (aty := .double) X hx hby hZ w eT hd hp hn hcap hbig hc hl (ad := "[" ++ (newarray.typeOf .double).toString) rfl ?_
  intro T' h' b kA g X' e' E' V A
  exact k T' h' b g X' e' E' ⟨kA, V.pad (pad_rep [] (.double (0 : UInt64)) cap), A⟩
theorem own_newIA (X : Stand p l e R s m args below meth c T locs cells slots) (hx : p.tables.exec = Jvm.exec) (hby : c.code = B) (hZ : Z.Warmed39 s.vm) (w : (Jvm.Cond.arrayClass .int).before a0 Z = true) (eT : T.heap = h) {n : Int32} {cap : Nat} {vs : List Value} (hd : decode B pc = .ok (.newarray .int, 2)) (hp : pc + 2 = pc') (hn : ¬ n < 0) (hcap : n.toNatClampNeg ≤ cap) (hbig : cap * 8 ≤ 536870912) (hc : cells + 1 ≤ R.cells) (hl : slots + cap ≤ R.slots) (hvs : List.replicate cap (.int (0 : Int32)) = vs)
    (k : ∀ (T' : State) (h' : Heap) (b : Addr), b = h.size → Stand p l e R s m args below meth c T' locs (cells + 1) (slots + cap) → T'.heap = h' → Ext h h' → own_IA Z h' b n vs → own_E p.tables e below G (T'.setTop (mkF m pc' Ls (.ref b :: st)))) : own_E p.tables e below G (T.setTop (mkF m pc Ls (.int n :: st))) := by
  subst hvs
  refine own_newPE (aty := .int) X hx hby hZ w eT hd hp hn hcap hbig hc hl (ad := "[" ++ (newarray.typeOf .int).toString) rfl ?_
  intro T' h' b kA g X' e' E' V A
  exact k T' h' b g X' e' E' ⟨kA, V.pad (pad_rep [] (.int (0 : Int32)) cap)⟩
theorem own_newZA (X : Stand p l e R s m args below meth c T locs cells slots) (hx : p.tables.exec = Jvm.exec) (hby : c.code = B) (hZ : Z.Warmed39 s.vm) (w : (Jvm.Cond.arrayClass .boolean).before a0 Z = true) (eT : T.heap = h) {n : Int32} {cap : Nat} {vs : List Value} (hd : decode B pc = .ok (.newarray .boolean, 2)) (hp : pc + 2 = pc') (hn : ¬ n < 0) (hcap : n.toNatClampNeg ≤ cap) (hbig : cap * 8 ≤ 536870912) (hc : cells + 1 ≤ R.cells) (hl : slots + cap ≤ R.slots) (hvs : List.replicate cap (.int (0 : Int32)) = vs)
    (k : ∀ (T' : State) (h' : Heap) (b : Addr), b = h.size → Stand p l e R s m args below meth c T' locs (cells + 1) (slots + cap) → T'.heap = h' → Ext h h' → own_ZA Z h' b n vs → own_E p.tables e below G (T'.setTop (mkF m pc' Ls (.ref b :: st)))) : own_E p.tables e below G (T.setTop (mkF m pc Ls (.int n :: st))) := by
  subst hvs
  refine own_newPE (aty := .boolean) X hx hby hZ w eT hd hp hn hcap hbig hc hl (ad := "[" ++ (newarray.typeOf .boolean).toString) rfl ?_
  intro T' h' b kA g X' e' E' V A
  exact k T' h' b g X' e' E' ⟨kA, V.pad (pad_rep [] (.int (0 : Int32)) cap)⟩
theorem own_newDD (X : Stand p l e R s m args below meth c T locs cells slots) (hx : p.tables.exec = Jvm.exec) (hby : c.code = B) (hZ : Z.Warmed39 s.vm) {own : String} {index : Nat} (hown : s.vm.findClass own = some m.cls) (w1 : (Jvm.Cond.classLink own index "[D").before a0 Z = true) (w2 : (Jvm.Cond.arrayOver (.array .double)).before a0 Z = true) (eT : T.heap = h) {n : Int32} {cap : Nat} {vs : List Value} (hd : decode B pc = .ok (.anewarray index, 3)) (hp : pc + 3 = pc') (hn : ¬ n < 0) (hcap : n.toNatClampNeg ≤ cap) (hbig : cap * 8 ≤ 536870912) (hc : cells + 1 ≤ R.cells) (hl : slots + cap ≤ R.slots) (hvs : List.replicate cap .null = vs)
    (k : ∀ (T' : State) (h' : Heap) (b : Addr), b = h.size → Stand p l e R s m args below meth c T' locs (cells + 1) (slots + cap) → T'.heap = h' → Ext h h' → own_DD Z h' b n vs → own_E p.tables e below G (T'.setTop (mkF m pc' Ls (.ref b :: st)))) : own_E p.tables e below G (T.setTop (mkF m pc Ls (.int n :: st))) := by
  subst hvs hp
  obtain ⟨T', h', cA, X', e', E', A', -, O', stp⟩ := newRA X hx hZ hown (C := "[D") rfl w1 w2 eT (g := mkF m pc Ls (.int n :: st)) rfl (hb hby hd) rfl hn hcap hbig hc hl rfl
  exact own_go stp (k T' h' _ rfl X' e' E' ⟨cA, (Arv.new A' hn).pad (pad_rep [] .null cap), O'⟩)
theorem own_gridD (X : Stand p l e R s m args below meth c T locs cells slots) (hx : p.tables.exec = Jvm.exec) (hby : c.code = B) (hZ : Z.Warmed39 s.vm) {own : String} {index : Nat} (hown : s.vm.findClass own = some m.cls) (w1 : (Jvm.Cond.classLink own index "[[D").before a0 Z = true) (w2 : (Jvm.Cond.arrayOver (.array .double)).before a0 Z = true) (w3 : (Jvm.Cond.arrayClass .double).before a0 Z = true) (eT : T.heap = h) (hd : decode B pc = .ok (.multianewarray index 2, 4)) (hp : pc + 4 = pc') (hc : cells + 3 ≤ R.cells) (hl : slots + 6 ≤ R.slots)
    (k : ∀ (T' : State) (h' : Heap) (b x y : Addr), b = h.size → x = h.size + 1 → y = h.size + 2 → Stand p l e R s m args below meth c T' locs (cells + 3) (slots + 6) → T'.heap = h' → Ext h h' → own_DD Z h' b 2 [.ref x, .ref y] → own_D Z h' x 2 [.double (0 : UInt64), .double (0 : UInt64)] → own_D Z h' y 2 [.double (0 : UInt64), .double (0 : UInt64)] → own_E p.tables e below G (T'.setTop (mkF m pc' Ls (.ref b :: st)))) : own_E p.tables e below G (T.setTop (mkF m pc Ls (.int 2 :: .int 2 :: st))) := by
  subst hp
  obtain ⟨T', h', cA, comp, X', e', E', V', O', -, hI, stp⟩ := gridM X hx hZ hown (C := "[D") (ad := "[[D") rfl rfl w1 w2 w3 eT (g := mkF m pc Ls (.int 2 :: .int 2 :: st)) rfl (hb hby hd) rfl (by decide) (by decide) (N := 2) rfl (xs := [h.size + 1, h.size + 2]) rfl (cap := 2) (by decide) (by decide) (by decide) rfl rfl hc hl
  have I1 := hI 0 _ rfl
  have I2 := hI 1 _ rfl
  exact own_go stp (k T' h' _ _ _ rfl rfl rfl X' e' E' ⟨cA, V', O'⟩ ⟨comp, (Arv.new I1.1 (by decide)).pad (pad_rep [] (.double (0 : UInt64)) 2), I1.2⟩ ⟨comp, (Arv.new I2.1 (by decide)).pad (pad_rep [] (.double (0 : UInt64)) 2), I2.2⟩)
theorem own_cloneD (X : Stand p l e R s m args below meth c T locs cells slots) (hx : p.tables.exec = Jvm.exec) (hby : c.code = B) (hZ : Z.Warmed39 s.vm) {own : String} {index nl : Nat} (hml : c.maxLocals = nl) (hown : s.vm.findClass own = some m.cls) (w1 : (Jvm.Cond.methodLink own index ⟨"[D", "clone", "()Ljava/lang/Object;"⟩).before a0 Z = true) (w2 : (Jvm.Cond.sameMethod "[D" "java/lang/Object" "clone" "()Ljava/lang/Object;").before a0 Z = true) (w3 : (Jvm.Cond.native ⟨"java/lang/Object", "clone", "()Ljava/lang/Object;"⟩).before a0 Z = true) (w4 : (Jvm.Cond.instanceMethod ⟨"java/lang/Object", "clone", "()Ljava/lang/Object;"⟩).before a0 Z = true) (w5 : (Jvm.Cond.selects "[D" ⟨"[D", "clone", "()Ljava/lang/Object;"⟩ ⟨"java/lang/Object", "clone", "()Ljava/lang/Object;"⟩).before a0 Z = true) (w6 : (Jvm.Cond.castable "[D" "java/lang/Cloneable").before a0 Z = true) (eT : T.heap = h)
    {a : Addr} {n : Int32} {vs : List Value} (F : own_D Z h a n vs) (hsz : Ls.size = nl) (hd : decode B pc = .ok (.invokevirtual index, 3)) (hp : pc + 3 = pc') (hf : 1 ≤ R.frames) {W cap : Nat} (hW : (st.map fun v => v.category).sum ≤ W) (hl : W + 14 ≤ R.locals) (hcap : n.toNatClampNeg ≤ cap) (hc : cells + 1 ≤ R.cells) (hsl : slots + cap ≤ R.slots)
    (k : ∀ (T' : State) (h' : Heap) (b : Addr), b = h.size → Stand p l e R s m args below meth c T' locs (cells + 1) (slots + cap) → T'.heap = h' → Ext h h' → own_D Z h' b n vs → own_E p.tables e below G (T'.setTop (mkF m pc' Ls (.ref b :: st)))) : own_E p.tables e below G (T.setTop (mkF m pc Ls (.ref a :: st))) := by
  obtain ⟨kA, A, Ex⟩ := F
  exact own_clone X hx hby hZ hml hown w1 w2 w3 w4 w5 w6 eT A Ex hsz hd hp hf hW hl hcap hc hsl fun T' h' b g X' e' E' V A => k T' h' b g X' e' E' ⟨kA, V, A⟩
theorem own_cpD (X : Stand p l e R s m args below meth c T locs cells slots) (hx : p.tables.exec = Jvm.exec) (hby : c.code = B) (hZ : Z.Warmed39 s.vm) {own : String} {index nl : Nat} (hml : c.maxLocals = nl) (hown : s.vm.findClass own = some m.cls) (w1 : (Jvm.Cond.methodLink own index Jvm.Stand.acN).before a0 Z = true) (w2 : (Jvm.Cond.native Jvm.Stand.acN).before a0 Z = true) (w3 : (Jvm.Cond.static Jvm.Stand.acN).before a0 Z = true) (w4 : (Jvm.Cond.initialized "java/lang/System").before a0 Z = true) (eT : T.heap = h)
    {a b : Addr} {z z' sp dp nn : Int32} {vs vd us ws : List Value} (A : own_D Z h a z vs) (D : own_D Z h b z' vd) (h1 : ¬ sp < 0) (h2 : ¬ dp < 0) (h3 : ¬ nn < 0) (h4 : sp.toNatClampNeg + nn.toNatClampNeg ≤ z.toNatClampNeg) (h5 : dp.toNatClampNeg + nn.toNatClampNeg ≤ z'.toNatClampNeg)
    (hus : us = (List.range nn.toNatClampNeg).map fun i => vs.getD (sp.toNatClampNeg + i) (.double (0 : UInt64))) (hl : dp.toNatClampNeg + nn.toNatClampNeg ≤ vd.length) (hws : vd.take dp.toNatClampNeg ++ us ++ vd.drop (dp.toNatClampNeg + nn.toNatClampNeg) = ws) {n0 : Nat} (N : Fr n0 locs) (ge : n0 ≤ b) (hsz : Ls.size = nl) (hd : decode B pc = .ok (.invokestatic index, 3)) (hp : pc + 3 = pc') (hf : 1 ≤ R.frames) {W : Nat} (hW : (st.map fun v => v.category).sum ≤ W) (hlo : W + (nativeFrameWords "java/lang/System" "arraycopy" 5 + 11) ≤ R.locals)
    (k : ∀ (T' : State) (h' : Heap) (L : List Loc), Stand p l e R s m args below meth c T' L cells slots → T'.heap = h' → Fr n0 L → Keep h h' [b] → own_D Z h' b z' ws → own_E p.tables e below G (T'.setTop (mkF m pc' Ls (st)))) : own_E p.tables e below G (T.setTop (mkF m pc Ls (.int nn :: .int dp :: .ref b :: .int sp :: .ref a :: st))) := by
  subst hws
  obtain ⟨k1, A1, -⟩ := A
  obtain ⟨k2, A2, E2⟩ := D
  exact own_cp X hx hby hZ hml hown w1 w2 w3 w4 eT A1 A2 rfl h1 h2 h3 h4 h5 hus hl N ge hsz hd hp hf hW hlo fun T' h' L X' e' N' K' V' => k T' h' L X' e' N' K' ⟨k2, V', E2.keep K'⟩
theorem own_daD (X : Stand p l e R s m args below meth c T locs cells slots) (hx : p.tables.exec = Jvm.exec) (hby : c.code = B) (hZ : Z.Warmed39 s.vm) (eT : T.heap = h) {a : Addr} {n j : Int32} {xs : List Value} {v : UInt64} (F : own_D Z h a n xs) (hj : ¬ j < 0 ∧ j < n) (hv : xs.getD j.toNatClampNeg (.double (0 : UInt64)) = .double v) (hd : decode B pc = .ok (.daload, 1)) (hp : pc + 1 = pc')
    (k : own_E p.tables e below G (T.setTop (mkF m pc' Ls (.double v :: st)))) : own_E p.tables e below G (T.setTop (mkF m pc Ls (.int j :: .ref a :: st))) := by
  obtain ⟨kA, A, -⟩ := F; exact own_daloadV X hx hby hZ eT A hj hv hd hp k
theorem own_iaI (X : Stand p l e R s m args below meth c T locs cells slots) (hx : p.tables.exec = Jvm.exec) (hby : c.code = B) (hZ : Z.Warmed39 s.vm) (eT : T.heap = h) {a : Addr} {n j v : Int32} {xs : List Value} (F : own_IA Z h a n xs) (hj : ¬ j < 0 ∧ j < n) (hv : xs.getD j.toNatClampNeg (.int (0 : Int32)) = .int v) (hd : decode B pc = .ok (.iaload, 1)) (hp : pc + 1 = pc')
    (k : own_E p.tables e below G (T.setTop (mkF m pc' Ls (.int v :: st)))) : own_E p.tables e below G (T.setTop (mkF m pc Ls (.int j :: .ref a :: st))) := by
  obtain ⟨kA, A⟩ := F; exact own_ialoadV X hx hby hZ eT A hj hv hd hp k
theorem own_baZ (X : Stand p l e R s m args below meth c T locs cells slots) (hx : p.tables.exec = Jvm.exec) (hby : c.code = B) (hZ : Z.Warmed39 s.vm) (eT : T.heap = h) {a : Addr} {n j v : Int32} {xs : List Value} (F : own_ZA Z h a n xs) (hj : ¬ j < 0 ∧ j < n) (hv : xs.getD j.toNatClampNeg (.int (0 : Int32)) = .int v) (hd : decode B pc = .ok (.baload, 1)) (hp : pc + 1 = pc')
    (k : own_E p.tables e below G (T.setTop (mkF m pc' Ls (.int v :: st)))) : own_E p.tables e below G (T.setTop (mkF m pc Ls (.int j :: .ref a :: st))) := by
  subst hp
  obtain ⟨kA, cl, Ar, -, S, -, H, -⟩ := F
  exact own_go (fun t q => X.baloadBooleans hx (by rw [eT]; exact Ar.1) (State.isArrayOf_alike hZ.alike Ar.2.1) Ar.2.2 (inb_of S hj) (H.at (inb_of S hj) hv) (g := mkF m pc Ls (.int j :: .ref a :: st)) rfl rfl (hb hby hd) t q) k
theorem own_aaD (X : Stand p l e R s m args below meth c T locs cells slots) (hx : p.tables.exec = Jvm.exec) (hby : c.code = B) (hZ : Z.Warmed39 s.vm) (eT : T.heap = h) {a : Addr} {n j : Int32} {xs : List Value} {v : Value} (F : own_DD Z h a n xs) (hj : ¬ j < 0 ∧ j < n) (hv : xs.getD j.toNatClampNeg .null = v) (hd : decode B pc = .ok (.aaload, 1)) (hp : pc + 1 = pc')
    (k : own_E p.tables e below G (T.setTop (mkF m pc' Ls (v :: st)))) : own_E p.tables e below G (T.setTop (mkF m pc Ls (.int j :: .ref a :: st))) := by
  obtain ⟨kA, A, -⟩ := F; exact own_aaloadV X hx hby hZ eT A rfl hj hv hd hp k
theorem own_alD (X : Stand p l e R s m args below meth c T locs cells slots) (hx : p.tables.exec = Jvm.exec) (hby : c.code = B) (hZ : Z.Warmed39 s.vm) (eT : T.heap = h) {a : Addr} {n : Int32} {xs : List Value} (F : own_D Z h a n xs) (hd : decode B pc = .ok (.arraylength, 1)) (hp : pc + 1 = pc')
    (k : own_E p.tables e below G (T.setTop (mkF m pc' Ls (.int n :: st)))) : own_E p.tables e below G (T.setTop (mkF m pc Ls (.ref a :: st))) := by
  obtain ⟨kA, A, -⟩ := F; exact own_alenV X hx hby hZ eT A hd hp k
theorem own_alDD (X : Stand p l e R s m args below meth c T locs cells slots) (hx : p.tables.exec = Jvm.exec) (hby : c.code = B) (hZ : Z.Warmed39 s.vm) (eT : T.heap = h) {a : Addr} {n : Int32} {xs : List Value} (F : own_DD Z h a n xs) (hd : decode B pc = .ok (.arraylength, 1)) (hp : pc + 1 = pc')
    (k : own_E p.tables e below G (T.setTop (mkF m pc' Ls (.int n :: st)))) : own_E p.tables e below G (T.setTop (mkF m pc Ls (.ref a :: st))) := by
  obtain ⟨kA, A, -⟩ := F; exact own_alenV X hx hby hZ eT A hd hp k
theorem own_alIA (X : Stand p l e R s m args below meth c T locs cells slots) (hx : p.tables.exec = Jvm.exec) (hby : c.code = B) (hZ : Z.Warmed39 s.vm) (eT : T.heap = h) {a : Addr} {n : Int32} {xs : List Value} (F : own_IA Z h a n xs) (hd : decode B pc = .ok (.arraylength, 1)) (hp : pc + 1 = pc')
    (k : own_E p.tables e below G (T.setTop (mkF m pc' Ls (.int n :: st)))) : own_E p.tables e below G (T.setTop (mkF m pc Ls (.ref a :: st))) := by
  obtain ⟨kA, A⟩ := F; exact own_alenV X hx hby hZ eT A hd hp k
theorem own_alZA (X : Stand p l e R s m args below meth c T locs cells slots) (hx : p.tables.exec = Jvm.exec) (hby : c.code = B) (hZ : Z.Warmed39 s.vm) (eT : T.heap = h) {a : Addr} {n : Int32} {xs : List Value} (F : own_ZA Z h a n xs) (hd : decode B pc = .ok (.arraylength, 1)) (hp : pc + 1 = pc')
    (k : own_E p.tables e below G (T.setTop (mkF m pc' Ls (.int n :: st)))) : own_E p.tables e below G (T.setTop (mkF m pc Ls (.ref a :: st))) := by
  obtain ⟨kA, A⟩ := F; exact own_alenV X hx hby hZ eT A hd hp k
theorem own_dsD (X : Stand p l e R s m args below meth c T locs cells slots) (hx : p.tables.exec = Jvm.exec) (hby : c.code = B) (hZ : Z.Warmed39 s.vm) (eT : T.heap = h) {a : Addr} {n j : Int32} {xs ys : List Value} {x : UInt64} (F : own_D Z h a n xs) (hj : ¬ j < 0 ∧ j < n) (i : Nat) (hi : j.toNatClampNeg = i) (hlen : i < xs.length) (hys : xs.set i (.double x) = ys) (hd : decode B pc = .ok (.dastore, 1)) (hp : pc + 1 = pc')
    (k : ∀ (T' : State) (h' : Heap), Stand p l e R s m args below meth c T' (locs ++ [⟨a, j.toNatClampNeg⟩]) cells slots → T'.heap = h' → Wr h h' a j.toNatClampNeg (.double x) → own_D Z h' a n ys → own_E p.tables e below G (T'.setTop (mkF m pc' Ls (st)))) : own_E p.tables e below G (T.setTop (mkF m pc Ls (.double x :: .int j :: .ref a :: st))) := by
  subst hys
  obtain ⟨kA, A, E1⟩ := F; exact own_stD X hx hby hZ eT A hj i hi hlen hd hp fun T' h' X' e' W' V' => k T' h' X' e' W' ⟨kA, V', E1.wr W'⟩
theorem own_isI (X : Stand p l e R s m args below meth c T locs cells slots) (hx : p.tables.exec = Jvm.exec) (hby : c.code = B) (hZ : Z.Warmed39 s.vm) (eT : T.heap = h) {a : Addr} {n j : Int32} {xs ys : List Value} {x : Int32} (F : own_IA Z h a n xs) (hj : ¬ j < 0 ∧ j < n) (i : Nat) (hi : j.toNatClampNeg = i) (hlen : i < xs.length) (hys : xs.set i (.int x) = ys) (hd : decode B pc = .ok (.iastore, 1)) (hp : pc + 1 = pc')
    (k : ∀ (T' : State) (h' : Heap), Stand p l e R s m args below meth c T' (locs ++ [⟨a, j.toNatClampNeg⟩]) cells slots → T'.heap = h' → Wr h h' a j.toNatClampNeg (.int x) → own_IA Z h' a n ys → own_E p.tables e below G (T'.setTop (mkF m pc' Ls (st)))) : own_E p.tables e below G (T.setTop (mkF m pc Ls (.int x :: .int j :: .ref a :: st))) := by
  subst hys
  obtain ⟨kA, A⟩ := F; exact own_stI X hx hby hZ eT A hj i hi hlen hd hp fun T' h' X' e' W' V' => k T' h' X' e' W' ⟨kA, V'⟩
theorem own_bsZ (X : Stand p l e R s m args below meth c T locs cells slots) (hx : p.tables.exec = Jvm.exec) (hby : c.code = B) (hZ : Z.Warmed39 s.vm) (eT : T.heap = h) {a : Addr} {n j : Int32} {xs ys : List Value} {x : Int32} (F : own_ZA Z h a n xs) (hj : ¬ j < 0 ∧ j < n) (i : Nat) (hi : j.toNatClampNeg = i) (hlen : i < xs.length) (hys : xs.set i (.int (nar .boolean x)) = ys) (hd : decode B pc = .ok (.bastore, 1)) (hp : pc + 1 = pc')
    (k : ∀ (T' : State) (h' : Heap), Stand p l e R s m args below meth c T' (locs ++ [⟨a, j.toNatClampNeg⟩]) cells slots → T'.heap = h' → Wr h h' a j.toNatClampNeg (.int (nar .boolean x)) → own_ZA Z h' a n ys → own_E p.tables e below G (T'.setTop (mkF m pc' Ls (st)))) : own_E p.tables e below G (T.setTop (mkF m pc Ls (.int x :: .int j :: .ref a :: st))) := by
  subst hys
  obtain ⟨kA, A⟩ := F; exact own_stZ X hx hby hZ eT A hj i hi hlen hd hp fun T' h' X' e' W' V' => k T' h' X' e' W' ⟨kA, V'⟩
theorem own_asD (X : Stand p l e R s m args below meth c T locs cells slots) (hx : p.tables.exec = Jvm.exec) (hby : c.code = B) (hZ : Z.Warmed39 s.vm) (eT : T.heap = h) {a y : Addr} {n j : Int32} {xs ys : List Value} (F : own_DD Z h a n xs) (Ey : Exa Z h y "[D") (hj : ¬ j < 0 ∧ j < n) (i : Nat) (hi : j.toNatClampNeg = i) (hlen : i < xs.length) (hys : xs.set i (.ref y) = ys) (hd : decode B pc = .ok (.aastore, 1)) (hp : pc + 1 = pc')
    (k : ∀ (T' : State) (h' : Heap), Stand p l e R s m args below meth c T' (locs ++ [⟨a, j.toNatClampNeg⟩]) cells slots → T'.heap = h' → Wr h h' a j.toNatClampNeg (.ref y) → own_DD Z h' a n ys → own_E p.tables e below G (T'.setTop (mkF m pc' Ls (st)))) : own_E p.tables e below G (T.setTop (mkF m pc Ls (.ref y :: .int j :: .ref a :: st))) := by
  subst hys
  obtain ⟨kA, A, O⟩ := F
  have S : Sto Z h a (.ref y) := by obtain ⟨cl, Ar, q, -⟩ := A; exact Sto.ofVA Ar q O (Ins.self Ey)
  exact own_stR X hx hby hZ eT A rfl rfl S hj i hi hlen hd hp fun T' h' X' e' W' V' => k T' h' X' e' W' ⟨kA, V', O⟩
theorem own_absD (X : Stand p l e R s m args below meth c T locs cells slots) (hx : p.tables.exec = Jvm.exec) (hby : c.code = B) (hZ : Z.Warmed39 s.vm) {own : String} {index nl : Nat} (hml : c.maxLocals = nl) (hown : s.vm.findClass own = some m.cls) (w1 : (Jvm.Cond.methodLink own index Jvm.Free.NT.mathAbs64N).before a0 Z = true) (w2 : (Jvm.Cond.static Jvm.Free.NT.mathAbs64N).before a0 Z = true) (w3 : (Jvm.Cond.initialized "java/lang/Math").before a0 Z = true) {by0 : ByteArray} {ml : Nat} (w4 : (Jvm.Cond.code Jvm.Free.NT.mathAbs64N by0 ml (some .double)).before a0 Z = true) (eT : T.heap = h) {x v : UInt64} (hn : Jvm.Free.Fl.NoNaN64 x) (hv : x &&& 0x7fffffffffffffff = v) (hsz : Ls.size = nl) (hd : decode B pc = .ok (.invokestatic index, 3)) (hp : pc + 3 = pc') {W : Nat} (hW : (st.map fun v => v.category).sum ≤ W) (hf : 1 ≤ R.frames) (hl : W + (ml + 11) ≤ R.locals) (hc : cells ≤ R.cells) (hs : slots ≤ R.slots)
    (k : ∀ T' : State, Stand p l e R s m args below meth c T' locs cells slots → T'.heap = h → own_E p.tables e below G (T'.setTop (mkF m pc' Ls (.double v :: st)))) : own_E p.tables e below G (T.setTop (mkF m pc Ls (.double x :: st))) := by
  subst hp
  obtain ⟨T', X', e', stp⟩ := natS X hx hZ hown w1 w2 w3 w4 (by decide) eT (W := W) (F := fun a => a = #[.double x]) (val := .double (x &&& 0x7fffffffffffffff)) (val' := .double v) (fun hcode => (Jvm.Free.NT.Abs64.pays hcode (mvT hZ w2) hf hl).mono (fun A a q => ⟨x, q.2.2, hn⟩) (fun A a v B q r => ⟨r.2 x ⟨q.2.2, hn⟩, r.1⟩)) (g := mkF m pc Ls (.double x :: st)) rfl (by rw [hml]; exact hsz) (argsL := [.double x]) (rest := st) (lenOf Jvm.Free.NT.mathAbs64_desc rfl) rfl (by show 2 * 0 + _ ≤ _; rw [Nat.mul_zero, Nat.zero_add]; exact hW) (hb hby hd) hc hs rfl (by rw [hv])
  exact own_go stp (k T' X' e')
theorem own_maxD (X : Stand p l e R s m args below meth c T locs cells slots) (hx : p.tables.exec = Jvm.exec) (hby : c.code = B) (hZ : Z.Warmed39 s.vm) {own : String} {index nl : Nat} (hml : c.maxLocals = nl) (hown : s.vm.findClass own = some m.cls) (w1 : (Jvm.Cond.methodLink own index Jvm.Free.NT.mathMax64N).before a0 Z = true) (w2 : (Jvm.Cond.static Jvm.Free.NT.mathMax64N).before a0 Z = true) (w3 : (Jvm.Cond.initialized "java/lang/Math").before a0 Z = true) {by0 : ByteArray} {ml : Nat} (w4 : (Jvm.Cond.code Jvm.Free.NT.mathMax64N by0 ml (some .double)).before a0 Z = true) (eT : T.heap = h) {x y v : UInt64} (hn : Jvm.Free.Fl.NoNaN64 x) (hn' : Jvm.Free.Fl.NoNaN64 y) (hv : Jvm.Native.java_lang_Math.nans.pick64 true x y = v) (hsz : Ls.size = nl) (hd : decode B pc = .ok (.invokestatic index, 3)) (hp : pc + 3 = pc') {W : Nat} (hW : (st.map fun v => v.category).sum ≤ W) (hf : 1 ≤ R.frames) (hl : W + (ml + 11) ≤ R.locals) (hc : cells ≤ R.cells) (hs : slots ≤ R.slots)
    (k : ∀ T' : State, Stand p l e R s m args below meth c T' locs cells slots → T'.heap = h → own_E p.tables e below G (T'.setTop (mkF m pc' Ls (.double v :: st)))) : own_E p.tables e below G (T.setTop (mkF m pc Ls (.double y :: .double x :: st))) := by
  subst hp
  have n1 := Jvm.Free.Fl.noNaN64_no.mp hn
  have n2 := Jvm.Free.Fl.noNaN64_no.mp hn'
  obtain ⟨T', X', e', stp⟩ := natS X hx hZ hown w1 w2 w3 w4 (by decide) eT (W := W) (F := fun a => a = #[.double x, .double y]) (val := .double (Jvm.Native.java_lang_Math.nans.pick64 true x y)) (val' := .double v) (fun hcode => (Jvm.Free.NT.Max64.pays hcode (mvT hZ w2) hf hl).mono (fun A a q => ⟨(x, y), q.2.2, n1, n2⟩) (fun A a v B q r => ⟨r.2 (x, y) ⟨q.2.2, n1, n2⟩, r.1⟩)) (g := mkF m pc Ls (.double y :: .double x :: st)) rfl (by rw [hml]; exact hsz) (argsL := [.double x, .double y]) (rest := st) (lenOf Jvm.Free.NT.mathMax64_desc rfl) rfl (by show 2 * 0 + _ ≤ _; rw [Nat.mul_zero, Nat.zero_add]; exact hW) (hb hby hd) hc hs rfl (by rw [hv])
  exact own_go stp (k T' X' e')
theorem own_iaddE (X : Stand p l e R s m args below meth c T locs cells slots) (hx : p.tables.exec = Jvm.exec) (hby : c.code = B) {x y v : Int32} (hd : decode B pc = .ok (.iadd, 1)) (hp : pc + 1 = pc') (hv : x + y = v)
    (k : own_E p.tables e below G (T.setTop (mkF m pc' Ls (.int v :: st)))) : own_E p.tables e below G (T.setTop (mkF m pc Ls (.int y :: .int x :: st))) := by subst hv; exact own_iadd X hx hby hd hp k
theorem own_isubE (X : Stand p l e R s m args below meth c T locs cells slots) (hx : p.tables.exec = Jvm.exec) (hby : c.code = B) {x y v : Int32} (hd : decode B pc = .ok (.isub, 1)) (hp : pc + 1 = pc') (hv : x - y = v)
    (k : own_E p.tables e below G (T.setTop (mkF m pc' Ls (.int v :: st)))) : own_E p.tables e below G (T.setTop (mkF m pc Ls (.int y :: .int x :: st))) := by subst hv; exact own_isub X hx hby hd hp k
theorem own_selP {C : String} {y z : MethodName} (wi : (Jvm.Cond.instanceMethod y).before a0 Z = true) (wp : (Jvm.Cond.privateMethod y).before a0 Z = true) (wz : (Jvm.Cond.selects C z z).before a0 Z = true) (hc : z.cls = y.cls) (hy : y.cls ≠ "java/lang/invoke/MethodHandle" ∧ y.cls ≠ "java/lang/invoke/VarHandle") : (Jvm.Cond.selects y.cls y y).before a0 Z = true := by
  obtain ⟨c2, r2, m2, -, -, q3, -, kP, hkP, hkPi⟩ := Cond.selects_spec wz
  have e2 := findClass_of_methodNamed q3
  rw [hc] at e2
  exact selects_self_of_private e2 hkP hkPi (Cond.privateMethod_at wp) wi hy
end OwnSix

section OwnSeven
variable {p : Program} {l : Launch} {e : Env} {R : Room} {s : State} {m : MethodId} {args : Array Value} {below : List Frame} {meth : Method} {c : Code} {T : State} {locs : List Loc} {cells slots : Nat} {G : State → Outcome → Prop} {B : ByteArray} {pc pc' : Nat} {Ls Ls' : Array Slot} {st : List Value} {Z : State} {a0 : Array Value} {h h' h'' : Heap}
/-- an array: its type, its class's name, what its class is known for, its length, its places -/
def own_Fa (Z : State) (h : Heap) (a : Addr) (ty : FieldType) (ad : String) (P : ClassId → Prop) (N : Nat) (f : Nat → Value) : Prop :=
  ∃ c : Cell, Arr Z h a c ty ∧ Exa Z h a ad ∧ P c.cls ∧ c.slots.size = N ∧ N < 2147483648 ∧ (∀ i, i < N → c.slots[i]? = some (f i)) ∧ ∀ i, i < N → fits ty (f i) = true
def own_up {α : Type} (f : Nat → α) (j : Nat) (v : α) : Nat → α := fun i => if i = j then v else f i
theorem own_up_same {α : Type} {f : Nat → α} {j : Nat} {v : α} : own_up f j v j = v := if_pos rfl
theorem own_up_ne {α : Type} {f : Nat → α} {i j : Nat} {v : α} (h : i ≠ j) : own_up f j v i = f i := if_neg h
section Fa
variable {a b : Addr} {ty : FieldType} {ad : String} {P : ClassId → Prop} {N : Nat} {f g : Nat → Value}
theorem own_Fa.ext (F : own_Fa Z h a ty ad P N f) (E : Ext h h') : own_Fa Z h' a ty ad P N f := by obtain ⟨c, A, E1, r⟩ := F; exact ⟨c, A.ext E, E1.ext E, r⟩
theorem own_Fa.other {sl : Nat} {v : Value} (F : own_Fa Z h b ty ad P N f) (W : Wr h h' a sl v) (q : b ≠ a) : own_Fa Z h' b ty ad P N f := by obtain ⟨c, A, E1, r⟩ := F; exact ⟨c, A.other W q, E1.wr W, r⟩
theorem own_Fa.keep {ws : List Addr} (F : own_Fa Z h a ty ad P N f) (K : Keep h h' ws) (q : a ∉ ws) : own_Fa Z h' a ty ad P N f := by obtain ⟨c, A, E1, r⟩ := F; exact ⟨c, ⟨K.2.1 a c A.1 q, A.2⟩, E1.keep K, r⟩
theorem own_Fa.lt (F : own_Fa Z h a ty ad P N f) : a < h.size := by obtain ⟨c, A, -⟩ := F; exact A.lt
theorem own_Fa.exa (F : own_Fa Z h a ty ad P N f) : Exa Z h a ad := by obtain ⟨c, A, E1, -⟩ := F; exact E1
theorem own_Fa.big (F : own_Fa Z h a ty ad P N f) : N < 2147483648 := by obtain ⟨c, A, E1, -, -, r, -⟩ := F; exact r
theorem own_Fa.congr (F : own_Fa Z h a ty ad P N f) (q : ∀ i, i < N → f i = g i) : own_Fa Z h a ty ad P N g := by
  obtain ⟨c, A, E1, p1, S, r, H, G⟩ := F; exact ⟨c, A, E1, p1, S, r, fun i hi => by rw [← q i hi]; exact H i hi, fun i hi => by rw [← q i hi]; exact G i hi⟩
theorem own_Fa.upd {J : Nat} {v : Value} (F : own_Fa Z h a ty ad P N f) (W : Wr h h' a J v) (hv : fits ty v = true) : own_Fa Z h' a ty ad P N (own_up f J v) := by
  obtain ⟨c, A, E1, p1, S, r, H, G⟩ := F
  refine ⟨_, A.same W, E1.wr W, p1, by rw [sz_set]; exact S, r, fun i hi => ?_, fun i hi => ?_⟩
  · by_cases u : i = J
    · subst u; rw [own_up_same]; simp [Cell.setSlot, S, hi]
    · rw [own_up_ne u]; simp only [Cell.setSlot]; rw [Array.getElem?_setIfInBounds_ne (fun q => u q.symm)]; exact H i hi
  · by_cases u : i = J
    · subst u; rw [own_up_same]; exact hv
    · rw [own_up_ne u]; exact G i hi
theorem own_nat32 {N : Nat} (h : N < 2147483648) : (Int32.ofNat N).toInt = N := by
  have : Int32.ofNat N = Int32.ofInt (N : Int) := rfl
  rw [this, Int32.toInt_ofInt]; simp only [Int.bmod_def, show (Int32.size : Nat) = 4294967296 from rfl]; omega
theorem own_clamp {N : Nat} (h : N < 2147483648) : (Int32.ofNat N).toNatClampNeg = N := by
  show (Int32.ofNat N).toInt.toNat = N; rw [own_nat32 h]; rfl
theorem own_ilt {I J : Nat} (hi : I < 2147483648) (hj : J < 2147483648) : Int32.ofNat I < Int32.ofNat J ↔ I < J := by rw [Int32.lt_iff_toInt_lt, own_nat32 hi, own_nat32 hj]; omega
theorem own_ipos {I : Nat} (hi : I < 2147483648) : ¬ Int32.ofNat I < 0 := by rw [Int32.lt_iff_toInt_lt, own_nat32 hi]; have e : (0 : Int32).toInt = 0 := rfl; omega
theorem own_isucc {I : Nat} : Int32.ofNat I + 1 = Int32.ofNat (I + 1) := (Int32.ofNat_add I 1).symm
theorem own_inbF {c : Cell} {J : Nat} (S : c.slots.size = N) (r : N < 2147483648) (h : J < N) : ¬ (Int32.ofNat J < 0 ∨ c.slots.size ≤ (Int32.ofNat J).toNatClampNeg) := by
  rw [S, own_clamp (by omega)]; rintro (q | q)
  · exact own_ipos (by omega) q
  · omega
theorem own_Fa.start {k : ClassId} {n : Int32} (A : Arr Z h a (newA k ty n) ty) (E1 : Exa Z h a ad) (p1 : P k) (hn : n.toNatClampNeg = N) (r : N < 2147483648) : own_Fa Z h a ty ad P N (fun _ => defaultValue ty) := by
  refine ⟨_, A, E1, p1, by rw [sz_new]; exact hn, r, fun i hi => ?_, fun i _ => by cases ty <;> rfl⟩
  simp [newA, hn, hi]
end Fa
theorem own_fI (X : Stand p l e R s m args below meth c T locs cells slots) (hx : p.tables.exec = Jvm.exec) (hby : c.code = B) (hZ : Z.Warmed39 s.vm) (eT : T.heap = h) {a : Addr} {ad : String} {P : ClassId → Prop} {N J : Nat} {f : Nat → Value} {v : Int32} (F : own_Fa Z h a .int ad P N f) (hJ : J < N) (hv : f J = .int v) (hd : decode B pc = .ok (.iaload, 1)) (hp : pc + 1 = pc')
    (k : own_E p.tables e below G (T.setTop (mkF m pc' Ls (.int v :: st)))) : own_E p.tables e below G (T.setTop (mkF m pc Ls (.int (Int32.ofNat J) :: .ref a :: st))) := by
  subst hp
  obtain ⟨cl, Ar, -, -, S, r, H, -⟩ := F
  exact own_go (fun t q => X.iaload hx (by rw [eT]; exact Ar.1) (State.isArrayOf_alike hZ.alike Ar.2.1) Ar.2.2 (own_inbF S r hJ) (by rw [own_clamp (by omega), H J hJ, hv]) (g := mkF m pc Ls (.int (Int32.ofNat J) :: .ref a :: st)) rfl rfl (hb hby hd) t q) k
theorem own_fD (X : Stand p l e R s m args below meth c T locs cells slots) (hx : p.tables.exec = Jvm.exec) (hby : c.code = B) (hZ : Z.Warmed39 s.vm) (eT : T.heap = h) {a : Addr} {ad : String} {P : ClassId → Prop} {N J : Nat} {f : Nat → Value} {v : UInt64} (F : own_Fa Z h a .double ad P N f) (hJ : J < N) (hv : f J = .double v) (hd : decode B pc = .ok (.daload, 1)) (hp : pc + 1 = pc')
    (k : own_E p.tables e below G (T.setTop (mkF m pc' Ls (.double v :: st)))) : own_E p.tables e below G (T.setTop (mkF m pc Ls (.int (Int32.ofNat J) :: .ref a :: st))) := by
  subst hp
  obtain ⟨cl, Ar, -, -, S, r, H, -⟩ := F
  exact own_go (fun t q => X.daload hx (by rw [eT]; exact Ar.1) (State.isArrayOf_alike hZ.alike Ar.2.1) Ar.2.2 (own_inbF S r hJ) (by rw [own_clamp (by omega), H J hJ, hv]) (g := mkF m pc Ls (.int (Int32.ofNat J) :: .ref a :: st)) rfl rfl (hb hby hd) t q) k
theorem own_fA (X : Stand p l e R s m args below meth c T locs cells slots) (hx : p.tables.exec = Jvm.exec) (hby : c.code = B) (hZ : Z.Warmed39 s.vm) (eT : T.heap = h) {a : Addr} {ty : FieldType} {ad : String} {P : ClassId → Prop} {N J : Nat} {f : Nat → Value} {v : Value} (F : own_Fa Z h a ty ad P N f) (hty : ty.isReference = true) (hJ : J < N) (hv : f J = v) (hd : decode B pc = .ok (.aaload, 1)) (hp : pc + 1 = pc')
    (k : own_E p.tables e below G (T.setTop (mkF m pc' Ls (v :: st)))) : own_E p.tables e below G (T.setTop (mkF m pc Ls (.int (Int32.ofNat J) :: .ref a :: st))) := by
  subst hp
  obtain ⟨cl, Ar, -, -, S, r, H, -⟩ := F
  exact own_go (fun t q => X.aaload hx (by rw [eT]; exact Ar.1) (State.isArrayOf_alike hZ.alike Ar.2.1) hty Ar.2.2 (own_inbF S r hJ) (by rw [own_clamp (by omega), H J hJ, hv]) (g := mkF m pc Ls (.int (Int32.ofNat J) :: .ref a :: st)) rfl rfl (hb hby hd) t q) k
theorem own_fL (X : Stand p l e R s m args below meth c T locs cells slots) (hx : p.tables.exec = Jvm.exec) (hby : c.code = B) (hZ : Z.Warmed39 s.vm) (eT : T.heap = h) {a : Addr} {ty : FieldType} {ad : String} {P : ClassId → Prop} {N : Nat} {f : Nat → Value} (F : own_Fa Z h a ty ad P N f) (hd : decode B pc = .ok (.arraylength, 1)) (hp : pc + 1 = pc')
    (k : own_E p.tables e below G (T.setTop (mkF m pc' Ls (.int (Int32.ofNat N) :: st)))) : own_E p.tables e below G (T.setTop (mkF m pc Ls (.ref a :: st))) := by
  subst hp
  obtain ⟨cl, Ar, -, -, S, r, -⟩ := F
  subst S
  exact own_go (fun t q => X.arraylength hx (by rw [eT]; exact Ar.1) (State.isArrayOf_alike hZ.alike Ar.2.1) (g := mkF m pc Ls (.ref a :: st)) rfl rfl (hb hby hd) t q) k
theorem own_gI (X : Stand p l e R s m args below meth c T locs cells slots) (hx : p.tables.exec = Jvm.exec) (hby : c.code = B) (hZ : Z.Warmed39 s.vm) (eT : T.heap = h) {a : Addr} {ad : String} {P : ClassId → Prop} {N J : Nat} {f : Nat → Value} {v : Int32} (F : own_Fa Z h a .int ad P N f) (hJ : J < N) (hd : decode B pc = .ok (.iastore, 1)) (hp : pc + 1 = pc')
    (k : ∀ (T' : State) (h' : Heap), Stand p l e R s m args below meth c T' (locs ++ [⟨a, J⟩]) cells slots → T'.heap = h' → Wr h h' a J (.int v) → own_Fa Z h' a .int ad P N (own_up f J (.int v)) → own_E p.tables e below G (T'.setTop (mkF m pc' Ls (st)))) : own_E p.tables e below G (T.setTop (mkF m pc Ls (.int v :: .int (Int32.ofNat J) :: .ref a :: st))) := by
  subst hp
  obtain ⟨cl, Ar, E1, p1, S, r, H, G'⟩ := F
  have FF : own_Fa Z h a .int ad P N f := ⟨cl, Ar, E1, p1, S, r, H, G'⟩
  obtain ⟨T', h', X', e', W', stp⟩ := stI X hx hZ eT Ar (j := Int32.ofNat J) (own_inbF S r hJ) (g := mkF m pc Ls (.int v :: .int (Int32.ofNat J) :: .ref a :: st)) rfl rfl (hb hby hd)
  rw [own_clamp (by omega)] at W' X'
  exact own_go stp (k T' h' X' e' W' (FF.upd W' rfl))
theorem own_gD (X : Stand p l e R s m args below meth c T locs cells slots) (hx : p.tables.exec = Jvm.exec) (hby : c.code = B) (hZ : Z.Warmed39 s.vm) (eT : T.heap = h) {a : Addr} {ad : String} {P : ClassId → Prop} {N J : Nat} {f : Nat → Value} {v : UInt64} (F : own_Fa Z h a .double ad P N f) (hJ : J < N) (hd : decode B pc = .ok (.dastore, 1)) (hp : pc + 1 = pc')
    (k : ∀ (T' : State) (h' : Heap), Stand p l e R s m args below meth c T' (locs ++ [⟨a, J⟩]) cells slots → T'.heap = h' → Wr h h' a J (.double v) → own_Fa Z h' a .double ad P N (own_up f J (.double v)) → own_E p.tables e below G (T'.setTop (mkF m pc' Ls (st)))) : own_E p.tables e below G (T.setTop (mkF m pc Ls (.double v :: .int (Int32.ofNat J) :: .ref a :: st))) := by
  subst hp
  obtain ⟨cl, Ar, E1, p1, S, r, H, G'⟩ := F
  have FF : own_Fa Z h a .double ad P N f := ⟨cl, Ar, E1, p1, S, r, H, G'⟩
  obtain ⟨T', h', X', e', W', stp⟩ := stD X hx hZ eT Ar (j := Int32.ofNat J) (own_inbF S r hJ) (g := mkF m pc Ls (.double v :: .int (Int32.ofNat J) :: .ref a :: st)) rfl rfl (hb hby hd)
  rw [own_clamp (by omega)] at W' X'
  exact own_go stp (k T' h' X' e' W' (FF.upd W' rfl))
theorem own_gA (X : Stand p l e R s m args below meth c T locs cells slots) (hx : p.tables.exec = Jvm.exec) (hby : c.code = B) (hZ : Z.Warmed39 s.vm) (eT : T.heap = h) {a : Addr} {ty : FieldType} {ad : String} {P : ClassId → Prop} {N J : Nat} {f : Nat → Value} {v : Value} (F : own_Fa Z h a ty ad P N f) (hty : ty.isReference = true) (hv : v.isRef = true) (S0 : Sto Z h a v) (hJ : J < N) (hd : decode B pc = .ok (.aastore, 1)) (hp : pc + 1 = pc')
    (k : ∀ (T' : State) (h' : Heap), Stand p l e R s m args below meth c T' (locs ++ [⟨a, J⟩]) cells slots → T'.heap = h' → Wr h h' a J v → own_Fa Z h' a ty ad P N (own_up f J v) → own_E p.tables e below G (T'.setTop (mkF m pc' Ls (st)))) : own_E p.tables e below G (T.setTop (mkF m pc Ls (v :: .int (Int32.ofNat J) :: .ref a :: st))) := by
  subst hp
  obtain ⟨cl, Ar, E1, p1, S, r, H, G'⟩ := F
  have FF : own_Fa Z h a ty ad P N f := ⟨cl, Ar, E1, p1, S, r, H, G'⟩
  obtain ⟨T', h', X', e', W', stp⟩ := stR X hx hZ eT Ar (j := Int32.ofNat J) (own_inbF S r hJ) hty S0 (g := mkF m pc Ls (v :: .int (Int32.ofNat J) :: .ref a :: st)) rfl rfl (hb hby hd)
  rw [own_clamp (by omega)] at W' X'
  exact own_go stp (k T' h' X' e' W' (FF.upd W' (by cases ty <;> first | (cases hty; done) | (rcases ref_cases hv with rfl | ⟨_, rfl⟩ <;> rfl))))
theorem own_stoA {a y : Addr} {ty t : FieldType} {ad C : String} {N : Nat} {f : Nat → Value} (F : own_Fa Z h a ty ad (fun k => OvrA Z k t C) N f) (E1 : Exa Z h y C) : Sto Z h a (.ref y) := by
  obtain ⟨cl, Ar, -, O, -⟩ := F; exact Sto.ofVA Ar rfl O (Ins.self E1)
theorem own_nI (X : Stand p l e R s m args below meth c T locs cells slots) (hx : p.tables.exec = Jvm.exec) (hby : c.code = B) (hZ : Z.Warmed39 s.vm) (w : (Jvm.Cond.arrayClass .int).before a0 Z = true) (eT : T.heap = h) {N cap : Nat} (hd : decode B pc = .ok (.newarray .int, 2)) (hp : pc + 2 = pc') (hcap : N ≤ cap) (hbig : cap * 8 ≤ 536870912) (hc : cells + 1 ≤ R.cells) (hl : slots + cap ≤ R.slots)
    (k : ∀ (T' : State) (h' : Heap) (b : Addr), b = h.size → Stand p l e R s m args below meth c T' locs (cells + 1) (slots + cap) → T'.heap = h' → Ext h h' → own_Fa Z h' b .int "[I" (fun _ => True) N (fun _ => .int (0 : Int32)) → own_E p.tables e below G (T'.setTop (mkF m pc' Ls (.ref b :: st)))) : own_E p.tables e below G (T.setTop (mkF m pc Ls (.int (Int32.ofNat N) :: st))) := by
  subst hp
  have r : N < 2147483648 := by omega
  obtain ⟨T', h', kA, X', e', ex, A', E', stp⟩ := newPE (aty := .int) X hx hZ w eT (g := mkF m pc Ls (.int (Int32.ofNat N) :: st)) rfl (hb hby hd) rfl (own_ipos r) (by rw [own_clamp r]; exact hcap) hbig hc hl (ad := "[I") (by decide)
  have A2 : Arr Z h' h.size (newA kA .int (Int32.ofNat N)) .int := A'
  have F2 : own_Fa Z h' h.size .int "[I" (fun _ => True) N (fun _ => defaultValue .int) := own_Fa.start A2 E' trivial (own_clamp r) r
  exact own_go stp (k T' h' h.size rfl X' e' ex F2)
theorem own_nD (X : Stand p l e R s m args below meth c T locs cells slots) (hx : p.tables.exec = Jvm.exec) (hby : c.code = B) (hZ : Z.Warmed39 s.vm) (w : (Jvm.Cond.arrayClass .double).before a0 Z = true) (eT : T.heap = h) {N cap : Nat} (hd : decode B pc = .ok (.newarray .double, 2)) (hp : pc + 2 = pc') (hcap : N ≤ cap) (hbig : cap * 8 ≤ 536870912) (hc : cells + 1 ≤ R.cells) (hl : slots + cap ≤ R.slots)
    (k : ∀ (T' : State) (h' : Heap) (b : Addr), b = h.size → Stand p l e R s m args below meth c T' locs (cells + 1) (slots + cap) → T'.heap = h' → Ext h h' → own_Fa Z h' b .double "[D" (fun _ => True) N (fun _ => .double (0 : UInt64)) → own_E p.tables e below G (T'.setTop (mkF m pc' Ls (.ref b :: st)))) : own_E p.tables e below G (T.setTop (mkF m pc Ls (.int (Int32.ofNat N) :: st))) := by
  subst hp
  have r : N < 2147483648 := by omega
  obtain ⟨T', h', kA, X', e', ex, A', E', stp⟩ := newPE (aty := .double) X hx hZ w eT (g := mkF m pc Ls (.int (Int32.ofNat N) :: st)) rfl (hb hby hd) rfl (own_ipos r) (by rw [own_clamp r]; exact hcap) hbig hc hl (ad := "[D") (by decide)
  have A2 : Arr Z h' h.size (newA kA .double (Int32.ofNat N)) .double := A'
  have F2 : own_Fa Z h' h.size .double "[D" (fun _ => True) N (fun _ => defaultValue .double) := own_Fa.start A2 E' trivial (own_clamp r) r
  exact own_go stp (k T' h' h.size rfl X' e' ex F2)
theorem own_nAI (X : Stand p l e R s m args below meth c T locs cells slots) (hx : p.tables.exec = Jvm.exec) (hby : c.code = B) (hZ : Z.Warmed39 s.vm) {own : String} {index : Nat} (hown : s.vm.findClass own = some m.cls) (w1 : (Jvm.Cond.classLink own index "[I").before a0 Z = true) (w2 : (Jvm.Cond.arrayOver (.array .int)).before a0 Z = true) (eT : T.heap = h) {N cap : Nat} (hd : decode B pc = .ok (.anewarray index, 3)) (hp : pc + 3 = pc') (hcap : N ≤ cap) (hbig : cap * 8 ≤ 536870912) (hc : cells + 1 ≤ R.cells) (hl : slots + cap ≤ R.slots)
    (k : ∀ (T' : State) (h' : Heap) (b : Addr), b = h.size → Stand p l e R s m args below meth c T' locs (cells + 1) (slots + cap) → T'.heap = h' → Ext h h' → own_Fa Z h' b (.array .int) "[[I" (fun k => OvrA Z k .int "[I") N (fun _ => .null) → own_E p.tables e below G (T'.setTop (mkF m pc' Ls (.ref b :: st)))) : own_E p.tables e below G (T.setTop (mkF m pc Ls (.int (Int32.ofNat N) :: st))) := by
  subst hp
  have r : N < 2147483648 := by omega
  obtain ⟨T', h', cA, X', e', E', A', Ex, O', stp⟩ := newRA X hx hZ hown (C := "[I") rfl w1 w2 eT (g := mkF m pc Ls (.int (Int32.ofNat N) :: st)) rfl (hb hby hd) rfl (own_ipos r) (by rw [own_clamp r]; exact hcap) hbig hc hl (ad := "[[I") rfl
  exact own_go stp (k T' h' _ rfl X' e' E' (own_Fa.start A' Ex O' (own_clamp r) r))
theorem own_nAD (X : Stand p l e R s m args below meth c T locs cells slots) (hx : p.tables.exec = Jvm.exec) (hby : c.code = B) (hZ : Z.Warmed39 s.vm) {own : String} {index : Nat} (hown : s.vm.findClass own = some m.cls) (w1 : (Jvm.Cond.classLink own index "[D").before a0 Z = true) (w2 : (Jvm.Cond.arrayOver (.array .double)).before a0 Z = true) (eT : T.heap = h) {N cap : Nat} (hd : decode B pc = .ok (.anewarray index, 3)) (hp : pc + 3 = pc') (hcap : N ≤ cap) (hbig : cap * 8 ≤ 536870912) (hc : cells + 1 ≤ R.cells) (hl : slots + cap ≤ R.slots)
    (k : ∀ (T' : State) (h' : Heap) (b : Addr), b = h.size → Stand p l e R s m args below meth c T' locs (cells + 1) (slots + cap) → T'.heap = h' → Ext h h' → own_Fa Z h' b (.array .double) "[[D" (fun k => OvrA Z k .double "[D") N (fun _ => .null) → own_E p.tables e below G (T'.setTop (mkF m pc' Ls (.ref b :: st)))) : own_E p.tables e below G (T.setTop (mkF m pc Ls (.int (Int32.ofNat N) :: st))) := by
  subst hp
  have r : N < 2147483648 := by omega
  obtain ⟨T', h', cA, X', e', E', A', Ex, O', stp⟩ := newRA X hx hZ hown (C := "[D") rfl w1 w2 eT (g := mkF m pc Ls (.int (Int32.ofNat N) :: st)) rfl (hb hby hd) rfl (own_ipos r) (by rw [own_clamp r]; exact hcap) hbig hc hl (ad := "[[D") rfl
  exact own_go stp (k T' h' _ rfl X' e' E' (own_Fa.start A' Ex O' (own_clamp r) r))
theorem own_iincN (X : Stand p l e R s m args below meth c T locs cells slots) (hx : p.tables.exec = Jvm.exec) (hby : c.code = B) {k : Nat} {i : Nat} (hd : decode B pc = .ok (.iinc k 1, 3)) (hp : pc + 3 = pc') (hl : Ls[k]? = some (.val (.int (Int32.ofNat i)))) (hl' : storeLocals Ls k (.int (Int32.ofNat (i + 1))) = some Ls')
    (k' : own_E p.tables e below G (T.setTop (mkF m pc' Ls' (st)))) : own_E p.tables e below G (T.setTop (mkF m pc Ls (st))) := own_iinc X hx hby hd hp hl (z := 1) rfl (by rw [own_isucc]; exact hl') k'
end OwnSeven

/-! the arrays of a PairWeights -/
def own_ov : Option Addr → Value
  | none => .null
  | some a => .ref a
def own_up2 (f : Nat → Nat → UInt64) (i J : Nat) (x : UInt64) : Nat → Nat → UInt64 := fun k j => if k = i ∧ j = J then x else f k j
def own_up2i (f : Nat → Nat → Int32) (i J : Nat) (x : Int32) : Nat → Nat → Int32 := fun k j => if k = i ∧ j = J then x else f k j
def own_PA (Z : State) (h : Heap) (tb wt ta nn : Addr) (N : Nat) (tA : Nat → Option Addr) (tL : Nat → Nat) (tV : Nat → Nat → Int32) (rA : Nat → Option Addr) (rL : Nat → Nat) (rV : Nat → Nat → UInt64) (tg : Nat → Int32) : Prop :=
  own_Fa Z h tb (.array .int) "[[I" (fun k => OvrA Z k .int "[I") N (fun i => own_ov (tA i)) ∧
  own_Fa Z h wt (.array .double) "[[D" (fun k => OvrA Z k .double "[D") N (fun i => own_ov (rA i)) ∧
  own_Fa Z h ta .int "[I" (fun _ => True) N (fun i => .int (tg i)) ∧
  (∀ i, i < N → ∀ t, tA i = some t → own_Fa Z h t .int "[I" (fun _ => True) (tL i) (fun j => .int (tV i j)) ∧ t ≠ ta) ∧
  (∀ i, i < N → ∀ r, rA i = some r → own_Fa Z h r .double "[D" (fun _ => True) (rL i) (fun j => .double (rV i j))) ∧
  (∀ i, i < N → ∀ k, k < N → ∀ r, rA i = some r → rA k = some r → i = k) ∧
  (∀ i, i < N → ∀ k, k < N → ∀ t, tA i = some t → tA k = some t → i = k ∨ t = nn)
section OwnPA
variable {Z : State} {h h' : Heap} {tb wt ta nn : Addr} {N : Nat} {tA : Nat → Option Addr} {tL : Nat → Nat} {tV tV' : Nat → Nat → Int32} {rA : Nat → Option Addr} {rL : Nat → Nat} {rV rV' : Nat → Nat → UInt64} {tg : Nat → Int32}
theorem own_PA.ext (P : own_PA Z h tb wt ta nn N tA tL tV rA rL rV tg) (E : Ext h h') : own_PA Z h' tb wt ta nn N tA tL tV rA rL rV tg := by
  obtain ⟨P1, P2, P3, P4, P5, P6, P7⟩ := P
  exact ⟨P1.ext E, P2.ext E, P3.ext E, fun i hi t ht => ⟨(P4 i hi t ht).1.ext E, (P4 i hi t ht).2⟩, fun i hi r hr => (P5 i hi r hr).ext E, P6, P7⟩
theorem own_PA.other {a : Addr} {sl : Nat} {v : Value} {C : String} (P : own_PA Z h tb wt ta nn N tA tL tV rA rL rV tg) (W : Wr h h' a sl v) (E : Exa Z h a C) (h1 : C ≠ "[[I") (h2 : C ≠ "[[D") (h3 : C ≠ "[I") (h4 : C ≠ "[D") : own_PA Z h' tb wt ta nn N tA tL tV rA rL rV tg := by
  obtain ⟨P1, P2, P3, P4, P5, P6, P7⟩ := P
  exact ⟨P1.other W (Exa.ne P1.exa E h1.symm), P2.other W (Exa.ne P2.exa E h2.symm), P3.other W (Exa.ne P3.exa E h3.symm), fun i hi t ht => ⟨(P4 i hi t ht).1.other W (Exa.ne (P4 i hi t ht).1.exa E h3.symm), (P4 i hi t ht).2⟩, fun i hi r hr => (P5 i hi r hr).other W (Exa.ne (P5 i hi r hr).exa E h4.symm), P6, P7⟩
theorem own_PA.congrR (P : own_PA Z h tb wt ta nn N tA tL tV rA rL rV tg) (q : ∀ i, i < N → ∀ r, rA i = some r → ∀ j, j < rL i → rV i j = rV' i j) : own_PA Z h tb wt ta nn N tA tL tV rA rL rV' tg := by
  obtain ⟨P1, P2, P3, P4, P5, P6, P7⟩ := P
  exact ⟨P1, P2, P3, P4, fun i hi r hr => (P5 i hi r hr).congr fun j hj => by rw [q i hi r hr j hj], P6, P7⟩
theorem own_PA.wrR {i J : Nat} {r : Addr} {x : UInt64} (P : own_PA Z h tb wt ta nn N tA tL tV rA rL rV tg) (hi : i < N) (hr : rA i = some r) (W : Wr h h' r J (.double x)) : own_PA Z h' tb wt ta nn N tA tL tV rA rL (own_up2 rV i J x) tg := by
  obtain ⟨P1, P2, P3, P4, P5, P6, P7⟩ := P
  have R := P5 i hi r hr
  refine ⟨P1.other W (Exa.ne P1.exa R.exa (by decide)), P2.other W (Exa.ne P2.exa R.exa (by decide)), P3.other W (Exa.ne P3.exa R.exa (by decide)), fun k hk t ht => ⟨(P4 k hk t ht).1.other W (Exa.ne (P4 k hk t ht).1.exa R.exa (by decide)), (P4 k hk t ht).2⟩, fun k hk r' hr' => ?_, P6, P7⟩
  by_cases q : k = i
  · subst q
    cases hr.symm.trans hr'
    refine (R.upd W rfl).congr fun j _ => ?_
    by_cases z : j = J
    · subst z; rw [own_up_same]; simp [own_up2]
    · rw [own_up_ne z]; simp [own_up2, z]
  · have ne : r' ≠ r := fun z => q (P6 k hk i hi r' hr' (z ▸ hr))
    exact ((P5 k hk r' hr').other W ne).congr fun j _ => by simp [own_up2, q]
theorem own_PA.wrT {i J : Nat} {t : Addr} {x : Int32} (P : own_PA Z h tb wt ta nn N tA tL tV rA rL rV tg) (hi : i < N) (ht : tA i = some t) (hn : t ≠ nn) (W : Wr h h' t J (.int x)) : own_PA Z h' tb wt ta nn N tA tL (own_up2i tV i J x) rA rL rV tg := by
  obtain ⟨P1, P2, P3, P4, P5, P6, P7⟩ := P
  obtain ⟨Q, hta⟩ := P4 i hi t ht
  refine ⟨P1.other W (Exa.ne P1.exa Q.exa (by decide)), P2.other W (Exa.ne P2.exa Q.exa (by decide)), P3.other W hta.symm, fun k hk t' ht' => ⟨?_, (P4 k hk t' ht').2⟩, fun k hk r hr => (P5 k hk r hr).other W (Exa.ne (P5 k hk r hr).exa Q.exa (by decide)), P6, P7⟩
  by_cases q : k = i
  · subst q
    cases ht.symm.trans ht'
    refine (Q.upd W rfl).congr fun j _ => ?_
    by_cases z : j = J
    · subst z; rw [own_up_same]; simp [own_up2i]
    · rw [own_up_ne z]; simp [own_up2i, z]
  · have ne : t' ≠ t := fun z => (P7 k hk i hi t' ht' (z ▸ ht)).elim q (fun y => hn (z ▸ y))
    exact ((P4 k hk t' ht').1.other W ne).congr fun j _ => by simp [own_up2i, q]
theorem own_PA.wrG {J : Nat} {x : Int32} (P : own_PA Z h tb wt ta nn N tA tL tV rA rL rV tg) (W : Wr h h' ta J (.int x)) : own_PA Z h' tb wt ta nn N tA tL tV rA rL rV (own_up tg J x) := by
  obtain ⟨P1, P2, P3, P4, P5, P6, P7⟩ := P
  refine ⟨P1.other W (Exa.ne P1.exa P3.exa (by decide)), P2.other W (Exa.ne P2.exa P3.exa (by decide)), (P3.upd W rfl).congr fun j _ => ?_, fun k hk t ht => ⟨(P4 k hk t ht).1.other W (P4 k hk t ht).2, (P4 k hk t ht).2⟩, fun k hk r hr => (P5 k hk r hr).other W (Exa.ne (P5 k hk r hr).exa P3.exa (by decide)), P6, P7⟩
  by_cases z : j = J
  · subst z; rw [own_up_same, own_up_same]
  · rw [own_up_ne z, own_up_ne z]
/-- tables[i] becomes a new table, or null -/
theorem own_PA.wrB {i L : Nat} {o : Option Addr} {V : Nat → Int32} (P : own_PA Z h tb wt ta nn N tA tL tV rA rL rV tg) (W : Wr h h' tb i (own_ov o)) (hf : ∀ t, o = some t → own_Fa Z h t .int "[I" (fun _ => True) L (fun j => .int (V j)) ∧ t ≠ ta ∧ ∀ k, k < N → tA k ≠ some t) : own_PA Z h' tb wt ta nn N (own_up tA i o) (own_up tL i L) (own_up tV i V) rA rL rV tg := by
  obtain ⟨P1, P2, P3, P4, P5, P6, P7⟩ := P
  refine ⟨(P1.upd W (by cases o <;> rfl)).congr fun j _ => ?_, P2.other W (Exa.ne P2.exa P1.exa (by decide)), P3.other W (Exa.ne P3.exa P1.exa (by decide)), fun k hk t ht => ?_, fun k hk r hr => (P5 k hk r hr).other W (Exa.ne (P5 k hk r hr).exa P1.exa (by decide)), P6, fun a ha b hb t h1 h2 => ?_⟩
  · by_cases z : j = i
    · subst z; rw [own_up_same, own_up_same]
    · rw [own_up_ne z, own_up_ne z]
  · by_cases z : k = i
    · subst z
      rw [own_up_same] at ht
      obtain ⟨f1, f2, -⟩ := hf t ht
      rw [own_up_same, own_up_same]
      exact ⟨f1.other W (Exa.ne f1.exa P1.exa (by decide)), f2⟩
    · rw [own_up_ne z] at ht
      rw [own_up_ne z, own_up_ne z]
      exact ⟨(P4 k hk t ht).1.other W (Exa.ne (P4 k hk t ht).1.exa P1.exa (by decide)), (P4 k hk t ht).2⟩
  · by_cases z : a = i <;> by_cases y : b = i
    · exact Or.inl (z.trans y.symm)
    · subst z; rw [own_up_same] at h1; rw [own_up_ne y] at h2; exact absurd h2 ((hf t h1).2.2 b hb)
    · subst y; rw [own_up_same] at h2; rw [own_up_ne z] at h1; exact absurd h1 ((hf t h2).2.2 a ha)
    · rw [own_up_ne z] at h1; rw [own_up_ne y] at h2; exact P7 a ha b hb t h1 h2
/-- weights[i] becomes a new row -/
theorem own_PA.wrW {i L : Nat} {r : Addr} {V : Nat → UInt64} (P : own_PA Z h tb wt ta nn N tA tL tV rA rL rV tg) (W : Wr h h' wt i (.ref r)) (f1 : own_Fa Z h r .double "[D" (fun _ => True) L (fun j => .double (V j))) (f2 : ∀ k, k < N → rA k ≠ some r) : own_PA Z h' tb wt ta nn N tA tL tV (own_up rA i (some r)) (own_up rL i L) (own_up rV i V) tg := by
  obtain ⟨P1, P2, P3, P4, P5, P6, P7⟩ := P
  refine ⟨P1.other W (Exa.ne P1.exa P2.exa (by decide)), (P2.upd W rfl).congr fun j _ => ?_, P3.other W (Exa.ne P3.exa P2.exa (by decide)), fun k hk t ht => ⟨(P4 k hk t ht).1.other W (Exa.ne (P4 k hk t ht).1.exa P2.exa (by decide)), (P4 k hk t ht).2⟩, fun k hk r' hr => ?_, fun a ha b hb r' h1 h2 => ?_, P7⟩
  · by_cases z : j = i
    · subst z; rw [own_up_same, own_up_same]; rfl
    · rw [own_up_ne z, own_up_ne z]
  · by_cases z : k = i
    · subst z
      rw [own_up_same] at hr
      cases hr
      rw [own_up_same, own_up_same]
      exact f1.other W (Exa.ne f1.exa P2.exa (by decide))
    · rw [own_up_ne z] at hr
      rw [own_up_ne z, own_up_ne z]
      exact (P5 k hk r' hr).other W (Exa.ne (P5 k hk r' hr).exa P2.exa (by decide))
  · by_cases z : a = i <;> by_cases y : b = i
    · exact z.trans y.symm
    · subst z; rw [own_up_same] at h1; cases h1; rw [own_up_ne y] at h2; exact absurd h2 (f2 b hb)
    · subst y; rw [own_up_same] at h2; cases h2; rw [own_up_ne z] at h1; exact absurd h1 (f2 a ha)
    · rw [own_up_ne z] at h1; rw [own_up_ne y] at h2; exact P6 a ha b hb r' h1 h2
theorem own_PA.fresh {b : Addr} (P : own_PA Z h tb wt ta nn N tA tL tV rA rL rV tg) (g : h.size ≤ b) : b ≠ ta ∧ (∀ k, k < N → tA k ≠ some b) ∧ ∀ k, k < N → rA k ≠ some b := by
  obtain ⟨P1, P2, P3, P4, P5, P6, P7⟩ := P
  have key : ∀ {x : Addr}, x < h.size → b ≠ x := fun l q => by rw [← q] at l; exact Nat.lt_irrefl _ (Nat.lt_of_lt_of_le l g)
  exact ⟨key P3.lt, fun k hk q => key (P4 k hk b q).1.lt rfl, fun k hk q => key (P5 k hk b q).lt rfl⟩
end OwnPA
/-! the slot of an item -/
def own_hash (b : Int32) : Int32 := (b * (-1640531527 : Int32)) ^^^ ((b * (-1640531527 : Int32)).toUInt32 >>> ((16 : Int32) &&& 31).toUInt32).toInt32
def own_S0 (b : Int32) (L : Nat) : Nat := (own_hash b &&& (Int32.ofNat L - (1 : Int32))).toNatClampNeg
def own_L (L : Nat) : Prop := L = 1 ∨ L = 4 ∨ L = 8
theorem own_andM (x : Int32) {L : Nat} (h : own_L L) : ∃ S : Nat, S < L ∧ x &&& (Int32.ofNat L - (1 : Int32)) = Int32.ofNat S := by
  have key : ∀ k : Nat, k < 8 → ∃ S : Nat, S < k + 1 ∧ x &&& Int32.ofNat k = Int32.ofNat S := by
    intro k hk
    refine ⟨(x &&& Int32.ofNat k).toBitVec.toNat, ?_, ?_⟩
    · rw [Int32.toBitVec_and, BitVec.toNat_and]
      have : (Int32.ofNat k).toBitVec.toNat = k := by
        show (BitVec.ofNat 32 k).toNat = k
        rw [BitVec.toNat_ofNat]; omega
      rw [this]; exact Nat.lt_succ_of_le Nat.and_le_right
    · apply Int32.toBitVec_inj.mp
      show _ = BitVec.ofNat 32 _
      rw [BitVec.ofNat_toNat, BitVec.setWidth_eq]
  rcases h with rfl | rfl | rfl
  · obtain ⟨S, h1, h2⟩ := key 0 (by decide); exact ⟨S, h1, h2⟩
  · obtain ⟨S, h1, h2⟩ := key 3 (by decide); exact ⟨S, h1, h2⟩
  · obtain ⟨S, h1, h2⟩ := key 7 (by decide); exact ⟨S, h1, h2⟩
theorem own_S0_s (b : Int32) {L : Nat} (h : own_L L) : own_S0 b L < L ∧ own_hash b &&& (Int32.ofNat L - (1 : Int32)) = Int32.ofNat (own_S0 b L) := by
  obtain ⟨S, h1, h2⟩ := own_andM (own_hash b) h
  have e : own_S0 b L = S := by unfold own_S0; rw [h2]; exact own_clamp (by rcases h with rfl | rfl | rfl <;> omega)
  rw [e]; exact ⟨h1, h2⟩
theorem own_next {L s : Nat} (h : own_L L) (hs : s < L) : (Int32.ofNat s + (1 : Int32)) &&& (Int32.ofNat L - (1 : Int32)) = Int32.ofNat ((s + 1) % L) := by
  rcases h with rfl | rfl | rfl
  · have : s = 0 := by omega
    subst this; decide
  · have : s = 0 ∨ s = 1 ∨ s = 2 ∨ s = 3 := by omega
    rcases this with rfl | rfl | rfl | rfl <;> decide
  · have : s = 0 ∨ s = 1 ∨ s = 2 ∨ s = 3 ∨ s = 4 ∨ s = 5 ∨ s = 6 ∨ s = 7 := by omega
    rcases this with rfl | rfl | rfl | rfl | rfl | rfl | rfl | rfl <;> decide
def own_probe (tv : Nat → Int32) (L : Nat) (b : Int32) : Nat → Nat → Nat
  | 0, s => s
  | k + 1, s => if tv s = b then s else if tv s = (-1 : Int32) then s else own_probe tv L b k ((s + 1) % L)
def own_slot (tv : Nat → Int32) (L : Nat) (b : Int32) : Nat := own_probe tv L b L (own_S0 b L)
theorem own_probe_hit {tv : Nat → Int32} {L k s : Nat} {b : Int32} (h : tv s = b) : own_probe tv L b (k + 1) s = s := if_pos h
theorem own_probe_free {tv : Nat → Int32} {L k s : Nat} {b : Int32} (h : tv s = (-1 : Int32)) : own_probe tv L b (k + 1) s = s := by
  show (if tv s = b then s else if tv s = (-1 : Int32) then s else own_probe tv L b k ((s + 1) % L)) = s
  by_cases q : tv s = b
  · exact if_pos q
  · exact (if_neg q).trans (if_pos h)
theorem own_probe_on {tv : Nat → Int32} {L k s : Nat} {b : Int32} (h1 : ¬ tv s = b) (h2 : ¬ tv s = (-1 : Int32)) : own_probe tv L b (k + 1) s = own_probe tv L b k ((s + 1) % L) := by
  show (if tv s = b then s else if tv s = (-1 : Int32) then s else own_probe tv L b k ((s + 1) % L)) = _
  rw [if_neg h1, if_neg h2]
theorem own_probe_s {tv : Nat → Int32} {L : Nat} {b : Int32} : ∀ (k s : Nat), s < L → (∃ d, d < k ∧ tv ((s + d) % L) = (-1 : Int32)) → own_probe tv L b k s < L ∧ (tv (own_probe tv L b k s) = b ∨ tv (own_probe tv L b k s) = (-1 : Int32))
  | 0, s, hs, ⟨d, hd, _⟩ => absurd hd (Nat.not_lt_zero _)
  | k + 1, s, hs, ⟨d, hd, hf⟩ => by
    by_cases h1 : tv s = b
    · rw [own_probe_hit h1]; exact ⟨hs, Or.inl h1⟩
    · by_cases h2 : tv s = (-1 : Int32)
      · rw [own_probe_free h2]; exact ⟨hs, Or.inr h2⟩
      · rw [own_probe_on h1 h2]
        refine own_probe_s k _ (Nat.mod_lt _ (by omega)) ?_
        cases d with
        | zero => exact absurd (by rw [Nat.add_zero, Nat.mod_eq_of_lt hs] at hf; exact hf) h2
        | succ d => exact ⟨d, by omega, by rw [Nat.mod_add_mod]; rw [show s + 1 + d = s + (d + 1) by omega]; exact hf⟩
theorem own_fw {tv : Nat → Int32} {L s s0 : Nat} (hs : s < L) (h0 : s0 < L) (hf : tv s0 = (-1 : Int32)) : ∃ d, d < L ∧ tv ((s + d) % L) = (-1 : Int32) := by
  rcases Nat.lt_or_ge s0 s with q | q
  · refine ⟨s0 + L - s, by omega, ?_⟩
    rw [show s + (s0 + L - s) = s0 + L by omega, Nat.add_mod_right, Nat.mod_eq_of_lt h0]; exact hf
  · refine ⟨s0 - s, by omega, ?_⟩
    rw [show s + (s0 - s) = s0 by omega, Nat.mod_eq_of_lt h0]; exact hf
theorem own_slot_s {tv : Nat → Int32} {L : Nat} {b : Int32} (hL : own_L L) (hf : ∃ s0, s0 < L ∧ tv s0 = (-1 : Int32)) : own_slot tv L b < L ∧ (tv (own_slot tv L b) = b ∨ tv (own_slot tv L b) = (-1 : Int32)) := by
  obtain ⟨s0, h0, hf⟩ := hf
  have := own_S0_s b hL
  exact own_probe_s L _ this.1 (own_fw this.1 h0 hf)

def own_PN (n0 : Nat) (tb wt ta nn : Addr) (N : Nat) (tA rA : Nat → Option Addr) : Prop := n0 ≤ tb ∧ n0 ≤ wt ∧ n0 ≤ ta ∧ (∀ i, i < N → ∀ t, tA i = some t → t ≠ nn → n0 ≤ t) ∧ (∀ i, i < N → ∀ r, rA i = some r → n0 ≤ r)
def own_c4 (V : Nat → Int32) : Nat := (if V 0 = (-1 : Int32) then 1 else 0) + (if V 1 = (-1 : Int32) then 1 else 0) + (if V 2 = (-1 : Int32) then 1 else 0) + (if V 3 = (-1 : Int32) then 1 else 0)
def own_Ok (N : Nat) (nn : Addr) (tA : Nat → Option Addr) (tL : Nat → Nat) (tV : Nat → Nat → Int32) (rA : Nat → Option Addr) (rL : Nat → Nat) (tg : Nat → Int32) (K : Nat) : Prop := ∀ i, i < N →
  (tA i = none ∧ (∃ r, rA i = some r) ∧ rL i = N ∧ N ≤ 2048) ∨ (tA i = some nn ∧ tL i = 1 ∧ tV i 0 = (-1 : Int32) ∧ tg i = Int32.ofNat 0 ∧ rA i = none) ∨
  (∃ t q, tA i = some t ∧ t ≠ nn ∧ tL i = 4 ∧ (∃ r, rA i = some r) ∧ rL i = 4 ∧ tg i = Int32.ofNat q ∧ 1 ≤ q ∧ q ≤ K ∧ 4 ≤ own_c4 (tV i) + q ∧ 2048 < N)
def own_Bd (K : Nat) (u : UInt64) (rV : Nat → Nat → UInt64) : Prop := Jvm.Free.Fl.Mag64 K u ∧ ∀ i j, Jvm.Free.Fl.Mag64 K (rV i j)
section OwnOk
variable {n0 : Nat} {tb wt ta nn : Addr} {N K A : Nat} {tA : Nat → Option Addr} {tL : Nat → Nat} {tV : Nat → Nat → Int32} {rA : Nat → Option Addr} {rL : Nat → Nat} {rV : Nat → Nat → UInt64} {tg : Nat → Int32} {u : UInt64}
theorem own_PN.tbl {b : Addr} (P : own_PN n0 tb wt ta nn N tA rA) (hb : n0 ≤ b) : own_PN n0 tb wt ta nn N (own_up tA A (some b)) rA := by
  obtain ⟨p1, p2, p3, p4, p5⟩ := P
  refine ⟨p1, p2, p3, fun i hi t ht hn => ?_, p5⟩
  by_cases z : i = A
  · subst z; rw [own_up_same] at ht; cases ht; exact hb
  · rw [own_up_ne z] at ht; exact p4 i hi t ht hn
theorem own_PN.tnull (P : own_PN n0 tb wt ta nn N tA rA) : own_PN n0 tb wt ta nn N (own_up tA A none) rA := by
  obtain ⟨p1, p2, p3, p4, p5⟩ := P
  refine ⟨p1, p2, p3, fun i hi t ht hn => ?_, p5⟩
  by_cases z : i = A
  · subst z; rw [own_up_same] at ht; cases ht
  · rw [own_up_ne z] at ht; exact p4 i hi t ht hn
theorem own_PN.row {b : Addr} (P : own_PN n0 tb wt ta nn N tA rA) (hb : n0 ≤ b) : own_PN n0 tb wt ta nn N tA (own_up rA A (some b)) := by
  obtain ⟨p1, p2, p3, p4, p5⟩ := P
  refine ⟨p1, p2, p3, p4, fun i hi r hr => ?_⟩
  by_cases z : i = A
  · subst z; rw [own_up_same] at hr; cases hr; exact hb
  · rw [own_up_ne z] at hr; exact p5 i hi r hr
theorem own_Ok.mono {K' : Nat} (h : own_Ok N nn tA tL tV rA rL tg K) (q : K ≤ K') : own_Ok N nn tA tL tV rA rL tg K' := fun i hi => (h i hi).imp id (Or.imp id fun ⟨t, q', a1, a2, a3, a4, a5, a6, a7, a8, r⟩ => ⟨t, q', a1, a2, a3, a4, a5, a6, a7, Nat.le_trans a8 q, r⟩)
theorem own_Ok.whole {r : Addr} {L : Nat} {V : Nat → Int32} (h : own_Ok N nn tA tL tV rA rL tg K) (hN : N ≤ 2048) : own_Ok N nn (own_up tA A none) (own_up tL A L) (own_up tV A V) (own_up rA A (some r)) (own_up rL A N) tg K := fun i hi => by
  by_cases z : i = A
  · subst z; refine Or.inl ⟨own_up_same, ⟨r, own_up_same⟩, own_up_same, hN⟩
  · rw [own_up_ne z, own_up_ne z, own_up_ne z, own_up_ne z, own_up_ne z]; exact h i hi
theorem own_c4_set (V : Nat → Int32) (S : Nat) (x : Int32) : own_c4 V ≤ own_c4 (fun j => if j = S then x else V j) + 1 := by
  have f : ∀ k : Nat, (if V k = (-1 : Int32) then 1 else 0) ≤ (if (if k = S then x else V k) = (-1 : Int32) then 1 else 0) + (if k = S then 1 else 0) := fun k => by
    by_cases z : k = S
    · simp only [z, if_true]; split <;> split <;> omega
    · simp only [z, if_false]; omega
  have g : (if 0 = S then 1 else 0) + (if 1 = S then 1 else 0) + (if 2 = S then 1 else 0) + (if 3 = S then 1 else 0) ≤ 1 := by
    split <;> split <;> split <;> split <;> omega
  unfold own_c4
  dsimp only
  have := f 0; have := f 1; have := f 2; have := f 3
  omega
theorem own_Ok.grow {t r : Addr} {S : Nat} {x : Int32} (h : own_Ok N nn tA tL tV rA rL tg K) (hN : 2048 < N) (ht : t ≠ nn) (hK : 1 ≤ K) : own_Ok N nn (own_up tA A (some t)) (own_up tL A 4) (own_up2i (own_up tV A (fun _ => (-1 : Int32))) A S x) (own_up rA A (some r)) (own_up rL A 4) (own_up tg A (Int32.ofNat 1)) K := fun i hi => by
  by_cases z : i = A
  · subst z
    refine Or.inr (Or.inr ⟨t, 1, own_up_same, ht, own_up_same, ⟨r, own_up_same⟩, own_up_same, own_up_same, Nat.le_refl _, hK, ?_, hN⟩)
    have e : own_up2i (own_up tV i (fun _ => (-1 : Int32))) i S x i = fun j => if j = S then x else (-1 : Int32) := by
      funext j; simp [own_up2i, own_up_same]
    rw [e]
    have := own_c4_set (fun _ => (-1 : Int32)) S x
    have e4 : own_c4 (fun _ => (-1 : Int32)) = 4 := rfl
    omega
  · have e : own_up2i (own_up tV A (fun _ => (-1 : Int32))) A S x i = tV i := by
      funext j; simp [own_up2i, own_up_ne z, z]
    rw [own_up_ne z, own_up_ne z, e, own_up_ne z, own_up_ne z, own_up_ne z]; exact h i hi
theorem own_Ok.more {t r : Addr} {S q : Nat} {x : Int32} (h : own_Ok N nn tA tL tV rA rL tg K) (hN : 2048 < N) (h1 : tA A = some t) (ht : t ≠ nn) (h2 : tL A = 4) (h3 : rA A = some r) (h4 : rL A = 4) (h5 : 4 ≤ own_c4 (tV A) + q) (hK : q + 1 ≤ K) : own_Ok N nn tA tL (own_up2i tV A S x) rA rL (own_up tg A (Int32.ofNat (q + 1))) K := fun i hi => by
  by_cases z : i = A
  · subst z
    refine Or.inr (Or.inr ⟨t, q + 1, h1, ht, h2, ⟨r, h3⟩, h4, own_up_same, by omega, hK, ?_, hN⟩)
    have e : own_up2i tV i S x i = fun j => if j = S then x else tV i j := by
      funext j; simp [own_up2i]
    rw [e]
    have := own_c4_set (tV i) S x
    omega
  · have e : own_up2i tV A S x i = tV i := by
      funext j; simp [own_up2i, z]
    rw [e, own_up_ne z]; exact h i hi
theorem own_free4 {V : Nat → Int32} (h : 1 ≤ own_c4 V) : ∃ s0, s0 < 4 ∧ V s0 = (-1 : Int32) := by
  unfold own_c4 at h
  by_cases a : V 0 = (-1 : Int32)
  · exact ⟨0, by decide, a⟩
  by_cases b : V 1 = (-1 : Int32)
  · exact ⟨1, by decide, b⟩
  by_cases c : V 2 = (-1 : Int32)
  · exact ⟨2, by decide, c⟩
  by_cases d : V 3 = (-1 : Int32)
  · exact ⟨3, by decide, d⟩
  simp [a, b, c, d] at h
/-- a row that is held in a table: the table's length, and a free slot -/
theorem own_Ok.free (h : own_Ok N nn tA tL tV rA rL tg K) (hK : K ≤ 3) {i : Nat} (hi : i < N) {t : Addr} (ht : tA i = some t) : own_L (tL i) ∧ ∃ s0, s0 < tL i ∧ tV i s0 = (-1 : Int32) := by
  rcases h i hi with ⟨q, -⟩ | ⟨-, q2, q3, -⟩ | ⟨t', q, -, -, q3, -, -, -, -, q8, q9, -⟩
  · rw [q] at ht; cases ht
  · rw [q2]; exact ⟨Or.inl rfl, 0, by decide, q3⟩
  · rw [q3]; exact ⟨Or.inr (Or.inl rfl), own_free4 (by omega)⟩
/-- the weight of a pair -/
def own_W (u : UInt64) (tA : Nat → Option Addr) (tL : Nat → Nat) (tV : Nat → Nat → Int32) (rV : Nat → Nat → UInt64) (i b : Nat) : UInt64 :=
  if tA i = none then rV i b else if tV i (own_slot (tV i) (tL i) (Int32.ofNat b)) = Int32.ofNat b then rV i (own_slot (tV i) (tL i) (Int32.ofNat b)) else u
def own_dec (rV : Nat → Nat → UInt64) (k : UInt64) : Nat → Nat → UInt64 := fun i j => FP.dmul (rV i j) k
def own_decI (rV : Nat → Nat → UInt64) (k : UInt64) (i J : Nat) : Nat → Nat → UInt64 := fun a j => if a < i ∨ (a = i ∧ j < J) then FP.dmul (rV a j) k else rV a j
theorem own_W_dec {k : UInt64} {i b : Nat} : own_W (FP.dmul u k) tA tL tV (own_dec rV k) i b = FP.dmul (own_W u tA tL tV rV i b) k := by
  unfold own_W own_dec; split
  · rfl
  · split <;> rfl
theorem own_W_bd {i b : Nat} (h : own_Bd K u rV) : Jvm.Free.Fl.Mag64 K (own_W u tA tL tV rV i b) := by
  unfold own_W; split
  · exact h.2 _ _
  · split
    · exact h.2 _ _
    · exact h.1
theorem own_decI_step {k : UInt64} {i J : Nat} : own_up2 (own_decI rV k i J) i J (FP.dmul (rV i J) k) = own_decI rV k i (J + 1) := by
  funext a j; unfold own_up2 own_decI
  by_cases h1 : a = i ∧ j = J
  · obtain ⟨rfl, rfl⟩ := h1; simp
  · by_cases h2 : a < i ∨ (a = i ∧ j < J)
    · rw [if_neg h1, if_pos h2, if_pos (by omega)]
    · rw [if_neg h1, if_neg h2, if_neg (by omega)]
theorem own_decI_at {k : UInt64} {i J : Nat} : own_decI rV k i J i J = rV i J := by unfold own_decI; rw [if_neg (by omega)]
theorem own_decI_0 {k : UInt64} : own_decI rV k 0 0 = rV := by funext a j; unfold own_decI; rw [if_neg (by omega)]
theorem own_Bd.dec {k : UInt64} (h : own_Bd K u rV) (hk : Jvm.Free.Fl.Mag64 1089 k) (hK : K ≤ 1200) : own_Bd (K + 1089 - 1025 + 3) (FP.dmul u k) (own_dec rV k) := ⟨Jvm.Free.Fl.dmul_mag h.1 hk (by omega) (by omega), fun i j => Jvm.Free.Fl.dmul_mag (h.2 i j) hk (by omega) (by omega)⟩
theorem own_mulnn {x k : UInt64} (h : Jvm.Free.Fl.Mag64 K x) (hk : Jvm.Free.Fl.Mag64 1089 k) (hK : K ≤ 1200) : Jvm.Free.Fl.NoNaN64 (FP.dmul x k) := ((Jvm.Free.Fl.dmul_mag h hk (by omega) (by omega)).fin (by omega)).noNaN
theorem own_addmag {x k : UInt64} (h : Jvm.Free.Fl.Mag64 K x) (hk : Jvm.Free.Fl.Mag64 K k) (hK : K ≤ 1200) : Jvm.Free.Fl.Mag64 (K + 2) (FP.dadd x k) := Jvm.Free.Fl.dadd_mag h hk (by omega)
theorem own_Bd.set {x : UInt64} {i J : Nat} (h : own_Bd K u rV) (hx : Jvm.Free.Fl.Mag64 K x) : own_Bd K u (own_up2 rV i J x) := ⟨h.1, fun a j => by unfold own_up2; split; exact hx; exact h.2 _ _⟩
theorem own_Bd.row {V : Nat → UInt64} {i : Nat} (h : own_Bd K u rV) (hx : ∀ j, Jvm.Free.Fl.Mag64 K (V j)) : own_Bd K u (own_up rV i V) := ⟨h.1, fun a j => by
  by_cases z : a = i
  · subst z; rw [own_up_same]; exact hx j
  · rw [own_up_ne z]; exact h.2 _ _⟩
theorem own_Bd.mono {K' : Nat} (h : own_Bd K u rV) (q : K ≤ K') : own_Bd K' u rV := ⟨h.1.mono q, fun i j => (h.2 i j).mono q⟩
end OwnOk
def own_fillf (v : Value) (i : Nat) (f : Nat → Value) : Nat → Value := fun j => if j < i then v else f j
theorem own_fillf_step {v : Value} {i : Nat} {f : Nat → Value} : own_up (own_fillf v i f) i v = own_fillf v (i + 1) f := by
  funext j; unfold own_up own_fillf
  by_cases h : j = i
  · rw [if_pos h, if_pos (by omega)]
  · by_cases h2 : j < i
    · rw [if_neg h, if_pos h2, if_pos (by omega)]
    · rw [if_neg h, if_neg h2, if_neg (by omega)]
theorem own_fillf_0 {v : Value} {f : Nat → Value} : own_fillf v 0 f = f := by funext j; unfold own_fillf; rw [if_neg (by omega)]
def own_s1 (u : Slot) : Prop := u = .unset ∨ ∃ v : Value, u = .val v ∧ v.category = 1
section OwnOk2
variable {nn : Addr} {N K : Nat} {tA : Nat → Option Addr} {tL : Nat → Nat} {tV : Nat → Nat → Int32} {rA : Nat → Option Addr} {rL : Nat → Nat} {rV : Nat → Nat → UInt64} {tg : Nat → Int32} {k : UInt64}
theorem own_Ok.wrow (h : own_Ok N nn tA tL tV rA rL tg K) {i : Nat} (hi : i < N) (ht : tA i = none) : (∃ r, rA i = some r) ∧ rL i = N := by
  rcases h i hi with ⟨-, q, q2, -⟩ | ⟨q, -⟩ | ⟨t, q, q1, -⟩
  · exact ⟨q, q2⟩
  · rw [ht] at q; cases q
  · rw [ht] at q1; cases q1
theorem own_Ok.trow (h : own_Ok N nn tA tL tV rA rL tg K) {i S b : Nat} (hi : i < N) {t : Addr} (ht : tA i = some t) (hS : S < tL i) (hb : b < 2147483648) (hq : tV i S = Int32.ofNat b) : (∃ r, rA i = some r) ∧ rL i = tL i := by
  rcases h i hi with ⟨q, -⟩ | ⟨-, q2, q3, -⟩ | ⟨t', q, -, -, q3, q4, q5, -⟩
  · rw [q] at ht; cases ht
  · rw [q2] at hS
    have : S = 0 := by omega
    subst this
    rw [q3] at hq
    have e := congrArg Int32.toInt hq
    rw [own_nat32 hb] at e
    have : (-1 : Int32).toInt = -1 := by decide
    omega
  · exact ⟨q4, by rw [q5, q3]⟩
theorem own_decI_skip {i a j : Nat} {r : Addr} (h : rA i = none) (hr : rA a = some r) : own_decI rV k i 0 a j = own_decI rV k (i + 1) 0 a j := by
  have : a ≠ i := fun q => by rw [q, h] at hr; cases hr
  unfold own_decI
  by_cases z : a < i
  · rw [if_pos (by omega), if_pos (by omega)]
  · rw [if_neg (by omega), if_neg (by omega)]
theorem own_decI_next {i J a j : Nat} (hJ : J = rL i) (hj : j < rL a) : own_decI rV k i J a j = own_decI rV k (i + 1) 0 a j := by
  unfold own_decI
  by_cases z : a < i
  · rw [if_pos (by omega), if_pos (by omega)]
  · by_cases y : a = i
    · subst y; rw [if_pos (by omega), if_pos (by omega)]
    · rw [if_neg (by omega), if_neg (by omega)]
end OwnOk2
theorem own_sto6 {s0 s1 s2 s3 s4 s5 u6 u7 : Slot} {v : Value} (h : own_s1 u6) (hv : v.category = 1) : storeLocals #[s0, s1, s2, s3, s4, s5, u6, u7] 6 v = some #[s0, s1, s2, s3, s4, s5, .val v, u7] := by
  rcases h with rfl | ⟨x, rfl, hx⟩ <;> simp [storeLocals, storeSelf, setAt, hv, *]
theorem own_sto7 {s0 s1 s2 s3 s4 s5 s6 u7 : Slot} {v : Value} (h : own_s1 u7) (hv : v.category = 1) : storeLocals #[s0, s1, s2, s3, s4, s5, s6, u7] 7 v = some #[s0, s1, s2, s3, s4, s5, s6, .val v] := by
  rcases h with rfl | ⟨x, rfl, hx⟩ <;> simp [storeLocals, storeSelf, setAt, hv, *]
section OwnPA2
variable {Z : State} {h h' : Heap} {tb wt ta nn : Addr} {N K : Nat} {tA : Nat → Option Addr} {tL : Nat → Nat} {tV : Nat → Nat → Int32} {rA : Nat → Option Addr} {rL : Nat → Nat} {rV : Nat → Nat → UInt64} {tg : Nat → Int32}
theorem own_Fa.keep1 {a b : Addr} {ty : FieldType} {ad : String} {P : ClassId → Prop} {M : Nat} {f : Nat → Value} (F : own_Fa Z h a ty ad P M f) (Kp : Keep h h' [b]) (q : a ≠ b) : own_Fa Z h' a ty ad P M f := F.keep Kp (own_niS q own_ni0)
theorem own_PA.keepD {b : Addr} (P : own_PA Z h tb wt ta nn N tA tL tV rA rL rV tg) (Kp : Keep h h' [b]) (Eb : Exa Z h b "[D") (f : ∀ k, k < N → rA k ≠ some b) : own_PA Z h' tb wt ta nn N tA tL tV rA rL rV tg := by
  obtain ⟨P1, P2, P3, P4, P5, P6, P7⟩ := P
  exact ⟨P1.keep1 Kp (Exa.ne P1.exa Eb (by decide)), P2.keep1 Kp (Exa.ne P2.exa Eb (by decide)), P3.keep1 Kp (Exa.ne P3.exa Eb (by decide)), fun i hi t ht => ⟨(P4 i hi t ht).1.keep1 Kp (Exa.ne (P4 i hi t ht).1.exa Eb (by decide)), (P4 i hi t ht).2⟩, fun i hi r hr => (P5 i hi r hr).keep1 Kp (fun q => f i hi (q ▸ hr)), P6, P7⟩
theorem own_PA.keepT {i : Nat} {b : Addr} {V : Nat → Int32} (P : own_PA Z h tb wt ta nn N tA tL tV rA rL rV tg) (hi : i < N) (ht : tA i = some b) (hn : b ≠ nn) (Kp : Keep h h' [b]) (F : own_Fa Z h' b .int "[I" (fun _ => True) (tL i) (fun j => .int (V j))) : own_PA Z h' tb wt ta nn N tA tL (own_up tV i V) rA rL rV tg := by
  obtain ⟨P1, P2, P3, P4, P5, P6, P7⟩ := P
  have Eb := (P4 i hi b ht).1.exa
  refine ⟨P1.keep1 Kp (Exa.ne P1.exa Eb (by decide)), P2.keep1 Kp (Exa.ne P2.exa Eb (by decide)), P3.keep1 Kp (P4 i hi b ht).2.symm, fun k hk t ht' => ⟨?_, (P4 k hk t ht').2⟩, fun k hk r hr => (P5 k hk r hr).keep1 Kp (Exa.ne (P5 k hk r hr).exa Eb (by decide)), P6, P7⟩
  by_cases z : k = i
  · subst z
    cases ht.symm.trans ht'
    rw [own_up_same]; exact F
  · rw [own_up_ne z]
    exact (P4 k hk t ht').1.keep1 Kp (fun q => (P7 k hk i hi t ht' (q ▸ ht)).elim z (fun y => hn (q ▸ y)))
theorem own_up_up {α : Type} {f : Nat → α} {i : Nat} {x y : α} : own_up (own_up f i x) i y = own_up f i y := by
  funext j; unfold own_up; split <;> rfl
theorem own_m1ne {B : Nat} (h : B < 2147483648) : ¬ (-1 : Int32) = Int32.ofNat B := fun q => by
  have e := congrArg Int32.toInt q
  rw [own_nat32 h] at e
  have : (-1 : Int32).toInt = -1 := by decide
  omega
theorem own_2048 {N : Nat} (h : N < 2147483648) : (2048 : Int32) < Int32.ofNat N ↔ 2048 < N := own_ilt (I := 2048) (by decide) h
theorem own_16 {q N : Nat} (hq : q ≤ 2) (hN : 2048 < N) (h : N < 2147483648) : (16 : Int32) * (Int32.ofNat q + (1 : Int32)) < Int32.ofNat N := by
  have : q = 0 ∨ q = 1 ∨ q = 2 := by omega
  rcases this with rfl | rfl | rfl
  · exact (own_ilt (I := 16) (by decide) h).mpr (by omega)
  · exact (own_ilt (I := 32) (by decide) h).mpr (by omega)
  · exact (own_ilt (I := 48) (by decide) h).mpr (by omega)
theorem own_Ok.tlen (h : own_Ok N nn tA tL tV rA rL tg K) {i : Nat} (hi : i < N) {t r : Addr} (ht : tA i = some t) (hr : rA i = some r) : rL i = tL i := by
  rcases h i hi with ⟨q, -⟩ | ⟨-, -, -, -, q⟩ | ⟨t', q, -, -, q3, -, q5, -⟩
  · rw [q] at ht; cases ht
  · rw [q] at hr; cases hr
  · rw [q5, q3]
end OwnPA2
theorem own_mag0 {K : Nat} (h : 1 ≤ K) : Jvm.Free.Fl.Mag64 K (0 : UInt64) := by unfold Jvm.Free.Fl.Mag64; show 0 % 9223372036854775808 < _; omega

/-! what is put into a table is found there -/
def own_set (T : Nat → Int32) (S : Nat) (x : Int32) : Nat → Int32 := fun j => if j = S then x else T j
def own_setd (T : Nat → UInt64) (S : Nat) (x : UInt64) : Nat → UInt64 := fun j => if j = S then x else T j
theorem own_set_same {T : Nat → Int32} {S : Nat} {x : Int32} : own_set T S x S = x := if_pos rfl
theorem own_set_ne {T : Nat → Int32} {S j : Nat} {x : Int32} (h : j ≠ S) : own_set T S x j = T j := if_neg h
theorem own_setd_same {T : Nat → UInt64} {S : Nat} {x : UInt64} : own_setd T S x S = x := if_pos rfl
theorem own_setd_ne {T : Nat → UInt64} {S j : Nat} {x : UInt64} (h : j ≠ S) : own_setd T S x j = T j := if_neg h
def own_cf (T : Nat → Int32) : Nat → Nat
  | 0 => 0
  | L + 1 => own_cf T L + (if T L = (-1 : Int32) then 1 else 0)
theorem own_cf_set (T : Nat → Int32) (S : Nat) (x : Int32) : ∀ L, own_cf T L ≤ own_cf (own_set T S x) L + (if S < L then 1 else 0)
  | 0 => by simp [own_cf]
  | L + 1 => by
    have ih := own_cf_set T S x L
    simp only [own_cf]
    by_cases z : L = S
    · subst z
      rw [if_neg (Nat.lt_irrefl L)] at ih
      rw [if_pos (Nat.lt_succ_self L)]
      split <;> omega
    · rw [own_set_ne z]
      by_cases y : S < L
      · rw [if_pos y] at ih
        have e1 : (if S < L + 1 then (1 : Nat) else 0) = 1 := if_pos (by omega)
        rw [e1]; omega
      · rw [if_neg y] at ih
        have e1 : (if S < L + 1 then (1 : Nat) else 0) = 0 := if_neg (by omega)
        rw [e1]; omega
theorem own_cf_free {T : Nat → Int32} : ∀ L, 1 ≤ own_cf T L → ∃ s0, s0 < L ∧ T s0 = (-1 : Int32)
  | 0, h => by simp [own_cf] at h
  | L + 1, h => by
    by_cases z : T L = (-1 : Int32)
    · exact ⟨L, Nat.lt_succ_self L, z⟩
    · simp only [own_cf] at h
      rw [if_neg z] at h
      obtain ⟨s0, h1, h2⟩ := own_cf_free L (by omega)
      exact ⟨s0, by omega, h2⟩
theorem own_cf_const : ∀ L, own_cf (fun _ => (-1 : Int32)) L = L
  | 0 => rfl
  | L + 1 => by simp only [own_cf]; rw [own_cf_const L]; simp
def own_Tv (T : Nat → Int32) (L : Nat) : Prop := ∀ p, p < L → T p ≠ (-1 : Int32) → own_slot T L (T p) = p
theorem own_Tv_const (L : Nat) : own_Tv (fun _ => (-1 : Int32)) L := fun p _ h => absurd rfl h
theorem own_probe_A {T : Nat → Int32} {L s : Nat} {k b : Int32} (hs : T s = (-1 : Int32)) : ∀ n x, own_probe T L k n x ≠ s → own_probe (own_set T s b) L k n x = own_probe T L k n x
  | 0, x, _ => rfl
  | n + 1, x, h => by
    have hx : x ≠ s := fun q => h (by rw [q]; exact own_probe_free hs)
    have e : own_set T s b x = T x := own_set_ne hx
    by_cases h1 : T x = k
    · rw [own_probe_hit h1, own_probe_hit (e.trans h1)]
    · by_cases h2 : T x = (-1 : Int32)
      · rw [own_probe_free h2, own_probe_free (e.trans h2)]
      · rw [own_probe_on h1 h2] at h ⊢
        rw [own_probe_on (by rw [e]; exact h1) (by rw [e]; exact h2)]
        exact own_probe_A hs n _ h
theorem own_probe_B {T : Nat → Int32} {L s : Nat} {b : Int32} (hs : T s = (-1 : Int32)) : ∀ n x, own_probe T L b n x = s → own_probe (own_set T s b) L b n x = s
  | 0, x, h => h
  | n + 1, x, h => by
    by_cases hx : x = s
    · subst hx; exact own_probe_hit own_set_same
    · have e : own_set T s b x = T x := own_set_ne hx
      by_cases h1 : T x = b
      · rw [own_probe_hit h1] at h; exact absurd h hx
      · by_cases h2 : T x = (-1 : Int32)
        · rw [own_probe_free h2] at h; exact absurd h hx
        · rw [own_probe_on h1 h2] at h
          rw [own_probe_on (by rw [e]; exact h1) (by rw [e]; exact h2)]
          exact own_probe_B hs n _ h
theorem own_Tv.ins {T : Nat → Int32} {L s : Nat} {b : Int32} (h : own_Tv T L) (hs : own_slot T L b = s) (hf : T s = (-1 : Int32)) : own_Tv (own_set T s b) L := fun p hp hn => by
  by_cases z : p = s
  · subst z; rw [own_set_same]; exact own_probe_B hf _ _ hs
  · rw [own_set_ne z] at hn ⊢
    have q := h p hp hn
    exact (own_probe_A hf _ _ (by rw [show own_probe T L (T p) L (own_S0 (T p) L) = p from q]; exact z)).trans q
theorem own_Tv.inj {T : Nat → Int32} {L p q : Nat} (h : own_Tv T L) (hp : p < L) (hq : q < L) (e : T p = T q) (hn : T p ≠ (-1 : Int32)) : p = q := by
  have a := h p hp hn
  have b := h q hq (e ▸ hn)
  rw [← a, e]; exact b
/-- the weight of b in a row that is held in a table -/
def own_w (u : UInt64) (T : Nat → Int32) (L : Nat) (V : Nat → UInt64) (b : Nat) : UInt64 := if T (own_slot T L (Int32.ofNat b)) = Int32.ofNat b then V (own_slot T L (Int32.ofNat b)) else u
theorem own_bn {b : Nat} (h : b < 2147483648) : Int32.ofNat b ≠ (-1 : Int32) := fun q => own_m1ne h q.symm
theorem own_w_hit {u : UInt64} {T : Nat → Int32} {L : Nat} {V : Nat → UInt64} {b p : Nat} (hb : b < 2147483648) (hT : own_Tv T L) (hp : p < L) (e : T p = Int32.ofNat b) : own_w u T L V b = V p := by
  have q := hT p hp (by rw [e]; exact own_bn hb)
  rw [e] at q
  unfold own_w; rw [q, if_pos e]
theorem own_w_miss {u : UInt64} {T : Nat → Int32} {L : Nat} {V : Nat → UInt64} {b : Nat} (hL : own_L L) (hf : ∃ s0, s0 < L ∧ T s0 = (-1 : Int32)) (h : ∀ p, p < L → T p ≠ Int32.ofNat b) : own_w u T L V b = u := by
  unfold own_w; rw [if_neg (h _ (own_slot_s hL hf).1)]
theorem own_inj {a b : Nat} (ha : a < 2147483648) (hb : b < 2147483648) (h : Int32.ofNat a = Int32.ofNat b) : a = b := by
  have e := congrArg Int32.toInt h
  rw [own_nat32 ha, own_nat32 hb] at e; omega
/-- a new item with the weight of all that aren't there -/
theorem own_w_ins {u : UInt64} {T : Nat → Int32} {L s : Nat} {V : Nat → UInt64} {B b : Nat} (hB : B < 2147483648) (hb : b < 2147483648) (hL : own_L L) (hT : own_Tv T L) (hf0 : ∃ s0, s0 < L ∧ T s0 = (-1 : Int32)) (hs : own_slot T L (Int32.ofNat B) = s) (hf : T s = (-1 : Int32)) (hf1 : ∃ s0, s0 < L ∧ own_set T s (Int32.ofNat B) s0 = (-1 : Int32)) :
    own_w u (own_set T s (Int32.ofNat B)) L (own_setd V s u) b = own_w u T L V b := by
  have hT' := hT.ins hs hf
  have hsL : s < L := hs ▸ (own_slot_s hL hf0).1
  by_cases e : b = B
  · subst e
    rw [own_w_hit hb hT' hsL own_set_same, own_setd_same]
    unfold own_w; rw [hs, if_neg (by rw [hf]; exact own_m1ne hb)]
  · by_cases ex : ∃ p, p < L ∧ T p = Int32.ofNat b
    · obtain ⟨p, hp, hpe⟩ := ex
      have ne : p ≠ s := fun q => by rw [q, hf] at hpe; exact own_m1ne hb hpe
      rw [own_w_hit hb hT hp hpe, own_w_hit hb hT' hp (by rw [own_set_ne ne]; exact hpe), own_setd_ne ne]
    · rw [own_w_miss hL hf0 fun p hp q => ex ⟨p, hp, q⟩, own_w_miss hL hf1 fun p hp q => ?_]
      by_cases z : p = s
      · subst z; rw [own_set_same] at q; exact e (own_inj hb hB q.symm)
      · rw [own_set_ne z] at q; exact ex ⟨p, hp, q⟩
/-- the table M holds the items of T before i, with their weights -/
def own_rel (T : Nat → Int32) (V : Nat → UInt64) (i : Nat) (M : Nat → Int32) (Y : Nat → UInt64) : Prop :=
  (∀ p, p < 8 → M p ≠ (-1 : Int32) → ∃ q, q < i ∧ T q = M p ∧ V q = Y p) ∧ (∀ q, q < i → T q ≠ (-1 : Int32) → ∃ p, p < 8 ∧ M p = T q ∧ Y p = V q)
theorem own_rel.skip {T : Nat → Int32} {V : Nat → UInt64} {i : Nat} {M : Nat → Int32} {Y : Nat → UInt64} (h : own_rel T V i M Y) (e : T i = (-1 : Int32)) : own_rel T V (i + 1) M Y := by
  refine ⟨fun p hp hn => ?_, fun q hq hn => ?_⟩
  · obtain ⟨q, h1, h2⟩ := h.1 p hp hn; exact ⟨q, by omega, h2⟩
  · refine h.2 q ?_ hn
    have : q ≠ i := fun z => hn (z ▸ e)
    omega
theorem own_rel.put {T : Nat → Int32} {V : Nat → UInt64} {i s : Nat} {M : Nat → Int32} {Y : Nat → UInt64} (h : own_rel T V i M Y) (hs : s < 8) (hf : M s = (-1 : Int32)) : own_rel T V (i + 1) (own_set M s (T i)) (own_setd Y s (V i)) := by
  refine ⟨fun p hp hn => ?_, fun q hq hn => ?_⟩
  · by_cases z : p = s
    · subst z; exact ⟨i, by omega, own_set_same.symm, own_setd_same.symm⟩
    · rw [own_set_ne z] at hn ⊢
      rw [own_setd_ne z]
      obtain ⟨q, h1, h2⟩ := h.1 p hp hn; exact ⟨q, by omega, h2⟩
  · by_cases z : q = i
    · subst z; exact ⟨s, hs, own_set_same, own_setd_same⟩
    · obtain ⟨p, h1, h2, h3⟩ := h.2 q (by omega) hn
      have ne : p ≠ s := fun y => hn (by rw [← h2, y, hf])
      exact ⟨p, h1, by rw [own_set_ne ne]; exact h2, by rw [own_setd_ne ne]; exact h3⟩
theorem own_rel.new {T : Nat → Int32} {V : Nat → UInt64} {i s : Nat} {M : Nat → Int32} {Y : Nat → UInt64} (h : own_rel T V i M Y) (hT : own_Tv T 4) (hi : i < 4) (hn : T i ≠ (-1 : Int32)) (hs : s < 8) (q : M s = T i ∨ M s = (-1 : Int32)) : M s = (-1 : Int32) := by
  rcases q with q | q
  · obtain ⟨k, h1, h2, -⟩ := h.1 s hs (by rw [q]; exact hn)
    have := hT.inj (show k < 4 by omega) hi (h2.trans q) (by rw [h2, q]; exact hn)
    omega
  · exact q
theorem own_rel.w {u : UInt64} {T : Nat → Int32} {V : Nat → UInt64} {M : Nat → Int32} {Y : Nat → UInt64} {b : Nat} (h : own_rel T V 4 M Y) (hb : b < 2147483648) (hT : own_Tv T 4) (hM : own_Tv M 8) (f4 : ∃ s0, s0 < 4 ∧ T s0 = (-1 : Int32)) (f8 : ∃ s0, s0 < 8 ∧ M s0 = (-1 : Int32)) : own_w u M 8 Y b = own_w u T 4 V b := by
  by_cases ex : ∃ p, p < 4 ∧ T p = Int32.ofNat b
  · obtain ⟨q, hq, hqe⟩ := ex
    obtain ⟨p, h1, h2, h3⟩ := h.2 q hq (by rw [hqe]; exact own_bn hb)
    rw [own_w_hit hb hT hq hqe, own_w_hit hb hM h1 (h2.trans hqe), h3]
  · rw [own_w_miss (Or.inr (Or.inl rfl)) f4 fun p hp q => ex ⟨p, hp, q⟩, own_w_miss (Or.inr (Or.inr rfl)) f8 fun p hp q => ?_]
    obtain ⟨k, h1, h2, -⟩ := h.1 p hp (by rw [q]; exact own_bn hb)
    exact ex ⟨k, h1, h2.trans q⟩
theorem own_rel.free {T : Nat → Int32} {V : Nat → UInt64} {s B : Nat} {M : Nat → Int32} {Y : Nat → UInt64} (h : own_rel T V 4 M Y) (hB : B < 2147483648) (hT : own_Tv T 4) (hn : ¬ T (own_slot T 4 (Int32.ofNat B)) = Int32.ofNat B) (hs : s < 8) (q : M s = Int32.ofNat B ∨ M s = (-1 : Int32)) : M s = (-1 : Int32) := by
  rcases q with q | q
  · obtain ⟨k, h1, h2, -⟩ := h.1 s hs (by rw [q]; exact own_bn hB)
    have e : T k = Int32.ofNat B := h2.trans q
    have r := hT k h1 (by rw [e]; exact own_bn hB)
    rw [e] at r
    exact absurd (by rw [r]; exact e) hn
  · exact q
/-! the state of the rows -/
def own_Ok3 (N : Nat) (nn : Addr) (tA : Nat → Option Addr) (tL : Nat → Nat) (tV : Nat → Nat → Int32) (rA : Nat → Option Addr) (rL : Nat → Nat) (tg : Nat → Int32) (K : Nat) : Prop := ∀ i, i < N →
  (tA i = none ∧ (∃ r, rA i = some r) ∧ rL i = N ∧ N ≤ 2048) ∨ (tA i = some nn ∧ tL i = 1 ∧ tV i 0 = (-1 : Int32) ∧ tg i = Int32.ofNat 0 ∧ rA i = none) ∨
  (∃ t q, tA i = some t ∧ t ≠ nn ∧ (∃ r, rA i = some r) ∧ rL i = tL i ∧ tg i = Int32.ofNat q ∧ 1 ≤ q ∧ q ≤ K ∧ own_Tv (tV i) (tL i) ∧ 2048 < N ∧ ((tL i = 4 ∧ q ≤ 2 ∧ 4 ≤ own_cf (tV i) 4 + q) ∨ (tL i = 8 ∧ q = 3 ∧ 1 ≤ own_cf (tV i) 8)))
section OwnOk3
variable {nn : Addr} {N K A : Nat} {tA : Nat → Option Addr} {tL : Nat → Nat} {tV : Nat → Nat → Int32} {rA : Nat → Option Addr} {rL : Nat → Nat} {rV : Nat → Nat → UInt64} {tg : Nat → Int32} {u : UInt64}
theorem own_Ok3.mono {K' : Nat} (h : own_Ok3 N nn tA tL tV rA rL tg K) (q : K ≤ K') : own_Ok3 N nn tA tL tV rA rL tg K' := fun i hi => (h i hi).imp id (Or.imp id fun ⟨t, q', a1, a2, a3, a4, a5, a6, a7, r⟩ => ⟨t, q', a1, a2, a3, a4, a5, a6, Nat.le_trans a7 q, r⟩)
theorem own_Ok3.free (h : own_Ok3 N nn tA tL tV rA rL tg K) (hK : K ≤ 3) {i : Nat} (hi : i < N) {t : Addr} (ht : tA i = some t) : own_L (tL i) ∧ ∃ s0, s0 < tL i ∧ tV i s0 = (-1 : Int32) := by
  rcases h i hi with ⟨q, -⟩ | ⟨-, q2, q3, -⟩ | ⟨t', q, -, -, -, -, -, -, -, -, -, ⟨q1, q2, q3⟩ | ⟨q1, q2, q3⟩⟩
  · rw [q] at ht; cases ht
  · rw [q2]; exact ⟨Or.inl rfl, 0, by decide, q3⟩
  · rw [q1]; exact ⟨Or.inr (Or.inl rfl), own_cf_free 4 (by omega)⟩
  · rw [q1]; exact ⟨Or.inr (Or.inr rfl), own_cf_free 8 q3⟩
theorem own_Ok3.wrow (h : own_Ok3 N nn tA tL tV rA rL tg K) {i : Nat} (hi : i < N) (ht : tA i = none) : (∃ r, rA i = some r) ∧ rL i = N := by
  rcases h i hi with ⟨-, q, q2, -⟩ | ⟨q, -⟩ | ⟨t, q, q1, -⟩
  · exact ⟨q, q2⟩
  · rw [ht] at q; cases q
  · rw [ht] at q1; cases q1
theorem own_Ok3.trow (h : own_Ok3 N nn tA tL tV rA rL tg K) {i S b : Nat} (hi : i < N) {t : Addr} (ht : tA i = some t) (hS : S < tL i) (hb : b < 2147483648) (hq : tV i S = Int32.ofNat b) : (∃ r, rA i = some r) ∧ rL i = tL i := by
  rcases h i hi with ⟨q, -⟩ | ⟨-, q2, q3, -⟩ | ⟨t', q, -, -, q4, q5, -⟩
  · rw [q] at ht; cases ht
  · rw [q2] at hS
    have : S = 0 := by omega
    subst this
    rw [q3] at hq; exact absurd hq (own_m1ne hb)
  · exact ⟨q4, q5⟩
theorem own_Ok3.tlen (h : own_Ok3 N nn tA tL tV rA rL tg K) {i : Nat} (hi : i < N) {t r : Addr} (ht : tA i = some t) (hr : rA i = some r) : rL i = tL i := by
  rcases h i hi with ⟨q, -⟩ | ⟨-, -, -, -, q⟩ | ⟨t', q, -, -, -, q5, -⟩
  · rw [q] at ht; cases ht
  · rw [q] at hr; cases hr
  · exact q5
theorem own_Ok3.whole {r : Addr} {L : Nat} {V : Nat → Int32} (h : own_Ok3 N nn tA tL tV rA rL tg K) (hN : N ≤ 2048) : own_Ok3 N nn (own_up tA A none) (own_up tL A L) (own_up tV A V) (own_up rA A (some r)) (own_up rL A N) tg K := fun i hi => by
  by_cases z : i = A
  · subst z; refine Or.inl ⟨own_up_same, ⟨r, own_up_same⟩, own_up_same, hN⟩
  · rw [own_up_ne z, own_up_ne z, own_up_ne z, own_up_ne z, own_up_ne z]; exact h i hi
/-- row A becomes a table of four or eight -/
theorem own_Ok3.put {t r : Addr} {q L : Nat} {M : Nat → Int32} (h : own_Ok3 N nn tA tL tV rA rL tg K) (hN : 2048 < N) (ht : t ≠ nn) (h1 : 1 ≤ q) (hK : q ≤ K) (hT : own_Tv M L) (hc : (L = 4 ∧ q ≤ 2 ∧ 4 ≤ own_cf M 4 + q) ∨ (L = 8 ∧ q = 3 ∧ 1 ≤ own_cf M 8)) : own_Ok3 N nn (own_up tA A (some t)) (own_up tL A L) (own_up tV A M) (own_up rA A (some r)) (own_up rL A L) (own_up tg A (Int32.ofNat q)) K := fun i hi => by
  by_cases z : i = A
  · subst z
    rw [own_up_same, own_up_same, own_up_same, own_up_same, own_up_same, own_up_same]
    exact Or.inr (Or.inr ⟨t, q, rfl, ht, ⟨r, rfl⟩, rfl, rfl, h1, hK, hT, hN, hc⟩)
  · rw [own_up_ne z, own_up_ne z, own_up_ne z, own_up_ne z, own_up_ne z, own_up_ne z]; exact h i hi
theorem own_up_id {α : Type} {f : Nat → α} {i : Nat} {x : α} (h : f i = x) : own_up f i x = f := by
  funext j; unfold own_up; split
  · rename_i q; rw [q, h]
  · rfl
theorem own_up2i_up {i S : Nat} {x : Int32} {M : Nat → Int32} : own_up2i (own_up tV i M) i S x = own_up tV i (own_set M S x) := by
  funext a j; unfold own_up2i own_up own_set
  by_cases z : a = i
  · simp only [z, true_and, if_true]
  · simp only [z, false_and, if_false]
theorem own_up2_up {i S : Nat} {x : UInt64} {M : Nat → UInt64} : own_up2 (own_up rV i M) i S x = own_up rV i (own_setd M S x) := by
  funext a j; unfold own_up2 own_up own_setd
  by_cases z : a = i
  · simp only [z, true_and, if_true]
  · simp only [z, false_and, if_false]
theorem own_up2i_row {i S : Nat} {x : Int32} : own_up2i tV i S x = own_up tV i (own_set (tV i) S x) := by
  rw [← own_up2i_up, own_up_id rfl]
theorem own_up2_row {i S : Nat} {x : UInt64} : own_up2 rV i S x = own_up rV i (own_setd (rV i) S x) := by
  rw [← own_up2_up, own_up_id rfl]
theorem own_W_tab {i b : Nat} {t : Addr} (h : tA i = some t) : own_W u tA tL tV rV i b = own_w u (tV i) (tL i) (rV i) b := by
  unfold own_W own_w; rw [if_neg (by rw [h]; exact Option.some_ne_none t)]
/-- the weights that a row becomes -/
theorem own_W_put {t : Addr} {L : Nat} {M : Nat → Int32} {Y : Nat → UInt64} (h : ∀ b, b < N → own_w u M L Y b = own_W u tA tL tV rV A b) : ∀ a, a < N → ∀ b, b < N → own_W u (own_up tA A (some t)) (own_up tL A L) (own_up tV A M) (own_up rV A Y) a b = own_W u tA tL tV rV a b := fun a _ b hb => by
  by_cases z : a = A
  · subst z; rw [own_W_tab own_up_same, own_up_same, own_up_same, own_up_same]; exact h b hb
  · unfold own_W; rw [own_up_ne z, own_up_ne z, own_up_ne z, own_up_ne z]
theorem own_W_unt {b : Nat} (hb : b < 2147483648) (ht : tA A = some nn) (h2 : tL A = 1) (h3 : tV A 0 = (-1 : Int32)) : own_W u tA tL tV rV A b = u := by
  rw [own_W_tab ht, h2]
  refine own_w_miss (Or.inl rfl) ⟨0, by decide, h3⟩ fun p hp q => ?_
  have : p = 0 := by omega
  subst this
  rw [h3] at q; exact own_m1ne hb q
theorem own_W_whole {L : Nat} {V : Nat → Int32} (h : ∀ b, b < N → own_W u tA tL tV rV A b = u) : ∀ a, a < N → ∀ b, b < N → own_W u (own_up tA A none) (own_up tL A L) (own_up tV A V) (own_up rV A (fun _ => u)) a b = own_W u tA tL tV rV a b := fun a _ b hb => by
  by_cases z : a = A
  · subst z; rw [h b hb]; unfold own_W; rw [if_pos own_up_same, own_up_same]
  · unfold own_W; rw [own_up_ne z, own_up_ne z, own_up_ne z, own_up_ne z]
/-- the share is added -/
theorem own_W_addW {B : Nat} {x : UInt64} (ht : tA A = none) (a b : Nat) : own_W u tA tL tV (own_up2 rV A B x) a b = if a = A ∧ b = B then x else own_W u tA tL tV rV a b := by
  by_cases z : a = A
  · subst z
    unfold own_W own_up2; rw [if_pos ht, if_pos ht]
  · rw [if_neg (fun q => z q.1)]
    unfold own_W own_up2
    simp only [z, false_and, if_false]
theorem own_W_addT {B J : Nat} {t : Addr} {x : UInt64} (hB : B < 2147483648) (ht : tA A = some t) (hJ : own_slot (tV A) (tL A) (Int32.ofNat B) = J) (hq : tV A J = Int32.ofNat B) (a b : Nat) (hb : b < 2147483648) : own_W u tA tL tV (own_up2 rV A J x) a b = if a = A ∧ b = B then x else own_W u tA tL tV rV a b := by
  by_cases z : a = A
  · subst z
    rw [own_W_tab ht, own_W_tab ht]
    unfold own_w
    by_cases y : b = B
    · subst y; rw [hJ, if_pos hq, if_pos ⟨rfl, rfl⟩]; simp [own_up2]
    · rw [show (if a = a ∧ b = B then x else (if tV a (own_slot (tV a) (tL a) (Int32.ofNat b)) = Int32.ofNat b then rV a (own_slot (tV a) (tL a) (Int32.ofNat b)) else u)) = (if tV a (own_slot (tV a) (tL a) (Int32.ofNat b)) = Int32.ofNat b then rV a (own_slot (tV a) (tL a) (Int32.ofNat b)) else u) from if_neg (fun q => y q.2)]
      split
      · rename_i q
        have ne : own_slot (tV a) (tL a) (Int32.ofNat b) ≠ J := fun w => y (own_inj hb hB (by rw [← q, w, hq]))
        simp [own_up2, ne]
      · rfl
  · rw [if_neg (fun q => z q.1)]
    unfold own_W own_up2
    simp only [z, false_and, if_false]
theorem own_W_atW {B : Nat} (ht : tA A = none) : own_W u tA tL tV rV A B = rV A B := if_pos ht
theorem own_W_atT {B J : Nat} {t : Addr} (ht : tA A = some t) (hJ : own_slot (tV A) (tL A) (Int32.ofNat B) = J) (hq : tV A J = Int32.ofNat B) : own_W u tA tL tV rV A B = rV A J := by
  rw [own_W_tab ht]; unfold own_w; rw [hJ, if_pos hq]
end OwnOk3
section OwnPA3
variable {Z : State} {h h' : Heap} {tb wt ta nn b b2 : Addr} {N K A L : Nat} {tA : Nat → Option Addr} {tL : Nat → Nat} {tV : Nat → Nat → Int32} {rA : Nat → Option Addr} {rL : Nat → Nat} {rV : Nat → Nat → UInt64} {tg : Nat → Int32} {M : Nat → Int32} {Y : Nat → UInt64} {u : UInt64}
theorem own_PA.tabAt (P : own_PA Z h tb wt ta nn N (own_up tA A (some b)) (own_up tL A L) (own_up tV A M) rA rL rV tg) (hA : A < N) : own_Fa Z h b .int "[I" (fun _ => True) L (fun j => .int (M j)) := by
  have q := (P.2.2.2.1 A hA b own_up_same).1
  rw [own_up_same, own_up_same] at q; exact q
theorem own_PA.rowAt (P : own_PA Z h tb wt ta nn N tA tL tV (own_up rA A (some b2)) (own_up rL A L) (own_up rV A Y) tg) (hA : A < N) : own_Fa Z h b2 .double "[D" (fun _ => True) L (fun j => .double (Y j)) := by
  have q := P.2.2.2.2.1 A hA b2 own_up_same
  rw [own_up_same, own_up_same] at q; exact q
theorem own_setd_mag {K : Nat} {S : Nat} {x : UInt64} (h : ∀ j, Jvm.Free.Fl.Mag64 K (Y j)) (hx : Jvm.Free.Fl.Mag64 K x) (j : Nat) : Jvm.Free.Fl.Mag64 K (own_setd Y S x j) := by
  unfold own_setd; split
  · exact hx
  · exact h j
theorem own_cf1 {S L : Nat} {x : Int32} {c : Nat} (h : c + 1 ≤ own_cf M L) : c ≤ own_cf (own_set M S x) L := by
  have := own_cf_set M S x L
  have e : (if S < L then 1 else 0) ≤ 1 := by split <;> omega
  omega
theorem own_pres {T : Nat → Int32} {s : Nat} {k : Int32} (hs : own_slot T L k = s) (hf : T s = (-1 : Int32)) : own_set T s k (own_slot (own_set T s k) L k) = k := by
  have e : own_slot (own_set T s k) L k = s := own_probe_B hf _ _ hs
  rw [e]; exact own_set_same
theorem own_w_first {B s b : Nat} (hB : B < 2147483648) (hb : b < 2147483648) (hs : own_slot (fun _ => (-1 : Int32)) 4 (Int32.ofNat B) = s) : own_w u (own_set (fun _ => (-1 : Int32)) s (Int32.ofNat B)) 4 (own_setd (fun _ => 0) s u) b = u := by
  have hL : own_L 4 := Or.inr (Or.inl rfl)
  rw [own_w_ins hB hb hL (own_Tv_const 4) ⟨0, by decide, rfl⟩ hs rfl (own_cf_free 4 (own_cf1 (c := 1) (by rw [own_cf_const]; decide)))]
  exact own_w_miss hL ⟨0, by decide, rfl⟩ fun p hp q => own_m1ne hb q
theorem own_st6 {s0 s1 s2 s3 s4 s5 u6 : Slot} {v : Value} (h : own_s1 u6) (hv : v.category = 1) : storeLocals #[s0, s1, s2, s3, s4, s5, u6] 6 v = some #[s0, s1, s2, s3, s4, s5, .val v] := by
  rcases h with rfl | ⟨x, rfl, hx⟩ <;> simp [storeLocals, storeSelf, setAt, hv, *]
end OwnPA3

theorem own_none {Z : State} {args : Array Value} {t : Term} {nn : Addr} (e : t.eval args Z none [] Z = some (.ref nn)) (k1 : (Jvm.Cond.arrayOf t .int).value args Z none Z [] = some true) (k2 : (Jvm.Cond.exactly t "[I").value args Z none Z [] = some true) (k3 : (Jvm.Cond.eq (.length t) (.int (1 : Int32))).value args Z none Z [] = some true) (k4 : (Jvm.Cond.eq (.elem t (.int (0 : Int32))) (.int (-1 : Int32))).value args Z none Z [] = some true) : own_Fa Z Z.heap nn .int "[I" (fun _ => True) 1 (fun _ => .int (-1 : Int32)) := by
  have E := Exa.start e k2
  obtain ⟨c, A⟩ := Arr.start e k1
  have l1 := eqv_i (Term.int_eval (1)) k3
  have l2 := eqv_i (Term.int_eval (-1)) k4
  have ha : Z.arrayAt? nn = some c := IntBox.arrayAt_of A.1 A.2.1 A.2.2
  rw [elem_f e (Term.int_eval (0)) ha (by decide)] at l2
  have l2' : c.slots[0]? = some (.int (-1 : Int32)) := l2
  have hs : c.slots.size = 1 := by
    by_cases q : c.slots.size < 2 ^ 31
    · rw [len_f e ha q] at l1
      have q2 : c.slots.size.toInt32 = (1 : Int32) := by simpa using l1
      have q3 := congrArg Int32.toInt q2
      have q4 : (c.slots.size.toInt32).toInt = c.slots.size := own_nat32 (by omega)
      rw [q4] at q3
      have : (1 : Int32).toInt = 1 := rfl
      omega
    · simp [Term.eval, e, ha, q] at l1
  exact ⟨c, A, E, trivial, hs, by decide, fun i hi => by
    have : i = 0 := by omega
    subst this; exact l2', fun i hi => rfl⟩
theorem own_andB (x k : Int32) (hk : 0 ≤ k.toInt) : 0 ≤ (x &&& k).toInt ∧ (x &&& k).toInt ≤ k.toInt := by
  have kb : k.toBitVec.msb = false := by rw [BitVec.msb_eq_false_iff_two_mul_lt]; have := Int32.toInt_lt k; rw [← Int32.toInt_toBitVec, BitVec.toInt_eq_toNat_cond] at hk; have := k.toBitVec.isLt; split at hk <;> omega
  have e1 : k.toInt = k.toBitVec.toNat := by rw [← Int32.toInt_toBitVec]; exact BitVec.toInt_eq_toNat_of_msb kb
  have m2 : (x.toBitVec &&& k.toBitVec).msb = false := by rw [BitVec.msb_and, kb, Bool.and_false]
  have e2 : (x &&& k).toInt = (x.toBitVec &&& k.toBitVec).toNat := by rw [← Int32.toInt_toBitVec, Int32.toBitVec_and]; exact BitVec.toInt_eq_toNat_of_msb m2
  rw [e1, e2, BitVec.toNat_and]
  exact ⟨by omega, Int.ofNat_le.mpr Nat.and_le_right⟩
theorem own_asNat {x : Int32} (h : 0 ≤ x.toInt) : x = Int32.ofNat x.toInt.toNat := by
  apply Int32.toInt_inj.mp
  have := Int32.toInt_lt x
  rw [own_nat32 (by omega)]; omega
theorem own_nvk {x k v : Int32} {c d : Int} (hc : 0 ≤ k.toInt) (hk : k.toInt ≤ d) (hd : d ≤ 63) {z : Int32} (hz : z.toInt = c) (c1 : 1 ≤ c) (c2 : c ≤ 2049) (h : z + (x &&& k) = v) : ∃ N : Nat, 1 ≤ N ∧ N ≤ 2112 ∧ v = Int32.ofNat N := by
  have b := own_andB x k hc
  have e : v.toInt = z.toInt + (x &&& k).toInt := by
    rw [← h, Int32.toInt_add, hz]; simp only [Int.bmod_def]; omega
  exact ⟨v.toInt.toNat, by omega, by omega, own_asNat (by omega)⟩
theorem own_nv7 {x v : Int32} (h : (1 : Int32) + (x &&& (7 : Int32)) = v) : ∃ N : Nat, 1 ≤ N ∧ N ≤ 2112 ∧ v = Int32.ofNat N := own_nvk (c := 1) (d := 7) (by decide) (by decide) (by decide) rfl (by decide) (by decide) h
theorem own_nv63 {x v : Int32} (h : (2049 : Int32) + (x &&& (63 : Int32)) = v) : ∃ N : Nat, 1 ≤ N ∧ N ≤ 2112 ∧ v = Int32.ofNat N := own_nvk (c := 2049) (d := 63) (by decide) (by decide) (by decide) rfl (by decide) (by decide) h
theorem own_nz {N : Nat} (h1 : 1 ≤ N) (h2 : N ≤ 2112) : Int32.ofNat N ≠ 0 := fun q => by
  have e := congrArg Int32.toInt q
  rw [own_nat32 (by omega)] at e
  have : (0 : Int32).toInt = 0 := rfl
  omega
theorem own_item {N : Nat} (h1 : 1 ≤ N) (h2 : N ≤ 2112) {x k v : Int32} (hk : 0 ≤ k.toInt) (h : (x &&& k) % Int32.ofNat N = v) : ∃ A : Nat, A < N ∧ v = Int32.ofNat A := by
  have b := own_andB x k hk
  have e : v.toInt = (x &&& k).toInt.tmod N := by rw [← h, Int32.toInt_mod, own_nat32 (by omega)]
  rw [Int.tmod_eq_emod_of_nonneg b.1] at e
  have m1 := Int.emod_nonneg (x &&& k).toInt (show (N : Int) ≠ 0 by omega)
  have m2 := Int.emod_lt_of_pos (x &&& k).toInt (show 0 < (N : Int) by omega)
  exact ⟨v.toInt.toNat, by omega, own_asNat (by omega)⟩
theorem own_256 : (4643211215818981376 : UInt64) = FP.l2d 256 := by decide +kernel
theorem own_hnn {nn x : Nat} {a : Nat} (h : nn < a) (h2 : a ≤ x) : x ≠ nn := by omega
theorem own_four : (4616189618054758400 : UInt64) = FP.l2d 4 := by decide +kernel
theorem own_sixteen : (4625196817309499392 : UInt64) = FP.l2d 16 := by decide +kernel
theorem own_dvm' {y : UInt64} {k : Int64} (h : y = FP.l2d k) (hk : k ≠ 0) (x : Int64) : Jvm.Free.Fl.Mag64 1089 (FP.ddiv (FP.l2d x) y) := by
  rw [h]
  have q := ddiv_mag (K := 1088) (L := 1023) (Jvm.Free.Fl.l2d_mag x) (l2d_big hk) (by decide) (by decide)
  exact q.mono (by decide)
theorem own_dvm {y : UInt64} {k : Int64} (h : y = FP.l2d k) (x : Int64) (hk : k ≠ 0 := by decide) : Jvm.Free.Fl.Mag64 1089 (FP.ddiv (FP.l2d x) y) := own_dvm' h hk x
theorem own_dvn {y : UInt64} {k : Int64} (h : y = FP.l2d k) (x : Int64) (hk : k ≠ 0 := by decide) : Jvm.Free.Fl.NoNaN64 (FP.ddiv (FP.l2d x) y) := ((own_dvm' h hk x).fin (by decide)).noNaN
theorem own_1m {N : Nat} (h1 : 1 ≤ N) (h2 : N ≤ 2112) : Jvm.Free.Fl.Mag64 1089 (FP.ddiv (4607182418800017408 : UInt64) (FP.l2d (Int32.ofNat N).toInt64)) := by
  rw [show (4607182418800017408 : UInt64) = FP.l2d 1 by decide +kernel]
  have nz : (Int32.ofNat N).toInt64 ≠ 0 := fun q => by
    have e := congrArg Int64.toInt q
    rw [c_i2l, own_nat32 (by omega)] at e
    have : (0 : Int64).toInt = 0 := rfl
    omega
  have q := ddiv_mag (K := 1088) (L := 1023) (Jvm.Free.Fl.l2d_mag 1) (l2d_big nz) (by decide) (by decide)
  exact q.mono (by decide)
theorem own_1n {N : Nat} (h1 : 1 ≤ N) (h2 : N ≤ 2112) : Jvm.Free.Fl.NoNaN64 (FP.ddiv (4607182418800017408 : UInt64) (FP.l2d (Int32.ofNat N).toInt64)) := ((own_1m h1 h2).fin (by decide)).noNaN

theorem ow_0 {Z : State} {a0 : Array Value} (hw : ∀ d ∈ tables_1, d.before a0 Z = true) : (Jvm.Cond.methodLink "com/example/shopwright/shopwright/search/PairWeightsWeightPinLaw" (8 : Nat) ({ cls := "com/example/shopwright/shopwright/search/PairWeightsWeightPinLaw", name := "item", desc := "(II)I" } : Jvm.MethodName)).before a0 Z = true := hw _ (List.mem_of_getElem? (i := 0) rfl)
theorem ow_1 {Z : State} {a0 : Array Value} (hw : ∀ d ∈ tables_1, d.before a0 Z = true) : (Jvm.Cond.static ({ cls := "com/example/shopwright/shopwright/search/PairWeightsWeightPinLaw", name := "item", desc := "(II)I" } : Jvm.MethodName)).before a0 Z = true := hw _ (List.mem_of_getElem? (i := 1) rfl)
theorem ow_2 {Z : State} {a0 : Array Value} (hw : ∀ d ∈ tables_1, d.before a0 Z = true) : (Jvm.Cond.initialized "com/example/shopwright/shopwright/search/PairWeightsWeightPinLaw").before a0 Z = true := hw _ (List.mem_of_getElem? (i := 2) rfl)
theorem ow_3 {Z : State} {a0 : Array Value} (hw : ∀ d ∈ tables_1, d.before a0 Z = true) : (Jvm.Cond.code ({ cls := "com/example/shopwright/shopwright/search/PairWeightsWeightPinLaw", name := "item", desc := "(II)I" } : Jvm.MethodName) method_2_code (2 : Nat) (Option.some Jvm.ClassFile.FieldType.int)).before a0 Z = true := hw _ (List.mem_of_getElem? (i := 3) rfl)
theorem ow_4 {Z : State} {a0 : Array Value} (hw : ∀ d ∈ tables_1, d.before a0 Z = true) : (Jvm.Cond.constant "com/example/shopwright/shopwright/search/PairWeightsWeightPinLaw" (7 : Nat) (65535 : Int32)).before a0 Z = true := hw _ (List.mem_of_getElem? (i := 4) rfl)
theorem ow_5 {Z : State} {a0 : Array Value} (hw : ∀ d ∈ tables_1, d.before a0 Z = true) : (Jvm.Cond.constantDouble "com/example/shopwright/shopwright/search/PairWeightsWeightPinLaw" (14 : Nat) (4643211215818981376 : UInt64)).before a0 Z = true := hw _ (List.mem_of_getElem? (i := 5) rfl)
theorem ow_6 {Z : State} {a0 : Array Value} (hw : ∀ d ∈ tables_1, d.before a0 Z = true) : (Jvm.Cond.classLink "com/example/shopwright/shopwright/search/PairWeightsWeightPinLaw" (16 : Nat) "com/example/shopwright/shopwright/search/PairWeights").before a0 Z = true := hw _ (List.mem_of_getElem? (i := 6) rfl)
theorem ow_7 {Z : State} {a0 : Array Value} (hw : ∀ d ∈ tables_1, d.before a0 Z = true) : (Jvm.Cond.instantiable "com/example/shopwright/shopwright/search/PairWeights" (5 : Nat)).before a0 Z = true := hw _ (List.mem_of_getElem? (i := 7) rfl)
theorem ow_8 {Z : State} {a0 : Array Value} (hw : ∀ d ∈ tables_1, d.before a0 Z = true) : (Jvm.Cond.initialized "com/example/shopwright/shopwright/search/PairWeights").before a0 Z = true := hw _ (List.mem_of_getElem? (i := 8) rfl)
theorem ow_9 {Z : State} {a0 : Array Value} (hw : ∀ d ∈ tables_1, d.before a0 Z = true) : (Jvm.Cond.methodLink "com/example/shopwright/shopwright/search/PairWeightsWeightPinLaw" (18 : Nat) ({ cls := "com/example/shopwright/shopwright/search/PairWeights", name := "<init>", desc := "(I)V" } : Jvm.MethodName)).before a0 Z = true := hw _ (List.mem_of_getElem? (i := 9) rfl)
theorem ow_10 {Z : State} {a0 : Array Value} (hw : ∀ d ∈ tables_1, d.before a0 Z = true) : (Jvm.Cond.instanceMethod ({ cls := "com/example/shopwright/shopwright/search/PairWeights", name := "<init>", desc := "(I)V" } : Jvm.MethodName)).before a0 Z = true := hw _ (List.mem_of_getElem? (i := 10) rfl)
theorem ow_11 {Z : State} {a0 : Array Value} (hw : ∀ d ∈ tables_1, d.before a0 Z = true) : (Jvm.Cond.code ({ cls := "com/example/shopwright/shopwright/search/PairWeights", name := "<init>", desc := "(I)V" } : Jvm.MethodName) prog_39_method_1_code (2 : Nat) (Option.none : Option Jvm.ClassFile.FieldType)).before a0 Z = true := hw _ (List.mem_of_getElem? (i := 11) rfl)
theorem ow_12 {Z : State} {a0 : Array Value} (hw : ∀ d ∈ tables_1, d.before a0 Z = true) : (Jvm.Cond.methodLink "com/example/shopwright/shopwright/search/PairWeights" (1 : Nat) ({ cls := "java/lang/Object", name := "<init>", desc := "()V" } : Jvm.MethodName)).before a0 Z = true := hw _ (List.mem_of_getElem? (i := 12) rfl)
theorem ow_13 {Z : State} {a0 : Array Value} (hw : ∀ d ∈ tables_1, d.before a0 Z = true) : (Jvm.Cond.instanceMethod ({ cls := "java/lang/Object", name := "<init>", desc := "()V" } : Jvm.MethodName)).before a0 Z = true := hw _ (List.mem_of_getElem? (i := 13) rfl)
theorem ow_14 {Z : State} {a0 : Array Value} (hw : ∀ d ∈ tables_1, d.before a0 Z = true) : (Jvm.Cond.code ({ cls := "java/lang/Object", name := "<init>", desc := "()V" } : Jvm.MethodName) object_method_1_code (1 : Nat) (Option.none : Option Jvm.ClassFile.FieldType)).before a0 Z = true := hw _ (List.mem_of_getElem? (i := 14) rfl)
theorem ow_15 {Z : State} {a0 : Array Value} (hw : ∀ d ∈ tables_1, d.before a0 Z = true) : (Jvm.Cond.fieldLink "com/example/shopwright/shopwright/search/PairWeights" (7 : Nat) "com/example/shopwright/shopwright/search/PairWeights" "count" "I").before a0 Z = true := hw _ (List.mem_of_getElem? (i := 15) rfl)
theorem ow_16 {Z : State} {a0 : Array Value} (hw : ∀ d ∈ tables_1, d.before a0 Z = true) : (Jvm.Cond.laysFinal "com/example/shopwright/shopwright/search/PairWeights" "com/example/shopwright/shopwright/search/PairWeights" "count" "I").before a0 Z = true := hw _ (List.mem_of_getElem? (i := 16) rfl)
theorem ow_17 {Z : State} {a0 : Array Value} (hw : ∀ d ∈ tables_1, d.before a0 Z = true) : (Jvm.Cond.classLink "com/example/shopwright/shopwright/search/PairWeights" (13 : Nat) "[I").before a0 Z = true := hw _ (List.mem_of_getElem? (i := 17) rfl)
theorem ow_18 {Z : State} {a0 : Array Value} (hw : ∀ d ∈ tables_1, d.before a0 Z = true) : (Jvm.Cond.arrayOver (Jvm.ClassFile.FieldType.array Jvm.ClassFile.FieldType.int)).before a0 Z = true := hw _ (List.mem_of_getElem? (i := 18) rfl)
theorem ow_19 {Z : State} {a0 : Array Value} (hw : ∀ d ∈ tables_1, d.before a0 Z = true) : (Jvm.Cond.fieldLink "com/example/shopwright/shopwright/search/PairWeights" (15 : Nat) "com/example/shopwright/shopwright/search/PairWeights" "tables" "[[I").before a0 Z = true := hw _ (List.mem_of_getElem? (i := 19) rfl)
theorem ow_20 {Z : State} {a0 : Array Value} (hw : ∀ d ∈ tables_1, d.before a0 Z = true) : (Jvm.Cond.laysFinal "com/example/shopwright/shopwright/search/PairWeights" "com/example/shopwright/shopwright/search/PairWeights" "tables" "[[I").before a0 Z = true := hw _ (List.mem_of_getElem? (i := 20) rfl)
theorem ow_21 {Z : State} {a0 : Array Value} (hw : ∀ d ∈ tables_1, d.before a0 Z = true) : (Jvm.Cond.fieldLink "com/example/shopwright/shopwright/search/PairWeights" (19 : Nat) "com/example/shopwright/shopwright/search/PairWeights" "NONE" "[I").before a0 Z = true := hw _ (List.mem_of_getElem? (i := 21) rfl)
theorem ow_22 {Z : State} {a0 : Array Value} (hw : ∀ d ∈ tables_1, d.before a0 Z = true) : (Jvm.Cond.laysStatic "com/example/shopwright/shopwright/search/PairWeights" "NONE" "[I").before a0 Z = true := hw _ (List.mem_of_getElem? (i := 22) rfl)
theorem ow_23 {Z : State} {a0 : Array Value} (hw : ∀ d ∈ tables_1, d.before a0 Z = true) : (Jvm.Cond.methodLink "com/example/shopwright/shopwright/search/PairWeights" (22 : Nat) ({ cls := "java/util/Arrays", name := "fill", desc := "([Ljava/lang/Object;Ljava/lang/Object;)V" } : Jvm.MethodName)).before a0 Z = true := hw _ (List.mem_of_getElem? (i := 23) rfl)
theorem ow_24 {Z : State} {a0 : Array Value} (hw : ∀ d ∈ tables_1, d.before a0 Z = true) : (Jvm.Cond.static ({ cls := "java/util/Arrays", name := "fill", desc := "([Ljava/lang/Object;Ljava/lang/Object;)V" } : Jvm.MethodName)).before a0 Z = true := hw _ (List.mem_of_getElem? (i := 24) rfl)
theorem ow_25 {Z : State} {a0 : Array Value} (hw : ∀ d ∈ tables_1, d.before a0 Z = true) : (Jvm.Cond.initialized "java/util/Arrays").before a0 Z = true := hw _ (List.mem_of_getElem? (i := 25) rfl)
theorem ow_26 {Z : State} {a0 : Array Value} (hw : ∀ d ∈ tables_1, d.before a0 Z = true) : (Jvm.Cond.code ({ cls := "java/util/Arrays", name := "fill", desc := "([Ljava/lang/Object;Ljava/lang/Object;)V" } : Jvm.MethodName) jdk_65_method_117_code (4 : Nat) (Option.none : Option Jvm.ClassFile.FieldType)).before a0 Z = true := hw _ (List.mem_of_getElem? (i := 26) rfl)
theorem ow_28 {Z : State} {a0 : Array Value} (hw : ∀ d ∈ tables_1, d.before a0 Z = true) : (Jvm.Cond.classLink "com/example/shopwright/shopwright/search/PairWeights" (28 : Nat) "[D").before a0 Z = true := hw _ (List.mem_of_getElem? (i := 28) rfl)
theorem ow_29 {Z : State} {a0 : Array Value} (hw : ∀ d ∈ tables_1, d.before a0 Z = true) : (Jvm.Cond.arrayOver (Jvm.ClassFile.FieldType.array Jvm.ClassFile.FieldType.double)).before a0 Z = true := hw _ (List.mem_of_getElem? (i := 29) rfl)
theorem ow_30 {Z : State} {a0 : Array Value} (hw : ∀ d ∈ tables_1, d.before a0 Z = true) : (Jvm.Cond.fieldLink "com/example/shopwright/shopwright/search/PairWeights" (30 : Nat) "com/example/shopwright/shopwright/search/PairWeights" "weights" "[[D").before a0 Z = true := hw _ (List.mem_of_getElem? (i := 30) rfl)
theorem ow_31 {Z : State} {a0 : Array Value} (hw : ∀ d ∈ tables_1, d.before a0 Z = true) : (Jvm.Cond.laysFinal "com/example/shopwright/shopwright/search/PairWeights" "com/example/shopwright/shopwright/search/PairWeights" "weights" "[[D").before a0 Z = true := hw _ (List.mem_of_getElem? (i := 31) rfl)
theorem ow_32 {Z : State} {a0 : Array Value} (hw : ∀ d ∈ tables_1, d.before a0 Z = true) : (Jvm.Cond.arrayClass Jvm.ClassFile.FieldType.int).before a0 Z = true := hw _ (List.mem_of_getElem? (i := 32) rfl)
theorem ow_33 {Z : State} {a0 : Array Value} (hw : ∀ d ∈ tables_1, d.before a0 Z = true) : (Jvm.Cond.fieldLink "com/example/shopwright/shopwright/search/PairWeights" (34 : Nat) "com/example/shopwright/shopwright/search/PairWeights" "taught" "[I").before a0 Z = true := hw _ (List.mem_of_getElem? (i := 33) rfl)
theorem ow_34 {Z : State} {a0 : Array Value} (hw : ∀ d ∈ tables_1, d.before a0 Z = true) : (Jvm.Cond.laysFinal "com/example/shopwright/shopwright/search/PairWeights" "com/example/shopwright/shopwright/search/PairWeights" "taught" "[I").before a0 Z = true := hw _ (List.mem_of_getElem? (i := 34) rfl)
theorem ow_35 {Z : State} {a0 : Array Value} (hw : ∀ d ∈ tables_1, d.before a0 Z = true) : (Jvm.Cond.fieldLink "com/example/shopwright/shopwright/search/PairWeights" (37 : Nat) "com/example/shopwright/shopwright/search/PairWeights" "untaught" "D").before a0 Z = true := hw _ (List.mem_of_getElem? (i := 35) rfl)
theorem ow_36 {Z : State} {a0 : Array Value} (hw : ∀ d ∈ tables_1, d.before a0 Z = true) : (Jvm.Cond.lays "com/example/shopwright/shopwright/search/PairWeights" "com/example/shopwright/shopwright/search/PairWeights" "untaught" "D").before a0 Z = true := hw _ (List.mem_of_getElem? (i := 36) rfl)
theorem ow_37 {Z : State} {a0 : Array Value} (hw : ∀ d ∈ tables_1, d.before a0 Z = true) : (Jvm.Cond.methodLink "com/example/shopwright/shopwright/search/PairWeightsWeightPinLaw" (21 : Nat) ({ cls := "com/example/shopwright/shopwright/search/PairWeights", name := "decay", desc := "(D)V" } : Jvm.MethodName)).before a0 Z = true := hw _ (List.mem_of_getElem? (i := 37) rfl)
theorem ow_38 {Z : State} {a0 : Array Value} (hw : ∀ d ∈ tables_1, d.before a0 Z = true) : (Jvm.Cond.declares ({ cls := "com/example/shopwright/shopwright/search/PairWeights", name := "decay", desc := "(D)V" } : Jvm.MethodName)).before a0 Z = true := hw _ (List.mem_of_getElem? (i := 38) rfl)
theorem ow_39 {Z : State} {a0 : Array Value} (hw : ∀ d ∈ tables_1, d.before a0 Z = true) : (Jvm.Cond.instanceMethod ({ cls := "com/example/shopwright/shopwright/search/PairWeights", name := "decay", desc := "(D)V" } : Jvm.MethodName)).before a0 Z = true := hw _ (List.mem_of_getElem? (i := 39) rfl)
theorem ow_40 {Z : State} {a0 : Array Value} (hw : ∀ d ∈ tables_1, d.before a0 Z = true) : (Jvm.Cond.selects "com/example/shopwright/shopwright/search/PairWeights" ({ cls := "com/example/shopwright/shopwright/search/PairWeights", name := "decay", desc := "(D)V" } : Jvm.MethodName) ({ cls := "com/example/shopwright/shopwright/search/PairWeights", name := "decay", desc := "(D)V" } : Jvm.MethodName)).before a0 Z = true := hw _ (List.mem_of_getElem? (i := 40) rfl)
theorem ow_41 {Z : State} {a0 : Array Value} (hw : ∀ d ∈ tables_1, d.before a0 Z = true) : (Jvm.Cond.code ({ cls := "com/example/shopwright/shopwright/search/PairWeights", name := "decay", desc := "(D)V" } : Jvm.MethodName) prog_39_method_3_code (8 : Nat) (Option.none : Option Jvm.ClassFile.FieldType)).before a0 Z = true := hw _ (List.mem_of_getElem? (i := 41) rfl)
theorem ow_42 {Z : State} {a0 : Array Value} (hw : ∀ d ∈ tables_1, d.before a0 Z = true) : (Jvm.Cond.methodLink "com/example/shopwright/shopwright/search/PairWeightsWeightPinLaw" (25 : Nat) ({ cls := "com/example/shopwright/shopwright/search/PairWeights", name := "add", desc := "(IID)V" } : Jvm.MethodName)).before a0 Z = true := hw _ (List.mem_of_getElem? (i := 42) rfl)
theorem ow_43 {Z : State} {a0 : Array Value} (hw : ∀ d ∈ tables_1, d.before a0 Z = true) : (Jvm.Cond.declares ({ cls := "com/example/shopwright/shopwright/search/PairWeights", name := "add", desc := "(IID)V" } : Jvm.MethodName)).before a0 Z = true := hw _ (List.mem_of_getElem? (i := 43) rfl)
theorem ow_44 {Z : State} {a0 : Array Value} (hw : ∀ d ∈ tables_1, d.before a0 Z = true) : (Jvm.Cond.instanceMethod ({ cls := "com/example/shopwright/shopwright/search/PairWeights", name := "add", desc := "(IID)V" } : Jvm.MethodName)).before a0 Z = true := hw _ (List.mem_of_getElem? (i := 44) rfl)
theorem ow_45 {Z : State} {a0 : Array Value} (hw : ∀ d ∈ tables_1, d.before a0 Z = true) : (Jvm.Cond.selects "com/example/shopwright/shopwright/search/PairWeights" ({ cls := "com/example/shopwright/shopwright/search/PairWeights", name := "add", desc := "(IID)V" } : Jvm.MethodName) ({ cls := "com/example/shopwright/shopwright/search/PairWeights", name := "add", desc := "(IID)V" } : Jvm.MethodName)).before a0 Z = true := hw _ (List.mem_of_getElem? (i := 45) rfl)
theorem ow_46 {Z : State} {a0 : Array Value} (hw : ∀ d ∈ tables_1, d.before a0 Z = true) : (Jvm.Cond.code ({ cls := "com/example/shopwright/shopwright/search/PairWeights", name := "add", desc := "(IID)V" } : Jvm.MethodName) prog_39_method_4_code (5 : Nat) (Option.none : Option Jvm.ClassFile.FieldType)).before a0 Z = true := hw _ (List.mem_of_getElem? (i := 46) rfl)
theorem ow_47 {Z : State} {a0 : Array Value} (hw : ∀ d ∈ tables_1, d.before a0 Z = true) : (Jvm.Cond.methodLink "com/example/shopwright/shopwright/search/PairWeights" (41 : Nat) ({ cls := "com/example/shopwright/shopwright/search/PairWeights", name := "slot", desc := "([II)I" } : Jvm.MethodName)).before a0 Z = true := hw _ (List.mem_of_getElem? (i := 47) rfl)
theorem ow_48 {Z : State} {a0 : Array Value} (hw : ∀ d ∈ tables_1, d.before a0 Z = true) : (Jvm.Cond.static ({ cls := "com/example/shopwright/shopwright/search/PairWeights", name := "slot", desc := "([II)I" } : Jvm.MethodName)).before a0 Z = true := hw _ (List.mem_of_getElem? (i := 48) rfl)
theorem ow_49 {Z : State} {a0 : Array Value} (hw : ∀ d ∈ tables_1, d.before a0 Z = true) : (Jvm.Cond.code ({ cls := "com/example/shopwright/shopwright/search/PairWeights", name := "slot", desc := "([II)I" } : Jvm.MethodName) prog_39_method_6_code (5 : Nat) (Option.some Jvm.ClassFile.FieldType.int)).before a0 Z = true := hw _ (List.mem_of_getElem? (i := 49) rfl)
theorem ow_50 {Z : State} {a0 : Array Value} (hw : ∀ d ∈ tables_1, d.before a0 Z = true) : (Jvm.Cond.constant "com/example/shopwright/shopwright/search/PairWeights" (57 : Nat) (-1640531527 : Int32)).before a0 Z = true := hw _ (List.mem_of_getElem? (i := 50) rfl)
theorem ow_51 {Z : State} {a0 : Array Value} (hw : ∀ d ∈ tables_1, d.before a0 Z = true) : (Jvm.Cond.methodLink "com/example/shopwright/shopwright/search/PairWeights" (45 : Nat) ({ cls := "com/example/shopwright/shopwright/search/PairWeights", name := "holdWhole", desc := "(I)V" } : Jvm.MethodName)).before a0 Z = true := hw _ (List.mem_of_getElem? (i := 51) rfl)
theorem ow_52 {Z : State} {a0 : Array Value} (hw : ∀ d ∈ tables_1, d.before a0 Z = true) : (Jvm.Cond.instanceMethod ({ cls := "com/example/shopwright/shopwright/search/PairWeights", name := "holdWhole", desc := "(I)V" } : Jvm.MethodName)).before a0 Z = true := hw _ (List.mem_of_getElem? (i := 52) rfl)
theorem ow_53 {Z : State} {a0 : Array Value} (hw : ∀ d ∈ tables_1, d.before a0 Z = true) : (Jvm.Cond.privateMethod ({ cls := "com/example/shopwright/shopwright/search/PairWeights", name := "holdWhole", desc := "(I)V" } : Jvm.MethodName)).before a0 Z = true := hw _ (List.mem_of_getElem? (i := 53) rfl)
theorem ow_54 {Z : State} {a0 : Array Value} (hw : ∀ d ∈ tables_1, d.before a0 Z = true) : (Jvm.Cond.code ({ cls := "com/example/shopwright/shopwright/search/PairWeights", name := "holdWhole", desc := "(I)V" } : Jvm.MethodName) prog_39_method_8_code (4 : Nat) (Option.none : Option Jvm.ClassFile.FieldType)).before a0 Z = true := hw _ (List.mem_of_getElem? (i := 54) rfl)
theorem ow_55 {Z : State} {a0 : Array Value} (hw : ∀ d ∈ tables_1, d.before a0 Z = true) : (Jvm.Cond.arrayClass Jvm.ClassFile.FieldType.double).before a0 Z = true := hw _ (List.mem_of_getElem? (i := 55) rfl)
theorem ow_56 {Z : State} {a0 : Array Value} (hw : ∀ d ∈ tables_1, d.before a0 Z = true) : (Jvm.Cond.methodLink "com/example/shopwright/shopwright/search/PairWeights" (67 : Nat) ({ cls := "java/util/Arrays", name := "fill", desc := "([DD)V" } : Jvm.MethodName)).before a0 Z = true := hw _ (List.mem_of_getElem? (i := 56) rfl)
theorem ow_57 {Z : State} {a0 : Array Value} (hw : ∀ d ∈ tables_1, d.before a0 Z = true) : (Jvm.Cond.static ({ cls := "java/util/Arrays", name := "fill", desc := "([DD)V" } : Jvm.MethodName)).before a0 Z = true := hw _ (List.mem_of_getElem? (i := 57) rfl)
theorem ow_58 {Z : State} {a0 : Array Value} (hw : ∀ d ∈ tables_1, d.before a0 Z = true) : (Jvm.Cond.code ({ cls := "java/util/Arrays", name := "fill", desc := "([DD)V" } : Jvm.MethodName) jdk_65_method_113_code (5 : Nat) (Option.none : Option Jvm.ClassFile.FieldType)).before a0 Z = true := hw _ (List.mem_of_getElem? (i := 58) rfl)
theorem ow_60 {Z : State} {a0 : Array Value} (hw : ∀ d ∈ tables_1, d.before a0 Z = true) : (Jvm.Cond.methodLink "com/example/shopwright/shopwright/search/PairWeightsWeightPinLaw" (29 : Nat) ({ cls := "com/example/shopwright/shopwright/search/PairWeights", name := "weight", desc := "(II)D" } : Jvm.MethodName)).before a0 Z = true := hw _ (List.mem_of_getElem? (i := 60) rfl)
theorem ow_61 {Z : State} {a0 : Array Value} (hw : ∀ d ∈ tables_1, d.before a0 Z = true) : (Jvm.Cond.declares ({ cls := "com/example/shopwright/shopwright/search/PairWeights", name := "weight", desc := "(II)D" } : Jvm.MethodName)).before a0 Z = true := hw _ (List.mem_of_getElem? (i := 61) rfl)
theorem ow_62 {Z : State} {a0 : Array Value} (hw : ∀ d ∈ tables_1, d.before a0 Z = true) : (Jvm.Cond.instanceMethod ({ cls := "com/example/shopwright/shopwright/search/PairWeights", name := "weight", desc := "(II)D" } : Jvm.MethodName)).before a0 Z = true := hw _ (List.mem_of_getElem? (i := 62) rfl)
theorem ow_63 {Z : State} {a0 : Array Value} (hw : ∀ d ∈ tables_1, d.before a0 Z = true) : (Jvm.Cond.selects "com/example/shopwright/shopwright/search/PairWeights" ({ cls := "com/example/shopwright/shopwright/search/PairWeights", name := "weight", desc := "(II)D" } : Jvm.MethodName) ({ cls := "com/example/shopwright/shopwright/search/PairWeights", name := "weight", desc := "(II)D" } : Jvm.MethodName)).before a0 Z = true := hw _ (List.mem_of_getElem? (i := 63) rfl)
theorem ow_64 {Z : State} {a0 : Array Value} (hw : ∀ d ∈ tables_1, d.before a0 Z = true) : (Jvm.Cond.code ({ cls := "com/example/shopwright/shopwright/search/PairWeights", name := "weight", desc := "(II)D" } : Jvm.MethodName) prog_39_method_2_code (7 : Nat) (Option.some Jvm.ClassFile.FieldType.double)).before a0 Z = true := hw _ (List.mem_of_getElem? (i := 64) rfl)
theorem ow_65 {Z : State} {a0 : Array Value} (hw : ∀ d ∈ tables_1, d.before a0 Z = true) : (Jvm.Cond.methodLink "com/example/shopwright/shopwright/search/PairWeights" (49 : Nat) ({ cls := "com/example/shopwright/shopwright/search/PairWeights", name := "holdInTable", desc := "(II)V" } : Jvm.MethodName)).before a0 Z = true := hw _ (List.mem_of_getElem? (i := 65) rfl)
theorem ow_66 {Z : State} {a0 : Array Value} (hw : ∀ d ∈ tables_1, d.before a0 Z = true) : (Jvm.Cond.instanceMethod ({ cls := "com/example/shopwright/shopwright/search/PairWeights", name := "holdInTable", desc := "(II)V" } : Jvm.MethodName)).before a0 Z = true := hw _ (List.mem_of_getElem? (i := 66) rfl)
theorem ow_67 {Z : State} {a0 : Array Value} (hw : ∀ d ∈ tables_1, d.before a0 Z = true) : (Jvm.Cond.privateMethod ({ cls := "com/example/shopwright/shopwright/search/PairWeights", name := "holdInTable", desc := "(II)V" } : Jvm.MethodName)).before a0 Z = true := hw _ (List.mem_of_getElem? (i := 67) rfl)
theorem ow_68 {Z : State} {a0 : Array Value} (hw : ∀ d ∈ tables_1, d.before a0 Z = true) : (Jvm.Cond.code ({ cls := "com/example/shopwright/shopwright/search/PairWeights", name := "holdInTable", desc := "(II)V" } : Jvm.MethodName) prog_39_method_7_code (7 : Nat) (Option.none : Option Jvm.ClassFile.FieldType)).before a0 Z = true := hw _ (List.mem_of_getElem? (i := 68) rfl)
theorem ow_69 {Z : State} {a0 : Array Value} (hw : ∀ d ∈ tables_1, d.before a0 Z = true) : (Jvm.Cond.methodLink "com/example/shopwright/shopwright/search/PairWeights" (58 : Nat) ({ cls := "java/lang/Math", name := "max", desc := "(II)I" } : Jvm.MethodName)).before a0 Z = true := hw _ (List.mem_of_getElem? (i := 69) rfl)
theorem ow_70 {Z : State} {a0 : Array Value} (hw : ∀ d ∈ tables_1, d.before a0 Z = true) : (Jvm.Cond.static ({ cls := "java/lang/Math", name := "max", desc := "(II)I" } : Jvm.MethodName)).before a0 Z = true := hw _ (List.mem_of_getElem? (i := 70) rfl)
theorem ow_71 {Z : State} {a0 : Array Value} (hw : ∀ d ∈ tables_1, d.before a0 Z = true) : (Jvm.Cond.initialized "java/lang/Math").before a0 Z = true := hw _ (List.mem_of_getElem? (i := 71) rfl)
theorem ow_72 {Z : State} {a0 : Array Value} (hw : ∀ d ∈ tables_1, d.before a0 Z = true) : (Jvm.Cond.code ({ cls := "java/lang/Math", name := "max", desc := "(II)I" } : Jvm.MethodName) jdk_29_method_65_code (2 : Nat) (Option.some Jvm.ClassFile.FieldType.int)).before a0 Z = true := hw _ (List.mem_of_getElem? (i := 72) rfl)
theorem ow_73 {Z : State} {a0 : Array Value} (hw : ∀ d ∈ tables_1, d.before a0 Z = true) : (Jvm.Cond.methodLink "com/example/shopwright/shopwright/search/PairWeights" (64 : Nat) ({ cls := "java/util/Arrays", name := "fill", desc := "([II)V" } : Jvm.MethodName)).before a0 Z = true := hw _ (List.mem_of_getElem? (i := 73) rfl)
theorem ow_74 {Z : State} {a0 : Array Value} (hw : ∀ d ∈ tables_1, d.before a0 Z = true) : (Jvm.Cond.static ({ cls := "java/util/Arrays", name := "fill", desc := "([II)V" } : Jvm.MethodName)).before a0 Z = true := hw _ (List.mem_of_getElem? (i := 74) rfl)
theorem ow_75 {Z : State} {a0 : Array Value} (hw : ∀ d ∈ tables_1, d.before a0 Z = true) : (Jvm.Cond.code ({ cls := "java/util/Arrays", name := "fill", desc := "([II)V" } : Jvm.MethodName) jdk_65_method_103_code (4 : Nat) (Option.none : Option Jvm.ClassFile.FieldType)).before a0 Z = true := hw _ (List.mem_of_getElem? (i := 75) rfl)
theorem od_jdk_65_method_113_0 : decode jdk_65_method_113_code 0 = .ok (.iconst 0, 1) := by decide +kernel
theorem od_jdk_65_method_113_1 : decode jdk_65_method_113_code 1 = .ok (.istore_n 3, 1) := by decide +kernel
theorem od_jdk_65_method_113_2 : decode jdk_65_method_113_code 2 = .ok (.aload_n 0, 1) := by decide +kernel
theorem od_jdk_65_method_113_3 : decode jdk_65_method_113_code 3 = .ok (.arraylength, 1) := by decide +kernel
theorem od_jdk_65_method_113_4 : decode jdk_65_method_113_code 4 = .ok (.istore 4, 2) := by decide +kernel
theorem od_jdk_65_method_113_6 : decode jdk_65_method_113_code 6 = .ok (.iload_n 3, 1) := by decide +kernel
theorem od_jdk_65_method_113_7 : decode jdk_65_method_113_code 7 = .ok (.iload 4, 2) := by decide +kernel
theorem od_jdk_65_method_113_9 : decode jdk_65_method_113_code 9 = .ok (.if_icmp .ge 13, 3) := by decide +kernel
theorem od_jdk_65_method_113_22 : decode jdk_65_method_113_code 22 = .ok (.return_, 1) := by decide +kernel
theorem od_jdk_65_method_113_12 : decode jdk_65_method_113_code 12 = .ok (.aload_n 0, 1) := by decide +kernel
theorem od_jdk_65_method_113_13 : decode jdk_65_method_113_code 13 = .ok (.iload_n 3, 1) := by decide +kernel
theorem od_jdk_65_method_113_14 : decode jdk_65_method_113_code 14 = .ok (.dload_n 1, 1) := by decide +kernel
theorem od_jdk_65_method_113_15 : decode jdk_65_method_113_code 15 = .ok (.dastore, 1) := by decide +kernel
theorem od_jdk_65_method_113_16 : decode jdk_65_method_113_code 16 = .ok (.iinc 3 1, 3) := by decide +kernel
theorem od_jdk_65_method_113_19 : decode jdk_65_method_113_code 19 = .ok (.goto (-13), 3) := by decide +kernel
theorem od_jdk_65_method_103_0 : decode jdk_65_method_103_code 0 = .ok (.iconst 0, 1) := by decide +kernel
theorem od_jdk_65_method_103_1 : decode jdk_65_method_103_code 1 = .ok (.istore_n 2, 1) := by decide +kernel
theorem od_jdk_65_method_103_2 : decode jdk_65_method_103_code 2 = .ok (.aload_n 0, 1) := by decide +kernel
theorem od_jdk_65_method_103_3 : decode jdk_65_method_103_code 3 = .ok (.arraylength, 1) := by decide +kernel
theorem od_jdk_65_method_103_4 : decode jdk_65_method_103_code 4 = .ok (.istore_n 3, 1) := by decide +kernel
theorem od_jdk_65_method_103_5 : decode jdk_65_method_103_code 5 = .ok (.iload_n 2, 1) := by decide +kernel
theorem od_jdk_65_method_103_6 : decode jdk_65_method_103_code 6 = .ok (.iload_n 3, 1) := by decide +kernel
theorem od_jdk_65_method_103_7 : decode jdk_65_method_103_code 7 = .ok (.if_icmp .ge 13, 3) := by decide +kernel
theorem od_jdk_65_method_103_20 : decode jdk_65_method_103_code 20 = .ok (.return_, 1) := by decide +kernel
theorem od_jdk_65_method_103_10 : decode jdk_65_method_103_code 10 = .ok (.aload_n 0, 1) := by decide +kernel
theorem od_jdk_65_method_103_11 : decode jdk_65_method_103_code 11 = .ok (.iload_n 2, 1) := by decide +kernel
theorem od_jdk_65_method_103_12 : decode jdk_65_method_103_code 12 = .ok (.iload_n 1, 1) := by decide +kernel
theorem od_jdk_65_method_103_13 : decode jdk_65_method_103_code 13 = .ok (.iastore, 1) := by decide +kernel
theorem od_jdk_65_method_103_14 : decode jdk_65_method_103_code 14 = .ok (.iinc 2 1, 3) := by decide +kernel
theorem od_jdk_65_method_103_17 : decode jdk_65_method_103_code 17 = .ok (.goto (-12), 3) := by decide +kernel
theorem od_jdk_65_method_117_0 : decode jdk_65_method_117_code 0 = .ok (.iconst 0, 1) := by decide +kernel
theorem od_jdk_65_method_117_1 : decode jdk_65_method_117_code 1 = .ok (.istore_n 2, 1) := by decide +kernel
theorem od_jdk_65_method_117_2 : decode jdk_65_method_117_code 2 = .ok (.aload_n 0, 1) := by decide +kernel
theorem od_jdk_65_method_117_3 : decode jdk_65_method_117_code 3 = .ok (.arraylength, 1) := by decide +kernel
theorem od_jdk_65_method_117_4 : decode jdk_65_method_117_code 4 = .ok (.istore_n 3, 1) := by decide +kernel
theorem od_jdk_65_method_117_5 : decode jdk_65_method_117_code 5 = .ok (.iload_n 2, 1) := by decide +kernel
theorem od_jdk_65_method_117_6 : decode jdk_65_method_117_code 6 = .ok (.iload_n 3, 1) := by decide +kernel
theorem od_jdk_65_method_117_7 : decode jdk_65_method_117_code 7 = .ok (.if_icmp .ge 13, 3) := by decide +kernel
theorem od_jdk_65_method_117_20 : decode jdk_65_method_117_code 20 = .ok (.return_, 1) := by decide +kernel
theorem od_jdk_65_method_117_10 : decode jdk_65_method_117_code 10 = .ok (.aload_n 0, 1) := by decide +kernel
theorem od_jdk_65_method_117_11 : decode jdk_65_method_117_code 11 = .ok (.iload_n 2, 1) := by decide +kernel
theorem od_jdk_65_method_117_12 : decode jdk_65_method_117_code 12 = .ok (.aload_n 1, 1) := by decide +kernel
theorem od_jdk_65_method_117_13 : decode jdk_65_method_117_code 13 = .ok (.aastore, 1) := by decide +kernel
theorem od_jdk_65_method_117_14 : decode jdk_65_method_117_code 14 = .ok (.iinc 2 1, 3) := by decide +kernel
theorem od_jdk_65_method_117_17 : decode jdk_65_method_117_code 17 = .ok (.goto (-12), 3) := by decide +kernel
theorem od_prog_39_method_6_0 : decode prog_39_method_6_code 0 = .ok (.aload_n 0, 1) := by decide +kernel
theorem od_prog_39_method_6_1 : decode prog_39_method_6_code 1 = .ok (.arraylength, 1) := by decide +kernel
theorem od_prog_39_method_6_2 : decode prog_39_method_6_code 2 = .ok (.iconst 1, 1) := by decide +kernel
theorem od_prog_39_method_6_3 : decode prog_39_method_6_code 3 = .ok (.isub, 1) := by decide +kernel
theorem od_prog_39_method_6_4 : decode prog_39_method_6_code 4 = .ok (.istore_n 2, 1) := by decide +kernel
theorem od_prog_39_method_6_5 : decode prog_39_method_6_code 5 = .ok (.iload_n 1, 1) := by decide +kernel
theorem od_prog_39_method_6_6 : decode prog_39_method_6_code 6 = .ok (.ldc 57, 2) := by decide +kernel
theorem od_prog_39_method_6_8 : decode prog_39_method_6_code 8 = .ok (.imul, 1) := by decide +kernel
theorem od_prog_39_method_6_9 : decode prog_39_method_6_code 9 = .ok (.istore_n 3, 1) := by decide +kernel
theorem od_prog_39_method_6_10 : decode prog_39_method_6_code 10 = .ok (.iload_n 3, 1) := by decide +kernel
theorem od_prog_39_method_6_11 : decode prog_39_method_6_code 11 = .ok (.iload_n 3, 1) := by decide +kernel
theorem od_prog_39_method_6_12 : decode prog_39_method_6_code 12 = .ok (.bipush 16, 2) := by decide +kernel
theorem od_prog_39_method_6_14 : decode prog_39_method_6_code 14 = .ok (.iushr, 1) := by decide +kernel
theorem od_prog_39_method_6_15 : decode prog_39_method_6_code 15 = .ok (.ixor, 1) := by decide +kernel
theorem od_prog_39_method_6_16 : decode prog_39_method_6_code 16 = .ok (.iload_n 2, 1) := by decide +kernel
theorem od_prog_39_method_6_17 : decode prog_39_method_6_code 17 = .ok (.iand, 1) := by decide +kernel
theorem od_prog_39_method_6_18 : decode prog_39_method_6_code 18 = .ok (.istore 4, 2) := by decide +kernel
theorem od_prog_39_method_6_20 : decode prog_39_method_6_code 20 = .ok (.aload_n 0, 1) := by decide +kernel
theorem od_prog_39_method_6_21 : decode prog_39_method_6_code 21 = .ok (.iload 4, 2) := by decide +kernel
theorem od_prog_39_method_6_23 : decode prog_39_method_6_code 23 = .ok (.iaload, 1) := by decide +kernel
theorem od_prog_39_method_6_24 : decode prog_39_method_6_code 24 = .ok (.iload_n 1, 1) := by decide +kernel
theorem od_prog_39_method_6_25 : decode prog_39_method_6_code 25 = .ok (.if_icmp .eq 22, 3) := by decide +kernel
theorem od_prog_39_method_6_47 : decode prog_39_method_6_code 47 = .ok (.iload 4, 2) := by decide +kernel
theorem od_prog_39_method_6_49 : decode prog_39_method_6_code 49 = .ok (.ireturn, 1) := by decide +kernel
theorem od_prog_39_method_6_28 : decode prog_39_method_6_code 28 = .ok (.aload_n 0, 1) := by decide +kernel
theorem od_prog_39_method_6_29 : decode prog_39_method_6_code 29 = .ok (.iload 4, 2) := by decide +kernel
theorem od_prog_39_method_6_31 : decode prog_39_method_6_code 31 = .ok (.iaload, 1) := by decide +kernel
theorem od_prog_39_method_6_32 : decode prog_39_method_6_code 32 = .ok (.iconst (-1), 1) := by decide +kernel
theorem od_prog_39_method_6_33 : decode prog_39_method_6_code 33 = .ok (.if_icmp .eq 14, 3) := by decide +kernel
theorem od_prog_39_method_6_36 : decode prog_39_method_6_code 36 = .ok (.iload 4, 2) := by decide +kernel
theorem od_prog_39_method_6_38 : decode prog_39_method_6_code 38 = .ok (.iconst 1, 1) := by decide +kernel
theorem od_prog_39_method_6_39 : decode prog_39_method_6_code 39 = .ok (.iadd, 1) := by decide +kernel
theorem od_prog_39_method_6_40 : decode prog_39_method_6_code 40 = .ok (.iload_n 2, 1) := by decide +kernel
theorem od_prog_39_method_6_41 : decode prog_39_method_6_code 41 = .ok (.iand, 1) := by decide +kernel
theorem od_prog_39_method_6_42 : decode prog_39_method_6_code 42 = .ok (.istore 4, 2) := by decide +kernel
theorem od_prog_39_method_6_44 : decode prog_39_method_6_code 44 = .ok (.goto (-24), 3) := by decide +kernel
theorem od_prog_39_method_2_0 : decode prog_39_method_2_code 0 = .ok (.aload_n 0, 1) := by decide +kernel
theorem od_prog_39_method_2_1 : decode prog_39_method_2_code 1 = .ok (.getfield 15, 3) := by decide +kernel
theorem od_prog_39_method_2_4 : decode prog_39_method_2_code 4 = .ok (.iload_n 1, 1) := by decide +kernel
theorem od_prog_39_method_2_5 : decode prog_39_method_2_code 5 = .ok (.aaload, 1) := by decide +kernel
theorem od_prog_39_method_2_6 : decode prog_39_method_2_code 6 = .ok (.astore_n 3, 1) := by decide +kernel
theorem od_prog_39_method_2_7 : decode prog_39_method_2_code 7 = .ok (.aload_n 3, 1) := by decide +kernel
theorem od_prog_39_method_2_8 : decode prog_39_method_2_code 8 = .ok (.ifnonnull 16, 3) := by decide +kernel
theorem od_prog_39_method_2_11 : decode prog_39_method_2_code 11 = .ok (.aload_n 0, 1) := by decide +kernel
theorem od_prog_39_method_2_12 : decode prog_39_method_2_code 12 = .ok (.getfield 30, 3) := by decide +kernel
theorem od_prog_39_method_2_15 : decode prog_39_method_2_code 15 = .ok (.iload_n 1, 1) := by decide +kernel
theorem od_prog_39_method_2_16 : decode prog_39_method_2_code 16 = .ok (.aaload, 1) := by decide +kernel
theorem od_prog_39_method_2_17 : decode prog_39_method_2_code 17 = .ok (.iload_n 2, 1) := by decide +kernel
theorem od_prog_39_method_2_18 : decode prog_39_method_2_code 18 = .ok (.daload, 1) := by decide +kernel
theorem od_prog_39_method_2_19 : decode prog_39_method_2_code 19 = .ok (.dstore 4, 2) := by decide +kernel
theorem od_prog_39_method_2_21 : decode prog_39_method_2_code 21 = .ok (.goto 36, 3) := by decide +kernel
theorem od_prog_39_method_2_57 : decode prog_39_method_2_code 57 = .ok (.dload 4, 2) := by decide +kernel
theorem od_prog_39_method_2_59 : decode prog_39_method_2_code 59 = .ok (.dreturn, 1) := by decide +kernel
theorem od_prog_39_method_2_24 : decode prog_39_method_2_code 24 = .ok (.aload_n 3, 1) := by decide +kernel
theorem od_prog_39_method_2_25 : decode prog_39_method_2_code 25 = .ok (.iload_n 2, 1) := by decide +kernel
theorem od_prog_39_method_2_26 : decode prog_39_method_2_code 26 = .ok (.invokestatic 41, 3) := by decide +kernel
theorem od_prog_39_method_2_29 : decode prog_39_method_2_code 29 = .ok (.istore 6, 2) := by decide +kernel
theorem od_prog_39_method_2_31 : decode prog_39_method_2_code 31 = .ok (.aload_n 3, 1) := by decide +kernel
theorem od_prog_39_method_2_32 : decode prog_39_method_2_code 32 = .ok (.iload 6, 2) := by decide +kernel
theorem od_prog_39_method_2_34 : decode prog_39_method_2_code 34 = .ok (.iaload, 1) := by decide +kernel
theorem od_prog_39_method_2_35 : decode prog_39_method_2_code 35 = .ok (.iload_n 2, 1) := by decide +kernel
theorem od_prog_39_method_2_36 : decode prog_39_method_2_code 36 = .ok (.if_icmp .ne 15, 3) := by decide +kernel
theorem od_prog_39_method_2_39 : decode prog_39_method_2_code 39 = .ok (.aload_n 0, 1) := by decide +kernel
theorem od_prog_39_method_2_40 : decode prog_39_method_2_code 40 = .ok (.getfield 30, 3) := by decide +kernel
theorem od_prog_39_method_2_43 : decode prog_39_method_2_code 43 = .ok (.iload_n 1, 1) := by decide +kernel
theorem od_prog_39_method_2_44 : decode prog_39_method_2_code 44 = .ok (.aaload, 1) := by decide +kernel
theorem od_prog_39_method_2_45 : decode prog_39_method_2_code 45 = .ok (.iload 6, 2) := by decide +kernel
theorem od_prog_39_method_2_47 : decode prog_39_method_2_code 47 = .ok (.daload, 1) := by decide +kernel
theorem od_prog_39_method_2_48 : decode prog_39_method_2_code 48 = .ok (.goto 7, 3) := by decide +kernel
theorem od_prog_39_method_2_55 : decode prog_39_method_2_code 55 = .ok (.dstore 4, 2) := by decide +kernel
theorem od_prog_39_method_2_51 : decode prog_39_method_2_code 51 = .ok (.aload_n 0, 1) := by decide +kernel
theorem od_prog_39_method_2_52 : decode prog_39_method_2_code 52 = .ok (.getfield 37, 3) := by decide +kernel
theorem od_prog_39_method_3_0 : decode prog_39_method_3_code 0 = .ok (.aload_n 0, 1) := by decide +kernel
theorem od_prog_39_method_3_1 : decode prog_39_method_3_code 1 = .ok (.dup, 1) := by decide +kernel
theorem od_prog_39_method_3_2 : decode prog_39_method_3_code 2 = .ok (.getfield 37, 3) := by decide +kernel
theorem od_prog_39_method_3_5 : decode prog_39_method_3_code 5 = .ok (.dload_n 1, 1) := by decide +kernel
theorem od_prog_39_method_3_6 : decode prog_39_method_3_code 6 = .ok (.dmul, 1) := by decide +kernel
theorem od_prog_39_method_3_7 : decode prog_39_method_3_code 7 = .ok (.putfield 37, 3) := by decide +kernel
theorem od_prog_39_method_3_10 : decode prog_39_method_3_code 10 = .ok (.aload_n 0, 1) := by decide +kernel
theorem od_prog_39_method_3_11 : decode prog_39_method_3_code 11 = .ok (.getfield 30, 3) := by decide +kernel
theorem od_prog_39_method_3_14 : decode prog_39_method_3_code 14 = .ok (.astore_n 3, 1) := by decide +kernel
theorem od_prog_39_method_3_15 : decode prog_39_method_3_code 15 = .ok (.aload_n 3, 1) := by decide +kernel
theorem od_prog_39_method_3_16 : decode prog_39_method_3_code 16 = .ok (.arraylength, 1) := by decide +kernel
theorem od_prog_39_method_3_17 : decode prog_39_method_3_code 17 = .ok (.istore 4, 2) := by decide +kernel
theorem od_prog_39_method_3_19 : decode prog_39_method_3_code 19 = .ok (.iconst 0, 1) := by decide +kernel
theorem od_prog_39_method_3_20 : decode prog_39_method_3_code 20 = .ok (.istore 5, 2) := by decide +kernel
theorem od_prog_39_method_3_22 : decode prog_39_method_3_code 22 = .ok (.iload 5, 2) := by decide +kernel
theorem od_prog_39_method_3_24 : decode prog_39_method_3_code 24 = .ok (.iload 4, 2) := by decide +kernel
theorem od_prog_39_method_3_26 : decode prog_39_method_3_code 26 = .ok (.if_icmp .ge 46, 3) := by decide +kernel
theorem od_prog_39_method_3_72 : decode prog_39_method_3_code 72 = .ok (.return_, 1) := by decide +kernel
theorem od_prog_39_method_3_29 : decode prog_39_method_3_code 29 = .ok (.aload_n 3, 1) := by decide +kernel
theorem od_prog_39_method_3_30 : decode prog_39_method_3_code 30 = .ok (.iload 5, 2) := by decide +kernel
theorem od_prog_39_method_3_32 : decode prog_39_method_3_code 32 = .ok (.aaload, 1) := by decide +kernel
theorem od_prog_39_method_3_33 : decode prog_39_method_3_code 33 = .ok (.astore 6, 2) := by decide +kernel
theorem od_prog_39_method_3_35 : decode prog_39_method_3_code 35 = .ok (.aload 6, 2) := by decide +kernel
theorem od_prog_39_method_3_37 : decode prog_39_method_3_code 37 = .ok (.ifnull 29, 3) := by decide +kernel
theorem od_prog_39_method_3_66 : decode prog_39_method_3_code 66 = .ok (.iinc 5 1, 3) := by decide +kernel
theorem od_prog_39_method_3_69 : decode prog_39_method_3_code 69 = .ok (.goto (-47), 3) := by decide +kernel
theorem od_prog_39_method_3_40 : decode prog_39_method_3_code 40 = .ok (.iconst 0, 1) := by decide +kernel
theorem od_prog_39_method_3_41 : decode prog_39_method_3_code 41 = .ok (.istore 7, 2) := by decide +kernel
theorem od_prog_39_method_3_43 : decode prog_39_method_3_code 43 = .ok (.iload 7, 2) := by decide +kernel
theorem od_prog_39_method_3_45 : decode prog_39_method_3_code 45 = .ok (.aload 6, 2) := by decide +kernel
theorem od_prog_39_method_3_47 : decode prog_39_method_3_code 47 = .ok (.arraylength, 1) := by decide +kernel
theorem od_prog_39_method_3_48 : decode prog_39_method_3_code 48 = .ok (.if_icmp .ge 18, 3) := by decide +kernel
theorem od_prog_39_method_3_51 : decode prog_39_method_3_code 51 = .ok (.aload 6, 2) := by decide +kernel
theorem od_prog_39_method_3_53 : decode prog_39_method_3_code 53 = .ok (.iload 7, 2) := by decide +kernel
theorem od_prog_39_method_3_55 : decode prog_39_method_3_code 55 = .ok (.dup2, 1) := by decide +kernel
theorem od_prog_39_method_3_56 : decode prog_39_method_3_code 56 = .ok (.daload, 1) := by decide +kernel
theorem od_prog_39_method_3_57 : decode prog_39_method_3_code 57 = .ok (.dload_n 1, 1) := by decide +kernel
theorem od_prog_39_method_3_58 : decode prog_39_method_3_code 58 = .ok (.dmul, 1) := by decide +kernel
theorem od_prog_39_method_3_59 : decode prog_39_method_3_code 59 = .ok (.dastore, 1) := by decide +kernel
theorem od_prog_39_method_3_60 : decode prog_39_method_3_code 60 = .ok (.iinc 7 1, 3) := by decide +kernel
theorem od_prog_39_method_3_63 : decode prog_39_method_3_code 63 = .ok (.goto (-20), 3) := by decide +kernel
theorem od_jdk_29_method_65_0 : decode jdk_29_method_65_code 0 = .ok (.iload_n 0, 1) := by decide +kernel
theorem od_jdk_29_method_65_1 : decode jdk_29_method_65_code 1 = .ok (.iload_n 1, 1) := by decide +kernel
theorem od_jdk_29_method_65_2 : decode jdk_29_method_65_code 2 = .ok (.if_icmp .lt 7, 3) := by decide +kernel
theorem od_jdk_29_method_65_5 : decode jdk_29_method_65_code 5 = .ok (.iload_n 0, 1) := by decide +kernel
theorem od_jdk_29_method_65_6 : decode jdk_29_method_65_code 6 = .ok (.goto 4, 3) := by decide +kernel
theorem od_jdk_29_method_65_10 : decode jdk_29_method_65_code 10 = .ok (.ireturn, 1) := by decide +kernel
theorem od_prog_39_method_8_0 : decode prog_39_method_8_code 0 = .ok (.aload_n 0, 1) := by decide +kernel
theorem od_prog_39_method_8_1 : decode prog_39_method_8_code 1 = .ok (.getfield 7, 3) := by decide +kernel
theorem od_prog_39_method_8_4 : decode prog_39_method_8_code 4 = .ok (.newarray .double, 2) := by decide +kernel
theorem od_prog_39_method_8_6 : decode prog_39_method_8_code 6 = .ok (.astore_n 2, 1) := by decide +kernel
theorem od_prog_39_method_8_7 : decode prog_39_method_8_code 7 = .ok (.aload_n 2, 1) := by decide +kernel
theorem od_prog_39_method_8_8 : decode prog_39_method_8_code 8 = .ok (.aload_n 0, 1) := by decide +kernel
theorem od_prog_39_method_8_9 : decode prog_39_method_8_code 9 = .ok (.getfield 37, 3) := by decide +kernel
theorem od_prog_39_method_8_12 : decode prog_39_method_8_code 12 = .ok (.invokestatic 67, 3) := by decide +kernel
theorem od_prog_39_method_8_15 : decode prog_39_method_8_code 15 = .ok (.iconst 0, 1) := by decide +kernel
theorem od_prog_39_method_8_16 : decode prog_39_method_8_code 16 = .ok (.istore_n 3, 1) := by decide +kernel
theorem od_prog_39_method_8_17 : decode prog_39_method_8_code 17 = .ok (.iload_n 3, 1) := by decide +kernel
theorem od_prog_39_method_8_18 : decode prog_39_method_8_code 18 = .ok (.aload_n 0, 1) := by decide +kernel
theorem od_prog_39_method_8_19 : decode prog_39_method_8_code 19 = .ok (.getfield 15, 3) := by decide +kernel
theorem od_prog_39_method_8_22 : decode prog_39_method_8_code 22 = .ok (.iload_n 1, 1) := by decide +kernel
theorem od_prog_39_method_8_23 : decode prog_39_method_8_code 23 = .ok (.aaload, 1) := by decide +kernel
theorem od_prog_39_method_8_24 : decode prog_39_method_8_code 24 = .ok (.arraylength, 1) := by decide +kernel
theorem od_prog_39_method_8_25 : decode prog_39_method_8_code 25 = .ok (.if_icmp .ge 39, 3) := by decide +kernel
theorem od_prog_39_method_8_28 : decode prog_39_method_8_code 28 = .ok (.aload_n 0, 1) := by decide +kernel
theorem od_prog_39_method_8_29 : decode prog_39_method_8_code 29 = .ok (.getfield 15, 3) := by decide +kernel
theorem od_prog_39_method_8_32 : decode prog_39_method_8_code 32 = .ok (.iload_n 1, 1) := by decide +kernel
theorem od_prog_39_method_8_33 : decode prog_39_method_8_code 33 = .ok (.aaload, 1) := by decide +kernel
theorem od_prog_39_method_8_34 : decode prog_39_method_8_code 34 = .ok (.iload_n 3, 1) := by decide +kernel
theorem od_prog_39_method_8_35 : decode prog_39_method_8_code 35 = .ok (.iaload, 1) := by decide +kernel
theorem od_prog_39_method_8_36 : decode prog_39_method_8_code 36 = .ok (.iconst (-1), 1) := by decide +kernel
theorem od_prog_39_method_8_37 : decode prog_39_method_8_code 37 = .ok (.if_icmp .eq 21, 3) := by decide +kernel
theorem od_prog_39_method_8_58 : decode prog_39_method_8_code 58 = .ok (.iinc 3 1, 3) := by decide +kernel
theorem od_prog_39_method_8_61 : decode prog_39_method_8_code 61 = .ok (.goto (-44), 3) := by decide +kernel
theorem od_prog_39_method_8_64 : decode prog_39_method_8_code 64 = .ok (.aload_n 0, 1) := by decide +kernel
theorem od_prog_39_method_8_65 : decode prog_39_method_8_code 65 = .ok (.getfield 15, 3) := by decide +kernel
theorem od_prog_39_method_8_68 : decode prog_39_method_8_code 68 = .ok (.iload_n 1, 1) := by decide +kernel
theorem od_prog_39_method_8_69 : decode prog_39_method_8_code 69 = .ok (.aconst_null, 1) := by decide +kernel
theorem od_prog_39_method_8_70 : decode prog_39_method_8_code 70 = .ok (.aastore, 1) := by decide +kernel
theorem od_prog_39_method_8_71 : decode prog_39_method_8_code 71 = .ok (.aload_n 0, 1) := by decide +kernel
theorem od_prog_39_method_8_72 : decode prog_39_method_8_code 72 = .ok (.getfield 30, 3) := by decide +kernel
theorem od_prog_39_method_8_75 : decode prog_39_method_8_code 75 = .ok (.iload_n 1, 1) := by decide +kernel
theorem od_prog_39_method_8_76 : decode prog_39_method_8_code 76 = .ok (.aload_n 2, 1) := by decide +kernel
theorem od_prog_39_method_8_77 : decode prog_39_method_8_code 77 = .ok (.aastore, 1) := by decide +kernel
theorem od_prog_39_method_8_78 : decode prog_39_method_8_code 78 = .ok (.return_, 1) := by decide +kernel
theorem od_prog_39_method_7_0 : decode prog_39_method_7_code 0 = .ok (.iconst 2, 1) := by decide +kernel
theorem od_prog_39_method_7_1 : decode prog_39_method_7_code 1 = .ok (.aload_n 0, 1) := by decide +kernel
theorem od_prog_39_method_7_2 : decode prog_39_method_7_code 2 = .ok (.getfield 34, 3) := by decide +kernel
theorem od_prog_39_method_7_5 : decode prog_39_method_7_code 5 = .ok (.iload_n 1, 1) := by decide +kernel
theorem od_prog_39_method_7_6 : decode prog_39_method_7_code 6 = .ok (.iaload, 1) := by decide +kernel
theorem od_prog_39_method_7_7 : decode prog_39_method_7_code 7 = .ok (.iconst 1, 1) := by decide +kernel
theorem od_prog_39_method_7_8 : decode prog_39_method_7_code 8 = .ok (.iadd, 1) := by decide +kernel
theorem od_prog_39_method_7_9 : decode prog_39_method_7_code 9 = .ok (.imul, 1) := by decide +kernel
theorem od_prog_39_method_7_10 : decode prog_39_method_7_code 10 = .ok (.aload_n 0, 1) := by decide +kernel
theorem od_prog_39_method_7_11 : decode prog_39_method_7_code 11 = .ok (.getfield 15, 3) := by decide +kernel
theorem od_prog_39_method_7_14 : decode prog_39_method_7_code 14 = .ok (.iload_n 1, 1) := by decide +kernel
theorem od_prog_39_method_7_15 : decode prog_39_method_7_code 15 = .ok (.aaload, 1) := by decide +kernel
theorem od_prog_39_method_7_16 : decode prog_39_method_7_code 16 = .ok (.arraylength, 1) := by decide +kernel
theorem od_prog_39_method_7_17 : decode prog_39_method_7_code 17 = .ok (.if_icmp .le 125, 3) := by decide +kernel
theorem od_prog_39_method_7_20 : decode prog_39_method_7_code 20 = .ok (.aload_n 0, 1) := by decide +kernel
theorem od_prog_39_method_7_21 : decode prog_39_method_7_code 21 = .ok (.getfield 15, 3) := by decide +kernel
theorem od_prog_39_method_7_24 : decode prog_39_method_7_code 24 = .ok (.iload_n 1, 1) := by decide +kernel
theorem od_prog_39_method_7_25 : decode prog_39_method_7_code 25 = .ok (.aaload, 1) := by decide +kernel
theorem od_prog_39_method_7_26 : decode prog_39_method_7_code 26 = .ok (.astore_n 3, 1) := by decide +kernel
theorem od_prog_39_method_7_27 : decode prog_39_method_7_code 27 = .ok (.aload_n 0, 1) := by decide +kernel
theorem od_prog_39_method_7_28 : decode prog_39_method_7_code 28 = .ok (.getfield 30, 3) := by decide +kernel
theorem od_prog_39_method_7_31 : decode prog_39_method_7_code 31 = .ok (.iload_n 1, 1) := by decide +kernel
theorem od_prog_39_method_7_32 : decode prog_39_method_7_code 32 = .ok (.aaload, 1) := by decide +kernel
theorem od_prog_39_method_7_33 : decode prog_39_method_7_code 33 = .ok (.astore 4, 2) := by decide +kernel
theorem od_prog_39_method_7_35 : decode prog_39_method_7_code 35 = .ok (.aload_n 0, 1) := by decide +kernel
theorem od_prog_39_method_7_36 : decode prog_39_method_7_code 36 = .ok (.getfield 15, 3) := by decide +kernel
theorem od_prog_39_method_7_39 : decode prog_39_method_7_code 39 = .ok (.iload_n 1, 1) := by decide +kernel
theorem od_prog_39_method_7_40 : decode prog_39_method_7_code 40 = .ok (.iconst 4, 1) := by decide +kernel
theorem od_prog_39_method_7_41 : decode prog_39_method_7_code 41 = .ok (.iconst 2, 1) := by decide +kernel
theorem od_prog_39_method_7_42 : decode prog_39_method_7_code 42 = .ok (.aload_n 3, 1) := by decide +kernel
theorem od_prog_39_method_7_43 : decode prog_39_method_7_code 43 = .ok (.arraylength, 1) := by decide +kernel
theorem od_prog_39_method_7_44 : decode prog_39_method_7_code 44 = .ok (.imul, 1) := by decide +kernel
theorem od_prog_39_method_7_45 : decode prog_39_method_7_code 45 = .ok (.invokestatic 58, 3) := by decide +kernel
theorem od_prog_39_method_7_48 : decode prog_39_method_7_code 48 = .ok (.newarray .int, 2) := by decide +kernel
theorem od_prog_39_method_7_50 : decode prog_39_method_7_code 50 = .ok (.aastore, 1) := by decide +kernel
theorem od_prog_39_method_7_51 : decode prog_39_method_7_code 51 = .ok (.aload_n 0, 1) := by decide +kernel
theorem od_prog_39_method_7_52 : decode prog_39_method_7_code 52 = .ok (.getfield 15, 3) := by decide +kernel
theorem od_prog_39_method_7_55 : decode prog_39_method_7_code 55 = .ok (.iload_n 1, 1) := by decide +kernel
theorem od_prog_39_method_7_56 : decode prog_39_method_7_code 56 = .ok (.aaload, 1) := by decide +kernel
theorem od_prog_39_method_7_57 : decode prog_39_method_7_code 57 = .ok (.iconst (-1), 1) := by decide +kernel
theorem od_prog_39_method_7_58 : decode prog_39_method_7_code 58 = .ok (.invokestatic 64, 3) := by decide +kernel
theorem od_prog_39_method_7_61 : decode prog_39_method_7_code 61 = .ok (.aload_n 0, 1) := by decide +kernel
theorem od_prog_39_method_7_62 : decode prog_39_method_7_code 62 = .ok (.getfield 30, 3) := by decide +kernel
theorem od_prog_39_method_7_65 : decode prog_39_method_7_code 65 = .ok (.iload_n 1, 1) := by decide +kernel
theorem od_prog_39_method_7_66 : decode prog_39_method_7_code 66 = .ok (.aload_n 0, 1) := by decide +kernel
theorem od_prog_39_method_7_67 : decode prog_39_method_7_code 67 = .ok (.getfield 15, 3) := by decide +kernel
theorem od_prog_39_method_7_70 : decode prog_39_method_7_code 70 = .ok (.iload_n 1, 1) := by decide +kernel
theorem od_prog_39_method_7_71 : decode prog_39_method_7_code 71 = .ok (.aaload, 1) := by decide +kernel
theorem od_prog_39_method_7_72 : decode prog_39_method_7_code 72 = .ok (.arraylength, 1) := by decide +kernel
theorem od_prog_39_method_7_73 : decode prog_39_method_7_code 73 = .ok (.newarray .double, 2) := by decide +kernel
theorem od_prog_39_method_7_75 : decode prog_39_method_7_code 75 = .ok (.aastore, 1) := by decide +kernel
theorem od_prog_39_method_7_76 : decode prog_39_method_7_code 76 = .ok (.iconst 0, 1) := by decide +kernel
theorem od_prog_39_method_7_77 : decode prog_39_method_7_code 77 = .ok (.istore 5, 2) := by decide +kernel
theorem od_prog_39_method_7_79 : decode prog_39_method_7_code 79 = .ok (.iload 5, 2) := by decide +kernel
theorem od_prog_39_method_7_81 : decode prog_39_method_7_code 81 = .ok (.aload_n 3, 1) := by decide +kernel
theorem od_prog_39_method_7_82 : decode prog_39_method_7_code 82 = .ok (.arraylength, 1) := by decide +kernel
theorem od_prog_39_method_7_83 : decode prog_39_method_7_code 83 = .ok (.if_icmp .ge 59, 3) := by decide +kernel
theorem od_prog_39_method_7_86 : decode prog_39_method_7_code 86 = .ok (.aload_n 3, 1) := by decide +kernel
theorem od_prog_39_method_7_87 : decode prog_39_method_7_code 87 = .ok (.iload 5, 2) := by decide +kernel
theorem od_prog_39_method_7_89 : decode prog_39_method_7_code 89 = .ok (.iaload, 1) := by decide +kernel
theorem od_prog_39_method_7_90 : decode prog_39_method_7_code 90 = .ok (.iconst (-1), 1) := by decide +kernel
theorem od_prog_39_method_7_91 : decode prog_39_method_7_code 91 = .ok (.if_icmp .eq 45, 3) := by decide +kernel
theorem od_prog_39_method_7_136 : decode prog_39_method_7_code 136 = .ok (.iinc 5 1, 3) := by decide +kernel
theorem od_prog_39_method_7_139 : decode prog_39_method_7_code 139 = .ok (.goto (-60), 3) := by decide +kernel
theorem od_prog_39_method_7_142 : decode prog_39_method_7_code 142 = .ok (.aload_n 0, 1) := by decide +kernel
theorem od_prog_39_method_7_143 : decode prog_39_method_7_code 143 = .ok (.getfield 15, 3) := by decide +kernel
theorem od_prog_39_method_7_146 : decode prog_39_method_7_code 146 = .ok (.iload_n 1, 1) := by decide +kernel
theorem od_prog_39_method_7_147 : decode prog_39_method_7_code 147 = .ok (.aaload, 1) := by decide +kernel
theorem od_prog_39_method_7_148 : decode prog_39_method_7_code 148 = .ok (.iload_n 2, 1) := by decide +kernel
theorem od_prog_39_method_7_149 : decode prog_39_method_7_code 149 = .ok (.invokestatic 41, 3) := by decide +kernel
theorem od_prog_39_method_7_152 : decode prog_39_method_7_code 152 = .ok (.istore_n 3, 1) := by decide +kernel
theorem od_prog_39_method_7_153 : decode prog_39_method_7_code 153 = .ok (.aload_n 0, 1) := by decide +kernel
theorem od_prog_39_method_7_154 : decode prog_39_method_7_code 154 = .ok (.getfield 15, 3) := by decide +kernel
theorem od_prog_39_method_7_157 : decode prog_39_method_7_code 157 = .ok (.iload_n 1, 1) := by decide +kernel
theorem od_prog_39_method_7_158 : decode prog_39_method_7_code 158 = .ok (.aaload, 1) := by decide +kernel
theorem od_prog_39_method_7_159 : decode prog_39_method_7_code 159 = .ok (.iload_n 3, 1) := by decide +kernel
theorem od_prog_39_method_7_160 : decode prog_39_method_7_code 160 = .ok (.iload_n 2, 1) := by decide +kernel
theorem od_prog_39_method_7_161 : decode prog_39_method_7_code 161 = .ok (.iastore, 1) := by decide +kernel
theorem od_prog_39_method_7_162 : decode prog_39_method_7_code 162 = .ok (.aload_n 0, 1) := by decide +kernel
theorem od_prog_39_method_7_163 : decode prog_39_method_7_code 163 = .ok (.getfield 30, 3) := by decide +kernel
theorem od_prog_39_method_7_166 : decode prog_39_method_7_code 166 = .ok (.iload_n 1, 1) := by decide +kernel
theorem od_prog_39_method_7_167 : decode prog_39_method_7_code 167 = .ok (.aaload, 1) := by decide +kernel
theorem od_prog_39_method_7_168 : decode prog_39_method_7_code 168 = .ok (.iload_n 3, 1) := by decide +kernel
theorem od_prog_39_method_7_169 : decode prog_39_method_7_code 169 = .ok (.aload_n 0, 1) := by decide +kernel
theorem od_prog_39_method_7_170 : decode prog_39_method_7_code 170 = .ok (.getfield 37, 3) := by decide +kernel
theorem od_prog_39_method_7_173 : decode prog_39_method_7_code 173 = .ok (.dastore, 1) := by decide +kernel
theorem od_prog_39_method_7_174 : decode prog_39_method_7_code 174 = .ok (.aload_n 0, 1) := by decide +kernel
theorem od_prog_39_method_7_175 : decode prog_39_method_7_code 175 = .ok (.getfield 34, 3) := by decide +kernel
theorem od_prog_39_method_7_178 : decode prog_39_method_7_code 178 = .ok (.iload_n 1, 1) := by decide +kernel
theorem od_prog_39_method_7_179 : decode prog_39_method_7_code 179 = .ok (.dup2, 1) := by decide +kernel
theorem od_prog_39_method_7_180 : decode prog_39_method_7_code 180 = .ok (.iaload, 1) := by decide +kernel
theorem od_prog_39_method_7_181 : decode prog_39_method_7_code 181 = .ok (.iconst 1, 1) := by decide +kernel
theorem od_prog_39_method_7_182 : decode prog_39_method_7_code 182 = .ok (.iadd, 1) := by decide +kernel
theorem od_prog_39_method_7_183 : decode prog_39_method_7_code 183 = .ok (.iastore, 1) := by decide +kernel
theorem od_prog_39_method_7_184 : decode prog_39_method_7_code 184 = .ok (.return_, 1) := by decide +kernel
theorem od_jdk_29_method_65_9 : decode jdk_29_method_65_code 9 = .ok (.iload_n 1, 1) := by decide +kernel
theorem od_prog_39_method_7_94 : decode prog_39_method_7_code 94 = .ok (.aload_n 0, 1) := by decide +kernel
theorem od_prog_39_method_7_95 : decode prog_39_method_7_code 95 = .ok (.getfield 15, 3) := by decide +kernel
theorem od_prog_39_method_7_98 : decode prog_39_method_7_code 98 = .ok (.iload_n 1, 1) := by decide +kernel
theorem od_prog_39_method_7_99 : decode prog_39_method_7_code 99 = .ok (.aaload, 1) := by decide +kernel
theorem od_prog_39_method_7_100 : decode prog_39_method_7_code 100 = .ok (.aload_n 3, 1) := by decide +kernel
theorem od_prog_39_method_7_101 : decode prog_39_method_7_code 101 = .ok (.iload 5, 2) := by decide +kernel
theorem od_prog_39_method_7_103 : decode prog_39_method_7_code 103 = .ok (.iaload, 1) := by decide +kernel
theorem od_prog_39_method_7_104 : decode prog_39_method_7_code 104 = .ok (.invokestatic 41, 3) := by decide +kernel
theorem od_prog_39_method_7_107 : decode prog_39_method_7_code 107 = .ok (.istore 6, 2) := by decide +kernel
theorem od_prog_39_method_7_109 : decode prog_39_method_7_code 109 = .ok (.aload_n 0, 1) := by decide +kernel
theorem od_prog_39_method_7_110 : decode prog_39_method_7_code 110 = .ok (.getfield 15, 3) := by decide +kernel
theorem od_prog_39_method_7_113 : decode prog_39_method_7_code 113 = .ok (.iload_n 1, 1) := by decide +kernel
theorem od_prog_39_method_7_114 : decode prog_39_method_7_code 114 = .ok (.aaload, 1) := by decide +kernel
theorem od_prog_39_method_7_115 : decode prog_39_method_7_code 115 = .ok (.iload 6, 2) := by decide +kernel
theorem od_prog_39_method_7_117 : decode prog_39_method_7_code 117 = .ok (.aload_n 3, 1) := by decide +kernel
theorem od_prog_39_method_7_118 : decode prog_39_method_7_code 118 = .ok (.iload 5, 2) := by decide +kernel
theorem od_prog_39_method_7_120 : decode prog_39_method_7_code 120 = .ok (.iaload, 1) := by decide +kernel
theorem od_prog_39_method_7_121 : decode prog_39_method_7_code 121 = .ok (.iastore, 1) := by decide +kernel
theorem od_prog_39_method_7_122 : decode prog_39_method_7_code 122 = .ok (.aload_n 0, 1) := by decide +kernel
theorem od_prog_39_method_7_123 : decode prog_39_method_7_code 123 = .ok (.getfield 30, 3) := by decide +kernel
theorem od_prog_39_method_7_126 : decode prog_39_method_7_code 126 = .ok (.iload_n 1, 1) := by decide +kernel
theorem od_prog_39_method_7_127 : decode prog_39_method_7_code 127 = .ok (.aaload, 1) := by decide +kernel
theorem od_prog_39_method_7_128 : decode prog_39_method_7_code 128 = .ok (.iload 6, 2) := by decide +kernel
theorem od_prog_39_method_7_130 : decode prog_39_method_7_code 130 = .ok (.aload 4, 2) := by decide +kernel
theorem od_prog_39_method_7_132 : decode prog_39_method_7_code 132 = .ok (.iload 5, 2) := by decide +kernel
theorem od_prog_39_method_7_134 : decode prog_39_method_7_code 134 = .ok (.daload, 1) := by decide +kernel
theorem od_prog_39_method_7_135 : decode prog_39_method_7_code 135 = .ok (.dastore, 1) := by decide +kernel
theorem od_prog_39_method_4_72 : decode prog_39_method_4_code 72 = .ok (.aload_n 0, 1) := by decide +kernel
theorem od_prog_39_method_4_73 : decode prog_39_method_4_code 73 = .ok (.getfield 30, 3) := by decide +kernel
theorem od_prog_39_method_4_76 : decode prog_39_method_4_code 76 = .ok (.iload_n 1, 1) := by decide +kernel
theorem od_prog_39_method_4_77 : decode prog_39_method_4_code 77 = .ok (.aaload, 1) := by decide +kernel
theorem od_prog_39_method_4_78 : decode prog_39_method_4_code 78 = .ok (.aload_n 0, 1) := by decide +kernel
theorem od_prog_39_method_4_79 : decode prog_39_method_4_code 79 = .ok (.getfield 15, 3) := by decide +kernel
theorem od_prog_39_method_4_82 : decode prog_39_method_4_code 82 = .ok (.iload_n 1, 1) := by decide +kernel
theorem od_prog_39_method_4_83 : decode prog_39_method_4_code 83 = .ok (.aaload, 1) := by decide +kernel
theorem od_prog_39_method_4_84 : decode prog_39_method_4_code 84 = .ok (.ifnonnull 7, 3) := by decide +kernel
theorem od_prog_39_method_4_87 : decode prog_39_method_4_code 87 = .ok (.iload_n 2, 1) := by decide +kernel
theorem od_prog_39_method_4_88 : decode prog_39_method_4_code 88 = .ok (.goto 13, 3) := by decide +kernel
theorem od_prog_39_method_4_101 : decode prog_39_method_4_code 101 = .ok (.dup2, 1) := by decide +kernel
theorem od_prog_39_method_4_102 : decode prog_39_method_4_code 102 = .ok (.daload, 1) := by decide +kernel
theorem od_prog_39_method_4_103 : decode prog_39_method_4_code 103 = .ok (.dload_n 3, 1) := by decide +kernel
theorem od_prog_39_method_4_104 : decode prog_39_method_4_code 104 = .ok (.dadd, 1) := by decide +kernel
theorem od_prog_39_method_4_105 : decode prog_39_method_4_code 105 = .ok (.dastore, 1) := by decide +kernel
theorem od_prog_39_method_4_106 : decode prog_39_method_4_code 106 = .ok (.return_, 1) := by decide +kernel
theorem od_prog_39_method_4_91 : decode prog_39_method_4_code 91 = .ok (.aload_n 0, 1) := by decide +kernel
theorem od_prog_39_method_4_92 : decode prog_39_method_4_code 92 = .ok (.getfield 15, 3) := by decide +kernel
theorem od_prog_39_method_4_95 : decode prog_39_method_4_code 95 = .ok (.iload_n 1, 1) := by decide +kernel
theorem od_prog_39_method_4_96 : decode prog_39_method_4_code 96 = .ok (.aaload, 1) := by decide +kernel
theorem od_prog_39_method_4_97 : decode prog_39_method_4_code 97 = .ok (.iload_n 2, 1) := by decide +kernel
theorem od_prog_39_method_4_98 : decode prog_39_method_4_code 98 = .ok (.invokestatic 41, 3) := by decide +kernel
theorem od_prog_39_method_4_0 : decode prog_39_method_4_code 0 = .ok (.aload_n 0, 1) := by decide +kernel
theorem od_prog_39_method_4_1 : decode prog_39_method_4_code 1 = .ok (.getfield 15, 3) := by decide +kernel
theorem od_prog_39_method_4_4 : decode prog_39_method_4_code 4 = .ok (.iload_n 1, 1) := by decide +kernel
theorem od_prog_39_method_4_5 : decode prog_39_method_4_code 5 = .ok (.aaload, 1) := by decide +kernel
theorem od_prog_39_method_4_6 : decode prog_39_method_4_code 6 = .ok (.ifnull 66, 3) := by decide +kernel
theorem od_prog_39_method_4_9 : decode prog_39_method_4_code 9 = .ok (.aload_n 0, 1) := by decide +kernel
theorem od_prog_39_method_4_10 : decode prog_39_method_4_code 10 = .ok (.getfield 15, 3) := by decide +kernel
theorem od_prog_39_method_4_13 : decode prog_39_method_4_code 13 = .ok (.iload_n 1, 1) := by decide +kernel
theorem od_prog_39_method_4_14 : decode prog_39_method_4_code 14 = .ok (.aaload, 1) := by decide +kernel
theorem od_prog_39_method_4_15 : decode prog_39_method_4_code 15 = .ok (.aload_n 0, 1) := by decide +kernel
theorem od_prog_39_method_4_16 : decode prog_39_method_4_code 16 = .ok (.getfield 15, 3) := by decide +kernel
theorem od_prog_39_method_4_19 : decode prog_39_method_4_code 19 = .ok (.iload_n 1, 1) := by decide +kernel
theorem od_prog_39_method_4_20 : decode prog_39_method_4_code 20 = .ok (.aaload, 1) := by decide +kernel
theorem od_prog_39_method_4_21 : decode prog_39_method_4_code 21 = .ok (.iload_n 2, 1) := by decide +kernel
theorem od_prog_39_method_4_22 : decode prog_39_method_4_code 22 = .ok (.invokestatic 41, 3) := by decide +kernel
theorem od_prog_39_method_4_25 : decode prog_39_method_4_code 25 = .ok (.iaload, 1) := by decide +kernel
theorem od_prog_39_method_4_26 : decode prog_39_method_4_code 26 = .ok (.iload_n 2, 1) := by decide +kernel
theorem od_prog_39_method_4_27 : decode prog_39_method_4_code 27 = .ok (.if_icmp .eq 45, 3) := by decide +kernel
theorem od_prog_39_method_4_30 : decode prog_39_method_4_code 30 = .ok (.aload_n 0, 1) := by decide +kernel
theorem od_prog_39_method_4_31 : decode prog_39_method_4_code 31 = .ok (.getfield 7, 3) := by decide +kernel
theorem od_prog_39_method_4_34 : decode prog_39_method_4_code 34 = .ok (.sipush 2048, 3) := by decide +kernel
theorem od_prog_39_method_4_37 : decode prog_39_method_4_code 37 = .ok (.if_icmp .le 21, 3) := by decide +kernel
theorem od_prog_39_method_4_58 : decode prog_39_method_4_code 58 = .ok (.aload_n 0, 1) := by decide +kernel
theorem od_prog_39_method_4_59 : decode prog_39_method_4_code 59 = .ok (.iload_n 1, 1) := by decide +kernel
theorem od_prog_39_method_4_60 : decode prog_39_method_4_code 60 = .ok (.invokevirtual 45, 3) := by decide +kernel
theorem od_prog_39_method_4_63 : decode prog_39_method_4_code 63 = .ok (.goto 9, 3) := by decide +kernel
theorem od_prog_39_method_4_40 : decode prog_39_method_4_code 40 = .ok (.bipush 16, 2) := by decide +kernel
theorem od_prog_39_method_4_42 : decode prog_39_method_4_code 42 = .ok (.aload_n 0, 1) := by decide +kernel
theorem od_prog_39_method_4_43 : decode prog_39_method_4_code 43 = .ok (.getfield 34, 3) := by decide +kernel
theorem od_prog_39_method_4_46 : decode prog_39_method_4_code 46 = .ok (.iload_n 1, 1) := by decide +kernel
theorem od_prog_39_method_4_47 : decode prog_39_method_4_code 47 = .ok (.iaload, 1) := by decide +kernel
theorem od_prog_39_method_4_48 : decode prog_39_method_4_code 48 = .ok (.iconst 1, 1) := by decide +kernel
theorem od_prog_39_method_4_49 : decode prog_39_method_4_code 49 = .ok (.iadd, 1) := by decide +kernel
theorem od_prog_39_method_4_50 : decode prog_39_method_4_code 50 = .ok (.imul, 1) := by decide +kernel
theorem od_prog_39_method_4_51 : decode prog_39_method_4_code 51 = .ok (.aload_n 0, 1) := by decide +kernel
theorem od_prog_39_method_4_52 : decode prog_39_method_4_code 52 = .ok (.getfield 7, 3) := by decide +kernel
theorem od_prog_39_method_4_55 : decode prog_39_method_4_code 55 = .ok (.if_icmp .lt 11, 3) := by decide +kernel
theorem od_prog_39_method_4_66 : decode prog_39_method_4_code 66 = .ok (.aload_n 0, 1) := by decide +kernel
theorem od_prog_39_method_4_67 : decode prog_39_method_4_code 67 = .ok (.iload_n 1, 1) := by decide +kernel
theorem od_prog_39_method_4_68 : decode prog_39_method_4_code 68 = .ok (.iload_n 2, 1) := by decide +kernel
theorem od_prog_39_method_4_69 : decode prog_39_method_4_code 69 = .ok (.invokevirtual 49, 3) := by decide +kernel
theorem od_prog_39_method_1_0 : decode prog_39_method_1_code 0 = .ok (.aload_n 0, 1) := by decide +kernel
theorem od_prog_39_method_1_1 : decode prog_39_method_1_code 1 = .ok (.invokespecial 1, 3) := by decide +kernel
theorem od_prog_39_method_1_4 : decode prog_39_method_1_code 4 = .ok (.aload_n 0, 1) := by decide +kernel
theorem od_prog_39_method_1_5 : decode prog_39_method_1_code 5 = .ok (.iload_n 1, 1) := by decide +kernel
theorem od_prog_39_method_1_6 : decode prog_39_method_1_code 6 = .ok (.putfield 7, 3) := by decide +kernel
theorem od_prog_39_method_1_9 : decode prog_39_method_1_code 9 = .ok (.aload_n 0, 1) := by decide +kernel
theorem od_prog_39_method_1_10 : decode prog_39_method_1_code 10 = .ok (.iload_n 1, 1) := by decide +kernel
theorem od_prog_39_method_1_11 : decode prog_39_method_1_code 11 = .ok (.anewarray 13, 3) := by decide +kernel
theorem od_prog_39_method_1_14 : decode prog_39_method_1_code 14 = .ok (.putfield 15, 3) := by decide +kernel
theorem od_prog_39_method_1_17 : decode prog_39_method_1_code 17 = .ok (.aload_n 0, 1) := by decide +kernel
theorem od_prog_39_method_1_18 : decode prog_39_method_1_code 18 = .ok (.getfield 15, 3) := by decide +kernel
theorem od_prog_39_method_1_21 : decode prog_39_method_1_code 21 = .ok (.getstatic 19, 3) := by decide +kernel
theorem od_prog_39_method_1_24 : decode prog_39_method_1_code 24 = .ok (.invokestatic 22, 3) := by decide +kernel
theorem od_prog_39_method_1_27 : decode prog_39_method_1_code 27 = .ok (.aload_n 0, 1) := by decide +kernel
theorem od_prog_39_method_1_28 : decode prog_39_method_1_code 28 = .ok (.iload_n 1, 1) := by decide +kernel
theorem od_prog_39_method_1_29 : decode prog_39_method_1_code 29 = .ok (.anewarray 28, 3) := by decide +kernel
theorem od_prog_39_method_1_32 : decode prog_39_method_1_code 32 = .ok (.putfield 30, 3) := by decide +kernel
theorem od_prog_39_method_1_35 : decode prog_39_method_1_code 35 = .ok (.aload_n 0, 1) := by decide +kernel
theorem od_prog_39_method_1_36 : decode prog_39_method_1_code 36 = .ok (.iload_n 1, 1) := by decide +kernel
theorem od_prog_39_method_1_37 : decode prog_39_method_1_code 37 = .ok (.newarray .int, 2) := by decide +kernel
theorem od_prog_39_method_1_39 : decode prog_39_method_1_code 39 = .ok (.putfield 34, 3) := by decide +kernel
theorem od_prog_39_method_1_42 : decode prog_39_method_1_code 42 = .ok (.aload_n 0, 1) := by decide +kernel
theorem od_prog_39_method_1_43 : decode prog_39_method_1_code 43 = .ok (.dconst 1, 1) := by decide +kernel
theorem od_prog_39_method_1_44 : decode prog_39_method_1_code 44 = .ok (.iload_n 1, 1) := by decide +kernel
theorem od_prog_39_method_1_45 : decode prog_39_method_1_code 45 = .ok (.i2d, 1) := by decide +kernel
theorem od_prog_39_method_1_46 : decode prog_39_method_1_code 46 = .ok (.ddiv, 1) := by decide +kernel
theorem od_prog_39_method_1_47 : decode prog_39_method_1_code 47 = .ok (.putfield 37, 3) := by decide +kernel
theorem od_prog_39_method_1_50 : decode prog_39_method_1_code 50 = .ok (.return_, 1) := by decide +kernel
theorem od_method_2_0 : decode method_2_code 0 = .ok (.iload_n 0, 1) := by decide +kernel
theorem od_method_2_1 : decode method_2_code 1 = .ok (.ldc 7, 2) := by decide +kernel
theorem od_method_2_3 : decode method_2_code 3 = .ok (.iand, 1) := by decide +kernel
theorem od_method_2_4 : decode method_2_code 4 = .ok (.iload_n 1, 1) := by decide +kernel
theorem od_method_2_5 : decode method_2_code 5 = .ok (.irem, 1) := by decide +kernel
theorem od_method_2_6 : decode method_2_code 6 = .ok (.ireturn, 1) := by decide +kernel
theorem opd_0 : parseMethodDescriptor "([II)I" = some ⟨[(.array .int), .int], some .int⟩ := by decide +kernel
theorem opd_1 : parseMethodDescriptor "([DD)V" = some ⟨[(.array .double), .double], none⟩ := by decide +kernel
theorem opd_2 : parseMethodDescriptor "(II)I" = some ⟨[.int, .int], some .int⟩ := by decide +kernel
theorem opd_3 : parseMethodDescriptor "([II)V" = some ⟨[(.array .int), .int], none⟩ := by decide +kernel
theorem opd_4 : parseMethodDescriptor "(I)V" = some ⟨[.int], none⟩ := by decide +kernel
theorem opd_5 : parseMethodDescriptor "(II)V" = some ⟨[.int, .int], none⟩ := by decide +kernel
theorem opd_6 : parseMethodDescriptor "([Ljava/lang/Object;Ljava/lang/Object;)V" = some ⟨[(.array (.object "java/lang/Object")), (.object "java/lang/Object")], none⟩ := by decide +kernel
theorem opd_7 : parseMethodDescriptor "(D)V" = some ⟨[.double], none⟩ := by decide +kernel
theorem opd_8 : parseMethodDescriptor "(IID)V" = some ⟨[.int, .int, .double], none⟩ := by decide +kernel
theorem opd_9 : parseMethodDescriptor "(II)D" = some ⟨[.int, .int], some .double⟩ := by decide +kernel
theorem ef_rm_fillD (m : MethodId) (x0 : Addr) (x1 : UInt64) : entryFrame m #[(.ref x0), (.double x1)] 5 = mkF m 0 #[.val (.ref x0), .val (.double x1), .second, .unset, .unset] [] := by first | (simp [entryFrame, mkF, argsToLocals, Value.category]; done) | rfl
set_option maxRecDepth 65536 in
set_option maxHeartbeats 40000000 in
theorem rm_fillD (l : Launch) (Z : State) (a0 : Array Value) (hw : ∀ d ∈ tables_1, d.before a0 Z = true) (a1 : Addr) (N : Nat) (f : Nat → Value) (d1 : UInt64) (h0 : Heap) (n0 : Nat) (Z0 : n0 ≤ h0.size)  (n0_a1 : n0 ≤ a1) (V_a1 : own_Fa Z h0 a1 .double "[D" (fun _ => True) N f) :
    own_Met l Z (⟨"java/util/Arrays", "fill", "([DD)V"⟩ : MethodName) jdk_65_method_113_code 5 none ({ frames := 0, cells := 0, slots := 0, locals := 0 } : Room) #[(.ref a1), (.double d1)] h0 (fun v h L => v = none ∧ Fr n0 L ∧ Keep h0 h [a1] ∧ own_Fa Z h a1 .double "[D" (fun _ => True) N (fun _ => (.double d1))) := by
  refine own_body (plainFor_of_name (by first | (simp [plainName, overriddenIn]; done) | decide +kernel)) ?_
  intro p e s m below meth c s₁ hx hby hml hown hnm hlk hrt hZ X0 e0
  refine own_enter (ef_rm_fillD m a1 d1) ?_
  have N0 := Fr.nil n0
  have hN := V_a1.big
  refine own_iconst X0 hx hby od_jdk_65_method_113_0 (pc' := 1) rfl (z := 0) rfl ?_
  refine own_istoreN X0 hx hby od_jdk_65_method_113_1 (pc' := 2) rfl (Ls' := #[.val (.ref a1), .val (.double d1), .second, .val (.int (0 : Int32)), .unset]) rfl ?_
  refine own_aloadN X0 hx hby od_jdk_65_method_113_2 (pc' := 3) rfl rfl rfl ?_
  refine own_fL X0 hx hby hZ e0 V_a1 od_jdk_65_method_113_3 (pc' := 4) rfl ?_
  refine own_istore X0 hx hby od_jdk_65_method_113_4 (pc' := 6) rfl (Ls' := #[.val (.ref a1), .val (.double d1), .second, .val (.int (0 : Int32)), .val (.int (Int32.ofNat N))]) rfl ?_
  refine own_join (α := Nat × Nat × State × Heap × List Loc) (F := fun z => z.2.2.1.setTop (mkF m 6 #[.val (.ref a1), .val (.double d1), .second, .val (.int (Int32.ofNat z.2.1)), .val (.int (Int32.ofNat N))] [])) (P := fun z => z.2.1 + z.1 = N ∧ Stand p l e ({ frames := 0, cells := 0, slots := 0, locals := 0 } : Room) s m #[(.ref a1), (.double d1)] below meth c z.2.2.1 z.2.2.2.2 0 0 ∧ z.2.2.1.heap = z.2.2.2.1 ∧ h0.size ≤ z.2.2.2.1.size ∧ Fr n0 z.2.2.2.2 ∧ Keep h0 z.2.2.2.1 [a1] ∧ own_Fa Z z.2.2.2.1 a1 .double "[D" (fun _ => True) N (own_fillf (.double d1) z.2.1 f)) ?_ ?_
  · rintro ⟨k1, i1, T_1, h_1, L_1⟩ hP
    show own_E p.tables e below _ (T_1.setTop (mkF m 6 #[.val (.ref a1), .val (.double d1), .second, .val (.int (Int32.ofNat i1)), .val (.int (Int32.ofNat N))] []))
    replace hP : i1 + k1 = N ∧ Stand p l e ({ frames := 0, cells := 0, slots := 0, locals := 0 } : Room) s m #[(.ref a1), (.double d1)] below meth c T_1 L_1 0 0 ∧ T_1.heap = h_1 ∧ h0.size ≤ h_1.size ∧ Fr n0 L_1 ∧ Keep h0 h_1 [a1] ∧ own_Fa Z h_1 a1 .double "[D" (fun _ => True) N (own_fillf (.double d1) i1 f) := hP
    revert hP
    induction k1 generalizing i1 T_1 h_1 L_1 with
    | zero =>
      rintro ⟨hik1, Xl1, el1, szl1, Nl1, Kp, V_a1⟩
      refine own_iloadN Xl1 hx hby od_jdk_65_method_113_6 (pc' := 7) rfl rfl ?_
      refine own_iload Xl1 hx hby od_jdk_65_method_113_7 (pc' := 9) rfl rfl ?_
      refine own_icmpY Xl1 hx hby od_jdk_65_method_113_9 (by decide) (pc' := 22) (by decide) (flt (by rw [own_ilt (by omega) (by omega)]; omega)).2.1 ?_
      exact own_ret0 Xl1 hx hby hlk hrt od_jdk_65_method_113_22 (by first | exact ⟨rfl, Nl1, Kp, V_a1.congr (fun j hj => by unfold own_fillf; rw [if_pos (by omega)])⟩ | (rw [el1]; exact ⟨rfl, Nl1, Kp, V_a1.congr (fun j hj => by unfold own_fillf; rw [if_pos (by omega)])⟩)) (by decide) (by decide)
    | succ k1 ih1 =>
      rintro ⟨hik1, Xl1, el1, szl1, Nl1, Kp, V_a1⟩
      have hlt : i1 < N := by omega
      refine own_iloadN Xl1 hx hby od_jdk_65_method_113_6 (pc' := 7) rfl rfl ?_
      refine own_iload Xl1 hx hby od_jdk_65_method_113_7 (pc' := 9) rfl rfl ?_
      refine own_icmpN Xl1 hx hby od_jdk_65_method_113_9 (pc' := 12) rfl (tlt ((own_ilt (by omega) (by omega)).mpr hlt)).2.1 ?_
      refine own_aloadN Xl1 hx hby od_jdk_65_method_113_12 (pc' := 13) rfl rfl rfl ?_
      refine own_iloadN Xl1 hx hby od_jdk_65_method_113_13 (pc' := 14) rfl rfl ?_
      refine own_dloadN Xl1 hx hby od_jdk_65_method_113_14 (pc' := 15) rfl rfl ?_
      refine own_gD Xl1 hx hby hZ el1 V_a1 hlt od_jdk_65_method_113_15 (pc' := 16) rfl ?_
      intro T1 h1 X1 e1 W1 V_a2
      have sz2 := Nat.le_trans szl1 (Keep.of_wr W1).1
      have N1 := own_fr1 (sl := i1) Nl1 n0_a1
      rw [own_fillf_step] at V_a2
      refine own_iincN X1 hx hby od_jdk_65_method_113_16 (pc' := 19) rfl rfl (Ls' := #[.val (.ref a1), .val (.double d1), .second, .val (.int (Int32.ofNat (i1 + 1))), .val (.int (Int32.ofNat N))]) rfl ?_
      refine own_goto X1 hx hby od_jdk_65_method_113_19 (by decide) (pc' := 6) (by decide) ?_
      exact ih1 (i1 + 1) T1 h1 _ ⟨by omega, X1.mono (by decide) (by decide), e1, sz2, N1, (Kp.wr W1 (Or.inl (List.mem_of_getElem? (i := 0) rfl))), V_a2⟩
  · intro J3
    exact J3 (N, 0, s₁, h0, _) ⟨Nat.zero_add _, X0, e0, (Nat.le_refl _), N0, (Keep.refl h0 [a1]), (by rw [own_fillf_0]; exact V_a1)⟩
theorem ef_rm_fillI (m : MethodId) (x0 : Addr) (x1 : Int32) : entryFrame m #[(.ref x0), (.int x1)] 4 = mkF m 0 #[.val (.ref x0), .val (.int x1), .unset, .unset] [] := by first | (simp [entryFrame, mkF, argsToLocals, Value.category]; done) | rfl
set_option maxRecDepth 65536 in
set_option maxHeartbeats 40000000 in
theorem rm_fillI (l : Launch) (Z : State) (a0 : Array Value) (hw : ∀ d ∈ tables_1, d.before a0 Z = true) (a1 : Addr) (N : Nat) (f : Nat → Value) (x1 : Int32) (h0 : Heap) (n0 : Nat) (Z0 : n0 ≤ h0.size)  (n0_a1 : n0 ≤ a1) (V_a1 : own_Fa Z h0 a1 .int "[I" (fun _ => True) N f) :
    own_Met l Z (⟨"java/util/Arrays", "fill", "([II)V"⟩ : MethodName) jdk_65_method_103_code 4 none ({ frames := 0, cells := 0, slots := 0, locals := 0 } : Room) #[(.ref a1), (.int x1)] h0 (fun v h L => v = none ∧ Fr n0 L ∧ Keep h0 h [a1] ∧ own_Fa Z h a1 .int "[I" (fun _ => True) N (fun _ => (.int x1))) := by
  refine own_body (plainFor_of_name (by first | (simp [plainName, overriddenIn]; done) | decide +kernel)) ?_
  intro p e s m below meth c s₁ hx hby hml hown hnm hlk hrt hZ X0 e0
  refine own_enter (ef_rm_fillI m a1 x1) ?_
  have N0 := Fr.nil n0
  have hN := V_a1.big
  refine own_iconst X0 hx hby od_jdk_65_method_103_0 (pc' := 1) rfl (z := 0) rfl ?_
  refine own_istoreN X0 hx hby od_jdk_65_method_103_1 (pc' := 2) rfl (Ls' := #[.val (.ref a1), .val (.int x1), .val (.int (0 : Int32)), .unset]) rfl ?_
  refine own_aloadN X0 hx hby od_jdk_65_method_103_2 (pc' := 3) rfl rfl rfl ?_
  refine own_fL X0 hx hby hZ e0 V_a1 od_jdk_65_method_103_3 (pc' := 4) rfl ?_
  refine own_istoreN X0 hx hby od_jdk_65_method_103_4 (pc' := 5) rfl (Ls' := #[.val (.ref a1), .val (.int x1), .val (.int (0 : Int32)), .val (.int (Int32.ofNat N))]) rfl ?_
  refine own_join (α := Nat × Nat × State × Heap × List Loc) (F := fun z => z.2.2.1.setTop (mkF m 5 #[.val (.ref a1), .val (.int x1), .val (.int (Int32.ofNat z.2.1)), .val (.int (Int32.ofNat N))] [])) (P := fun z => z.2.1 + z.1 = N ∧ Stand p l e ({ frames := 0, cells := 0, slots := 0, locals := 0 } : Room) s m #[(.ref a1), (.int x1)] below meth c z.2.2.1 z.2.2.2.2 0 0 ∧ z.2.2.1.heap = z.2.2.2.1 ∧ h0.size ≤ z.2.2.2.1.size ∧ Fr n0 z.2.2.2.2 ∧ Keep h0 z.2.2.2.1 [a1] ∧ own_Fa Z z.2.2.2.1 a1 .int "[I" (fun _ => True) N (own_fillf (.int x1) z.2.1 f)) ?_ ?_
  · rintro ⟨k1, i1, T_1, h_1, L_1⟩ hP
    show own_E p.tables e below _ (T_1.setTop (mkF m 5 #[.val (.ref a1), .val (.int x1), .val (.int (Int32.ofNat i1)), .val (.int (Int32.ofNat N))] []))
    replace hP : i1 + k1 = N ∧ Stand p l e ({ frames := 0, cells := 0, slots := 0, locals := 0 } : Room) s m #[(.ref a1), (.int x1)] below meth c T_1 L_1 0 0 ∧ T_1.heap = h_1 ∧ h0.size ≤ h_1.size ∧ Fr n0 L_1 ∧ Keep h0 h_1 [a1] ∧ own_Fa Z h_1 a1 .int "[I" (fun _ => True) N (own_fillf (.int x1) i1 f) := hP
    revert hP
    induction k1 generalizing i1 T_1 h_1 L_1 with
    | zero =>
      rintro ⟨hik1, Xl1, el1, szl1, Nl1, Kp, V_a1⟩
      refine own_iloadN Xl1 hx hby od_jdk_65_method_103_5 (pc' := 6) rfl rfl ?_
      refine own_iloadN Xl1 hx hby od_jdk_65_method_103_6 (pc' := 7) rfl rfl ?_
      refine own_icmpY Xl1 hx hby od_jdk_65_method_103_7 (by decide) (pc' := 20) (by decide) (flt (by rw [own_ilt (by omega) (by omega)]; omega)).2.1 ?_
      exact own_ret0 Xl1 hx hby hlk hrt od_jdk_65_method_103_20 (by first | exact ⟨rfl, Nl1, Kp, V_a1.congr (fun j hj => by unfold own_fillf; rw [if_pos (by omega)])⟩ | (rw [el1]; exact ⟨rfl, Nl1, Kp, V_a1.congr (fun j hj => by unfold own_fillf; rw [if_pos (by omega)])⟩)) (by decide) (by decide)
    | succ k1 ih1 =>
      rintro ⟨hik1, Xl1, el1, szl1, Nl1, Kp, V_a1⟩
      have hlt : i1 < N := by omega
      refine own_iloadN Xl1 hx hby od_jdk_65_method_103_5 (pc' := 6) rfl rfl ?_
      refine own_iloadN Xl1 hx hby od_jdk_65_method_103_6 (pc' := 7) rfl rfl ?_
      refine own_icmpN Xl1 hx hby od_jdk_65_method_103_7 (pc' := 10) rfl (tlt ((own_ilt (by omega) (by omega)).mpr hlt)).2.1 ?_
      refine own_aloadN Xl1 hx hby od_jdk_65_method_103_10 (pc' := 11) rfl rfl rfl ?_
      refine own_iloadN Xl1 hx hby od_jdk_65_method_103_11 (pc' := 12) rfl rfl ?_
      refine own_iloadN Xl1 hx hby od_jdk_65_method_103_12 (pc' := 13) rfl rfl ?_
      refine own_gI Xl1 hx hby hZ el1 V_a1 hlt od_jdk_65_method_103_13 (pc' := 14) rfl ?_
      intro T1 h1 X1 e1 W1 V_a2
      have sz2 := Nat.le_trans szl1 (Keep.of_wr W1).1
      have N1 := own_fr1 (sl := i1) Nl1 n0_a1
      rw [own_fillf_step] at V_a2
      refine own_iincN X1 hx hby od_jdk_65_method_103_14 (pc' := 17) rfl rfl (Ls' := #[.val (.ref a1), .val (.int x1), .val (.int (Int32.ofNat (i1 + 1))), .val (.int (Int32.ofNat N))]) rfl ?_
      refine own_goto X1 hx hby od_jdk_65_method_103_17 (by decide) (pc' := 5) (by decide) ?_
      exact ih1 (i1 + 1) T1 h1 _ ⟨by omega, X1.mono (by decide) (by decide), e1, sz2, N1, (Kp.wr W1 (Or.inl (List.mem_of_getElem? (i := 0) rfl))), V_a2⟩
  · intro J3
    exact J3 (N, 0, s₁, h0, _) ⟨Nat.zero_add _, X0, e0, (Nat.le_refl _), N0, (Keep.refl h0 [a1]), (by rw [own_fillf_0]; exact V_a1)⟩
theorem ef_rm_fillO (m : MethodId) (x0 : Addr) (x1 : Addr) : entryFrame m #[(.ref x0), (.ref x1)] 4 = mkF m 0 #[.val (.ref x0), .val (.ref x1), .unset, .unset] [] := by first | (simp [entryFrame, mkF, argsToLocals, Value.category]; done) | rfl
set_option maxRecDepth 65536 in
set_option maxHeartbeats 40000000 in
theorem rm_fillO (l : Launch) (Z : State) (a0 : Array Value) (hw : ∀ d ∈ tables_1, d.before a0 Z = true) (a1 a2 : Addr) (N : Nat) (f : Nat → Value) (h0 : Heap) (n0 : Nat) (Z0 : n0 ≤ h0.size) (n0_a1 : n0 ≤ a1) (V_a1 : own_Fa Z h0 a1 (.array .int) "[[I" (fun k => OvrA Z k .int "[I") N f) (A_a2 : Exa Z h0 a2 "[I") :
    own_Met l Z (⟨"java/util/Arrays", "fill", "([Ljava/lang/Object;Ljava/lang/Object;)V"⟩ : MethodName) jdk_65_method_117_code 4 none ({ frames := 0, cells := 0, slots := 0, locals := 0 } : Room) #[(.ref a1), (.ref a2)] h0 (fun v h L => v = none ∧ Fr n0 L ∧ Keep h0 h [a1] ∧ own_Fa Z h a1 (.array .int) "[[I" (fun k => OvrA Z k .int "[I") N (fun _ => .ref a2)) := by
  refine own_body (plainFor_of_name (by first | (simp [plainName, overriddenIn]; done) | decide +kernel)) ?_
  intro p e s m below meth c s₁ hx hby hml hown hnm hlk hrt hZ X0 e0
  refine own_enter (ef_rm_fillO m a1 a2) ?_
  have N0 := Fr.nil n0
  have hN := V_a1.big
  refine own_iconst X0 hx hby od_jdk_65_method_117_0 (pc' := 1) rfl (z := 0) rfl ?_
  refine own_istoreN X0 hx hby od_jdk_65_method_117_1 (pc' := 2) rfl (Ls' := #[.val (.ref a1), .val (.ref a2), .val (.int (0 : Int32)), .unset]) rfl ?_
  refine own_aloadN X0 hx hby od_jdk_65_method_117_2 (pc' := 3) rfl rfl rfl ?_
  refine own_fL X0 hx hby hZ e0 V_a1 od_jdk_65_method_117_3 (pc' := 4) rfl ?_
  refine own_istoreN X0 hx hby od_jdk_65_method_117_4 (pc' := 5) rfl (Ls' := #[.val (.ref a1), .val (.ref a2), .val (.int (0 : Int32)), .val (.int (Int32.ofNat N))]) rfl ?_
  refine own_join (α := Nat × Nat × State × Heap × List Loc) (F := fun z => z.2.2.1.setTop (mkF m 5 #[.val (.ref a1), .val (.ref a2), .val (.int (Int32.ofNat z.2.1)), .val (.int (Int32.ofNat N))] [])) (P := fun z => z.2.1 + z.1 = N ∧ Stand p l e ({ frames := 0, cells := 0, slots := 0, locals := 0 } : Room) s m #[(.ref a1), (.ref a2)] below meth c z.2.2.1 z.2.2.2.2 0 0 ∧ z.2.2.1.heap = z.2.2.2.1 ∧ h0.size ≤ z.2.2.2.1.size ∧ Fr n0 z.2.2.2.2 ∧ Keep h0 z.2.2.2.1 [a1] ∧ own_Fa Z z.2.2.2.1 a1 (.array .int) "[[I" (fun k => OvrA Z k .int "[I") N (own_fillf (.ref a2) z.2.1 f) ∧ Exa Z z.2.2.2.1 a2 "[I") ?_ ?_
  · rintro ⟨k1, i1, T_1, h_1, L_1⟩ hP
    show own_E p.tables e below _ (T_1.setTop (mkF m 5 #[.val (.ref a1), .val (.ref a2), .val (.int (Int32.ofNat i1)), .val (.int (Int32.ofNat N))] []))
    replace hP : i1 + k1 = N ∧ Stand p l e ({ frames := 0, cells := 0, slots := 0, locals := 0 } : Room) s m #[(.ref a1), (.ref a2)] below meth c T_1 L_1 0 0 ∧ T_1.heap = h_1 ∧ h0.size ≤ h_1.size ∧ Fr n0 L_1 ∧ Keep h0 h_1 [a1] ∧ own_Fa Z h_1 a1 (.array .int) "[[I" (fun k => OvrA Z k .int "[I") N (own_fillf (.ref a2) i1 f) ∧ Exa Z h_1 a2 "[I" := hP
    revert hP
    induction k1 generalizing i1 T_1 h_1 L_1 with
    | zero =>
      rintro ⟨hik1, Xl1, el1, szl1, Nl1, Kp, V_a1, A_a2⟩
      refine own_iloadN Xl1 hx hby od_jdk_65_method_117_5 (pc' := 6) rfl rfl ?_
      refine own_iloadN Xl1 hx hby od_jdk_65_method_117_6 (pc' := 7) rfl rfl ?_
      refine own_icmpY Xl1 hx hby od_jdk_65_method_117_7 (by decide) (pc' := 20) (by decide) (flt (by rw [own_ilt (by omega) (by omega)]; omega)).2.1 ?_
      exact own_ret0 Xl1 hx hby hlk hrt od_jdk_65_method_117_20 (by first | exact ⟨rfl, Nl1, Kp, V_a1.congr (fun j hj => by unfold own_fillf; rw [if_pos (by omega)])⟩ | (rw [el1]; exact ⟨rfl, Nl1, Kp, V_a1.congr (fun j hj => by unfold own_fillf; rw [if_pos (by omega)])⟩)) (by decide) (by decide)
    | succ k1 ih1 =>
      rintro ⟨hik1, Xl1, el1, szl1, Nl1, Kp, V_a1, A_a2⟩
      have hlt : i1 < N := by omega
      refine own_iloadN Xl1 hx hby od_jdk_65_method_117_5 (pc' := 6) rfl rfl ?_
      refine own_iloadN Xl1 hx hby od_jdk_65_method_117_6 (pc' := 7) rfl rfl ?_
      refine own_icmpN Xl1 hx hby od_jdk_65_method_117_7 (pc' := 10) rfl (tlt ((own_ilt (by omega) (by omega)).mpr hlt)).2.1 ?_
      refine own_aloadN Xl1 hx hby od_jdk_65_method_117_10 (pc' := 11) rfl rfl rfl ?_
      refine own_iloadN Xl1 hx hby od_jdk_65_method_117_11 (pc' := 12) rfl rfl ?_
      refine own_aloadN Xl1 hx hby od_jdk_65_method_117_12 (pc' := 13) rfl rfl rfl ?_
      refine own_gA Xl1 hx hby hZ el1 V_a1 rfl rfl (own_stoA V_a1 A_a2) hlt od_jdk_65_method_117_13 (pc' := 14) rfl ?_
      intro T1 h1 X1 e1 W1 V_a2
      have sz2 := Nat.le_trans szl1 (Keep.of_wr W1).1
      replace A_a2 := A_a2.wr W1
      have N1 := own_fr1 (sl := i1) Nl1 n0_a1
      rw [own_fillf_step] at V_a2
      refine own_iincN X1 hx hby od_jdk_65_method_117_14 (pc' := 17) rfl rfl (Ls' := #[.val (.ref a1), .val (.ref a2), .val (.int (Int32.ofNat (i1 + 1))), .val (.int (Int32.ofNat N))]) rfl ?_
      refine own_goto X1 hx hby od_jdk_65_method_117_17 (by decide) (pc' := 5) (by decide) ?_
      exact ih1 (i1 + 1) T1 h1 _ ⟨by omega, X1.mono (by decide) (by decide), e1, sz2, N1, (Kp.wr W1 (Or.inl (List.mem_of_getElem? (i := 0) rfl))), V_a2, A_a2⟩
  · intro J3
    exact J3 (N, 0, s₁, h0, _) ⟨Nat.zero_add _, X0, e0, (Nat.le_refl _), N0, (Keep.refl h0 [a1]), (by rw [own_fillf_0]; exact V_a1), A_a2⟩
theorem ef_rm_slot (m : MethodId) (x0 : Addr) (x1 : Int32) : entryFrame m #[(.ref x0), (.int x1)] 5 = mkF m 0 #[.val (.ref x0), .val (.int x1), .unset, .unset, .unset] [] := by first | (simp [entryFrame, mkF, argsToLocals, Value.category]; done) | rfl
set_option maxRecDepth 65536 in
set_option maxHeartbeats 40000000 in
theorem rm_slot (l : Launch) (Z : State) (a0 : Array Value) (hw : ∀ d ∈ tables_1, d.before a0 Z = true) (a1 : Addr) (bb : Int32) (LL : Nat) (tv : Nat → Int32) (h0 : Heap) (n0 : Nat) (Z0 : n0 ≤ h0.size) (hL : own_L LL) (hfree : ∃ s0, s0 < LL ∧ tv s0 = (-1 : Int32)) (V_a1 : own_Fa Z h0 a1 .int "[I" (fun _ => True) LL (fun j => .int (tv j))) :
    own_Met l Z (⟨"com/example/shopwright/shopwright/search/PairWeights", "slot", "([II)I"⟩ : MethodName) prog_39_method_6_code 5 (some .int) ({ frames := 0, cells := 0, slots := 0, locals := 0 } : Room) #[(.ref a1), (.int bb)] h0 (fun v h L => v = some (.int (Int32.ofNat (own_slot tv LL bb))) ∧ Fr n0 L ∧ h0 = h) := by
  refine own_body (plainFor_of_name (by first | (simp [plainName, overriddenIn]; done) | decide +kernel)) ?_
  intro p e s m below meth c s₁ hx hby hml hown hnm hlk hrt hZ X0 e0
  refine own_enter (ef_rm_slot m a1 bb) ?_
  have N0 := Fr.nil n0
  refine own_aloadN X0 hx hby od_prog_39_method_6_0 (pc' := 1) rfl rfl rfl ?_
  refine own_fL X0 hx hby hZ e0 V_a1 od_prog_39_method_6_1 (pc' := 2) rfl ?_
  refine own_iconst X0 hx hby od_prog_39_method_6_2 (pc' := 3) rfl (z := 1) rfl ?_
  refine own_isub X0 hx hby od_prog_39_method_6_3 (pc' := 4) rfl ?_
  refine own_istoreN X0 hx hby od_prog_39_method_6_4 (pc' := 5) rfl (Ls' := #[.val (.ref a1), .val (.int bb), .val (.int ((Int32.ofNat LL) - (1 : Int32))), .unset, .unset]) rfl ?_
  refine own_iloadN X0 hx hby od_prog_39_method_6_5 (pc' := 6) rfl rfl ?_
  refine own_ldcI X0 hx hby hZ hown (ow_50 hw) od_prog_39_method_6_6 (pc' := 8) rfl ?_
  refine own_imul X0 hx hby od_prog_39_method_6_8 (pc' := 9) rfl ?_
  refine own_istoreN X0 hx hby od_prog_39_method_6_9 (pc' := 10) rfl (Ls' := #[.val (.ref a1), .val (.int bb), .val (.int ((Int32.ofNat LL) - (1 : Int32))), .val (.int (bb * (-1640531527 : Int32))), .unset]) rfl ?_
  refine own_iloadN X0 hx hby od_prog_39_method_6_10 (pc' := 11) rfl rfl ?_
  refine own_iloadN X0 hx hby od_prog_39_method_6_11 (pc' := 12) rfl rfl ?_
  refine own_bipush X0 hx hby od_prog_39_method_6_12 (pc' := 14) rfl (z := 16) rfl ?_
  refine own_iushr X0 hx hby od_prog_39_method_6_14 (pc' := 15) rfl ?_
  refine own_ixor X0 hx hby od_prog_39_method_6_15 (pc' := 16) rfl ?_
  refine own_iloadN X0 hx hby od_prog_39_method_6_16 (pc' := 17) rfl rfl ?_
  refine own_iand X0 hx hby od_prog_39_method_6_17 (pc' := 18) rfl ?_
  rw [show (((bb * (-1640531527 : Int32)) ^^^ (((bb * (-1640531527 : Int32)).toUInt32 >>> ((16 : Int32) &&& 31).toUInt32).toInt32)) &&& ((Int32.ofNat LL) - (1 : Int32))) = Int32.ofNat (own_S0 bb LL) from (own_S0_s bb hL).2]
  refine own_istore X0 hx hby od_prog_39_method_6_18 (pc' := 20) rfl (Ls' := #[.val (.ref a1), .val (.int bb), .val (.int ((Int32.ofNat LL) - (1 : Int32))), .val (.int (bb * (-1640531527 : Int32))), .val (.int (Int32.ofNat (own_S0 bb LL)))]) rfl ?_
  refine own_join (α := Nat × Nat) (F := fun z => s₁.setTop (mkF m 20 #[.val (.ref a1), .val (.int bb), .val (.int ((Int32.ofNat LL) - (1 : Int32))), .val (.int (bb * (-1640531527 : Int32))), .val (.int (Int32.ofNat z.2))] [])) (P := fun z => z.2 < LL ∧ (∃ d, d < z.1 ∧ tv ((z.2 + d) % LL) = (-1 : Int32)) ∧ own_probe tv LL bb z.1 z.2 = own_slot tv LL bb) ?_ ?_
  · rintro ⟨k1, s1⟩ hP
    show own_E p.tables e below _ (s₁.setTop (mkF m 20 #[.val (.ref a1), .val (.int bb), .val (.int ((Int32.ofNat LL) - (1 : Int32))), .val (.int (bb * (-1640531527 : Int32))), .val (.int (Int32.ofNat s1))] []))
    replace hP : s1 < LL ∧ (∃ d, d < k1 ∧ tv ((s1 + d) % LL) = (-1 : Int32)) ∧ own_probe tv LL bb k1 s1 = own_slot tv LL bb := hP
    revert hP
    induction k1 generalizing s1 with
    | zero =>
      rintro ⟨-, ⟨d, hd, -⟩, -⟩
      exact absurd hd (Nat.not_lt_zero _)
    | succ k1 ih =>
      rintro ⟨h1, ⟨d, hd, hf⟩, h3⟩
      refine own_aloadN X0 hx hby od_prog_39_method_6_20 (pc' := 21) rfl rfl rfl ?_
      refine own_iload X0 hx hby od_prog_39_method_6_21 (pc' := 23) rfl rfl ?_
      refine own_fI X0 hx hby hZ e0 V_a1 h1 (v := (tv s1)) rfl od_prog_39_method_6_23 (pc' := 24) rfl ?_
      refine own_iloadN X0 hx hby od_prog_39_method_6_24 (pc' := 25) rfl rfl ?_
      by_cases hq : (tv s1) = bb
      · refine own_icmpY X0 hx hby od_prog_39_method_6_25 (by decide) (pc' := 47) (by decide) (teq hq).1 ?_
        refine own_iload X0 hx hby od_prog_39_method_6_47 (pc' := 49) rfl rfl ?_
        exact own_retI X0 hx hby hlk hrt od_prog_39_method_6_49 (by first | exact ⟨by rw [← h3, own_probe_hit hq], N0, rfl⟩ | (rw [e0]; exact ⟨by rw [← h3, own_probe_hit hq], N0, rfl⟩)) (by decide) (by decide)
      · refine own_icmpN X0 hx hby od_prog_39_method_6_25 (pc' := 28) rfl (feq hq).1 ?_
        refine own_aloadN X0 hx hby od_prog_39_method_6_28 (pc' := 29) rfl rfl rfl ?_
        refine own_iload X0 hx hby od_prog_39_method_6_29 (pc' := 31) rfl rfl ?_
        refine own_fI X0 hx hby hZ e0 V_a1 h1 (v := (tv s1)) rfl od_prog_39_method_6_31 (pc' := 32) rfl ?_
        refine own_iconst X0 hx hby od_prog_39_method_6_32 (pc' := 33) rfl (z := (-1)) rfl ?_
        by_cases hq2 : (tv s1) = (-1 : Int32)
        · refine own_icmpY X0 hx hby od_prog_39_method_6_33 (by decide) (pc' := 47) (by decide) (teq hq2).1 ?_
          refine own_iload X0 hx hby od_prog_39_method_6_47 (pc' := 49) rfl rfl ?_
          exact own_retI X0 hx hby hlk hrt od_prog_39_method_6_49 (by first | exact ⟨by rw [← h3, own_probe_free hq2], N0, rfl⟩ | (rw [e0]; exact ⟨by rw [← h3, own_probe_free hq2], N0, rfl⟩)) (by decide) (by decide)
        · refine own_icmpN X0 hx hby od_prog_39_method_6_33 (pc' := 36) rfl (feq hq2).1 ?_
          refine own_iload X0 hx hby od_prog_39_method_6_36 (pc' := 38) rfl rfl ?_
          refine own_iconst X0 hx hby od_prog_39_method_6_38 (pc' := 39) rfl (z := 1) rfl ?_
          refine own_iadd X0 hx hby od_prog_39_method_6_39 (pc' := 40) rfl ?_
          refine own_iloadN X0 hx hby od_prog_39_method_6_40 (pc' := 41) rfl rfl ?_
          refine own_iand X0 hx hby od_prog_39_method_6_41 (pc' := 42) rfl ?_
          rw [show (((Int32.ofNat s1) + (1 : Int32)) &&& ((Int32.ofNat LL) - (1 : Int32))) = Int32.ofNat ((s1 + 1) % LL) from own_next hL h1]
          refine own_istore X0 hx hby od_prog_39_method_6_42 (pc' := 44) rfl (Ls' := #[.val (.ref a1), .val (.int bb), .val (.int ((Int32.ofNat LL) - (1 : Int32))), .val (.int (bb * (-1640531527 : Int32))), .val (.int (Int32.ofNat ((s1 + 1) % LL)))]) rfl ?_
          refine own_goto X0 hx hby od_prog_39_method_6_44 (by decide) (pc' := 20) (by decide) ?_
          refine ih _ ⟨Nat.mod_lt _ (by omega), ?_, by rw [← h3, own_probe_on hq hq2]⟩
          cases d with
          | zero => exact absurd (by rw [Nat.add_zero, Nat.mod_eq_of_lt h1] at hf; exact hf) hq2
          | succ d => exact ⟨d, by omega, by rw [Nat.mod_add_mod, show s1 + 1 + d = s1 + (d + 1) by omega]; exact hf⟩
  · intro J1
    have hs0 := own_S0_s bb hL
    obtain ⟨s0, h0', hf⟩ := hfree
    exact J1 (LL, own_S0 bb LL) ⟨hs0.1, own_fw hs0.1 h0' hf, rfl⟩
theorem ef_rm_weight (m : MethodId) (x0 : Addr) (x1 : Int32) (x2 : Int32) : entryFrame m #[(.ref x0), (.int x1), (.int x2)] 7 = mkF m 0 #[.val (.ref x0), .val (.int x1), .val (.int x2), .unset, .unset, .unset, .unset] [] := by first | (simp [entryFrame, mkF, argsToLocals, Value.category]; done) | rfl
set_option maxRecDepth 65536 in
set_option maxHeartbeats 40000000 in
theorem rm_weight (l : Launch) (Z : State) (a0 : Array Value) (hw : ∀ d ∈ tables_1, d.before a0 Z = true) (w0 tb wt ta nn : Addr) (N A B K1 : Nat) (u : UInt64) (tA : Nat → Option Addr) (tL : Nat → Nat) (tV : Nat → Nat → Int32) (rA : Nat → Option Addr) (rL : Nat → Nat) (rV : Nat → Nat → UInt64) (tg : Nat → Int32) (h0 : Heap) (n0 : Nat) (Z0 : n0 ≤ h0.size) (hA : A < N) (hB : B < N) (A_w0 : Exa Z h0 w0 "com/example/shopwright/shopwright/search/PairWeights") (F_count : Fld Z h0 w0 "com/example/shopwright/shopwright/search/PairWeights" "count" "I" (.int (Int32.ofNat N))) (F_tables : Fld Z h0 w0 "com/example/shopwright/shopwright/search/PairWeights" "tables" "[[I" (.ref tb)) (F_weights : Fld Z h0 w0 "com/example/shopwright/shopwright/search/PairWeights" "weights" "[[D" (.ref wt)) (F_taught : Fld Z h0 w0 "com/example/shopwright/shopwright/search/PairWeights" "taught" "[I" (.ref ta)) (F_untaught : Fld Z h0 w0 "com/example/shopwright/shopwright/search/PairWeights" "untaught" "D" (.double u)) (OK : own_Ok3 N nn tA tL tV rA rL tg K1) (hK1 : K1 ≤ 3) (PP : own_PA Z h0 tb wt ta nn N tA tL tV rA rL rV tg) :
    own_Met l Z (⟨"com/example/shopwright/shopwright/search/PairWeights", "weight", "(II)D"⟩ : MethodName) prog_39_method_2_code 7 (some .double) ({ frames := 1, cells := 0, slots := 0, locals := 16 } : Room) #[(.ref w0), (.int (Int32.ofNat A)), (.int (Int32.ofNat B))] h0 (fun v h L => v = some (.double (own_W u tA tL tV rV A B)) ∧ Fr n0 L ∧ h0 = h) := by
  refine own_body (plainFor_of_name (by first | (simp [plainName, overriddenIn]; done) | decide +kernel)) ?_
  intro p e s m below meth c s₁ hx hby hml hown hnm hlk hrt hZ X0 e0
  refine own_enter (ef_rm_weight m w0 (Int32.ofNat A) (Int32.ofNat B)) ?_
  have N0 := Fr.nil n0
  have hNb := PP.1.big
  refine own_aloadN X0 hx hby od_prog_39_method_2_0 (pc' := 1) rfl rfl rfl ?_
  refine own_getF X0 hx hby hZ hown (host := "") (Or.inl (ow_19 hw)) Via.refl e0 F_tables od_prog_39_method_2_1 (pc' := 4) rfl ?_
  intro T1 X1 e1
  refine own_iloadN X1 hx hby od_prog_39_method_2_4 (pc' := 5) rfl rfl ?_
  rcases hrow : tA A with _ | t
  · refine own_fA X1 hx hby hZ e1 PP.1 rfl hA (v := .null) (by show own_ov (tA A) = _; rw [hrow]; rfl) od_prog_39_method_2_5 (pc' := 6) rfl ?_
    refine own_astoreN X1 hx hby od_prog_39_method_2_6 (pc' := 7) rfl rfl (Ls' := #[.val (.ref w0), .val (.int (Int32.ofNat A)), .val (.int (Int32.ofNat B)), .val .null, .unset, .unset, .unset]) rfl ?_
    refine own_aloadN X1 hx hby od_prog_39_method_2_7 (pc' := 8) rfl rfl rfl ?_
    refine own_ifnonnullN X1 hx hby od_prog_39_method_2_8 (pc' := 11) rfl ?_
    refine own_aloadN X1 hx hby od_prog_39_method_2_11 (pc' := 12) rfl rfl rfl ?_
    refine own_getF X1 hx hby hZ hown (host := "") (Or.inl (ow_30 hw)) Via.refl e1 F_weights od_prog_39_method_2_12 (pc' := 15) rfl ?_
    intro T2 X2 e2
    refine own_iloadN X2 hx hby od_prog_39_method_2_15 (pc' := 16) rfl rfl ?_
    obtain ⟨⟨r, hr⟩, hrl⟩ := OK.wrow hA hrow
    refine own_fA X2 hx hby hZ e2 PP.2.1 rfl hA (v := (.ref r)) (by show own_ov (rA A) = _; rw [hr]; rfl) od_prog_39_method_2_16 (pc' := 17) rfl ?_
    refine own_iloadN X2 hx hby od_prog_39_method_2_17 (pc' := 18) rfl rfl ?_
    refine own_fD X2 hx hby hZ e2 (PP.2.2.2.2.1 A hA r hr) (by rw [hrl]; exact hB) (v := (rV A B)) rfl od_prog_39_method_2_18 (pc' := 19) rfl ?_
    refine own_dstore X2 hx hby od_prog_39_method_2_19 (pc' := 21) rfl (Ls' := #[.val (.ref w0), .val (.int (Int32.ofNat A)), .val (.int (Int32.ofNat B)), .val .null, .val (.double (rV A B)), .second, .unset]) rfl ?_
    refine own_goto X2 hx hby od_prog_39_method_2_21 (by decide) (pc' := 57) (by decide) ?_
    refine own_dload X2 hx hby od_prog_39_method_2_57 (pc' := 59) rfl rfl ?_
    exact own_retD X2 hx hby hlk hrt od_prog_39_method_2_59 (by first | exact ⟨by unfold own_W; rw [if_pos hrow], N0, rfl⟩ | (rw [e2]; exact ⟨by unfold own_W; rw [if_pos hrow], N0, rfl⟩)) (by decide) (by decide)
  · refine own_fA X1 hx hby hZ e1 PP.1 rfl hA (v := (.ref t)) (by show own_ov (tA A) = _; rw [hrow]; rfl) od_prog_39_method_2_5 (pc' := 6) rfl ?_
    refine own_astoreN X1 hx hby od_prog_39_method_2_6 (pc' := 7) rfl rfl (Ls' := #[.val (.ref w0), .val (.int (Int32.ofNat A)), .val (.int (Int32.ofNat B)), .val (.ref t), .unset, .unset, .unset]) rfl ?_
    refine own_aloadN X1 hx hby od_prog_39_method_2_7 (pc' := 8) rfl rfl rfl ?_
    refine own_ifnonnullY X1 hx hby od_prog_39_method_2_8 (by decide) (pc' := 24) (by decide) ?_
    refine own_aloadN X1 hx hby od_prog_39_method_2_24 (pc' := 25) rfl rfl rfl ?_
    refine own_iloadN X1 hx hby od_prog_39_method_2_25 (pc' := 26) rfl rfl ?_
    have fr := OK.free hK1 hA hrow
    have hs := own_slot_s (b := Int32.ofNat B) fr.1 fr.2
    refine own_callM X1 hx hby hml hZ hown (ow_47 hw) (ow_48 hw) (ow_8 hw) (ow_49 hw) (by decide) (cc := 0) (ss := 0) (rm_slot l Z a0 hw t (Int32.ofNat B) (tL A) (tV A) h0 n0 Z0 fr.1 fr.2 (PP.2.2.2.1 A hA t hrow).1) 0 rfl rfl (by decide) (by decide) rfl (argsL := [(.ref t), (.int (Int32.ofNat B))]) (rest := []) opd_0 rfl rfl (Nat.le_refl _) od_prog_39_method_2_26 (pc' := 29) rfl rfl e1 (by decide) (by decide) ?_
    rintro v3 T3 h3 L3 X3 e3 ⟨rfl, Nq3, rfl⟩
    have N3 := N0.app Nq3
    generalize hS : own_slot (tV A) (tL A) (Int32.ofNat B) = SS at hs ⊢
    refine own_istore X3 hx hby od_prog_39_method_2_29 (pc' := 31) rfl (Ls' := #[.val (.ref w0), .val (.int (Int32.ofNat A)), .val (.int (Int32.ofNat B)), .val (.ref t), .unset, .unset, .val (.int (Int32.ofNat SS))]) rfl ?_
    refine own_aloadN X3 hx hby od_prog_39_method_2_31 (pc' := 32) rfl rfl rfl ?_
    refine own_iload X3 hx hby od_prog_39_method_2_32 (pc' := 34) rfl rfl ?_
    refine own_fI X3 hx hby hZ e3 (PP.2.2.2.1 A hA t hrow).1 hs.1 (v := (tV A SS)) rfl od_prog_39_method_2_34 (pc' := 35) rfl ?_
    refine own_iloadN X3 hx hby od_prog_39_method_2_35 (pc' := 36) rfl rfl ?_
    by_cases hq : (tV A SS) = (Int32.ofNat B)
    · refine own_icmpN X3 hx hby od_prog_39_method_2_36 (pc' := 39) rfl (teq hq).2 ?_
      refine own_aloadN X3 hx hby od_prog_39_method_2_39 (pc' := 40) rfl rfl rfl ?_
      refine own_getF X3 hx hby hZ hown (host := "") (Or.inl (ow_30 hw)) Via.refl e3 F_weights od_prog_39_method_2_40 (pc' := 43) rfl ?_
      intro T4 X4 e4
      refine own_iloadN X4 hx hby od_prog_39_method_2_43 (pc' := 44) rfl rfl ?_
      obtain ⟨⟨r, hr⟩, hrl⟩ := OK.trow hA hrow hs.1 (by omega) hq
      refine own_fA X4 hx hby hZ e4 PP.2.1 rfl hA (v := (.ref r)) (by show own_ov (rA A) = _; rw [hr]; rfl) od_prog_39_method_2_44 (pc' := 45) rfl ?_
      refine own_iload X4 hx hby od_prog_39_method_2_45 (pc' := 47) rfl rfl ?_
      refine own_fD X4 hx hby hZ e4 (PP.2.2.2.2.1 A hA r hr) (by rw [hrl]; exact hs.1) (v := (rV A SS)) rfl od_prog_39_method_2_47 (pc' := 48) rfl ?_
      refine own_goto X4 hx hby od_prog_39_method_2_48 (by decide) (pc' := 55) (by decide) ?_
      refine own_dstore X4 hx hby od_prog_39_method_2_55 (pc' := 57) rfl (Ls' := #[.val (.ref w0), .val (.int (Int32.ofNat A)), .val (.int (Int32.ofNat B)), .val (.ref t), .val (.double (rV A SS)), .second, .val (.int (Int32.ofNat SS))]) rfl ?_
      refine own_dload X4 hx hby od_prog_39_method_2_57 (pc' := 59) rfl rfl ?_
      exact own_retD X4 hx hby hlk hrt od_prog_39_method_2_59 (by first | exact ⟨by unfold own_W; rw [if_neg (by rw [hrow]; exact Option.some_ne_none t), hS, if_pos hq], N3, rfl⟩ | (rw [e4]; exact ⟨by unfold own_W; rw [if_neg (by rw [hrow]; exact Option.some_ne_none t), hS, if_pos hq], N3, rfl⟩)) (by decide) (by decide)
    · refine own_icmpY X3 hx hby od_prog_39_method_2_36 (by decide) (pc' := 51) (by decide) (feq hq).2 ?_
      refine own_aloadN X3 hx hby od_prog_39_method_2_51 (pc' := 52) rfl rfl rfl ?_
      refine own_getF X3 hx hby hZ hown (host := "") (Or.inl (ow_35 hw)) Via.refl e3 F_untaught od_prog_39_method_2_52 (pc' := 55) rfl ?_
      intro T5 X5 e5
      refine own_dstore X5 hx hby od_prog_39_method_2_55 (pc' := 57) rfl (Ls' := #[.val (.ref w0), .val (.int (Int32.ofNat A)), .val (.int (Int32.ofNat B)), .val (.ref t), .val (.double u), .second, .val (.int (Int32.ofNat SS))]) rfl ?_
      refine own_dload X5 hx hby od_prog_39_method_2_57 (pc' := 59) rfl rfl ?_
      exact own_retD X5 hx hby hlk hrt od_prog_39_method_2_59 (by first | exact ⟨by unfold own_W; rw [if_neg (by rw [hrow]; exact Option.some_ne_none t), hS, if_neg hq], N3, rfl⟩ | (rw [e5]; exact ⟨by unfold own_W; rw [if_neg (by rw [hrow]; exact Option.some_ne_none t), hS, if_neg hq], N3, rfl⟩)) (by decide) (by decide)
theorem ef_rm_decay (m : MethodId) (x0 : Addr) (x1 : UInt64) : entryFrame m #[(.ref x0), (.double x1)] 8 = mkF m 0 #[.val (.ref x0), .val (.double x1), .second, .unset, .unset, .unset, .unset, .unset] [] := by first | (simp [entryFrame, mkF, argsToLocals, Value.category]; done) | rfl
set_option maxRecDepth 65536 in
set_option maxHeartbeats 40000000 in
theorem rm_decay (l : Launch) (Z : State) (a0 : Array Value) (hw : ∀ d ∈ tables_1, d.before a0 Z = true) (w0 tb wt ta nn : Addr) (N KK : Nat) (u kp : UInt64) (tA : Nat → Option Addr) (tL : Nat → Nat) (tV : Nat → Nat → Int32) (rA : Nat → Option Addr) (rL : Nat → Nat) (rV : Nat → Nat → UInt64) (tg : Nat → Int32) (h0 : Heap) (n0 : Nat) (Z0 : n0 ≤ h0.size) (n0_w0 : n0 ≤ w0) (BD : own_Bd KK u rV) (hkp : Jvm.Free.Fl.Mag64 1089 kp) (hKK : KK ≤ 1200) (PN : own_PN n0 tb wt ta nn N tA rA) (A_w0 : Exa Z h0 w0 "com/example/shopwright/shopwright/search/PairWeights") (F_count : Fld Z h0 w0 "com/example/shopwright/shopwright/search/PairWeights" "count" "I" (.int (Int32.ofNat N))) (F_tables : Fld Z h0 w0 "com/example/shopwright/shopwright/search/PairWeights" "tables" "[[I" (.ref tb)) (F_weights : Fld Z h0 w0 "com/example/shopwright/shopwright/search/PairWeights" "weights" "[[D" (.ref wt)) (F_taught : Fld Z h0 w0 "com/example/shopwright/shopwright/search/PairWeights" "taught" "[I" (.ref ta)) (F_untaught : Fld Z h0 w0 "com/example/shopwright/shopwright/search/PairWeights" "untaught" "D" (.double u)) (PP : own_PA Z h0 tb wt ta nn N tA tL tV rA rL rV tg) :
    own_Met l Z (⟨"com/example/shopwright/shopwright/search/PairWeights", "decay", "(D)V"⟩ : MethodName) prog_39_method_3_code 8 none ({ frames := 0, cells := 0, slots := 0, locals := 0 } : Room) #[(.ref w0), (.double kp)] h0 (fun v h L => v = none ∧ Fr n0 L ∧ h0.size ≤ h.size ∧ Exa Z h w0 "com/example/shopwright/shopwright/search/PairWeights" ∧ Fld Z h w0 "com/example/shopwright/shopwright/search/PairWeights" "count" "I" (.int (Int32.ofNat N)) ∧ Fld Z h w0 "com/example/shopwright/shopwright/search/PairWeights" "tables" "[[I" (.ref tb) ∧ Fld Z h w0 "com/example/shopwright/shopwright/search/PairWeights" "weights" "[[D" (.ref wt) ∧ Fld Z h w0 "com/example/shopwright/shopwright/search/PairWeights" "taught" "[I" (.ref ta) ∧ Fld Z h w0 "com/example/shopwright/shopwright/search/PairWeights" "untaught" "D" (.double (FP.dmul u kp)) ∧ own_PA Z h tb wt ta nn N tA tL tV rA rL (own_dec rV kp) tg) := by
  refine own_body (plainFor_of_name (by first | (simp [plainName, overriddenIn]; done) | decide +kernel)) ?_
  intro p e s m below meth c s₁ hx hby hml hown hnm hlk hrt hZ X0 e0
  refine own_enter (ef_rm_decay m w0 kp) ?_
  have N0 := Fr.nil n0
  have hNb := PP.1.big
  refine own_aloadN X0 hx hby od_prog_39_method_3_0 (pc' := 1) rfl rfl rfl ?_
  refine own_dup X0 hx hby od_prog_39_method_3_1 (pc' := 2) rfl rfl ?_
  refine own_getF X0 hx hby hZ hown (host := "") (Or.inl (ow_35 hw)) Via.refl e0 F_untaught od_prog_39_method_3_2 (pc' := 5) rfl ?_
  intro T1 X1 e1
  refine own_dloadN X1 hx hby od_prog_39_method_3_5 (pc' := 6) rfl rfl ?_
  refine own_dmul X1 hx hby od_prog_39_method_3_6 (pc' := 7) rfl (own_mulnn BD.1 hkp hKK) rfl ?_
  refine own_putF X1 hx hby hZ hown (host := "") (Or.inl (ow_35 hw)) Via.refl e1 F_untaught A_w0 (Or.inl (ow_36 hw)) (ow_7 hw) (ty := .double) (by decide) rfl rfl od_prog_39_method_3_7 (pc' := 10) rfl ?_
  intro T2 h2 X2 e2 W2 F2_untaught_w0 A2_w0
  replace F_count := F_count.other W2 (Or.inr (slot_ne (Or.inr (ow_16 hw)) (Or.inl (ow_36 hw)) (by decide) (t := .int) (t' := .double) (by decide) (by decide)))
  replace F_tables := F_tables.other W2 (Or.inr (slot_ne (Or.inr (ow_20 hw)) (Or.inl (ow_36 hw)) (by decide) (t := (.array (.array .int))) (t' := .double) (by decide) (by decide)))
  replace F_weights := F_weights.other W2 (Or.inr (slot_ne (Or.inr (ow_31 hw)) (Or.inl (ow_36 hw)) (by decide) (t := (.array (.array .double))) (t' := .double) (by decide) (by decide)))
  replace F_taught := F_taught.other W2 (Or.inr (slot_ne (Or.inr (ow_34 hw)) (Or.inl (ow_36 hw)) (by decide) (t := (.array .int)) (t' := .double) (by decide) (by decide)))
  have sz3 := Nat.le_trans (Nat.le_refl _) (Keep.of_wr W2).1
  replace PP := PP.other W2 A_w0 (by decide) (by decide) (by decide) (by decide)
  have N2 := own_fr1 (sl := Jvm.RoadKit.slotOf Z "com/example/shopwright/shopwright/search/PairWeights" "untaught" "D") N0 n0_w0
  refine own_aloadN X2 hx hby od_prog_39_method_3_10 (pc' := 11) rfl rfl rfl ?_
  refine own_getF X2 hx hby hZ hown (host := "") (Or.inl (ow_30 hw)) Via.refl e2 F_weights od_prog_39_method_3_11 (pc' := 14) rfl ?_
  intro T4 X4 e4
  refine own_astoreN X4 hx hby od_prog_39_method_3_14 (pc' := 15) rfl rfl (Ls' := #[.val (.ref w0), .val (.double kp), .second, .val (.ref wt), .unset, .unset, .unset, .unset]) rfl ?_
  refine own_aloadN X4 hx hby od_prog_39_method_3_15 (pc' := 16) rfl rfl rfl ?_
  refine own_fL X4 hx hby hZ e4 PP.2.1 od_prog_39_method_3_16 (pc' := 17) rfl ?_
  refine own_istore X4 hx hby od_prog_39_method_3_17 (pc' := 19) rfl (Ls' := #[.val (.ref w0), .val (.double kp), .second, .val (.ref wt), .val (.int (Int32.ofNat N)), .unset, .unset, .unset]) rfl ?_
  refine own_iconst X4 hx hby od_prog_39_method_3_19 (pc' := 20) rfl (z := 0) rfl ?_
  refine own_istore X4 hx hby od_prog_39_method_3_20 (pc' := 22) rfl (Ls' := #[.val (.ref w0), .val (.double kp), .second, .val (.ref wt), .val (.int (Int32.ofNat N)), .val (.int (0 : Int32)), .unset, .unset]) rfl ?_
  refine own_join (α := Nat × Nat × State × Heap × List Loc × Slot × Slot) (F := fun z => z.2.2.1.setTop (mkF m 22 #[.val (.ref w0), .val (.double kp), .second, .val (.ref wt), .val (.int (Int32.ofNat N)), .val (.int (Int32.ofNat z.2.1)), z.2.2.2.2.2.1, z.2.2.2.2.2.2] [])) (P := fun z => z.2.1 + z.1 = N ∧ Stand p l e ({ frames := 0, cells := 0, slots := 0, locals := 0 } : Room) s m #[(.ref w0), (.double kp)] below meth c z.2.2.1 z.2.2.2.2.1 0 0 ∧ z.2.2.1.heap = z.2.2.2.1 ∧ h0.size ≤ z.2.2.2.1.size ∧ Fr n0 z.2.2.2.2.1 ∧ Exa Z z.2.2.2.1 w0 "com/example/shopwright/shopwright/search/PairWeights" ∧ Fld Z z.2.2.2.1 w0 "com/example/shopwright/shopwright/search/PairWeights" "count" "I" (.int (Int32.ofNat N)) ∧ Fld Z z.2.2.2.1 w0 "com/example/shopwright/shopwright/search/PairWeights" "tables" "[[I" (.ref tb) ∧ Fld Z z.2.2.2.1 w0 "com/example/shopwright/shopwright/search/PairWeights" "weights" "[[D" (.ref wt) ∧ Fld Z z.2.2.2.1 w0 "com/example/shopwright/shopwright/search/PairWeights" "taught" "[I" (.ref ta) ∧ Fld Z z.2.2.2.1 w0 "com/example/shopwright/shopwright/search/PairWeights" "untaught" "D" (.double (FP.dmul u kp)) ∧ own_PA Z z.2.2.2.1 tb wt ta nn N tA tL tV rA rL (own_decI rV kp z.2.1 0) tg ∧ own_s1 z.2.2.2.2.2.1 ∧ own_s1 z.2.2.2.2.2.2) ?_ ?_
  · rintro ⟨k1, i1, T_1, h_1, L_1, u6, u7⟩ hP
    show own_E p.tables e below _ (T_1.setTop (mkF m 22 #[.val (.ref w0), .val (.double kp), .second, .val (.ref wt), .val (.int (Int32.ofNat N)), .val (.int (Int32.ofNat i1)), u6, u7] []))
    replace hP : i1 + k1 = N ∧ Stand p l e ({ frames := 0, cells := 0, slots := 0, locals := 0 } : Room) s m #[(.ref w0), (.double kp)] below meth c T_1 L_1 0 0 ∧ T_1.heap = h_1 ∧ h0.size ≤ h_1.size ∧ Fr n0 L_1 ∧ Exa Z h_1 w0 "com/example/shopwright/shopwright/search/PairWeights" ∧ Fld Z h_1 w0 "com/example/shopwright/shopwright/search/PairWeights" "count" "I" (.int (Int32.ofNat N)) ∧ Fld Z h_1 w0 "com/example/shopwright/shopwright/search/PairWeights" "tables" "[[I" (.ref tb) ∧ Fld Z h_1 w0 "com/example/shopwright/shopwright/search/PairWeights" "weights" "[[D" (.ref wt) ∧ Fld Z h_1 w0 "com/example/shopwright/shopwright/search/PairWeights" "taught" "[I" (.ref ta) ∧ Fld Z h_1 w0 "com/example/shopwright/shopwright/search/PairWeights" "untaught" "D" (.double (FP.dmul u kp)) ∧ own_PA Z h_1 tb wt ta nn N tA tL tV rA rL (own_decI rV kp i1 0) tg ∧ own_s1 u6 ∧ own_s1 u7 := hP
    revert hP
    induction k1 generalizing i1 T_1 h_1 L_1 u6 u7 with
    | zero =>
      rintro ⟨hik1, Xl1, el1, szl1, Nl1, A_w0, F_count, F_tables, F_weights, F_taught, F_untaught, PP, hu6, hu7⟩
      refine own_iload Xl1 hx hby od_prog_39_method_3_22 (pc' := 24) rfl rfl ?_
      refine own_iload Xl1 hx hby od_prog_39_method_3_24 (pc' := 26) rfl rfl ?_
      refine own_icmpY Xl1 hx hby od_prog_39_method_3_26 (by decide) (pc' := 72) (by decide) (flt (by rw [own_ilt (by omega) (by omega)]; omega)).2.1 ?_
      exact own_ret0 Xl1 hx hby hlk hrt od_prog_39_method_3_72 (by first | exact ⟨rfl, Nl1, szl1, A_w0, F_count, F_tables, F_weights, F_taught, F_untaught, PP.congrR (fun a ha r hr j hj => by unfold own_decI own_dec; rw [if_pos (by omega)])⟩ | (rw [el1]; exact ⟨rfl, Nl1, szl1, A_w0, F_count, F_tables, F_weights, F_taught, F_untaught, PP.congrR (fun a ha r hr j hj => by unfold own_decI own_dec; rw [if_pos (by omega)])⟩)) (by decide) (by decide)
    | succ k1 ih1 =>
      rintro ⟨hik1, Xl1, el1, szl1, Nl1, A_w0, F_count, F_tables, F_weights, F_taught, F_untaught, PP, hu6, hu7⟩
      have hlt : i1 < N := by omega
      refine own_iload Xl1 hx hby od_prog_39_method_3_22 (pc' := 24) rfl rfl ?_
      refine own_iload Xl1 hx hby od_prog_39_method_3_24 (pc' := 26) rfl rfl ?_
      refine own_icmpN Xl1 hx hby od_prog_39_method_3_26 (pc' := 29) rfl (tlt ((own_ilt (by omega) (by omega)).mpr hlt)).2.1 ?_
      refine own_aloadN Xl1 hx hby od_prog_39_method_3_29 (pc' := 30) rfl rfl rfl ?_
      refine own_iload Xl1 hx hby od_prog_39_method_3_30 (pc' := 32) rfl rfl ?_
      rcases hrow : rA i1 with _ | r
      · refine own_fA Xl1 hx hby hZ el1 PP.2.1 rfl hlt (v := .null) (by show own_ov (rA i1) = _; rw [hrow]; rfl) od_prog_39_method_3_32 (pc' := 33) rfl ?_
        refine own_astore Xl1 hx hby od_prog_39_method_3_33 (pc' := 35) rfl rfl (Ls' := #[.val (.ref w0), .val (.double kp), .second, .val (.ref wt), .val (.int (Int32.ofNat N)), .val (.int (Int32.ofNat i1)), .val .null, u7]) (own_sto6 hu6 rfl) ?_
        refine own_aload Xl1 hx hby od_prog_39_method_3_35 (pc' := 37) rfl rfl rfl ?_
        refine own_ifnullY Xl1 hx hby od_prog_39_method_3_37 (by decide) (pc' := 66) (by decide) ?_
        refine own_iincN Xl1 hx hby od_prog_39_method_3_66 (pc' := 69) rfl rfl (Ls' := #[.val (.ref w0), .val (.double kp), .second, .val (.ref wt), .val (.int (Int32.ofNat N)), .val (.int (Int32.ofNat (i1 + 1))), .val .null, u7]) rfl ?_
        refine own_goto Xl1 hx hby od_prog_39_method_3_69 (by decide) (pc' := 22) (by decide) ?_
        exact ih1 (i1 + 1) T_1 h_1 _ (.val .null) (u7) ⟨by omega, Xl1.mono (by decide) (by decide), el1, szl1, Nl1, A_w0, F_count, F_tables, F_weights, F_taught, F_untaught, (PP.congrR (fun a ha r hr j hj => own_decI_skip hrow hr)), (Or.inr ⟨_, rfl, rfl⟩), hu7⟩
      · refine own_fA Xl1 hx hby hZ el1 PP.2.1 rfl hlt (v := (.ref r)) (by show own_ov (rA i1) = _; rw [hrow]; rfl) od_prog_39_method_3_32 (pc' := 33) rfl ?_
        refine own_astore Xl1 hx hby od_prog_39_method_3_33 (pc' := 35) rfl rfl (Ls' := #[.val (.ref w0), .val (.double kp), .second, .val (.ref wt), .val (.int (Int32.ofNat N)), .val (.int (Int32.ofNat i1)), .val (.ref r), u7]) (own_sto6 hu6 rfl) ?_
        refine own_aload Xl1 hx hby od_prog_39_method_3_35 (pc' := 37) rfl rfl rfl ?_
        refine own_ifnullN Xl1 hx hby od_prog_39_method_3_37 (pc' := 40) rfl ?_
        refine own_iconst Xl1 hx hby od_prog_39_method_3_40 (pc' := 41) rfl (z := 0) rfl ?_
        refine own_istore Xl1 hx hby od_prog_39_method_3_41 (pc' := 43) rfl (Ls' := #[.val (.ref w0), .val (.double kp), .second, .val (.ref wt), .val (.int (Int32.ofNat N)), .val (.int (Int32.ofNat i1)), .val (.ref r), .val (.int (0 : Int32))]) (own_sto7 hu7 rfl) ?_
        have ne_w0_r := Exa.ne A_w0 (PP.2.2.2.2.1 i1 hlt r hrow).exa (by decide)
        have hrb := (PP.2.2.2.2.1 i1 hlt r hrow).big
        refine own_join (α := Nat × Nat × State × Heap × List Loc) (F := fun z => z.2.2.1.setTop (mkF m 43 #[.val (.ref w0), .val (.double kp), .second, .val (.ref wt), .val (.int (Int32.ofNat N)), .val (.int (Int32.ofNat i1)), .val (.ref r), .val (.int (Int32.ofNat z.2.1))] [])) (P := fun z => z.2.1 + z.1 = (rL i1) ∧ Stand p l e ({ frames := 0, cells := 0, slots := 0, locals := 0 } : Room) s m #[(.ref w0), (.double kp)] below meth c z.2.2.1 z.2.2.2.2 0 0 ∧ z.2.2.1.heap = z.2.2.2.1 ∧ h0.size ≤ z.2.2.2.1.size ∧ Fr n0 z.2.2.2.2 ∧ Exa Z z.2.2.2.1 w0 "com/example/shopwright/shopwright/search/PairWeights" ∧ Fld Z z.2.2.2.1 w0 "com/example/shopwright/shopwright/search/PairWeights" "count" "I" (.int (Int32.ofNat N)) ∧ Fld Z z.2.2.2.1 w0 "com/example/shopwright/shopwright/search/PairWeights" "tables" "[[I" (.ref tb) ∧ Fld Z z.2.2.2.1 w0 "com/example/shopwright/shopwright/search/PairWeights" "weights" "[[D" (.ref wt) ∧ Fld Z z.2.2.2.1 w0 "com/example/shopwright/shopwright/search/PairWeights" "taught" "[I" (.ref ta) ∧ Fld Z z.2.2.2.1 w0 "com/example/shopwright/shopwright/search/PairWeights" "untaught" "D" (.double (FP.dmul u kp)) ∧ own_PA Z z.2.2.2.1 tb wt ta nn N tA tL tV rA rL (own_decI rV kp i1 z.2.1) tg) ?_ ?_
        · rintro ⟨k2, i2, T_2, h_2, L_2⟩ hP
          show own_E p.tables e below _ (T_2.setTop (mkF m 43 #[.val (.ref w0), .val (.double kp), .second, .val (.ref wt), .val (.int (Int32.ofNat N)), .val (.int (Int32.ofNat i1)), .val (.ref r), .val (.int (Int32.ofNat i2))] []))
          replace hP : i2 + k2 = (rL i1) ∧ Stand p l e ({ frames := 0, cells := 0, slots := 0, locals := 0 } : Room) s m #[(.ref w0), (.double kp)] below meth c T_2 L_2 0 0 ∧ T_2.heap = h_2 ∧ h0.size ≤ h_2.size ∧ Fr n0 L_2 ∧ Exa Z h_2 w0 "com/example/shopwright/shopwright/search/PairWeights" ∧ Fld Z h_2 w0 "com/example/shopwright/shopwright/search/PairWeights" "count" "I" (.int (Int32.ofNat N)) ∧ Fld Z h_2 w0 "com/example/shopwright/shopwright/search/PairWeights" "tables" "[[I" (.ref tb) ∧ Fld Z h_2 w0 "com/example/shopwright/shopwright/search/PairWeights" "weights" "[[D" (.ref wt) ∧ Fld Z h_2 w0 "com/example/shopwright/shopwright/search/PairWeights" "taught" "[I" (.ref ta) ∧ Fld Z h_2 w0 "com/example/shopwright/shopwright/search/PairWeights" "untaught" "D" (.double (FP.dmul u kp)) ∧ own_PA Z h_2 tb wt ta nn N tA tL tV rA rL (own_decI rV kp i1 i2) tg := hP
          revert hP
          induction k2 generalizing i2 T_2 h_2 L_2 with
          | zero =>
            rintro ⟨hik2, Xl2, el2, szl2, Nl2, A_w0, F_count, F_tables, F_weights, F_taught, F_untaught, PP⟩
            refine own_iload Xl2 hx hby od_prog_39_method_3_43 (pc' := 45) rfl rfl ?_
            refine own_aload Xl2 hx hby od_prog_39_method_3_45 (pc' := 47) rfl rfl rfl ?_
            refine own_fL Xl2 hx hby hZ el2 (PP.2.2.2.2.1 i1 hlt r hrow) od_prog_39_method_3_47 (pc' := 48) rfl ?_
            refine own_icmpY Xl2 hx hby od_prog_39_method_3_48 (by decide) (pc' := 66) (by decide) (flt (by rw [own_ilt (by omega) (by omega)]; omega)).2.1 ?_
            refine own_iincN Xl2 hx hby od_prog_39_method_3_66 (pc' := 69) rfl rfl (Ls' := #[.val (.ref w0), .val (.double kp), .second, .val (.ref wt), .val (.int (Int32.ofNat N)), .val (.int (Int32.ofNat (i1 + 1))), .val (.ref r), .val (.int (Int32.ofNat i2))]) rfl ?_
            refine own_goto Xl2 hx hby od_prog_39_method_3_69 (by decide) (pc' := 22) (by decide) ?_
            exact ih1 (i1 + 1) T_2 h_2 _ (.val (.ref r)) (.val (.int (Int32.ofNat i2))) ⟨by omega, Xl2.mono (by decide) (by decide), el2, szl2, Nl2, A_w0, F_count, F_tables, F_weights, F_taught, F_untaught, (PP.congrR (fun a ha r' hr j hj => own_decI_next (by omega) hj)), (Or.inr ⟨_, rfl, rfl⟩), (Or.inr ⟨_, rfl, rfl⟩)⟩
          | succ k2 ih2 =>
            rintro ⟨hik2, Xl2, el2, szl2, Nl2, A_w0, F_count, F_tables, F_weights, F_taught, F_untaught, PP⟩
            have hlt2 : i2 < rL i1 := by omega
            refine own_iload Xl2 hx hby od_prog_39_method_3_43 (pc' := 45) rfl rfl ?_
            refine own_aload Xl2 hx hby od_prog_39_method_3_45 (pc' := 47) rfl rfl rfl ?_
            refine own_fL Xl2 hx hby hZ el2 (PP.2.2.2.2.1 i1 hlt r hrow) od_prog_39_method_3_47 (pc' := 48) rfl ?_
            refine own_icmpN Xl2 hx hby od_prog_39_method_3_48 (pc' := 51) rfl (tlt ((own_ilt (by omega) (by omega)).mpr hlt2)).2.1 ?_
            refine own_aload Xl2 hx hby od_prog_39_method_3_51 (pc' := 53) rfl rfl rfl ?_
            refine own_iload Xl2 hx hby od_prog_39_method_3_53 (pc' := 55) rfl rfl ?_
            refine own_dup2 Xl2 hx hby od_prog_39_method_3_55 (pc' := 56) rfl rfl rfl ?_
            refine own_fD Xl2 hx hby hZ el2 (PP.2.2.2.2.1 i1 hlt r hrow) hlt2 (v := (rV i1 i2)) (by show Value.double (own_decI rV kp i1 i2 i1 i2) = _; rw [own_decI_at]) od_prog_39_method_3_56 (pc' := 57) rfl ?_
            refine own_dloadN Xl2 hx hby od_prog_39_method_3_57 (pc' := 58) rfl rfl ?_
            refine own_dmul Xl2 hx hby od_prog_39_method_3_58 (pc' := 59) rfl (own_mulnn (BD.2 i1 i2) hkp hKK) rfl ?_
            refine own_gD Xl2 hx hby hZ el2 (PP.2.2.2.2.1 i1 hlt r hrow) hlt2 od_prog_39_method_3_59 (pc' := 60) rfl ?_
            intro T5 h5 X5 e5 W5 Vx
            replace PP := PP.wrR hlt hrow W5
            have sz6 := Nat.le_trans szl2 (Keep.of_wr W5).1
            replace A_w0 := A_w0.wr W5
            replace F_count := F_count.other W5 (Or.inl ne_w0_r)
            replace F_tables := F_tables.other W5 (Or.inl ne_w0_r)
            replace F_weights := F_weights.other W5 (Or.inl ne_w0_r)
            replace F_taught := F_taught.other W5 (Or.inl ne_w0_r)
            replace F_untaught := F_untaught.other W5 (Or.inl ne_w0_r)
            have N5 := own_fr1 (sl := i2) Nl2 (PN.2.2.2.2 i1 hlt r hrow)
            rw [own_decI_step] at PP
            refine own_iincN X5 hx hby od_prog_39_method_3_60 (pc' := 63) rfl rfl (Ls' := #[.val (.ref w0), .val (.double kp), .second, .val (.ref wt), .val (.int (Int32.ofNat N)), .val (.int (Int32.ofNat i1)), .val (.ref r), .val (.int (Int32.ofNat (i2 + 1)))]) rfl ?_
            refine own_goto X5 hx hby od_prog_39_method_3_63 (by decide) (pc' := 43) (by decide) ?_
            exact ih2 (i2 + 1) T5 h5 _ ⟨by omega, X5.mono (by decide) (by decide), e5, sz6, N5, A_w0, F_count, F_tables, F_weights, F_taught, F_untaught, PP⟩
        · intro J7
          exact J7 ((rL i1), 0, T_1, h_1, _) ⟨Nat.zero_add _, Xl1, el1, szl1, Nl1, A_w0, F_count, F_tables, F_weights, F_taught, F_untaught, PP⟩
  · intro J8
    exact J8 (N, 0, T4, h2, _, .unset, .unset) ⟨Nat.zero_add _, X4, e4, sz3, N2, A2_w0, F_count, F_tables, F_weights, F_taught, F2_untaught_w0, (by rw [own_decI_0]; exact PP), (Or.inl rfl), (Or.inl rfl)⟩
theorem ef_rm_max (m : MethodId) (x0 : Int32) (x1 : Int32) : entryFrame m #[(.int x0), (.int x1)] 2 = mkF m 0 #[.val (.int x0), .val (.int x1)] [] := by first | (simp [entryFrame, mkF, argsToLocals, Value.category]; done) | rfl
set_option maxRecDepth 65536 in
set_option maxHeartbeats 40000000 in
theorem rm_max (l : Launch) (Z : State) (a0 : Array Value) (hw : ∀ d ∈ tables_1, d.before a0 Z = true) (p2 : Int32) (h0 : Heap) (n0 : Nat) (Z0 : n0 ≤ h0.size) (hm : ¬ (4 : Int32) < p2) :
    own_Met l Z (⟨"java/lang/Math", "max", "(II)I"⟩ : MethodName) jdk_29_method_65_code 2 (some .int) ({ frames := 0, cells := 0, slots := 0, locals := 0 } : Room) #[(.int (4 : Int32)), (.int p2)] h0 (fun v h L => v = some (.int (4 : Int32)) ∧ Fr n0 L ∧ h0 = h) := by
  refine own_body (Jvm.Free.JP.mathPlain rfl (by decide +kernel)) ?_
  intro p e s m below meth c s₁ hx hby hml hown hnm hlk hrt hZ X0 e0
  refine own_enter (ef_rm_max m (4 : Int32) p2) ?_
  have N0 := Fr.nil n0
  refine own_iloadN X0 hx hby od_jdk_29_method_65_0 (pc' := 1) rfl rfl ?_
  refine own_iloadN X0 hx hby od_jdk_29_method_65_1 (pc' := 2) rfl rfl ?_
  refine own_icmpN X0 hx hby od_jdk_29_method_65_2 (pc' := 5) rfl (flt hm).1 ?_
  refine own_iloadN X0 hx hby od_jdk_29_method_65_5 (pc' := 6) rfl rfl ?_
  refine own_goto X0 hx hby od_jdk_29_method_65_6 (by decide) (pc' := 10) (by decide) ?_
  exact own_retI X0 hx hby hlk hrt od_jdk_29_method_65_10 (by first | exact ⟨rfl, N0, rfl⟩ | (rw [e0]; exact ⟨rfl, N0, rfl⟩)) (by decide) (by decide)
theorem ef_rm_hw (m : MethodId) (x0 : Addr) (x1 : Int32) : entryFrame m #[(.ref x0), (.int x1)] 4 = mkF m 0 #[.val (.ref x0), .val (.int x1), .unset, .unset] [] := by first | (simp [entryFrame, mkF, argsToLocals, Value.category]; done) | rfl
set_option maxRecDepth 65536 in
set_option maxHeartbeats 40000000 in
theorem rm_hw (l : Launch) (Z : State) (a0 : Array Value) (hw : ∀ d ∈ tables_1, d.before a0 Z = true) (w0 tb wt ta nn : Addr) (N A : Nat) (u : UInt64) (tA : Nat → Option Addr) (tL : Nat → Nat) (tV : Nat → Nat → Int32) (rA : Nat → Option Addr) (rL : Nat → Nat) (rV : Nat → Nat → UInt64) (tg : Nat → Int32) (h0 : Heap) (n0 : Nat) (Z0 : n0 ≤ h0.size) (n0_w0 : n0 ≤ w0) (PN : own_PN n0 tb wt ta nn N tA rA) (hA : A < N) (hN : N ≤ 2048) (ht : tA A = some nn) (k2_ : tL A = 1) (k3_ : tV A 0 = (-1 : Int32)) (A_w0 : Exa Z h0 w0 "com/example/shopwright/shopwright/search/PairWeights") (F_count : Fld Z h0 w0 "com/example/shopwright/shopwright/search/PairWeights" "count" "I" (.int (Int32.ofNat N))) (F_tables : Fld Z h0 w0 "com/example/shopwright/shopwright/search/PairWeights" "tables" "[[I" (.ref tb)) (F_weights : Fld Z h0 w0 "com/example/shopwright/shopwright/search/PairWeights" "weights" "[[D" (.ref wt)) (F_taught : Fld Z h0 w0 "com/example/shopwright/shopwright/search/PairWeights" "taught" "[I" (.ref ta)) (F_untaught : Fld Z h0 w0 "com/example/shopwright/shopwright/search/PairWeights" "untaught" "D" (.double u)) (PP : own_PA Z h0 tb wt ta nn N tA tL tV rA rL rV tg) :
    own_Met l Z (⟨"com/example/shopwright/shopwright/search/PairWeights", "holdWhole", "(I)V"⟩ : MethodName) prog_39_method_8_code 4 none ({ frames := 1, cells := 1, slots := 2048, locals := 16 } : Room) #[(.ref w0), (.int (Int32.ofNat A))] h0 (fun v h L => v = none ∧ Fr n0 L ∧ h0.size ≤ h.size ∧ Exa Z h w0 "com/example/shopwright/shopwright/search/PairWeights" ∧ Fld Z h w0 "com/example/shopwright/shopwright/search/PairWeights" "count" "I" (.int (Int32.ofNat N)) ∧ Fld Z h w0 "com/example/shopwright/shopwright/search/PairWeights" "tables" "[[I" (.ref tb) ∧ Fld Z h w0 "com/example/shopwright/shopwright/search/PairWeights" "weights" "[[D" (.ref wt) ∧ Fld Z h w0 "com/example/shopwright/shopwright/search/PairWeights" "taught" "[I" (.ref ta) ∧ Fld Z h w0 "com/example/shopwright/shopwright/search/PairWeights" "untaught" "D" (.double u) ∧ ∃ b : Addr, n0 ≤ b ∧ own_PA Z h tb wt ta nn N (own_up tA A none) (own_up tL A 0) (own_up tV A (fun _ => 0)) (own_up rA A (some b)) (own_up rL A N) (own_up rV A (fun _ => u)) tg) := by
  refine own_body (plainFor_of_name (by first | (simp [plainName, overriddenIn]; done) | decide +kernel)) ?_
  intro p e s m below meth c s₁ hx hby hml hown hnm hlk hrt hZ X0 e0
  refine own_enter (ef_rm_hw m w0 (Int32.ofNat A)) ?_
  have N0 := Fr.nil n0
  have hNb := PP.1.big
  have ne_w0_tb := Exa.ne A_w0 PP.1.exa (by decide)
  have ne_w0_wt := Exa.ne A_w0 PP.2.1.exa (by decide)
  have ne_w0_ta := Exa.ne A_w0 PP.2.2.1.exa (by decide)
  refine own_aloadN X0 hx hby od_prog_39_method_8_0 (pc' := 1) rfl rfl rfl ?_
  refine own_getF X0 hx hby hZ hown (host := "") (Or.inl (ow_15 hw)) Via.refl e0 F_count od_prog_39_method_8_1 (pc' := 4) rfl ?_
  intro T1 X1 e1
  refine own_nD (N := N) X1 hx hby hZ (ow_55 hw) e1 od_prog_39_method_8_4 (pc' := 6) rfl (cap := 2048) hN (by decide) (by decide) (by decide) ?_
  intro T2 h2 b2 g2 X2 e2 E2 V_b2
  have ne_w0_b2 : w0 ≠ b2 := own_nl A_w0.lt g2
  have n0_b2 : n0 ≤ b2 := Nat.le_trans Z0 (Nat.le_of_eq g2.symm)
  have le0_b2 : h0.size ≤ b2 := Nat.le_trans (Nat.le_refl _) (Nat.le_of_eq g2.symm)
  have fr_b2 := PP.fresh (Nat.le_of_eq g2.symm)
  have sz3 := Nat.le_trans (Nat.le_refl _) E2.1
  replace A_w0 := A_w0.ext E2
  replace F_count := F_count.ext E2
  replace F_tables := F_tables.ext E2
  replace F_weights := F_weights.ext E2
  replace F_taught := F_taught.ext E2
  replace F_untaught := F_untaught.ext E2
  replace PP := PP.ext E2
  refine own_astoreN X2 hx hby od_prog_39_method_8_6 (pc' := 7) rfl rfl (Ls' := #[.val (.ref w0), .val (.int (Int32.ofNat A)), .val (.ref b2), .unset]) rfl ?_
  refine own_aloadN X2 hx hby od_prog_39_method_8_7 (pc' := 8) rfl rfl rfl ?_
  refine own_aloadN X2 hx hby od_prog_39_method_8_8 (pc' := 9) rfl rfl rfl ?_
  refine own_getF X2 hx hby hZ hown (host := "") (Or.inl (ow_35 hw)) Via.refl e2 F_untaught od_prog_39_method_8_9 (pc' := 12) rfl ?_
  intro T4 X4 e4
  refine own_callM X4 hx hby hml hZ hown (ow_56 hw) (ow_57 hw) (ow_25 hw) (ow_58 hw) (by decide) (cc := 0) (ss := 0) (rm_fillD l Z a0 hw b2 N _ u h2 n0 (Nat.le_trans Z0 sz3) n0_b2 V_b2) 0 rfl rfl (by decide) (by decide) rfl (argsL := [(.ref b2), (.double u)]) (rest := []) opd_1 rfl rfl (Nat.le_refl _) od_prog_39_method_8_12 (pc' := 15) rfl rfl e4 (by decide) (by decide) ?_
  rintro v5 T5 h5 L5 X5 e5 ⟨rfl, Nq5, Kq5, Vq⟩
  replace PP := PP.keepD Kq5 V_b2.exa fr_b2.2.2
  have N5 := N0.app Nq5
  have sz6 := Nat.le_trans sz3 Kq5.1
  replace A_w0 := A_w0.keep Kq5
  replace F_count := F_count.keep Kq5 (own_niS ne_w0_b2 own_ni0)
  replace F_tables := F_tables.keep Kq5 (own_niS ne_w0_b2 own_ni0)
  replace F_weights := F_weights.keep Kq5 (own_niS ne_w0_b2 own_ni0)
  replace F_taught := F_taught.keep Kq5 (own_niS ne_w0_b2 own_ni0)
  replace F_untaught := F_untaught.keep Kq5 (own_niS ne_w0_b2 own_ni0)
  have ne_b2_tb := Exa.ne Vq.exa PP.1.exa (by decide)
  have ne_b2_wt := Exa.ne Vq.exa PP.2.1.exa (by decide)
  have VN := (PP.2.2.2.1 A hA nn ht).1
  rw [k2_] at VN
  refine own_iconst X5 hx hby od_prog_39_method_8_15 (pc' := 16) rfl (z := 0) rfl ?_
  refine own_istoreN X5 hx hby od_prog_39_method_8_16 (pc' := 17) rfl (Ls' := #[.val (.ref w0), .val (.int (Int32.ofNat A)), .val (.ref b2), .val (.int (0 : Int32))]) rfl ?_
  refine own_iloadN X5 hx hby od_prog_39_method_8_17 (pc' := 18) rfl rfl ?_
  refine own_aloadN X5 hx hby od_prog_39_method_8_18 (pc' := 19) rfl rfl rfl ?_
  refine own_getF X5 hx hby hZ hown (host := "") (Or.inl (ow_19 hw)) Via.refl e5 F_tables od_prog_39_method_8_19 (pc' := 22) rfl ?_
  intro T7 X7 e7
  refine own_iloadN X7 hx hby od_prog_39_method_8_22 (pc' := 23) rfl rfl ?_
  refine own_fA X7 hx hby hZ e7 PP.1 rfl hA (v := (.ref nn)) (by show own_ov (tA A) = _; rw [ht]; rfl) od_prog_39_method_8_23 (pc' := 24) rfl ?_
  refine own_fL X7 hx hby hZ e7 VN od_prog_39_method_8_24 (pc' := 25) rfl ?_
  refine own_icmpN X7 hx hby od_prog_39_method_8_25 (pc' := 28) rfl (tlt (by decide)).2.1 ?_
  refine own_aloadN X7 hx hby od_prog_39_method_8_28 (pc' := 29) rfl rfl rfl ?_
  refine own_getF X7 hx hby hZ hown (host := "") (Or.inl (ow_19 hw)) Via.refl e7 F_tables od_prog_39_method_8_29 (pc' := 32) rfl ?_
  intro T8 X8 e8
  refine own_iloadN X8 hx hby od_prog_39_method_8_32 (pc' := 33) rfl rfl ?_
  refine own_fA X8 hx hby hZ e8 PP.1 rfl hA (v := (.ref nn)) (by show own_ov (tA A) = _; rw [ht]; rfl) od_prog_39_method_8_33 (pc' := 34) rfl ?_
  refine own_iloadN X8 hx hby od_prog_39_method_8_34 (pc' := 35) rfl rfl ?_
  refine own_fI X8 hx hby hZ e8 VN (by decide : (0 : Nat) < 1) (v := (-1 : Int32)) (by show Value.int (tV A 0) = _; rw [k3_]) od_prog_39_method_8_35 (pc' := 36) rfl ?_
  refine own_iconst X8 hx hby od_prog_39_method_8_36 (pc' := 37) rfl (z := (-1)) rfl ?_
  refine own_icmpY X8 hx hby od_prog_39_method_8_37 (by decide) (pc' := 58) (by decide) (teq rfl).1 ?_
  refine own_iinc X8 hx hby od_prog_39_method_8_58 (pc' := 61) rfl rfl (z := 1) rfl (Ls' := #[.val (.ref w0), .val (.int (Int32.ofNat A)), .val (.ref b2), .val (.int ((0 : Int32) + (1 : Int32)))]) rfl ?_
  refine own_goto X8 hx hby od_prog_39_method_8_61 (by decide) (pc' := 17) (by decide) ?_
  refine own_iloadN X8 hx hby od_prog_39_method_8_17 (pc' := 18) rfl rfl ?_
  refine own_aloadN X8 hx hby od_prog_39_method_8_18 (pc' := 19) rfl rfl rfl ?_
  refine own_getF X8 hx hby hZ hown (host := "") (Or.inl (ow_19 hw)) Via.refl e8 F_tables od_prog_39_method_8_19 (pc' := 22) rfl ?_
  intro T9 X9 e9
  refine own_iloadN X9 hx hby od_prog_39_method_8_22 (pc' := 23) rfl rfl ?_
  refine own_fA X9 hx hby hZ e9 PP.1 rfl hA (v := (.ref nn)) (by show own_ov (tA A) = _; rw [ht]; rfl) od_prog_39_method_8_23 (pc' := 24) rfl ?_
  refine own_fL X9 hx hby hZ e9 VN od_prog_39_method_8_24 (pc' := 25) rfl ?_
  refine own_icmpY X9 hx hby od_prog_39_method_8_25 (by decide) (pc' := 64) (by decide) (flt (by decide)).2.1 ?_
  refine own_aloadN X9 hx hby od_prog_39_method_8_64 (pc' := 65) rfl rfl rfl ?_
  refine own_getF X9 hx hby hZ hown (host := "") (Or.inl (ow_19 hw)) Via.refl e9 F_tables od_prog_39_method_8_65 (pc' := 68) rfl ?_
  intro T10 X10 e10
  refine own_iloadN X10 hx hby od_prog_39_method_8_68 (pc' := 69) rfl rfl ?_
  refine own_aconst_null X10 hx hby od_prog_39_method_8_69 (pc' := 70) rfl ?_
  refine own_gA X10 hx hby hZ e10 PP.1 rfl rfl (Or.inl rfl) hA od_prog_39_method_8_70 (pc' := 71) rfl ?_
  intro T11 h11 X11 e11 W11 Vx1
  replace PP := PP.wrB (o := none) (L := 0) (V := fun _ => 0) W11 (fun t ht => by cases ht)
  have sz12 := Nat.le_trans sz6 (Keep.of_wr W11).1
  replace A_w0 := A_w0.wr W11
  replace F_count := F_count.other W11 (Or.inl ne_w0_tb)
  replace F_tables := F_tables.other W11 (Or.inl ne_w0_tb)
  replace F_weights := F_weights.other W11 (Or.inl ne_w0_tb)
  replace F_taught := F_taught.other W11 (Or.inl ne_w0_tb)
  replace F_untaught := F_untaught.other W11 (Or.inl ne_w0_tb)
  replace Vq := Vq.other W11 ne_b2_tb
  have N11 := own_fr1 (sl := A) N5 PN.1
  refine own_aloadN X11 hx hby od_prog_39_method_8_71 (pc' := 72) rfl rfl rfl ?_
  refine own_getF X11 hx hby hZ hown (host := "") (Or.inl (ow_30 hw)) Via.refl e11 F_weights od_prog_39_method_8_72 (pc' := 75) rfl ?_
  intro T13 X13 e13
  refine own_iloadN X13 hx hby od_prog_39_method_8_75 (pc' := 76) rfl rfl ?_
  refine own_aloadN X13 hx hby od_prog_39_method_8_76 (pc' := 77) rfl rfl rfl ?_
  refine own_gA X13 hx hby hZ e13 PP.2.1 rfl rfl (own_stoA PP.2.1 Vq.exa) hA od_prog_39_method_8_77 (pc' := 78) rfl ?_
  intro T14 h14 X14 e14 W14 Vx2
  replace PP := PP.wrW (V := fun _ => u) W14 Vq fr_b2.2.2
  have sz15 := Nat.le_trans sz12 (Keep.of_wr W14).1
  replace A_w0 := A_w0.wr W14
  replace F_count := F_count.other W14 (Or.inl ne_w0_wt)
  replace F_tables := F_tables.other W14 (Or.inl ne_w0_wt)
  replace F_weights := F_weights.other W14 (Or.inl ne_w0_wt)
  replace F_taught := F_taught.other W14 (Or.inl ne_w0_wt)
  replace F_untaught := F_untaught.other W14 (Or.inl ne_w0_wt)
  replace Vq := Vq.other W14 ne_b2_wt
  have N14 := own_fr1 (sl := A) N11 PN.2.1
  exact own_ret0 X14 hx hby hlk hrt od_prog_39_method_8_78 (by first | exact ⟨rfl, N14, sz15, A_w0, F_count, F_tables, F_weights, F_taught, F_untaught, b2, n0_b2, PP⟩ | (rw [e14]; exact ⟨rfl, N14, sz15, A_w0, F_count, F_tables, F_weights, F_taught, F_untaught, b2, n0_b2, PP⟩)) (by decide) (by decide)
theorem ef_rm_hta (m : MethodId) (x0 : Addr) (x1 : Int32) (x2 : Int32) : entryFrame m #[(.ref x0), (.int x1), (.int x2)] 7 = mkF m 0 #[.val (.ref x0), .val (.int x1), .val (.int x2), .unset, .unset, .unset, .unset] [] := by first | (simp [entryFrame, mkF, argsToLocals, Value.category]; done) | rfl
set_option maxRecDepth 65536 in
set_option maxHeartbeats 40000000 in
theorem rm_hta (l : Launch) (Z : State) (a0 : Array Value) (hw : ∀ d ∈ tables_1, d.before a0 Z = true) (w0 tb wt ta nn : Addr) (N A B : Nat) (u : UInt64) (tA : Nat → Option Addr) (tL : Nat → Nat) (tV : Nat → Nat → Int32) (rA : Nat → Option Addr) (rL : Nat → Nat) (rV : Nat → Nat → UInt64) (tg : Nat → Int32) (h0 : Heap) (n0 : Nat) (Z0 : n0 ≤ h0.size) (n0_w0 : n0 ≤ w0) (PN : own_PN n0 tb wt ta nn N tA rA) (hA : A < N) (ht : tA A = some nn) (k2_ : tL A = 1) (k3_ : tV A 0 = (-1 : Int32)) (k4_ : tg A = Int32.ofNat 0) (hr : rA A = none) (A_w0 : Exa Z h0 w0 "com/example/shopwright/shopwright/search/PairWeights") (F_count : Fld Z h0 w0 "com/example/shopwright/shopwright/search/PairWeights" "count" "I" (.int (Int32.ofNat N))) (F_tables : Fld Z h0 w0 "com/example/shopwright/shopwright/search/PairWeights" "tables" "[[I" (.ref tb)) (F_weights : Fld Z h0 w0 "com/example/shopwright/shopwright/search/PairWeights" "weights" "[[D" (.ref wt)) (F_taught : Fld Z h0 w0 "com/example/shopwright/shopwright/search/PairWeights" "taught" "[I" (.ref ta)) (F_untaught : Fld Z h0 w0 "com/example/shopwright/shopwright/search/PairWeights" "untaught" "D" (.double u)) (PP : own_PA Z h0 tb wt ta nn N tA tL tV rA rL rV tg) :
    own_Met l Z (⟨"com/example/shopwright/shopwright/search/PairWeights", "holdInTable", "(II)V"⟩ : MethodName) prog_39_method_7_code 7 none ({ frames := 1, cells := 2, slots := 8, locals := 16 } : Room) #[(.ref w0), (.int (Int32.ofNat A)), (.int (Int32.ofNat B))] h0 (fun v h L => v = none ∧ Fr n0 L ∧ h0.size ≤ h.size ∧ Exa Z h w0 "com/example/shopwright/shopwright/search/PairWeights" ∧ Fld Z h w0 "com/example/shopwright/shopwright/search/PairWeights" "count" "I" (.int (Int32.ofNat N)) ∧ Fld Z h w0 "com/example/shopwright/shopwright/search/PairWeights" "tables" "[[I" (.ref tb) ∧ Fld Z h w0 "com/example/shopwright/shopwright/search/PairWeights" "weights" "[[D" (.ref wt) ∧ Fld Z h w0 "com/example/shopwright/shopwright/search/PairWeights" "taught" "[I" (.ref ta) ∧ Fld Z h w0 "com/example/shopwright/shopwright/search/PairWeights" "untaught" "D" (.double u) ∧ ∃ (b b2 : Addr) (SS : Nat), n0 ≤ b ∧ n0 ≤ b2 ∧ b ≠ nn ∧ own_slot (fun _ => (-1 : Int32)) 4 (Int32.ofNat B) = SS ∧ own_PA Z h tb wt ta nn N (own_up tA A (some b)) (own_up tL A 4) (own_up2i (own_up tV A (fun _ => (-1 : Int32))) A SS (Int32.ofNat B)) (own_up rA A (some b2)) (own_up rL A 4) (own_up2 (own_up rV A (fun _ => 0)) A SS u) (own_up tg A (Int32.ofNat 1))) := by
  refine own_body (plainFor_of_name (by first | (simp [plainName, overriddenIn]; done) | decide +kernel)) ?_
  intro p e s m below meth c s₁ hx hby hml hown hnm hlk hrt hZ X0 e0
  refine own_enter (ef_rm_hta m w0 (Int32.ofNat A) (Int32.ofNat B)) ?_
  have N0 := Fr.nil n0
  have hNb := PP.1.big
  have ne_w0_tb := Exa.ne A_w0 PP.1.exa (by decide)
  have ne_w0_wt := Exa.ne A_w0 PP.2.1.exa (by decide)
  have ne_w0_ta := Exa.ne A_w0 PP.2.2.1.exa (by decide)
  have VN := (PP.2.2.2.1 A hA nn ht).1
  rw [k2_] at VN
  have ne_nn_ta := (PP.2.2.2.1 A hA nn ht).2
  have ne_nn_tb := Exa.ne VN.exa PP.1.exa (by decide)
  have ne_nn_wt := Exa.ne VN.exa PP.2.1.exa (by decide)
  refine own_iconst X0 hx hby od_prog_39_method_7_0 (pc' := 1) rfl (z := 2) rfl ?_
  refine own_aloadN X0 hx hby od_prog_39_method_7_1 (pc' := 2) rfl rfl rfl ?_
  refine own_getF X0 hx hby hZ hown (host := "") (Or.inl (ow_33 hw)) Via.refl e0 F_taught od_prog_39_method_7_2 (pc' := 5) rfl ?_
  intro T1 X1 e1
  refine own_iloadN X1 hx hby od_prog_39_method_7_5 (pc' := 6) rfl rfl ?_
  refine own_fI X1 hx hby hZ e1 PP.2.2.1 hA (v := (Int32.ofNat 0)) (by show Value.int (tg A) = _; rw [k4_]) od_prog_39_method_7_6 (pc' := 7) rfl ?_
  refine own_iconst X1 hx hby od_prog_39_method_7_7 (pc' := 8) rfl (z := 1) rfl ?_
  refine own_iadd X1 hx hby od_prog_39_method_7_8 (pc' := 9) rfl ?_
  refine own_imul X1 hx hby od_prog_39_method_7_9 (pc' := 10) rfl ?_
  refine own_aloadN X1 hx hby od_prog_39_method_7_10 (pc' := 11) rfl rfl rfl ?_
  refine own_getF X1 hx hby hZ hown (host := "") (Or.inl (ow_19 hw)) Via.refl e1 F_tables od_prog_39_method_7_11 (pc' := 14) rfl ?_
  intro T2 X2 e2
  refine own_iloadN X2 hx hby od_prog_39_method_7_14 (pc' := 15) rfl rfl ?_
  refine own_fA X2 hx hby hZ e2 PP.1 rfl hA (v := (.ref nn)) (by show own_ov (tA A) = _; rw [ht]; rfl) od_prog_39_method_7_15 (pc' := 16) rfl ?_
  refine own_fL X2 hx hby hZ e2 VN od_prog_39_method_7_16 (pc' := 17) rfl ?_
  refine own_icmpN X2 hx hby od_prog_39_method_7_17 (pc' := 20) rfl (tlt (by decide)).2.2.2 ?_
  refine own_aloadN X2 hx hby od_prog_39_method_7_20 (pc' := 21) rfl rfl rfl ?_
  refine own_getF X2 hx hby hZ hown (host := "") (Or.inl (ow_19 hw)) Via.refl e2 F_tables od_prog_39_method_7_21 (pc' := 24) rfl ?_
  intro T3 X3 e3
  refine own_iloadN X3 hx hby od_prog_39_method_7_24 (pc' := 25) rfl rfl ?_
  refine own_fA X3 hx hby hZ e3 PP.1 rfl hA (v := (.ref nn)) (by show own_ov (tA A) = _; rw [ht]; rfl) od_prog_39_method_7_25 (pc' := 26) rfl ?_
  refine own_astoreN X3 hx hby od_prog_39_method_7_26 (pc' := 27) rfl rfl (Ls' := #[.val (.ref w0), .val (.int (Int32.ofNat A)), .val (.int (Int32.ofNat B)), .val (.ref nn), .unset, .unset, .unset]) rfl ?_
  refine own_aloadN X3 hx hby od_prog_39_method_7_27 (pc' := 28) rfl rfl rfl ?_
  refine own_getF X3 hx hby hZ hown (host := "") (Or.inl (ow_30 hw)) Via.refl e3 F_weights od_prog_39_method_7_28 (pc' := 31) rfl ?_
  intro T4 X4 e4
  refine own_iloadN X4 hx hby od_prog_39_method_7_31 (pc' := 32) rfl rfl ?_
  refine own_fA X4 hx hby hZ e4 PP.2.1 rfl hA (v := .null) (by show own_ov (rA A) = _; rw [hr]; rfl) od_prog_39_method_7_32 (pc' := 33) rfl ?_
  refine own_astore X4 hx hby od_prog_39_method_7_33 (pc' := 35) rfl rfl (Ls' := #[.val (.ref w0), .val (.int (Int32.ofNat A)), .val (.int (Int32.ofNat B)), .val (.ref nn), .val .null, .unset, .unset]) rfl ?_
  refine own_aloadN X4 hx hby od_prog_39_method_7_35 (pc' := 36) rfl rfl rfl ?_
  refine own_getF X4 hx hby hZ hown (host := "") (Or.inl (ow_19 hw)) Via.refl e4 F_tables od_prog_39_method_7_36 (pc' := 39) rfl ?_
  intro T5 X5 e5
  refine own_iloadN X5 hx hby od_prog_39_method_7_39 (pc' := 40) rfl rfl ?_
  refine own_iconst X5 hx hby od_prog_39_method_7_40 (pc' := 41) rfl (z := 4) rfl ?_
  refine own_iconst X5 hx hby od_prog_39_method_7_41 (pc' := 42) rfl (z := 2) rfl ?_
  refine own_aloadN X5 hx hby od_prog_39_method_7_42 (pc' := 43) rfl rfl rfl ?_
  refine own_fL X5 hx hby hZ e5 VN od_prog_39_method_7_43 (pc' := 44) rfl ?_
  refine own_imul X5 hx hby od_prog_39_method_7_44 (pc' := 45) rfl ?_
  refine own_callM X5 hx hby hml hZ hown (ow_69 hw) (ow_70 hw) (ow_71 hw) (ow_72 hw) (by decide) (cc := 0) (ss := 0) (rm_max l Z a0 hw ((2 : Int32) * (Int32.ofNat 1)) h0 n0 Z0 (by decide)) 2 rfl rfl (by decide) (by decide) rfl (argsL := [(.int (4 : Int32)), (.int ((2 : Int32) * (Int32.ofNat 1)))]) (rest := [(.int (Int32.ofNat A)), (.ref tb)]) opd_2 rfl rfl (Nat.le_refl _) od_prog_39_method_7_45 (pc' := 48) rfl rfl e5 (by decide) (by decide) ?_
  rintro v6 T6 h6 L6 X6 e6 ⟨rfl, Nq6, rfl⟩
  have N6 := N0.app Nq6
  refine own_nI (N := 4) X6 hx hby hZ (ow_32 hw) e6 od_prog_39_method_7_48 (pc' := 50) rfl (cap := 4) (Nat.le_refl 4) (by decide) (by decide) (by decide) ?_
  intro T7 h7 b7 g7 X7 e7 E7 V_b7
  have ne_w0_b7 : w0 ≠ b7 := own_nl A_w0.lt g7
  have ne_nn_b7 : nn ≠ b7 := own_nl VN.lt g7
  have n0_b7 : n0 ≤ b7 := Nat.le_trans Z0 (Nat.le_of_eq g7.symm)
  have le0_b7 : h0.size ≤ b7 := Nat.le_trans (Nat.le_refl _) (Nat.le_of_eq g7.symm)
  have fr_b7 := PP.fresh (Nat.le_of_eq g7.symm)
  have sz8 := Nat.le_trans (Nat.le_refl _) E7.1
  replace A_w0 := A_w0.ext E7
  replace F_count := F_count.ext E7
  replace F_tables := F_tables.ext E7
  replace F_weights := F_weights.ext E7
  replace F_taught := F_taught.ext E7
  replace F_untaught := F_untaught.ext E7
  replace PP := PP.ext E7
  replace VN := VN.ext E7
  have ne_b7_tb := Exa.ne V_b7.exa PP.1.exa (by decide)
  have ne_b7_wt := Exa.ne V_b7.exa PP.2.1.exa (by decide)
  have ne_b7_ta := fr_b7.1
  have hbn : b7 ≠ nn := fun q => fr_b7.2.1 A hA (by rw [q]; exact ht)
  refine own_gA X7 hx hby hZ e7 PP.1 rfl rfl (own_stoA PP.1 V_b7.exa) hA od_prog_39_method_7_50 (pc' := 51) rfl ?_
  intro T9 h9 X9 e9 W9 Vx1
  replace PP := PP.wrB (o := some b7) (L := 4) (V := fun _ => 0) W9 (fun t ht' => by cases ht'; exact ⟨V_b7, fr_b7.1, fr_b7.2.1⟩)
  have sz10 := Nat.le_trans sz8 (Keep.of_wr W9).1
  replace A_w0 := A_w0.wr W9
  replace F_count := F_count.other W9 (Or.inl ne_w0_tb)
  replace F_tables := F_tables.other W9 (Or.inl ne_w0_tb)
  replace F_weights := F_weights.other W9 (Or.inl ne_w0_tb)
  replace F_taught := F_taught.other W9 (Or.inl ne_w0_tb)
  replace F_untaught := F_untaught.other W9 (Or.inl ne_w0_tb)
  replace VN := VN.other W9 ne_nn_tb
  replace V_b7 := V_b7.other W9 ne_b7_tb
  have N9 := own_fr1 (sl := A) N6 PN.1
  refine own_aloadN X9 hx hby od_prog_39_method_7_51 (pc' := 52) rfl rfl rfl ?_
  refine own_getF X9 hx hby hZ hown (host := "") (Or.inl (ow_19 hw)) Via.refl e9 F_tables od_prog_39_method_7_52 (pc' := 55) rfl ?_
  intro T11 X11 e11
  refine own_iloadN X11 hx hby od_prog_39_method_7_55 (pc' := 56) rfl rfl ?_
  refine own_fA X11 hx hby hZ e11 PP.1 rfl hA (v := (.ref b7)) (by show own_ov ((own_up tA A (some b7)) A) = _; rw [own_up_same]; rfl) od_prog_39_method_7_56 (pc' := 57) rfl ?_
  refine own_iconst X11 hx hby od_prog_39_method_7_57 (pc' := 58) rfl (z := (-1)) rfl ?_
  refine own_callM X11 hx hby hml hZ hown (ow_73 hw) (ow_74 hw) (ow_25 hw) (ow_75 hw) (by decide) (cc := 0) (ss := 0) (rm_fillI l Z a0 hw b7 4 _ (-1 : Int32) h9 n0 (Nat.le_trans Z0 sz10) n0_b7 V_b7) 0 rfl rfl (by decide) (by decide) rfl (argsL := [(.ref b7), (.int (-1 : Int32))]) (rest := []) opd_3 rfl rfl (Nat.le_refl _) od_prog_39_method_7_58 (pc' := 61) rfl rfl e11 (by decide) (by decide) ?_
  rintro v12 T12 h12 L12 X12 e12 ⟨rfl, Nq12, Kq12, Vq⟩
  replace PP := PP.keepT (V := fun _ => (-1 : Int32)) hA own_up_same hbn Kq12 (by rw [own_up_same]; exact Vq)
  rw [own_up_up] at PP
  have N12 := N9.app Nq12
  have sz13 := Nat.le_trans sz10 Kq12.1
  replace A_w0 := A_w0.keep Kq12
  replace F_count := F_count.keep Kq12 (own_niS ne_w0_b7 own_ni0)
  replace F_tables := F_tables.keep Kq12 (own_niS ne_w0_b7 own_ni0)
  replace F_weights := F_weights.keep Kq12 (own_niS ne_w0_b7 own_ni0)
  replace F_taught := F_taught.keep Kq12 (own_niS ne_w0_b7 own_ni0)
  replace F_untaught := F_untaught.keep Kq12 (own_niS ne_w0_b7 own_ni0)
  replace VN := VN.keep Kq12 (own_niS ne_nn_b7 own_ni0)
  refine own_aloadN X12 hx hby od_prog_39_method_7_61 (pc' := 62) rfl rfl rfl ?_
  refine own_getF X12 hx hby hZ hown (host := "") (Or.inl (ow_30 hw)) Via.refl e12 F_weights od_prog_39_method_7_62 (pc' := 65) rfl ?_
  intro T14 X14 e14
  refine own_iloadN X14 hx hby od_prog_39_method_7_65 (pc' := 66) rfl rfl ?_
  refine own_aloadN X14 hx hby od_prog_39_method_7_66 (pc' := 67) rfl rfl rfl ?_
  refine own_getF X14 hx hby hZ hown (host := "") (Or.inl (ow_19 hw)) Via.refl e14 F_tables od_prog_39_method_7_67 (pc' := 70) rfl ?_
  intro T15 X15 e15
  refine own_iloadN X15 hx hby od_prog_39_method_7_70 (pc' := 71) rfl rfl ?_
  refine own_fA X15 hx hby hZ e15 PP.1 rfl hA (v := (.ref b7)) (by show own_ov ((own_up tA A (some b7)) A) = _; rw [own_up_same]; rfl) od_prog_39_method_7_71 (pc' := 72) rfl ?_
  refine own_fL X15 hx hby hZ e15 Vq od_prog_39_method_7_72 (pc' := 73) rfl ?_
  refine own_nD (N := 4) X15 hx hby hZ (ow_55 hw) e15 od_prog_39_method_7_73 (pc' := 75) rfl (cap := 4) (Nat.le_refl 4) (by decide) (by decide) (by decide) ?_
  intro T16 h16 b16 g16 X16 e16 E16 V_b16
  have ne_w0_b16 : w0 ≠ b16 := own_nl A_w0.lt g16
  have ne_nn_b16 : nn ≠ b16 := own_nl VN.lt g16
  have ne_b7_b16 : b7 ≠ b16 := own_nl Vq.lt g16
  have n0_b16 : n0 ≤ b16 := Nat.le_trans (Nat.le_trans Z0 sz13) (Nat.le_of_eq g16.symm)
  have le0_b16 : h0.size ≤ b16 := Nat.le_trans sz13 (Nat.le_of_eq g16.symm)
  have fr_b16 := PP.fresh (Nat.le_of_eq g16.symm)
  have sz17 := Nat.le_trans sz13 E16.1
  replace A_w0 := A_w0.ext E16
  replace F_count := F_count.ext E16
  replace F_tables := F_tables.ext E16
  replace F_weights := F_weights.ext E16
  replace F_taught := F_taught.ext E16
  replace F_untaught := F_untaught.ext E16
  replace VN := VN.ext E16
  replace PP := PP.ext E16
  replace Vq := Vq.ext E16
  have ne_b16_tb := Exa.ne V_b16.exa PP.1.exa (by decide)
  have ne_b16_wt := Exa.ne V_b16.exa PP.2.1.exa (by decide)
  have ne_b16_ta := Exa.ne V_b16.exa PP.2.2.1.exa (by decide)
  refine own_gA X16 hx hby hZ e16 PP.2.1 rfl rfl (own_stoA PP.2.1 V_b16.exa) hA od_prog_39_method_7_75 (pc' := 76) rfl ?_
  intro T18 h18 X18 e18 W18 Vx2
  replace PP := PP.wrW (V := fun _ => 0) W18 V_b16 fr_b16.2.2
  have sz19 := Nat.le_trans sz17 (Keep.of_wr W18).1
  replace A_w0 := A_w0.wr W18
  replace F_count := F_count.other W18 (Or.inl ne_w0_wt)
  replace F_tables := F_tables.other W18 (Or.inl ne_w0_wt)
  replace F_weights := F_weights.other W18 (Or.inl ne_w0_wt)
  replace F_taught := F_taught.other W18 (Or.inl ne_w0_wt)
  replace F_untaught := F_untaught.other W18 (Or.inl ne_w0_wt)
  replace VN := VN.other W18 ne_nn_wt
  replace Vq := Vq.other W18 ne_b7_wt
  replace V_b16 := V_b16.other W18 ne_b16_wt
  have N18 := own_fr1 (sl := A) N12 PN.2.1
  refine own_iconst X18 hx hby od_prog_39_method_7_76 (pc' := 77) rfl (z := 0) rfl ?_
  refine own_istore X18 hx hby od_prog_39_method_7_77 (pc' := 79) rfl (Ls' := #[.val (.ref w0), .val (.int (Int32.ofNat A)), .val (.int (Int32.ofNat B)), .val (.ref nn), .val .null, .val (.int (0 : Int32)), .unset]) rfl ?_
  refine own_iload X18 hx hby od_prog_39_method_7_79 (pc' := 81) rfl rfl ?_
  refine own_aloadN X18 hx hby od_prog_39_method_7_81 (pc' := 82) rfl rfl rfl ?_
  refine own_fL X18 hx hby hZ e18 VN od_prog_39_method_7_82 (pc' := 83) rfl ?_
  refine own_icmpN X18 hx hby od_prog_39_method_7_83 (pc' := 86) rfl (tlt (by decide)).2.1 ?_
  refine own_aloadN X18 hx hby od_prog_39_method_7_86 (pc' := 87) rfl rfl rfl ?_
  refine own_iload X18 hx hby od_prog_39_method_7_87 (pc' := 89) rfl rfl ?_
  refine own_fI X18 hx hby hZ e18 VN (by decide : (0 : Nat) < 1) (v := (-1 : Int32)) (by show Value.int (tV A 0) = _; rw [k3_]) od_prog_39_method_7_89 (pc' := 90) rfl ?_
  refine own_iconst X18 hx hby od_prog_39_method_7_90 (pc' := 91) rfl (z := (-1)) rfl ?_
  refine own_icmpY X18 hx hby od_prog_39_method_7_91 (by decide) (pc' := 136) (by decide) (teq rfl).1 ?_
  refine own_iinc X18 hx hby od_prog_39_method_7_136 (pc' := 139) rfl rfl (z := 1) rfl (Ls' := #[.val (.ref w0), .val (.int (Int32.ofNat A)), .val (.int (Int32.ofNat B)), .val (.ref nn), .val .null, .val (.int ((0 : Int32) + (1 : Int32))), .unset]) rfl ?_
  refine own_goto X18 hx hby od_prog_39_method_7_139 (by decide) (pc' := 79) (by decide) ?_
  refine own_iload X18 hx hby od_prog_39_method_7_79 (pc' := 81) rfl rfl ?_
  refine own_aloadN X18 hx hby od_prog_39_method_7_81 (pc' := 82) rfl rfl rfl ?_
  refine own_fL X18 hx hby hZ e18 VN od_prog_39_method_7_82 (pc' := 83) rfl ?_
  refine own_icmpY X18 hx hby od_prog_39_method_7_83 (by decide) (pc' := 142) (by decide) (flt (by decide)).2.1 ?_
  refine own_aloadN X18 hx hby od_prog_39_method_7_142 (pc' := 143) rfl rfl rfl ?_
  refine own_getF X18 hx hby hZ hown (host := "") (Or.inl (ow_19 hw)) Via.refl e18 F_tables od_prog_39_method_7_143 (pc' := 146) rfl ?_
  intro T20 X20 e20
  refine own_iloadN X20 hx hby od_prog_39_method_7_146 (pc' := 147) rfl rfl ?_
  refine own_fA X20 hx hby hZ e20 PP.1 rfl hA (v := (.ref b7)) (by show own_ov ((own_up tA A (some b7)) A) = _; rw [own_up_same]; rfl) od_prog_39_method_7_147 (pc' := 148) rfl ?_
  refine own_iloadN X20 hx hby od_prog_39_method_7_148 (pc' := 149) rfl rfl ?_
  have hL4 : own_L 4 := Or.inr (Or.inl rfl)
  have hf4 : ∃ s0, s0 < 4 ∧ (fun _ => (-1 : Int32)) s0 = (-1 : Int32) := ⟨0, by decide, rfl⟩
  have hs := own_slot_s (b := Int32.ofNat B) hL4 hf4
  refine own_callM X20 hx hby hml hZ hown (ow_47 hw) (ow_48 hw) (ow_8 hw) (ow_49 hw) (by decide) (cc := 0) (ss := 0) (rm_slot l Z a0 hw b7 (Int32.ofNat B) 4 (fun _ => (-1 : Int32)) h18 n0 (Nat.le_trans Z0 sz19) hL4 hf4 Vq) 0 rfl rfl (by decide) (by decide) rfl (argsL := [(.ref b7), (.int (Int32.ofNat B))]) (rest := []) opd_0 rfl rfl (Nat.le_refl _) od_prog_39_method_7_149 (pc' := 152) rfl rfl e20 (by decide) (by decide) ?_
  rintro v21 T21 h21 L21 X21 e21 ⟨rfl, Nq21, rfl⟩
  have N21 := N18.app Nq21
  generalize hS : own_slot (fun _ => (-1 : Int32)) 4 (Int32.ofNat B) = SS at hs ⊢
  refine own_istoreN X21 hx hby od_prog_39_method_7_152 (pc' := 153) rfl (Ls' := #[.val (.ref w0), .val (.int (Int32.ofNat A)), .val (.int (Int32.ofNat B)), .val (.int (Int32.ofNat SS)), .val .null, .val (.int ((0 : Int32) + (1 : Int32))), .unset]) rfl ?_
  refine own_aloadN X21 hx hby od_prog_39_method_7_153 (pc' := 154) rfl rfl rfl ?_
  refine own_getF X21 hx hby hZ hown (host := "") (Or.inl (ow_19 hw)) Via.refl e21 F_tables od_prog_39_method_7_154 (pc' := 157) rfl ?_
  intro T22 X22 e22
  refine own_iloadN X22 hx hby od_prog_39_method_7_157 (pc' := 158) rfl rfl ?_
  refine own_fA X22 hx hby hZ e22 PP.1 rfl hA (v := (.ref b7)) (by show own_ov ((own_up tA A (some b7)) A) = _; rw [own_up_same]; rfl) od_prog_39_method_7_158 (pc' := 159) rfl ?_
  refine own_iloadN X22 hx hby od_prog_39_method_7_159 (pc' := 160) rfl rfl ?_
  refine own_iloadN X22 hx hby od_prog_39_method_7_160 (pc' := 161) rfl rfl ?_
  refine own_gI X22 hx hby hZ e22 Vq hs.1 od_prog_39_method_7_161 (pc' := 162) rfl ?_
  intro T23 h23 X23 e23 W23 Vq2
  replace PP := PP.wrT hA own_up_same hbn W23
  have sz24 := Nat.le_trans sz19 (Keep.of_wr W23).1
  replace A_w0 := A_w0.wr W23
  replace F_count := F_count.other W23 (Or.inl ne_w0_b7)
  replace F_tables := F_tables.other W23 (Or.inl ne_w0_b7)
  replace F_weights := F_weights.other W23 (Or.inl ne_w0_b7)
  replace F_taught := F_taught.other W23 (Or.inl ne_w0_b7)
  replace F_untaught := F_untaught.other W23 (Or.inl ne_w0_b7)
  replace V_b16 := V_b16.other W23 (Ne.symm ne_b7_b16)
  have N23 := own_fr1 (sl := SS) N21 n0_b7
  refine own_aloadN X23 hx hby od_prog_39_method_7_162 (pc' := 163) rfl rfl rfl ?_
  refine own_getF X23 hx hby hZ hown (host := "") (Or.inl (ow_30 hw)) Via.refl e23 F_weights od_prog_39_method_7_163 (pc' := 166) rfl ?_
  intro T25 X25 e25
  refine own_iloadN X25 hx hby od_prog_39_method_7_166 (pc' := 167) rfl rfl ?_
  refine own_fA X25 hx hby hZ e25 PP.2.1 rfl hA (v := (.ref b16)) (by show own_ov ((own_up rA A (some b16)) A) = _; rw [own_up_same]; rfl) od_prog_39_method_7_167 (pc' := 168) rfl ?_
  refine own_iloadN X25 hx hby od_prog_39_method_7_168 (pc' := 169) rfl rfl ?_
  refine own_aloadN X25 hx hby od_prog_39_method_7_169 (pc' := 170) rfl rfl rfl ?_
  refine own_getF X25 hx hby hZ hown (host := "") (Or.inl (ow_35 hw)) Via.refl e25 F_untaught od_prog_39_method_7_170 (pc' := 173) rfl ?_
  intro T26 X26 e26
  refine own_gD X26 hx hby hZ e26 V_b16 hs.1 od_prog_39_method_7_173 (pc' := 174) rfl ?_
  intro T27 h27 X27 e27 W27 Vq3
  replace PP := PP.wrR hA own_up_same W27
  have sz28 := Nat.le_trans sz24 (Keep.of_wr W27).1
  replace A_w0 := A_w0.wr W27
  replace F_count := F_count.other W27 (Or.inl ne_w0_b16)
  replace F_tables := F_tables.other W27 (Or.inl ne_w0_b16)
  replace F_weights := F_weights.other W27 (Or.inl ne_w0_b16)
  replace F_taught := F_taught.other W27 (Or.inl ne_w0_b16)
  replace F_untaught := F_untaught.other W27 (Or.inl ne_w0_b16)
  have N27 := own_fr1 (sl := SS) N23 n0_b16
  refine own_aloadN X27 hx hby od_prog_39_method_7_174 (pc' := 175) rfl rfl rfl ?_
  refine own_getF X27 hx hby hZ hown (host := "") (Or.inl (ow_33 hw)) Via.refl e27 F_taught od_prog_39_method_7_175 (pc' := 178) rfl ?_
  intro T29 X29 e29
  refine own_iloadN X29 hx hby od_prog_39_method_7_178 (pc' := 179) rfl rfl ?_
  refine own_dup2 X29 hx hby od_prog_39_method_7_179 (pc' := 180) rfl rfl rfl ?_
  refine own_fI X29 hx hby hZ e29 PP.2.2.1 hA (v := (Int32.ofNat 0)) (by show Value.int (tg A) = _; rw [k4_]) od_prog_39_method_7_180 (pc' := 181) rfl ?_
  refine own_iconst X29 hx hby od_prog_39_method_7_181 (pc' := 182) rfl (z := 1) rfl ?_
  refine own_iadd X29 hx hby od_prog_39_method_7_182 (pc' := 183) rfl ?_
  refine own_gI X29 hx hby hZ e29 PP.2.2.1 hA od_prog_39_method_7_183 (pc' := 184) rfl ?_
  intro T30 h30 X30 e30 W30 Vx4
  replace PP := PP.wrG W30
  have sz31 := Nat.le_trans sz28 (Keep.of_wr W30).1
  replace A_w0 := A_w0.wr W30
  replace F_count := F_count.other W30 (Or.inl ne_w0_ta)
  replace F_tables := F_tables.other W30 (Or.inl ne_w0_ta)
  replace F_weights := F_weights.other W30 (Or.inl ne_w0_ta)
  replace F_taught := F_taught.other W30 (Or.inl ne_w0_ta)
  replace F_untaught := F_untaught.other W30 (Or.inl ne_w0_ta)
  have N30 := own_fr1 (sl := A) N27 PN.2.2.1
  exact own_ret0 X30 hx hby hlk hrt od_prog_39_method_7_184 (by first | exact ⟨rfl, N30, sz31, A_w0, F_count, F_tables, F_weights, F_taught, F_untaught, b7, b16, SS, n0_b7, n0_b16, hbn, rfl, PP⟩ | (rw [e30]; exact ⟨rfl, N30, sz31, A_w0, F_count, F_tables, F_weights, F_taught, F_untaught, b7, b16, SS, n0_b7, n0_b16, hbn, rfl, PP⟩)) (by decide) (by decide)
theorem ef_rm_htb (m : MethodId) (x0 : Addr) (x1 : Int32) (x2 : Int32) : entryFrame m #[(.ref x0), (.int x1), (.int x2)] 7 = mkF m 0 #[.val (.ref x0), .val (.int x1), .val (.int x2), .unset, .unset, .unset, .unset] [] := by first | (simp [entryFrame, mkF, argsToLocals, Value.category]; done) | rfl
set_option maxRecDepth 65536 in
set_option maxHeartbeats 40000000 in
theorem rm_htb (l : Launch) (Z : State) (a0 : Array Value) (hw : ∀ d ∈ tables_1, d.before a0 Z = true) (w0 tb wt ta nn t r : Addr) (N A B : Nat) (u : UInt64) (tA : Nat → Option Addr) (tL : Nat → Nat) (tV : Nat → Nat → Int32) (rA : Nat → Option Addr) (rL : Nat → Nat) (rV : Nat → Nat → UInt64) (tg : Nat → Int32) (h0 : Heap) (n0 : Nat) (Z0 : n0 ≤ h0.size) (n0_w0 : n0 ≤ w0) (PN : own_PN n0 tb wt ta nn N tA rA) (hA : A < N) (ht : tA A = some t) (hn : t ≠ nn) (k2_ : tL A = 4) (k4_ : tg A = Int32.ofNat 1) (hr : rA A = some r) (k5_ : rL A = 4) (hfr : own_L (tL A) ∧ ∃ s0, s0 < tL A ∧ tV A s0 = (-1 : Int32)) (A_w0 : Exa Z h0 w0 "com/example/shopwright/shopwright/search/PairWeights") (F_count : Fld Z h0 w0 "com/example/shopwright/shopwright/search/PairWeights" "count" "I" (.int (Int32.ofNat N))) (F_tables : Fld Z h0 w0 "com/example/shopwright/shopwright/search/PairWeights" "tables" "[[I" (.ref tb)) (F_weights : Fld Z h0 w0 "com/example/shopwright/shopwright/search/PairWeights" "weights" "[[D" (.ref wt)) (F_taught : Fld Z h0 w0 "com/example/shopwright/shopwright/search/PairWeights" "taught" "[I" (.ref ta)) (F_untaught : Fld Z h0 w0 "com/example/shopwright/shopwright/search/PairWeights" "untaught" "D" (.double u)) (PP : own_PA Z h0 tb wt ta nn N tA tL tV rA rL rV tg) :
    own_Met l Z (⟨"com/example/shopwright/shopwright/search/PairWeights", "holdInTable", "(II)V"⟩ : MethodName) prog_39_method_7_code 7 none ({ frames := 1, cells := 0, slots := 0, locals := 16 } : Room) #[(.ref w0), (.int (Int32.ofNat A)), (.int (Int32.ofNat B))] h0 (fun v h L => v = none ∧ Fr n0 L ∧ h0.size ≤ h.size ∧ Exa Z h w0 "com/example/shopwright/shopwright/search/PairWeights" ∧ Fld Z h w0 "com/example/shopwright/shopwright/search/PairWeights" "count" "I" (.int (Int32.ofNat N)) ∧ Fld Z h w0 "com/example/shopwright/shopwright/search/PairWeights" "tables" "[[I" (.ref tb) ∧ Fld Z h w0 "com/example/shopwright/shopwright/search/PairWeights" "weights" "[[D" (.ref wt) ∧ Fld Z h w0 "com/example/shopwright/shopwright/search/PairWeights" "taught" "[I" (.ref ta) ∧ Fld Z h w0 "com/example/shopwright/shopwright/search/PairWeights" "untaught" "D" (.double u) ∧ ∃ SS : Nat, own_slot (tV A) (tL A) (Int32.ofNat B) = SS ∧ own_PA Z h tb wt ta nn N tA tL (own_up2i tV A SS (Int32.ofNat B)) rA rL (own_up2 rV A SS u) (own_up tg A (Int32.ofNat 2))) := by
  refine own_body (plainFor_of_name (by first | (simp [plainName, overriddenIn]; done) | decide +kernel)) ?_
  intro p e s m below meth c s₁ hx hby hml hown hnm hlk hrt hZ X0 e0
  refine own_enter (ef_rm_htb m w0 (Int32.ofNat A) (Int32.ofNat B)) ?_
  have N0 := Fr.nil n0
  have hNb := PP.1.big
  have ne_w0_tb := Exa.ne A_w0 PP.1.exa (by decide)
  have ne_w0_wt := Exa.ne A_w0 PP.2.1.exa (by decide)
  have ne_w0_ta := Exa.ne A_w0 PP.2.2.1.exa (by decide)
  have fr := hfr
  have ne_t_ta := (PP.2.2.2.1 A hA t ht).2
  have ne_w0_t := Exa.ne A_w0 (PP.2.2.2.1 A hA t ht).1.exa (by decide)
  have ne_w0_r := Exa.ne A_w0 (PP.2.2.2.2.1 A hA r hr).exa (by decide)
  refine own_iconst X0 hx hby od_prog_39_method_7_0 (pc' := 1) rfl (z := 2) rfl ?_
  refine own_aloadN X0 hx hby od_prog_39_method_7_1 (pc' := 2) rfl rfl rfl ?_
  refine own_getF X0 hx hby hZ hown (host := "") (Or.inl (ow_33 hw)) Via.refl e0 F_taught od_prog_39_method_7_2 (pc' := 5) rfl ?_
  intro T1 X1 e1
  refine own_iloadN X1 hx hby od_prog_39_method_7_5 (pc' := 6) rfl rfl ?_
  refine own_fI X1 hx hby hZ e1 PP.2.2.1 hA (v := (Int32.ofNat 1)) (by show Value.int (tg A) = _; rw [k4_]) od_prog_39_method_7_6 (pc' := 7) rfl ?_
  refine own_iconst X1 hx hby od_prog_39_method_7_7 (pc' := 8) rfl (z := 1) rfl ?_
  refine own_iadd X1 hx hby od_prog_39_method_7_8 (pc' := 9) rfl ?_
  refine own_imul X1 hx hby od_prog_39_method_7_9 (pc' := 10) rfl ?_
  refine own_aloadN X1 hx hby od_prog_39_method_7_10 (pc' := 11) rfl rfl rfl ?_
  refine own_getF X1 hx hby hZ hown (host := "") (Or.inl (ow_19 hw)) Via.refl e1 F_tables od_prog_39_method_7_11 (pc' := 14) rfl ?_
  intro T2 X2 e2
  refine own_iloadN X2 hx hby od_prog_39_method_7_14 (pc' := 15) rfl rfl ?_
  refine own_fA X2 hx hby hZ e2 PP.1 rfl hA (v := (.ref t)) (by show own_ov (tA A) = _; rw [ht]; rfl) od_prog_39_method_7_15 (pc' := 16) rfl ?_
  refine own_fL X2 hx hby hZ e2 (PP.2.2.2.1 A hA t ht).1 od_prog_39_method_7_16 (pc' := 17) rfl ?_
  refine own_icmpY X2 hx hby od_prog_39_method_7_17 (by decide) (pc' := 142) (by decide) (flt (by rw [k2_]; decide)).2.2.2 ?_
  refine own_aloadN X2 hx hby od_prog_39_method_7_142 (pc' := 143) rfl rfl rfl ?_
  refine own_getF X2 hx hby hZ hown (host := "") (Or.inl (ow_19 hw)) Via.refl e2 F_tables od_prog_39_method_7_143 (pc' := 146) rfl ?_
  intro T3 X3 e3
  refine own_iloadN X3 hx hby od_prog_39_method_7_146 (pc' := 147) rfl rfl ?_
  refine own_fA X3 hx hby hZ e3 PP.1 rfl hA (v := (.ref t)) (by show own_ov (tA A) = _; rw [ht]; rfl) od_prog_39_method_7_147 (pc' := 148) rfl ?_
  refine own_iloadN X3 hx hby od_prog_39_method_7_148 (pc' := 149) rfl rfl ?_
  have hs := own_slot_s (b := Int32.ofNat B) fr.1 fr.2
  refine own_callM X3 hx hby hml hZ hown (ow_47 hw) (ow_48 hw) (ow_8 hw) (ow_49 hw) (by decide) (cc := 0) (ss := 0) (rm_slot l Z a0 hw t (Int32.ofNat B) (tL A) (tV A) h0 n0 Z0 fr.1 fr.2 (PP.2.2.2.1 A hA t ht).1) 0 rfl rfl (by decide) (by decide) rfl (argsL := [(.ref t), (.int (Int32.ofNat B))]) (rest := []) opd_0 rfl rfl (Nat.le_refl _) od_prog_39_method_7_149 (pc' := 152) rfl rfl e3 (by decide) (by decide) ?_
  rintro v4 T4 h4 L4 X4 e4 ⟨rfl, Nq4, rfl⟩
  have N4 := N0.app Nq4
  generalize hS : own_slot (tV A) (tL A) (Int32.ofNat B) = SS at hs ⊢
  refine own_istoreN X4 hx hby od_prog_39_method_7_152 (pc' := 153) rfl (Ls' := #[.val (.ref w0), .val (.int (Int32.ofNat A)), .val (.int (Int32.ofNat B)), .val (.int (Int32.ofNat SS)), .unset, .unset, .unset]) rfl ?_
  refine own_aloadN X4 hx hby od_prog_39_method_7_153 (pc' := 154) rfl rfl rfl ?_
  refine own_getF X4 hx hby hZ hown (host := "") (Or.inl (ow_19 hw)) Via.refl e4 F_tables od_prog_39_method_7_154 (pc' := 157) rfl ?_
  intro T5 X5 e5
  refine own_iloadN X5 hx hby od_prog_39_method_7_157 (pc' := 158) rfl rfl ?_
  refine own_fA X5 hx hby hZ e5 PP.1 rfl hA (v := (.ref t)) (by show own_ov (tA A) = _; rw [ht]; rfl) od_prog_39_method_7_158 (pc' := 159) rfl ?_
  refine own_iloadN X5 hx hby od_prog_39_method_7_159 (pc' := 160) rfl rfl ?_
  refine own_iloadN X5 hx hby od_prog_39_method_7_160 (pc' := 161) rfl rfl ?_
  refine own_gI X5 hx hby hZ e5 (PP.2.2.2.1 A hA t ht).1 hs.1 od_prog_39_method_7_161 (pc' := 162) rfl ?_
  intro T6 h6 X6 e6 W6 Vq2
  replace PP := PP.wrT hA ht hn W6
  have sz7 := Nat.le_trans (Nat.le_refl _) (Keep.of_wr W6).1
  replace A_w0 := A_w0.wr W6
  replace F_count := F_count.other W6 (Or.inl ne_w0_t)
  replace F_tables := F_tables.other W6 (Or.inl ne_w0_t)
  replace F_weights := F_weights.other W6 (Or.inl ne_w0_t)
  replace F_taught := F_taught.other W6 (Or.inl ne_w0_t)
  replace F_untaught := F_untaught.other W6 (Or.inl ne_w0_t)
  have N6 := own_fr1 (sl := SS) N4 (PN.2.2.2.1 A hA t ht hn)
  refine own_aloadN X6 hx hby od_prog_39_method_7_162 (pc' := 163) rfl rfl rfl ?_
  refine own_getF X6 hx hby hZ hown (host := "") (Or.inl (ow_30 hw)) Via.refl e6 F_weights od_prog_39_method_7_163 (pc' := 166) rfl ?_
  intro T8 X8 e8
  refine own_iloadN X8 hx hby od_prog_39_method_7_166 (pc' := 167) rfl rfl ?_
  refine own_fA X8 hx hby hZ e8 PP.2.1 rfl hA (v := (.ref r)) (by show own_ov (rA A) = _; rw [hr]; rfl) od_prog_39_method_7_167 (pc' := 168) rfl ?_
  refine own_iloadN X8 hx hby od_prog_39_method_7_168 (pc' := 169) rfl rfl ?_
  refine own_aloadN X8 hx hby od_prog_39_method_7_169 (pc' := 170) rfl rfl rfl ?_
  refine own_getF X8 hx hby hZ hown (host := "") (Or.inl (ow_35 hw)) Via.refl e8 F_untaught od_prog_39_method_7_170 (pc' := 173) rfl ?_
  intro T9 X9 e9
  refine own_gD X9 hx hby hZ e9 (PP.2.2.2.2.1 A hA r hr) (by have := hs.1; omega) od_prog_39_method_7_173 (pc' := 174) rfl ?_
  intro T10 h10 X10 e10 W10 Vq3
  replace PP := PP.wrR hA hr W10
  have sz11 := Nat.le_trans sz7 (Keep.of_wr W10).1
  replace A_w0 := A_w0.wr W10
  replace F_count := F_count.other W10 (Or.inl ne_w0_r)
  replace F_tables := F_tables.other W10 (Or.inl ne_w0_r)
  replace F_weights := F_weights.other W10 (Or.inl ne_w0_r)
  replace F_taught := F_taught.other W10 (Or.inl ne_w0_r)
  replace F_untaught := F_untaught.other W10 (Or.inl ne_w0_r)
  have N10 := own_fr1 (sl := SS) N6 (PN.2.2.2.2 A hA r hr)
  refine own_aloadN X10 hx hby od_prog_39_method_7_174 (pc' := 175) rfl rfl rfl ?_
  refine own_getF X10 hx hby hZ hown (host := "") (Or.inl (ow_33 hw)) Via.refl e10 F_taught od_prog_39_method_7_175 (pc' := 178) rfl ?_
  intro T12 X12 e12
  refine own_iloadN X12 hx hby od_prog_39_method_7_178 (pc' := 179) rfl rfl ?_
  refine own_dup2 X12 hx hby od_prog_39_method_7_179 (pc' := 180) rfl rfl rfl ?_
  refine own_fI X12 hx hby hZ e12 PP.2.2.1 hA (v := (Int32.ofNat 1)) (by show Value.int (tg A) = _; rw [k4_]) od_prog_39_method_7_180 (pc' := 181) rfl ?_
  refine own_iconst X12 hx hby od_prog_39_method_7_181 (pc' := 182) rfl (z := 1) rfl ?_
  refine own_iadd X12 hx hby od_prog_39_method_7_182 (pc' := 183) rfl ?_
  refine own_gI X12 hx hby hZ e12 PP.2.2.1 hA od_prog_39_method_7_183 (pc' := 184) rfl ?_
  intro T13 h13 X13 e13 W13 Vx4
  replace PP := PP.wrG W13
  have sz14 := Nat.le_trans sz11 (Keep.of_wr W13).1
  replace A_w0 := A_w0.wr W13
  replace F_count := F_count.other W13 (Or.inl ne_w0_ta)
  replace F_tables := F_tables.other W13 (Or.inl ne_w0_ta)
  replace F_weights := F_weights.other W13 (Or.inl ne_w0_ta)
  replace F_taught := F_taught.other W13 (Or.inl ne_w0_ta)
  replace F_untaught := F_untaught.other W13 (Or.inl ne_w0_ta)
  have N13 := own_fr1 (sl := A) N10 PN.2.2.1
  exact own_ret0 X13 hx hby hlk hrt od_prog_39_method_7_184 (by first | exact ⟨rfl, N13, sz14, A_w0, F_count, F_tables, F_weights, F_taught, F_untaught, SS, rfl, PP⟩ | (rw [e13]; exact ⟨rfl, N13, sz14, A_w0, F_count, F_tables, F_weights, F_taught, F_untaught, SS, rfl, PP⟩)) (by decide) (by decide)
theorem ef_rm_maxB (m : MethodId) (x0 : Int32) (x1 : Int32) : entryFrame m #[(.int x0), (.int x1)] 2 = mkF m 0 #[.val (.int x0), .val (.int x1)] [] := by first | (simp [entryFrame, mkF, argsToLocals, Value.category]; done) | rfl
set_option maxRecDepth 65536 in
set_option maxHeartbeats 40000000 in
theorem rm_maxB (l : Launch) (Z : State) (a0 : Array Value) (hw : ∀ d ∈ tables_1, d.before a0 Z = true) (p2 : Int32) (h0 : Heap) (n0 : Nat) (Z0 : n0 ≤ h0.size) (hm : (4 : Int32) < p2) :
    own_Met l Z (⟨"java/lang/Math", "max", "(II)I"⟩ : MethodName) jdk_29_method_65_code 2 (some .int) ({ frames := 0, cells := 0, slots := 0, locals := 0 } : Room) #[(.int (4 : Int32)), (.int p2)] h0 (fun v h L => v = some (.int p2) ∧ Fr n0 L ∧ h0 = h) := by
  refine own_body (Jvm.Free.JP.mathPlain rfl (by decide +kernel)) ?_
  intro p e s m below meth c s₁ hx hby hml hown hnm hlk hrt hZ X0 e0
  refine own_enter (ef_rm_maxB m (4 : Int32) p2) ?_
  have N0 := Fr.nil n0
  refine own_iloadN X0 hx hby od_jdk_29_method_65_0 (pc' := 1) rfl rfl ?_
  refine own_iloadN X0 hx hby od_jdk_29_method_65_1 (pc' := 2) rfl rfl ?_
  refine own_icmpY X0 hx hby od_jdk_29_method_65_2 (by decide) (pc' := 9) (by decide) (tlt hm).1 ?_
  refine own_iloadN X0 hx hby od_jdk_29_method_65_9 (pc' := 10) rfl rfl ?_
  exact own_retI X0 hx hby hlk hrt od_jdk_29_method_65_10 (by first | exact ⟨rfl, N0, rfl⟩ | (rw [e0]; exact ⟨rfl, N0, rfl⟩)) (by decide) (by decide)
theorem ef_rm_htc (m : MethodId) (x0 : Addr) (x1 : Int32) (x2 : Int32) : entryFrame m #[(.ref x0), (.int x1), (.int x2)] 7 = mkF m 0 #[.val (.ref x0), .val (.int x1), .val (.int x2), .unset, .unset, .unset, .unset] [] := by first | (simp [entryFrame, mkF, argsToLocals, Value.category]; done) | rfl
set_option maxRecDepth 65536 in
set_option maxHeartbeats 40000000 in
theorem rm_htc (l : Launch) (Z : State) (a0 : Array Value) (hw : ∀ d ∈ tables_1, d.before a0 Z = true) (w0 tb wt ta nn t r : Addr) (N A B KK : Nat) (u : UInt64) (tA : Nat → Option Addr) (tL : Nat → Nat) (tV : Nat → Nat → Int32) (rA : Nat → Option Addr) (rL : Nat → Nat) (rV : Nat → Nat → UInt64) (tg : Nat → Int32) (h0 : Heap) (n0 : Nat) (Z0 : n0 ≤ h0.size) (n0_w0 : n0 ≤ w0) (PN : own_PN n0 tb wt ta nn N tA rA) (hnn : ∀ x : Addr, h0.size ≤ x → x ≠ nn) (BD : own_Bd KK u rV) (hKp : 1 ≤ KK) (hA : A < N) (hB : B < 2147483648) (ht : tA A = some t) (hn : t ≠ nn) (k2_ : tL A = 4) (k4_ : tg A = Int32.ofNat 2) (hr : rA A = some r) (k5_ : rL A = 4) (hT : own_Tv (tV A) 4) (hq0 : ¬ tV A (own_slot (tV A) 4 (Int32.ofNat B)) = Int32.ofNat B) (A_w0 : Exa Z h0 w0 "com/example/shopwright/shopwright/search/PairWeights") (F_count : Fld Z h0 w0 "com/example/shopwright/shopwright/search/PairWeights" "count" "I" (.int (Int32.ofNat N))) (F_tables : Fld Z h0 w0 "com/example/shopwright/shopwright/search/PairWeights" "tables" "[[I" (.ref tb)) (F_weights : Fld Z h0 w0 "com/example/shopwright/shopwright/search/PairWeights" "weights" "[[D" (.ref wt)) (F_taught : Fld Z h0 w0 "com/example/shopwright/shopwright/search/PairWeights" "taught" "[I" (.ref ta)) (F_untaught : Fld Z h0 w0 "com/example/shopwright/shopwright/search/PairWeights" "untaught" "D" (.double u)) (PP : own_PA Z h0 tb wt ta nn N tA tL tV rA rL rV tg) :
    own_Met l Z (⟨"com/example/shopwright/shopwright/search/PairWeights", "holdInTable", "(II)V"⟩ : MethodName) prog_39_method_7_code 7 none ({ frames := 1, cells := 2, slots := 16, locals := 16 } : Room) #[(.ref w0), (.int (Int32.ofNat A)), (.int (Int32.ofNat B))] h0 (fun v h L => v = none ∧ Fr n0 L ∧ h0.size ≤ h.size ∧ Exa Z h w0 "com/example/shopwright/shopwright/search/PairWeights" ∧ Fld Z h w0 "com/example/shopwright/shopwright/search/PairWeights" "count" "I" (.int (Int32.ofNat N)) ∧ Fld Z h w0 "com/example/shopwright/shopwright/search/PairWeights" "tables" "[[I" (.ref tb) ∧ Fld Z h w0 "com/example/shopwright/shopwright/search/PairWeights" "weights" "[[D" (.ref wt) ∧ Fld Z h w0 "com/example/shopwright/shopwright/search/PairWeights" "taught" "[I" (.ref ta) ∧ Fld Z h w0 "com/example/shopwright/shopwright/search/PairWeights" "untaught" "D" (.double u) ∧ ∃ (b b2 : Addr) (SS : Nat) (M : Nat → Int32) (Y : Nat → UInt64), n0 ≤ b ∧ n0 ≤ b2 ∧ b ≠ nn ∧ own_Tv M 8 ∧ own_rel (tV A) (rV A) 4 M Y ∧ 4 ≤ own_cf M 8 ∧ own_slot M 8 (Int32.ofNat B) = SS ∧ M SS = (-1 : Int32) ∧ (∀ j, Jvm.Free.Fl.Mag64 KK (Y j)) ∧ own_PA Z h tb wt ta nn N (own_up tA A (some b)) (own_up tL A 8) (own_up tV A (own_set M SS (Int32.ofNat B))) (own_up rA A (some b2)) (own_up rL A 8) (own_up rV A (own_setd Y SS u)) (own_up tg A (Int32.ofNat 3))) := by
  refine own_body (plainFor_of_name (by first | (simp [plainName, overriddenIn]; done) | decide +kernel)) ?_
  intro p e s m below meth c s₁ hx hby hml hown hnm hlk hrt hZ X0 e0
  refine own_enter (ef_rm_htc m w0 (Int32.ofNat A) (Int32.ofNat B)) ?_
  have N0 := Fr.nil n0
  have hNb := PP.1.big
  have ne_w0_tb := Exa.ne A_w0 PP.1.exa (by decide)
  have ne_w0_wt := Exa.ne A_w0 PP.2.1.exa (by decide)
  have ne_w0_ta := Exa.ne A_w0 PP.2.2.1.exa (by decide)
  have VT := (PP.2.2.2.1 A hA t ht).1
  rw [k2_] at VT
  have VR := (PP.2.2.2.2.1 A hA r hr)
  rw [k5_] at VR
  have ne_t_ta := (PP.2.2.2.1 A hA t ht).2
  have ne_t_tb := Exa.ne VT.exa PP.1.exa (by decide)
  have ne_t_wt := Exa.ne VT.exa PP.2.1.exa (by decide)
  have ne_r_tb := Exa.ne VR.exa PP.1.exa (by decide)
  have ne_r_wt := Exa.ne VR.exa PP.2.1.exa (by decide)
  have ne_r_ta := Exa.ne VR.exa PP.2.2.1.exa (by decide)
  refine own_iconst X0 hx hby od_prog_39_method_7_0 (pc' := 1) rfl (z := 2) rfl ?_
  refine own_aloadN X0 hx hby od_prog_39_method_7_1 (pc' := 2) rfl rfl rfl ?_
  refine own_getF X0 hx hby hZ hown (host := "") (Or.inl (ow_33 hw)) Via.refl e0 F_taught od_prog_39_method_7_2 (pc' := 5) rfl ?_
  intro T1 X1 e1
  refine own_iloadN X1 hx hby od_prog_39_method_7_5 (pc' := 6) rfl rfl ?_
  refine own_fI X1 hx hby hZ e1 PP.2.2.1 hA (v := (Int32.ofNat 2)) (by show Value.int (tg A) = _; rw [k4_]) od_prog_39_method_7_6 (pc' := 7) rfl ?_
  refine own_iconst X1 hx hby od_prog_39_method_7_7 (pc' := 8) rfl (z := 1) rfl ?_
  refine own_iadd X1 hx hby od_prog_39_method_7_8 (pc' := 9) rfl ?_
  refine own_imul X1 hx hby od_prog_39_method_7_9 (pc' := 10) rfl ?_
  refine own_aloadN X1 hx hby od_prog_39_method_7_10 (pc' := 11) rfl rfl rfl ?_
  refine own_getF X1 hx hby hZ hown (host := "") (Or.inl (ow_19 hw)) Via.refl e1 F_tables od_prog_39_method_7_11 (pc' := 14) rfl ?_
  intro T2 X2 e2
  refine own_iloadN X2 hx hby od_prog_39_method_7_14 (pc' := 15) rfl rfl ?_
  refine own_fA X2 hx hby hZ e2 PP.1 rfl hA (v := (.ref t)) (by show own_ov (tA A) = _; rw [ht]; rfl) od_prog_39_method_7_15 (pc' := 16) rfl ?_
  refine own_fL X2 hx hby hZ e2 VT od_prog_39_method_7_16 (pc' := 17) rfl ?_
  refine own_icmpN X2 hx hby od_prog_39_method_7_17 (pc' := 20) rfl (tlt (by decide)).2.2.2 ?_
  refine own_aloadN X2 hx hby od_prog_39_method_7_20 (pc' := 21) rfl rfl rfl ?_
  refine own_getF X2 hx hby hZ hown (host := "") (Or.inl (ow_19 hw)) Via.refl e2 F_tables od_prog_39_method_7_21 (pc' := 24) rfl ?_
  intro T3 X3 e3
  refine own_iloadN X3 hx hby od_prog_39_method_7_24 (pc' := 25) rfl rfl ?_
  refine own_fA X3 hx hby hZ e3 PP.1 rfl hA (v := (.ref t)) (by show own_ov (tA A) = _; rw [ht]; rfl) od_prog_39_method_7_25 (pc' := 26) rfl ?_
  refine own_astoreN X3 hx hby od_prog_39_method_7_26 (pc' := 27) rfl rfl (Ls' := #[.val (.ref w0), .val (.int (Int32.ofNat A)), .val (.int (Int32.ofNat B)), .val (.ref t), .unset, .unset, .unset]) rfl ?_
  refine own_aloadN X3 hx hby od_prog_39_method_7_27 (pc' := 28) rfl rfl rfl ?_
  refine own_getF X3 hx hby hZ hown (host := "") (Or.inl (ow_30 hw)) Via.refl e3 F_weights od_prog_39_method_7_28 (pc' := 31) rfl ?_
  intro T4 X4 e4
  refine own_iloadN X4 hx hby od_prog_39_method_7_31 (pc' := 32) rfl rfl ?_
  refine own_fA X4 hx hby hZ e4 PP.2.1 rfl hA (v := (.ref r)) (by show own_ov (rA A) = _; rw [hr]; rfl) od_prog_39_method_7_32 (pc' := 33) rfl ?_
  refine own_astore X4 hx hby od_prog_39_method_7_33 (pc' := 35) rfl rfl (Ls' := #[.val (.ref w0), .val (.int (Int32.ofNat A)), .val (.int (Int32.ofNat B)), .val (.ref t), .val (.ref r), .unset, .unset]) rfl ?_
  refine own_aloadN X4 hx hby od_prog_39_method_7_35 (pc' := 36) rfl rfl rfl ?_
  refine own_getF X4 hx hby hZ hown (host := "") (Or.inl (ow_19 hw)) Via.refl e4 F_tables od_prog_39_method_7_36 (pc' := 39) rfl ?_
  intro T5 X5 e5
  refine own_iloadN X5 hx hby od_prog_39_method_7_39 (pc' := 40) rfl rfl ?_
  refine own_iconst X5 hx hby od_prog_39_method_7_40 (pc' := 41) rfl (z := 4) rfl ?_
  refine own_iconst X5 hx hby od_prog_39_method_7_41 (pc' := 42) rfl (z := 2) rfl ?_
  refine own_aloadN X5 hx hby od_prog_39_method_7_42 (pc' := 43) rfl rfl rfl ?_
  refine own_fL X5 hx hby hZ e5 VT od_prog_39_method_7_43 (pc' := 44) rfl ?_
  refine own_imul X5 hx hby od_prog_39_method_7_44 (pc' := 45) rfl ?_
  refine own_callM X5 hx hby hml hZ hown (ow_69 hw) (ow_70 hw) (ow_71 hw) (ow_72 hw) (by decide) (cc := 0) (ss := 0) (rm_maxB l Z a0 hw ((2 : Int32) * (Int32.ofNat 4)) h0 n0 Z0 (by decide)) 2 rfl rfl (by decide) (by decide) rfl (argsL := [(.int (4 : Int32)), (.int ((2 : Int32) * (Int32.ofNat 4)))]) (rest := [(.int (Int32.ofNat A)), (.ref tb)]) opd_2 rfl rfl (Nat.le_refl _) od_prog_39_method_7_45 (pc' := 48) rfl rfl e5 (by decide) (by decide) ?_
  rintro v6 T6 h6 L6 X6 e6 ⟨rfl, Nq6, rfl⟩
  have N6 := N0.app Nq6
  show own_E p.tables e below _ (T6.setTop (mkF m 48 #[.val (.ref w0), .val (.int (Int32.ofNat A)), .val (.int (Int32.ofNat B)), .val (.ref t), .val (.ref r), .unset, .unset] [(.int (Int32.ofNat 8)), (.int (Int32.ofNat A)), (.ref tb)]))
  refine own_nI (N := 8) X6 hx hby hZ (ow_32 hw) e6 od_prog_39_method_7_48 (pc' := 50) rfl (cap := 8) (Nat.le_refl 8) (by decide) (by decide) (by decide) ?_
  intro T7 h7 b7 g7 X7 e7 E7 V_b7
  have ne_w0_b7 : w0 ≠ b7 := own_nl A_w0.lt g7
  have ne_t_b7 : t ≠ b7 := own_nl VT.lt g7
  have ne_r_b7 : r ≠ b7 := own_nl VR.lt g7
  have n0_b7 : n0 ≤ b7 := Nat.le_trans Z0 (Nat.le_of_eq g7.symm)
  have le0_b7 : h0.size ≤ b7 := Nat.le_trans (Nat.le_refl _) (Nat.le_of_eq g7.symm)
  have fr_b7 := PP.fresh (Nat.le_of_eq g7.symm)
  have sz8 := Nat.le_trans (Nat.le_refl _) E7.1
  replace A_w0 := A_w0.ext E7
  replace F_count := F_count.ext E7
  replace F_tables := F_tables.ext E7
  replace F_weights := F_weights.ext E7
  replace F_taught := F_taught.ext E7
  replace F_untaught := F_untaught.ext E7
  replace PP := PP.ext E7
  replace VT := VT.ext E7
  replace VR := VR.ext E7
  have ne_b7_tb := Exa.ne V_b7.exa PP.1.exa (by decide)
  have ne_b7_wt := Exa.ne V_b7.exa PP.2.1.exa (by decide)
  have ne_b7_ta := fr_b7.1
  have hbn : b7 ≠ nn := hnn _ le0_b7
  refine own_gA X7 hx hby hZ e7 PP.1 rfl rfl (own_stoA PP.1 V_b7.exa) hA od_prog_39_method_7_50 (pc' := 51) rfl ?_
  intro T9 h9 X9 e9 W9 Vx1
  replace PP := PP.wrB (o := some b7) (L := 8) (V := fun _ => 0) W9 (fun t ht' => by cases ht'; exact ⟨V_b7, fr_b7.1, fr_b7.2.1⟩)
  have sz10 := Nat.le_trans sz8 (Keep.of_wr W9).1
  replace A_w0 := A_w0.wr W9
  replace F_count := F_count.other W9 (Or.inl ne_w0_tb)
  replace F_tables := F_tables.other W9 (Or.inl ne_w0_tb)
  replace F_weights := F_weights.other W9 (Or.inl ne_w0_tb)
  replace F_taught := F_taught.other W9 (Or.inl ne_w0_tb)
  replace F_untaught := F_untaught.other W9 (Or.inl ne_w0_tb)
  replace VT := VT.other W9 ne_t_tb
  replace VR := VR.other W9 ne_r_tb
  replace V_b7 := V_b7.other W9 ne_b7_tb
  have N9 := own_fr1 (sl := A) N6 PN.1
  refine own_aloadN X9 hx hby od_prog_39_method_7_51 (pc' := 52) rfl rfl rfl ?_
  refine own_getF X9 hx hby hZ hown (host := "") (Or.inl (ow_19 hw)) Via.refl e9 F_tables od_prog_39_method_7_52 (pc' := 55) rfl ?_
  intro T11 X11 e11
  refine own_iloadN X11 hx hby od_prog_39_method_7_55 (pc' := 56) rfl rfl ?_
  refine own_fA X11 hx hby hZ e11 PP.1 rfl hA (v := (.ref b7)) (by show own_ov ((own_up tA A (some b7)) A) = _; rw [own_up_same]; rfl) od_prog_39_method_7_56 (pc' := 57) rfl ?_
  refine own_iconst X11 hx hby od_prog_39_method_7_57 (pc' := 58) rfl (z := (-1)) rfl ?_
  refine own_callM X11 hx hby hml hZ hown (ow_73 hw) (ow_74 hw) (ow_25 hw) (ow_75 hw) (by decide) (cc := 0) (ss := 0) (rm_fillI l Z a0 hw b7 8 _ (-1 : Int32) h9 n0 (Nat.le_trans Z0 sz10) n0_b7 V_b7) 0 rfl rfl (by decide) (by decide) rfl (argsL := [(.ref b7), (.int (-1 : Int32))]) (rest := []) opd_3 rfl rfl (Nat.le_refl _) od_prog_39_method_7_58 (pc' := 61) rfl rfl e11 (by decide) (by decide) ?_
  rintro v12 T12 h12 L12 X12 e12 ⟨rfl, Nq12, Kq12, Vq⟩
  replace PP := PP.keepT (V := fun _ => (-1 : Int32)) hA own_up_same hbn Kq12 (by rw [own_up_same]; exact Vq)
  rw [own_up_up] at PP
  have N12 := N9.app Nq12
  have sz13 := Nat.le_trans sz10 Kq12.1
  replace A_w0 := A_w0.keep Kq12
  replace F_count := F_count.keep Kq12 (own_niS ne_w0_b7 own_ni0)
  replace F_tables := F_tables.keep Kq12 (own_niS ne_w0_b7 own_ni0)
  replace F_weights := F_weights.keep Kq12 (own_niS ne_w0_b7 own_ni0)
  replace F_taught := F_taught.keep Kq12 (own_niS ne_w0_b7 own_ni0)
  replace F_untaught := F_untaught.keep Kq12 (own_niS ne_w0_b7 own_ni0)
  replace VT := VT.keep Kq12 (own_niS ne_t_b7 own_ni0)
  replace VR := VR.keep Kq12 (own_niS ne_r_b7 own_ni0)
  refine own_aloadN X12 hx hby od_prog_39_method_7_61 (pc' := 62) rfl rfl rfl ?_
  refine own_getF X12 hx hby hZ hown (host := "") (Or.inl (ow_30 hw)) Via.refl e12 F_weights od_prog_39_method_7_62 (pc' := 65) rfl ?_
  intro T14 X14 e14
  refine own_iloadN X14 hx hby od_prog_39_method_7_65 (pc' := 66) rfl rfl ?_
  refine own_aloadN X14 hx hby od_prog_39_method_7_66 (pc' := 67) rfl rfl rfl ?_
  refine own_getF X14 hx hby hZ hown (host := "") (Or.inl (ow_19 hw)) Via.refl e14 F_tables od_prog_39_method_7_67 (pc' := 70) rfl ?_
  intro T15 X15 e15
  refine own_iloadN X15 hx hby od_prog_39_method_7_70 (pc' := 71) rfl rfl ?_
  refine own_fA X15 hx hby hZ e15 PP.1 rfl hA (v := (.ref b7)) (by show own_ov ((own_up tA A (some b7)) A) = _; rw [own_up_same]; rfl) od_prog_39_method_7_71 (pc' := 72) rfl ?_
  refine own_fL X15 hx hby hZ e15 Vq od_prog_39_method_7_72 (pc' := 73) rfl ?_
  refine own_nD (N := 8) X15 hx hby hZ (ow_55 hw) e15 od_prog_39_method_7_73 (pc' := 75) rfl (cap := 8) (Nat.le_refl 8) (by decide) (by decide) (by decide) ?_
  intro T16 h16 b16 g16 X16 e16 E16 V_b16
  have ne_w0_b16 : w0 ≠ b16 := own_nl A_w0.lt g16
  have ne_t_b16 : t ≠ b16 := own_nl VT.lt g16
  have ne_r_b16 : r ≠ b16 := own_nl VR.lt g16
  have ne_b7_b16 : b7 ≠ b16 := own_nl Vq.lt g16
  have n0_b16 : n0 ≤ b16 := Nat.le_trans (Nat.le_trans Z0 sz13) (Nat.le_of_eq g16.symm)
  have le0_b16 : h0.size ≤ b16 := Nat.le_trans sz13 (Nat.le_of_eq g16.symm)
  have fr_b16 := PP.fresh (Nat.le_of_eq g16.symm)
  have sz17 := Nat.le_trans sz13 E16.1
  replace A_w0 := A_w0.ext E16
  replace F_count := F_count.ext E16
  replace F_tables := F_tables.ext E16
  replace F_weights := F_weights.ext E16
  replace F_taught := F_taught.ext E16
  replace F_untaught := F_untaught.ext E16
  replace VT := VT.ext E16
  replace VR := VR.ext E16
  replace PP := PP.ext E16
  replace Vq := Vq.ext E16
  have ne_b16_tb := Exa.ne V_b16.exa PP.1.exa (by decide)
  have ne_b16_wt := Exa.ne V_b16.exa PP.2.1.exa (by decide)
  have ne_b16_ta := Exa.ne V_b16.exa PP.2.2.1.exa (by decide)
  refine own_gA X16 hx hby hZ e16 PP.2.1 rfl rfl (own_stoA PP.2.1 V_b16.exa) hA od_prog_39_method_7_75 (pc' := 76) rfl ?_
  intro T18 h18 X18 e18 W18 Vx2
  replace PP := PP.wrW (V := fun _ => 0) W18 V_b16 fr_b16.2.2
  have sz19 := Nat.le_trans sz17 (Keep.of_wr W18).1
  replace A_w0 := A_w0.wr W18
  replace F_count := F_count.other W18 (Or.inl ne_w0_wt)
  replace F_tables := F_tables.other W18 (Or.inl ne_w0_wt)
  replace F_weights := F_weights.other W18 (Or.inl ne_w0_wt)
  replace F_taught := F_taught.other W18 (Or.inl ne_w0_wt)
  replace F_untaught := F_untaught.other W18 (Or.inl ne_w0_wt)
  replace VT := VT.other W18 ne_t_wt
  replace VR := VR.other W18 ne_r_wt
  replace Vq := Vq.other W18 ne_b7_wt
  replace V_b16 := V_b16.other W18 ne_b16_wt
  have N18 := own_fr1 (sl := A) N12 PN.2.1
  refine own_iconst X18 hx hby od_prog_39_method_7_76 (pc' := 77) rfl (z := 0) rfl ?_
  refine own_istore X18 hx hby od_prog_39_method_7_77 (pc' := 79) rfl (Ls' := #[.val (.ref w0), .val (.int (Int32.ofNat A)), .val (.int (Int32.ofNat B)), .val (.ref t), .val (.ref r), .val (.int (0 : Int32)), .unset]) rfl ?_
  have hL8 : own_L 8 := Or.inr (Or.inr rfl)
  have ne_w0_b7 := Exa.ne A_w0 (PP.tabAt hA).exa (by decide)
  have ne_w0_b16 := Exa.ne A_w0 (PP.rowAt hA).exa (by decide)
  have ne_b7_b16 := Exa.ne (PP.tabAt hA).exa (PP.rowAt hA).exa (by decide)
  refine own_join (α := Nat × Nat × State × Heap × List Loc × Slot × (Nat → Int32) × (Nat → UInt64)) (F := fun z => z.2.2.1.setTop (mkF m 79 #[.val (.ref w0), .val (.int (Int32.ofNat A)), .val (.int (Int32.ofNat B)), .val (.ref t), .val (.ref r), .val (.int (Int32.ofNat z.2.1)), z.2.2.2.2.2.1] [])) (P := fun z => z.2.1 + z.1 = 4 ∧ Stand p l e ({ frames := 1, cells := 2, slots := 16, locals := 16 } : Room) s m #[(.ref w0), (.int (Int32.ofNat A)), (.int (Int32.ofNat B))] below meth c z.2.2.1 z.2.2.2.2.1 2 16 ∧ z.2.2.1.heap = z.2.2.2.1 ∧ h0.size ≤ z.2.2.2.1.size ∧ Fr n0 z.2.2.2.2.1 ∧ Exa Z z.2.2.2.1 w0 "com/example/shopwright/shopwright/search/PairWeights" ∧ Fld Z z.2.2.2.1 w0 "com/example/shopwright/shopwright/search/PairWeights" "count" "I" (.int (Int32.ofNat N)) ∧ Fld Z z.2.2.2.1 w0 "com/example/shopwright/shopwright/search/PairWeights" "tables" "[[I" (.ref tb) ∧ Fld Z z.2.2.2.1 w0 "com/example/shopwright/shopwright/search/PairWeights" "weights" "[[D" (.ref wt) ∧ Fld Z z.2.2.2.1 w0 "com/example/shopwright/shopwright/search/PairWeights" "taught" "[I" (.ref ta) ∧ Fld Z z.2.2.2.1 w0 "com/example/shopwright/shopwright/search/PairWeights" "untaught" "D" (.double u) ∧ own_PA Z z.2.2.2.1 tb wt ta nn N (own_up tA A (some b7)) (own_up tL A 8) (own_up tV A z.2.2.2.2.2.2.1) (own_up rA A (some b16)) (own_up rL A 8) (own_up rV A z.2.2.2.2.2.2.2) tg ∧ own_Fa Z z.2.2.2.1 t .int "[I" (fun _ => True) 4 (fun j => .int (tV A j)) ∧ own_Fa Z z.2.2.2.1 r .double "[D" (fun _ => True) 4 (fun j => .double (rV A j)) ∧ own_s1 z.2.2.2.2.2.1 ∧ own_Tv z.2.2.2.2.2.2.1 8 ∧ own_rel (tV A) (rV A) z.2.1 z.2.2.2.2.2.2.1 z.2.2.2.2.2.2.2 ∧ 8 ≤ own_cf z.2.2.2.2.2.2.1 8 + z.2.1 ∧ ∀ j, Jvm.Free.Fl.Mag64 KK (z.2.2.2.2.2.2.2 j)) ?_ ?_
  · rintro ⟨k1, i1, T_1, h_1, L_1, u6, M, Y⟩ hP
    show own_E p.tables e below _ (T_1.setTop (mkF m 79 #[.val (.ref w0), .val (.int (Int32.ofNat A)), .val (.int (Int32.ofNat B)), .val (.ref t), .val (.ref r), .val (.int (Int32.ofNat i1)), u6] []))
    replace hP : i1 + k1 = 4 ∧ Stand p l e ({ frames := 1, cells := 2, slots := 16, locals := 16 } : Room) s m #[(.ref w0), (.int (Int32.ofNat A)), (.int (Int32.ofNat B))] below meth c T_1 L_1 2 16 ∧ T_1.heap = h_1 ∧ h0.size ≤ h_1.size ∧ Fr n0 L_1 ∧ Exa Z h_1 w0 "com/example/shopwright/shopwright/search/PairWeights" ∧ Fld Z h_1 w0 "com/example/shopwright/shopwright/search/PairWeights" "count" "I" (.int (Int32.ofNat N)) ∧ Fld Z h_1 w0 "com/example/shopwright/shopwright/search/PairWeights" "tables" "[[I" (.ref tb) ∧ Fld Z h_1 w0 "com/example/shopwright/shopwright/search/PairWeights" "weights" "[[D" (.ref wt) ∧ Fld Z h_1 w0 "com/example/shopwright/shopwright/search/PairWeights" "taught" "[I" (.ref ta) ∧ Fld Z h_1 w0 "com/example/shopwright/shopwright/search/PairWeights" "untaught" "D" (.double u) ∧ own_PA Z h_1 tb wt ta nn N (own_up tA A (some b7)) (own_up tL A 8) (own_up tV A M) (own_up rA A (some b16)) (own_up rL A 8) (own_up rV A Y) tg ∧ own_Fa Z h_1 t .int "[I" (fun _ => True) 4 (fun j => .int (tV A j)) ∧ own_Fa Z h_1 r .double "[D" (fun _ => True) 4 (fun j => .double (rV A j)) ∧ own_s1 u6 ∧ own_Tv M 8 ∧ own_rel (tV A) (rV A) i1 M Y ∧ 8 ≤ own_cf M 8 + i1 ∧ ∀ j, Jvm.Free.Fl.Mag64 KK (Y j) := hP
    revert hP
    induction k1 generalizing i1 T_1 h_1 L_1 u6 M Y with
    | zero =>
      rintro ⟨hik1, Xl1, el1, szl1, Nl1, A_w0, F_count, F_tables, F_weights, F_taught, F_untaught, PP, VT, VR, hu6, hT8, hrel, hcf, hY⟩
      have hi4 : i1 = 4 := by omega
      rw [hi4] at hrel hcf
      refine own_iload Xl1 hx hby od_prog_39_method_7_79 (pc' := 81) rfl rfl ?_
      refine own_aloadN Xl1 hx hby od_prog_39_method_7_81 (pc' := 82) rfl rfl rfl ?_
      refine own_fL Xl1 hx hby hZ el1 VT od_prog_39_method_7_82 (pc' := 83) rfl ?_
      refine own_icmpY Xl1 hx hby od_prog_39_method_7_83 (by decide) (pc' := 142) (by decide) (flt (by rw [hi4]; decide)).2.1 ?_
      refine own_aloadN Xl1 hx hby od_prog_39_method_7_142 (pc' := 143) rfl rfl rfl ?_
      refine own_getF Xl1 hx hby hZ hown (host := "") (Or.inl (ow_19 hw)) Via.refl el1 F_tables od_prog_39_method_7_143 (pc' := 146) rfl ?_
      intro T20 X20 e20
      refine own_iloadN X20 hx hby od_prog_39_method_7_146 (pc' := 147) rfl rfl ?_
      refine own_fA X20 hx hby hZ e20 PP.1 rfl hA (v := (.ref b7)) (by show own_ov ((own_up tA A (some b7)) A) = _; rw [own_up_same]; rfl) od_prog_39_method_7_147 (pc' := 148) rfl ?_
      refine own_iloadN X20 hx hby od_prog_39_method_7_148 (pc' := 149) rfl rfl ?_
      have fr8 := own_cf_free (T := M) 8 (by omega)
      have hs := own_slot_s (b := (Int32.ofNat B)) hL8 fr8
      refine own_callM X20 hx hby hml hZ hown (ow_47 hw) (ow_48 hw) (ow_8 hw) (ow_49 hw) (by decide) (cc := 0) (ss := 0) (rm_slot l Z a0 hw b7 (Int32.ofNat B) 8 M h_1 n0 (Nat.le_trans Z0 szl1) hL8 fr8 (PP.tabAt hA)) 0 rfl rfl (by decide) (by decide) rfl (argsL := [(.ref b7), (.int (Int32.ofNat B))]) (rest := []) opd_0 rfl rfl (Nat.le_refl _) od_prog_39_method_7_149 (pc' := 152) rfl rfl e20 (by decide) (by decide) ?_
      rintro v21 T21 h21 L21 X21 e21 ⟨rfl, Nq21, rfl⟩
      have N21 := Nl1.app Nq21
      generalize hS : own_slot M 8 (Int32.ofNat B) = SS at hs ⊢
      have hfS := hrel.free hB hT hq0 hs.1 hs.2
      refine own_istoreN X21 hx hby od_prog_39_method_7_152 (pc' := 153) rfl (Ls' := #[.val (.ref w0), .val (.int (Int32.ofNat A)), .val (.int (Int32.ofNat B)), .val (.int (Int32.ofNat SS)), .val (.ref r), .val (.int (Int32.ofNat i1)), u6]) rfl ?_
      refine own_aloadN X21 hx hby od_prog_39_method_7_153 (pc' := 154) rfl rfl rfl ?_
      refine own_getF X21 hx hby hZ hown (host := "") (Or.inl (ow_19 hw)) Via.refl e21 F_tables od_prog_39_method_7_154 (pc' := 157) rfl ?_
      intro T22 X22 e22
      refine own_iloadN X22 hx hby od_prog_39_method_7_157 (pc' := 158) rfl rfl ?_
      refine own_fA X22 hx hby hZ e22 PP.1 rfl hA (v := (.ref b7)) (by show own_ov ((own_up tA A (some b7)) A) = _; rw [own_up_same]; rfl) od_prog_39_method_7_158 (pc' := 159) rfl ?_
      refine own_iloadN X22 hx hby od_prog_39_method_7_159 (pc' := 160) rfl rfl ?_
      refine own_iloadN X22 hx hby od_prog_39_method_7_160 (pc' := 161) rfl rfl ?_
      refine own_gI X22 hx hby hZ e22 (PP.tabAt hA) hs.1 od_prog_39_method_7_161 (pc' := 162) rfl ?_
      intro T23 h23 X23 e23 W23 Vq2
      replace PP := PP.wrT hA own_up_same hbn W23
      have sz24 := Nat.le_trans szl1 (Keep.of_wr W23).1
      replace A_w0 := A_w0.wr W23
      replace F_count := F_count.other W23 (Or.inl ne_w0_b7)
      replace F_tables := F_tables.other W23 (Or.inl ne_w0_b7)
      replace F_weights := F_weights.other W23 (Or.inl ne_w0_b7)
      replace F_taught := F_taught.other W23 (Or.inl ne_w0_b7)
      replace F_untaught := F_untaught.other W23 (Or.inl ne_w0_b7)
      have N23 := own_fr1 (sl := SS) N21 n0_b7
      rw [own_up2i_up] at PP
      refine own_aloadN X23 hx hby od_prog_39_method_7_162 (pc' := 163) rfl rfl rfl ?_
      refine own_getF X23 hx hby hZ hown (host := "") (Or.inl (ow_30 hw)) Via.refl e23 F_weights od_prog_39_method_7_163 (pc' := 166) rfl ?_
      intro T25 X25 e25
      refine own_iloadN X25 hx hby od_prog_39_method_7_166 (pc' := 167) rfl rfl ?_
      refine own_fA X25 hx hby hZ e25 PP.2.1 rfl hA (v := (.ref b16)) (by show own_ov ((own_up rA A (some b16)) A) = _; rw [own_up_same]; rfl) od_prog_39_method_7_167 (pc' := 168) rfl ?_
      refine own_iloadN X25 hx hby od_prog_39_method_7_168 (pc' := 169) rfl rfl ?_
      refine own_aloadN X25 hx hby od_prog_39_method_7_169 (pc' := 170) rfl rfl rfl ?_
      refine own_getF X25 hx hby hZ hown (host := "") (Or.inl (ow_35 hw)) Via.refl e25 F_untaught od_prog_39_method_7_170 (pc' := 173) rfl ?_
      intro T26 X26 e26
      refine own_gD X26 hx hby hZ e26 (PP.rowAt hA) hs.1 od_prog_39_method_7_173 (pc' := 174) rfl ?_
      intro T27 h27 X27 e27 W27 Vq3
      replace PP := PP.wrR hA own_up_same W27
      have sz28 := Nat.le_trans sz24 (Keep.of_wr W27).1
      replace A_w0 := A_w0.wr W27
      replace F_count := F_count.other W27 (Or.inl ne_w0_b16)
      replace F_tables := F_tables.other W27 (Or.inl ne_w0_b16)
      replace F_weights := F_weights.other W27 (Or.inl ne_w0_b16)
      replace F_taught := F_taught.other W27 (Or.inl ne_w0_b16)
      replace F_untaught := F_untaught.other W27 (Or.inl ne_w0_b16)
      have N27 := own_fr1 (sl := SS) N23 n0_b16
      rw [own_up2_up] at PP
      refine own_aloadN X27 hx hby od_prog_39_method_7_174 (pc' := 175) rfl rfl rfl ?_
      refine own_getF X27 hx hby hZ hown (host := "") (Or.inl (ow_33 hw)) Via.refl e27 F_taught od_prog_39_method_7_175 (pc' := 178) rfl ?_
      intro T29 X29 e29
      refine own_iloadN X29 hx hby od_prog_39_method_7_178 (pc' := 179) rfl rfl ?_
      refine own_dup2 X29 hx hby od_prog_39_method_7_179 (pc' := 180) rfl rfl rfl ?_
      refine own_fI X29 hx hby hZ e29 PP.2.2.1 hA (v := (Int32.ofNat 2)) (by show Value.int (tg A) = _; rw [k4_]) od_prog_39_method_7_180 (pc' := 181) rfl ?_
      refine own_iconst X29 hx hby od_prog_39_method_7_181 (pc' := 182) rfl (z := 1) rfl ?_
      refine own_iadd X29 hx hby od_prog_39_method_7_182 (pc' := 183) rfl ?_
      refine own_gI X29 hx hby hZ e29 PP.2.2.1 hA od_prog_39_method_7_183 (pc' := 184) rfl ?_
      intro T30 h30 X30 e30 W30 Vx4
      replace PP := PP.wrG W30
      have sz31 := Nat.le_trans sz28 (Keep.of_wr W30).1
      replace A_w0 := A_w0.wr W30
      replace F_count := F_count.other W30 (Or.inl ne_w0_ta)
      replace F_tables := F_tables.other W30 (Or.inl ne_w0_ta)
      replace F_weights := F_weights.other W30 (Or.inl ne_w0_ta)
      replace F_taught := F_taught.other W30 (Or.inl ne_w0_ta)
      replace F_untaught := F_untaught.other W30 (Or.inl ne_w0_ta)
      have N30 := own_fr1 (sl := A) N27 PN.2.2.1
      exact own_ret0 X30 hx hby hlk hrt od_prog_39_method_7_184 (by first | exact ⟨rfl, N30, sz31, A_w0, F_count, F_tables, F_weights, F_taught, F_untaught, b7, b16, SS, M, Y, n0_b7, n0_b16, hbn, hT8, hrel, by omega, hS, hfS, hY, PP⟩ | (rw [e30]; exact ⟨rfl, N30, sz31, A_w0, F_count, F_tables, F_weights, F_taught, F_untaught, b7, b16, SS, M, Y, n0_b7, n0_b16, hbn, hT8, hrel, by omega, hS, hfS, hY, PP⟩)) (by decide) (by decide)
    | succ k1 ih1 =>
      rintro ⟨hik1, Xl1, el1, szl1, Nl1, A_w0, F_count, F_tables, F_weights, F_taught, F_untaught, PP, VT, VR, hu6, hT8, hrel, hcf, hY⟩
      have hlt : i1 < 4 := by omega
      refine own_iload Xl1 hx hby od_prog_39_method_7_79 (pc' := 81) rfl rfl ?_
      refine own_aloadN Xl1 hx hby od_prog_39_method_7_81 (pc' := 82) rfl rfl rfl ?_
      refine own_fL Xl1 hx hby hZ el1 VT od_prog_39_method_7_82 (pc' := 83) rfl ?_
      refine own_icmpN Xl1 hx hby od_prog_39_method_7_83 (pc' := 86) rfl (tlt ((own_ilt (I := i1) (J := 4) (by omega) (by decide)).mpr hlt)).2.1 ?_
      refine own_aloadN Xl1 hx hby od_prog_39_method_7_86 (pc' := 87) rfl rfl rfl ?_
      refine own_iload Xl1 hx hby od_prog_39_method_7_87 (pc' := 89) rfl rfl ?_
      refine own_fI Xl1 hx hby hZ el1 VT hlt (v := (tV A i1)) rfl od_prog_39_method_7_89 (pc' := 90) rfl ?_
      refine own_iconst Xl1 hx hby od_prog_39_method_7_90 (pc' := 91) rfl (z := (-1)) rfl ?_
      by_cases hm : (tV A i1) = (-1 : Int32)
      · refine own_icmpY Xl1 hx hby od_prog_39_method_7_91 (by decide) (pc' := 136) (by decide) (teq hm).1 ?_
        refine own_iincN Xl1 hx hby od_prog_39_method_7_136 (pc' := 139) rfl rfl (Ls' := #[.val (.ref w0), .val (.int (Int32.ofNat A)), .val (.int (Int32.ofNat B)), .val (.ref t), .val (.ref r), .val (.int (Int32.ofNat (i1 + 1))), u6]) rfl ?_
        refine own_goto Xl1 hx hby od_prog_39_method_7_139 (by decide) (pc' := 79) (by decide) ?_
        exact ih1 (i1 + 1) T_1 h_1 _ (u6) (M) (Y) ⟨by omega, Xl1.mono (by decide) (by decide), el1, szl1, Nl1, A_w0, F_count, F_tables, F_weights, F_taught, F_untaught, PP, VT, VR, hu6, hT8, (hrel.skip hm), (by omega), hY⟩
      · refine own_icmpN Xl1 hx hby od_prog_39_method_7_91 (pc' := 94) rfl (feq hm).1 ?_
        refine own_aloadN Xl1 hx hby od_prog_39_method_7_94 (pc' := 95) rfl rfl rfl ?_
        refine own_getF Xl1 hx hby hZ hown (host := "") (Or.inl (ow_19 hw)) Via.refl el1 F_tables od_prog_39_method_7_95 (pc' := 98) rfl ?_
        intro T32 X32 e32
        refine own_iloadN X32 hx hby od_prog_39_method_7_98 (pc' := 99) rfl rfl ?_
        refine own_fA X32 hx hby hZ e32 PP.1 rfl hA (v := (.ref b7)) (by show own_ov ((own_up tA A (some b7)) A) = _; rw [own_up_same]; rfl) od_prog_39_method_7_99 (pc' := 100) rfl ?_
        refine own_aloadN X32 hx hby od_prog_39_method_7_100 (pc' := 101) rfl rfl rfl ?_
        refine own_iload X32 hx hby od_prog_39_method_7_101 (pc' := 103) rfl rfl ?_
        refine own_fI X32 hx hby hZ e32 VT hlt (v := (tV A i1)) rfl od_prog_39_method_7_103 (pc' := 104) rfl ?_
        have fr8 := own_cf_free (T := M) 8 (by omega)
        have hs := own_slot_s (b := (tV A i1)) hL8 fr8
        refine own_callM X32 hx hby hml hZ hown (ow_47 hw) (ow_48 hw) (ow_8 hw) (ow_49 hw) (by decide) (cc := 0) (ss := 0) (rm_slot l Z a0 hw b7 (tV A i1) 8 M h_1 n0 (Nat.le_trans Z0 szl1) hL8 fr8 (PP.tabAt hA)) 0 rfl rfl (by decide) (by decide) rfl (argsL := [(.ref b7), (.int (tV A i1))]) (rest := []) opd_0 rfl rfl (Nat.le_refl _) od_prog_39_method_7_104 (pc' := 107) rfl rfl e32 (by decide) (by decide) ?_
        rintro v33 T33 h33 L33 X33 e33 ⟨rfl, Nq33, rfl⟩
        have N33 := Nl1.app Nq33
        generalize hS : own_slot M 8 (tV A i1) = SS at hs ⊢
        have hfS := hrel.new hT hlt hm hs.1 hs.2
        refine own_istore X33 hx hby od_prog_39_method_7_107 (pc' := 109) rfl (Ls' := #[.val (.ref w0), .val (.int (Int32.ofNat A)), .val (.int (Int32.ofNat B)), .val (.ref t), .val (.ref r), .val (.int (Int32.ofNat i1)), .val (.int (Int32.ofNat SS))]) (own_st6 hu6 rfl) ?_
        refine own_aloadN X33 hx hby od_prog_39_method_7_109 (pc' := 110) rfl rfl rfl ?_
        refine own_getF X33 hx hby hZ hown (host := "") (Or.inl (ow_19 hw)) Via.refl e33 F_tables od_prog_39_method_7_110 (pc' := 113) rfl ?_
        intro T34 X34 e34
        refine own_iloadN X34 hx hby od_prog_39_method_7_113 (pc' := 114) rfl rfl ?_
        refine own_fA X34 hx hby hZ e34 PP.1 rfl hA (v := (.ref b7)) (by show own_ov ((own_up tA A (some b7)) A) = _; rw [own_up_same]; rfl) od_prog_39_method_7_114 (pc' := 115) rfl ?_
        refine own_iload X34 hx hby od_prog_39_method_7_115 (pc' := 117) rfl rfl ?_
        refine own_aloadN X34 hx hby od_prog_39_method_7_117 (pc' := 118) rfl rfl rfl ?_
        refine own_iload X34 hx hby od_prog_39_method_7_118 (pc' := 120) rfl rfl ?_
        refine own_fI X34 hx hby hZ e34 VT hlt (v := (tV A i1)) rfl od_prog_39_method_7_120 (pc' := 121) rfl ?_
        refine own_gI X34 hx hby hZ e34 (PP.tabAt hA) hs.1 od_prog_39_method_7_121 (pc' := 122) rfl ?_
        intro T35 h35 X35 e35 W35 Vq2
        replace PP := PP.wrT hA own_up_same hbn W35
        have sz36 := Nat.le_trans szl1 (Keep.of_wr W35).1
        replace A_w0 := A_w0.wr W35
        replace F_count := F_count.other W35 (Or.inl ne_w0_b7)
        replace F_tables := F_tables.other W35 (Or.inl ne_w0_b7)
        replace F_weights := F_weights.other W35 (Or.inl ne_w0_b7)
        replace F_taught := F_taught.other W35 (Or.inl ne_w0_b7)
        replace F_untaught := F_untaught.other W35 (Or.inl ne_w0_b7)
        replace VT := VT.other W35 ne_t_b7
        replace VR := VR.other W35 ne_r_b7
        have N35 := own_fr1 (sl := SS) N33 n0_b7
        rw [own_up2i_up] at PP
        refine own_aloadN X35 hx hby od_prog_39_method_7_122 (pc' := 123) rfl rfl rfl ?_
        refine own_getF X35 hx hby hZ hown (host := "") (Or.inl (ow_30 hw)) Via.refl e35 F_weights od_prog_39_method_7_123 (pc' := 126) rfl ?_
        intro T37 X37 e37
        refine own_iloadN X37 hx hby od_prog_39_method_7_126 (pc' := 127) rfl rfl ?_
        refine own_fA X37 hx hby hZ e37 PP.2.1 rfl hA (v := (.ref b16)) (by show own_ov ((own_up rA A (some b16)) A) = _; rw [own_up_same]; rfl) od_prog_39_method_7_127 (pc' := 128) rfl ?_
        refine own_iload X37 hx hby od_prog_39_method_7_128 (pc' := 130) rfl rfl ?_
        refine own_aload X37 hx hby od_prog_39_method_7_130 (pc' := 132) rfl rfl rfl ?_
        refine own_iload X37 hx hby od_prog_39_method_7_132 (pc' := 134) rfl rfl ?_
        refine own_fD X37 hx hby hZ e37 VR hlt (v := (rV A i1)) rfl od_prog_39_method_7_134 (pc' := 135) rfl ?_
        refine own_gD X37 hx hby hZ e37 (PP.rowAt hA) hs.1 od_prog_39_method_7_135 (pc' := 136) rfl ?_
        intro T38 h38 X38 e38 W38 Vq3
        replace PP := PP.wrR hA own_up_same W38
        have sz39 := Nat.le_trans sz36 (Keep.of_wr W38).1
        replace A_w0 := A_w0.wr W38
        replace F_count := F_count.other W38 (Or.inl ne_w0_b16)
        replace F_tables := F_tables.other W38 (Or.inl ne_w0_b16)
        replace F_weights := F_weights.other W38 (Or.inl ne_w0_b16)
        replace F_taught := F_taught.other W38 (Or.inl ne_w0_b16)
        replace F_untaught := F_untaught.other W38 (Or.inl ne_w0_b16)
        replace VT := VT.other W38 ne_t_b16
        replace VR := VR.other W38 ne_r_b16
        have N38 := own_fr1 (sl := SS) N35 n0_b16
        rw [own_up2_up] at PP
        have hc2 := own_cf_set M SS (tV A i1) 8
        rw [if_pos hs.1] at hc2
        refine own_iincN X38 hx hby od_prog_39_method_7_136 (pc' := 139) rfl rfl (Ls' := #[.val (.ref w0), .val (.int (Int32.ofNat A)), .val (.int (Int32.ofNat B)), .val (.ref t), .val (.ref r), .val (.int (Int32.ofNat (i1 + 1))), .val (.int (Int32.ofNat SS))]) rfl ?_
        refine own_goto X38 hx hby od_prog_39_method_7_139 (by decide) (pc' := 79) (by decide) ?_
        exact ih1 (i1 + 1) T38 h38 _ (.val (.int (Int32.ofNat SS))) (own_set M SS (tV A i1)) (own_setd Y SS (rV A i1)) ⟨by omega, X38.mono (by decide) (by decide), e38, sz39, N38, A_w0, F_count, F_tables, F_weights, F_taught, F_untaught, PP, VT, VR, (Or.inr ⟨_, rfl, rfl⟩), (hT8.ins hS hfS), (hrel.put hs.1 hfS), (by omega), (own_setd_mag hY (BD.2 A i1))⟩
  · intro J40
    exact J40 (4, 0, T18, h18, _, .unset, (fun _ => (-1 : Int32)), (fun _ => (0 : UInt64))) ⟨Nat.zero_add _, X18, e18, sz19, N18, A_w0, F_count, F_tables, F_weights, F_taught, F_untaught, PP, VT, VR, (Or.inl rfl), (own_Tv_const 8), ⟨fun p hp hn => absurd rfl hn, fun q hq => absurd hq (Nat.not_lt_zero q)⟩, (by rw [own_cf_const]; exact Nat.le_add_right 8 _), (fun _ => own_mag0 hKp)⟩
theorem ef_rm_add (m : MethodId) (x0 : Addr) (x1 : Int32) (x2 : Int32) (x3 : UInt64) : entryFrame m #[(.ref x0), (.int x1), (.int x2), (.double x3)] 5 = mkF m 0 #[.val (.ref x0), .val (.int x1), .val (.int x2), .val (.double x3), .second] [] := by first | (simp [entryFrame, mkF, argsToLocals, Value.category]; done) | rfl
set_option maxRecDepth 65536 in
set_option maxHeartbeats 40000000 in
theorem rm_add (l : Launch) (Z : State) (a0 : Array Value) (hw : ∀ d ∈ tables_1, d.before a0 Z = true) (w0 tb wt ta nn : Addr) (N A B K1 KK : Nat) (u sh : UInt64) (tA : Nat → Option Addr) (tL : Nat → Nat) (tV : Nat → Nat → Int32) (rA : Nat → Option Addr) (rL : Nat → Nat) (rV : Nat → Nat → UInt64) (tg : Nat → Int32) (h0 : Heap) (n0 : Nat) (Z0 : n0 ≤ h0.size) (n0_w0 : n0 ≤ w0) (PN : own_PN n0 tb wt ta nn N tA rA) (OK : own_Ok3 N nn tA tL tV rA rL tg K1) (hK1 : K1 ≤ 2) (hnn : ∀ x : Addr, h0.size ≤ x → x ≠ nn) (BD : own_Bd KK u rV) (hsh : Jvm.Free.Fl.Mag64 KK sh) (hKK : KK ≤ 1200) (hKp : 1 ≤ KK) (hA : A < N) (hB : B < N) (A_w0 : Exa Z h0 w0 "com/example/shopwright/shopwright/search/PairWeights") (F_count : Fld Z h0 w0 "com/example/shopwright/shopwright/search/PairWeights" "count" "I" (.int (Int32.ofNat N))) (F_tables : Fld Z h0 w0 "com/example/shopwright/shopwright/search/PairWeights" "tables" "[[I" (.ref tb)) (F_weights : Fld Z h0 w0 "com/example/shopwright/shopwright/search/PairWeights" "weights" "[[D" (.ref wt)) (F_taught : Fld Z h0 w0 "com/example/shopwright/shopwright/search/PairWeights" "taught" "[I" (.ref ta)) (F_untaught : Fld Z h0 w0 "com/example/shopwright/shopwright/search/PairWeights" "untaught" "D" (.double u)) (PP : own_PA Z h0 tb wt ta nn N tA tL tV rA rL rV tg) :
    own_Met l Z (⟨"com/example/shopwright/shopwright/search/PairWeights", "add", "(IID)V"⟩ : MethodName) prog_39_method_4_code 5 none ({ frames := 2, cells := 2, slots := 2048, locals := 34 } : Room) #[(.ref w0), (.int (Int32.ofNat A)), (.int (Int32.ofNat B)), (.double sh)] h0 (fun v h L => v = none ∧ Fr n0 L ∧ h0.size ≤ h.size ∧ Exa Z h w0 "com/example/shopwright/shopwright/search/PairWeights" ∧ Fld Z h w0 "com/example/shopwright/shopwright/search/PairWeights" "count" "I" (.int (Int32.ofNat N)) ∧ Fld Z h w0 "com/example/shopwright/shopwright/search/PairWeights" "tables" "[[I" (.ref tb) ∧ Fld Z h w0 "com/example/shopwright/shopwright/search/PairWeights" "weights" "[[D" (.ref wt) ∧ Fld Z h w0 "com/example/shopwright/shopwright/search/PairWeights" "taught" "[I" (.ref ta) ∧ Fld Z h w0 "com/example/shopwright/shopwright/search/PairWeights" "untaught" "D" (.double u) ∧ ∃ (xA : Nat → Option Addr) (xL : Nat → Nat) (xV : Nat → Nat → Int32) (yA : Nat → Option Addr) (yL : Nat → Nat) (yV : Nat → Nat → UInt64) (xg : Nat → Int32), own_PA Z h tb wt ta nn N xA xL xV yA yL yV xg ∧ own_PN n0 tb wt ta nn N xA yA ∧ own_Ok3 N nn xA xL xV yA yL xg (K1 + 1) ∧ own_Bd (KK + 2) u yV ∧ ∀ a, a < N → ∀ b, b < N → own_W u xA xL xV yV a b = if a = A ∧ b = B then FP.dadd (own_W u tA tL tV rV A B) sh else own_W u tA tL tV rV a b) := by
  refine own_body (plainFor_of_name (by first | (simp [plainName, overriddenIn]; done) | decide +kernel)) ?_
  intro p e s m below meth c s₁ hx hby hml hown hnm hlk hrt hZ X0 e0
  refine own_enter (ef_rm_add m w0 (Int32.ofNat A) (Int32.ofNat B) sh) ?_
  have N0 := Fr.nil n0
  have hNb := PP.1.big
  have ne_w0_tb := Exa.ne A_w0 PP.1.exa (by decide)
  have ne_w0_wt := Exa.ne A_w0 PP.2.1.exa (by decide)
  have ne_w0_ta := Exa.ne A_w0 PP.2.2.1.exa (by decide)
  refine own_join (α := (State) × (Heap) × (List Loc) × (Nat → Option Addr) × (Nat → Nat) × (Nat → Nat → Int32) × (Nat → Option Addr) × (Nat → Nat) × (Nat → Nat → UInt64) × (Nat → Int32)) (F := fun z => z.1.setTop (mkF m 72 #[.val (.ref w0), .val (.int (Int32.ofNat A)), .val (.int (Int32.ofNat B)), .val (.double sh), .second] [])) (P := fun z => Stand p l e ({ frames := 2, cells := 2, slots := 2048, locals := 34 } : Room) s m #[(.ref w0), (.int (Int32.ofNat A)), (.int (Int32.ofNat B)), (.double sh)] below meth c z.1 z.2.2.1 2 2048 ∧ z.1.heap = z.2.1 ∧ h0.size ≤ z.2.1.size ∧ Fr n0 z.2.2.1 ∧ Exa Z z.2.1 w0 "com/example/shopwright/shopwright/search/PairWeights" ∧ Fld Z z.2.1 w0 "com/example/shopwright/shopwright/search/PairWeights" "count" "I" (.int (Int32.ofNat N)) ∧ Fld Z z.2.1 w0 "com/example/shopwright/shopwright/search/PairWeights" "tables" "[[I" (.ref tb) ∧ Fld Z z.2.1 w0 "com/example/shopwright/shopwright/search/PairWeights" "weights" "[[D" (.ref wt) ∧ Fld Z z.2.1 w0 "com/example/shopwright/shopwright/search/PairWeights" "taught" "[I" (.ref ta) ∧ Fld Z z.2.1 w0 "com/example/shopwright/shopwright/search/PairWeights" "untaught" "D" (.double u) ∧ own_PA Z z.2.1 tb wt ta nn N z.2.2.2.1 z.2.2.2.2.1 z.2.2.2.2.2.1 z.2.2.2.2.2.2.1 z.2.2.2.2.2.2.2.1 z.2.2.2.2.2.2.2.2.1 z.2.2.2.2.2.2.2.2.2 ∧ own_PN n0 tb wt ta nn N z.2.2.2.1 z.2.2.2.2.2.2.1 ∧ own_Ok3 N nn z.2.2.2.1 z.2.2.2.2.1 z.2.2.2.2.2.1 z.2.2.2.2.2.2.1 z.2.2.2.2.2.2.2.1 z.2.2.2.2.2.2.2.2.2 (K1 + 1) ∧ own_Bd KK u z.2.2.2.2.2.2.2.2.1 ∧ (∃ r, z.2.2.2.2.2.2.1 A = some r) ∧ (∀ a, a < N → ∀ b, b < N → own_W u z.2.2.2.1 z.2.2.2.2.1 z.2.2.2.2.2.1 z.2.2.2.2.2.2.2.2.1 a b = own_W u tA tL tV rV a b) ∧ (z.2.2.2.1 A = none ∨ z.2.2.2.2.2.1 A (own_slot (z.2.2.2.2.2.1 A) (z.2.2.2.2.1 A) (Int32.ofNat B)) = Int32.ofNat B)) ?_ ?_
  · rintro ⟨T1, h1, L1, xA, xL, xV, yA, yL, yV, xg⟩ hP
    show own_E p.tables e below _ (T1.setTop (mkF m 72 #[.val (.ref w0), .val (.int (Int32.ofNat A)), .val (.int (Int32.ofNat B)), .val (.double sh), .second] []))
    replace hP : Stand p l e ({ frames := 2, cells := 2, slots := 2048, locals := 34 } : Room) s m #[(.ref w0), (.int (Int32.ofNat A)), (.int (Int32.ofNat B)), (.double sh)] below meth c T1 L1 2 2048 ∧ T1.heap = h1 ∧ h0.size ≤ h1.size ∧ Fr n0 L1 ∧ Exa Z h1 w0 "com/example/shopwright/shopwright/search/PairWeights" ∧ Fld Z h1 w0 "com/example/shopwright/shopwright/search/PairWeights" "count" "I" (.int (Int32.ofNat N)) ∧ Fld Z h1 w0 "com/example/shopwright/shopwright/search/PairWeights" "tables" "[[I" (.ref tb) ∧ Fld Z h1 w0 "com/example/shopwright/shopwright/search/PairWeights" "weights" "[[D" (.ref wt) ∧ Fld Z h1 w0 "com/example/shopwright/shopwright/search/PairWeights" "taught" "[I" (.ref ta) ∧ Fld Z h1 w0 "com/example/shopwright/shopwright/search/PairWeights" "untaught" "D" (.double u) ∧ own_PA Z h1 tb wt ta nn N xA xL xV yA yL yV xg ∧ own_PN n0 tb wt ta nn N xA yA ∧ own_Ok3 N nn xA xL xV yA yL xg (K1 + 1) ∧ own_Bd KK u yV ∧ (∃ r, yA A = some r) ∧ (∀ a, a < N → ∀ b, b < N → own_W u xA xL xV yV a b = own_W u tA tL tV rV a b) ∧ (xA A = none ∨ xV A (own_slot (xV A) (xL A) (Int32.ofNat B)) = Int32.ofNat B) := hP
    obtain ⟨X1, e1, sz1, N1, A_w0, F_count, F_tables, F_weights, F_taught, F_untaught, PP, PN, OK, BD, ⟨r, hr⟩, WE, PR⟩ := hP
    have ne_w0_r := Exa.ne A_w0 (PP.2.2.2.2.1 A hA r hr).exa (by decide)
    refine own_aloadN X1 hx hby od_prog_39_method_4_72 (pc' := 73) rfl rfl rfl ?_
    refine own_getF X1 hx hby hZ hown (host := "") (Or.inl (ow_30 hw)) Via.refl e1 F_weights od_prog_39_method_4_73 (pc' := 76) rfl ?_
    intro T1 X1 e1
    refine own_iloadN X1 hx hby od_prog_39_method_4_76 (pc' := 77) rfl rfl ?_
    refine own_fA X1 hx hby hZ e1 PP.2.1 rfl hA (v := (.ref r)) (by show own_ov (yA A) = _; rw [hr]; rfl) od_prog_39_method_4_77 (pc' := 78) rfl ?_
    refine own_aloadN X1 hx hby od_prog_39_method_4_78 (pc' := 79) rfl rfl rfl ?_
    refine own_getF X1 hx hby hZ hown (host := "") (Or.inl (ow_19 hw)) Via.refl e1 F_tables od_prog_39_method_4_79 (pc' := 82) rfl ?_
    intro T2 X2 e2
    refine own_iloadN X2 hx hby od_prog_39_method_4_82 (pc' := 83) rfl rfl ?_
    rcases hrow : xA A with _ | t
    · refine own_fA X2 hx hby hZ e2 PP.1 rfl hA (v := .null) (by show own_ov (xA A) = _; rw [hrow]; rfl) od_prog_39_method_4_83 (pc' := 84) rfl ?_
      refine own_ifnonnullN X2 hx hby od_prog_39_method_4_84 (pc' := 87) rfl ?_
      have hrl := (OK.wrow hA hrow).2
      refine own_iloadN X2 hx hby od_prog_39_method_4_87 (pc' := 88) rfl rfl ?_
      refine own_goto X2 hx hby od_prog_39_method_4_88 (by decide) (pc' := 101) (by decide) ?_
      refine own_dup2 X2 hx hby od_prog_39_method_4_101 (pc' := 102) rfl rfl rfl ?_
      refine own_fD X2 hx hby hZ e2 (PP.2.2.2.2.1 A hA r hr) (by rw [hrl]; exact hB) (v := (yV A B)) rfl od_prog_39_method_4_102 (pc' := 103) rfl ?_
      refine own_dloadN X2 hx hby od_prog_39_method_4_103 (pc' := 104) rfl rfl ?_
      have hmg := own_addmag (BD.2 A B) hsh hKK
      refine own_dadd X2 hx hby od_prog_39_method_4_104 (pc' := 105) rfl (hmg.fin (by omega)).noNaN rfl ?_
      refine own_gD X2 hx hby hZ e2 (PP.2.2.2.2.1 A hA r hr) (by rw [hrl]; exact hB) od_prog_39_method_4_105 (pc' := 106) rfl ?_
      intro T3 h3 X3 e3 W3 Vz
      replace PP := PP.wrR hA hr W3
      have sz4 := Nat.le_trans sz1 (Keep.of_wr W3).1
      replace A_w0 := A_w0.wr W3
      replace F_count := F_count.other W3 (Or.inl ne_w0_r)
      replace F_tables := F_tables.other W3 (Or.inl ne_w0_r)
      replace F_weights := F_weights.other W3 (Or.inl ne_w0_r)
      replace F_taught := F_taught.other W3 (Or.inl ne_w0_r)
      replace F_untaught := F_untaught.other W3 (Or.inl ne_w0_r)
      have N3 := own_fr1 (sl := B) N1 (PN.2.2.2.2 A hA r hr)
      have hWab : own_W u tA tL tV rV A B = yV A B := (WE A hA B hB).symm.trans (own_W_atW hrow)
      have hWn : ∀ a, a < N → ∀ b, b < N → own_W u xA xL xV (own_up2 yV A B (FP.dadd (yV A B) sh)) a b = if a = A ∧ b = B then FP.dadd (own_W u tA tL tV rV A B) sh else own_W u tA tL tV rV a b := fun a ha b hb => by
        rw [own_W_addW hrow a b, hWab]
        by_cases z : a = A ∧ b = B
        · rw [if_pos z, if_pos z]
        · rw [if_neg z, if_neg z]; exact WE a ha b hb
      exact own_ret0 X3 hx hby hlk hrt od_prog_39_method_4_106 (by first | exact ⟨rfl, N3, sz4, A_w0, F_count, F_tables, F_weights, F_taught, F_untaught, _, _, _, _, _, _, _, PP, PN, OK, (BD.mono (by omega)).set hmg, hWn⟩ | (rw [e3]; exact ⟨rfl, N3, sz4, A_w0, F_count, F_tables, F_weights, F_taught, F_untaught, _, _, _, _, _, _, _, PP, PN, OK, (BD.mono (by omega)).set hmg, hWn⟩)) (by decide) (by decide)
    · refine own_fA X2 hx hby hZ e2 PP.1 rfl hA (v := (.ref t)) (by show own_ov (xA A) = _; rw [hrow]; rfl) od_prog_39_method_4_83 (pc' := 84) rfl ?_
      refine own_ifnonnullY X2 hx hby od_prog_39_method_4_84 (by decide) (pc' := 91) (by decide) ?_
      refine own_aloadN X2 hx hby od_prog_39_method_4_91 (pc' := 92) rfl rfl rfl ?_
      refine own_getF X2 hx hby hZ hown (host := "") (Or.inl (ow_19 hw)) Via.refl e2 F_tables od_prog_39_method_4_92 (pc' := 95) rfl ?_
      intro T5 X5 e5
      refine own_iloadN X5 hx hby od_prog_39_method_4_95 (pc' := 96) rfl rfl ?_
      refine own_fA X5 hx hby hZ e5 PP.1 rfl hA (v := (.ref t)) (by show own_ov (xA A) = _; rw [hrow]; rfl) od_prog_39_method_4_96 (pc' := 97) rfl ?_
      refine own_iloadN X5 hx hby od_prog_39_method_4_97 (pc' := 98) rfl rfl ?_
      have fr := OK.free (by omega) hA hrow
      have hs := own_slot_s (b := Int32.ofNat B) fr.1 fr.2
      have hPr := PR.resolve_left (by rw [hrow]; exact Option.some_ne_none t)
      refine own_callM X5 hx hby hml hZ hown (ow_47 hw) (ow_48 hw) (ow_8 hw) (ow_49 hw) (by decide) (cc := 0) (ss := 0) (rm_slot l Z a0 hw t (Int32.ofNat B) (xL A) (xV A) h1 n0 (Nat.le_trans Z0 sz1) fr.1 fr.2 (PP.2.2.2.1 A hA t hrow).1) 1 rfl rfl (by decide) (by decide) rfl (argsL := [(.ref t), (.int (Int32.ofNat B))]) (rest := [(.ref r)]) opd_0 rfl rfl (Nat.le_refl _) od_prog_39_method_4_98 (pc' := 101) rfl rfl e5 (by decide) (by decide) ?_
      rintro v6 T6 h6 L6 X6 e6 ⟨rfl, Nq6, rfl⟩
      have N6 := N1.app Nq6
      generalize hS : own_slot (xV A) (xL A) (Int32.ofNat B) = SS at hs hPr ⊢
      have hrl := OK.tlen hA hrow hr
      refine own_dup2 X6 hx hby od_prog_39_method_4_101 (pc' := 102) rfl rfl rfl ?_
      refine own_fD X6 hx hby hZ e6 (PP.2.2.2.2.1 A hA r hr) (by rw [hrl]; exact hs.1) (v := (yV A SS)) rfl od_prog_39_method_4_102 (pc' := 103) rfl ?_
      refine own_dloadN X6 hx hby od_prog_39_method_4_103 (pc' := 104) rfl rfl ?_
      have hmg := own_addmag (BD.2 A SS) hsh hKK
      refine own_dadd X6 hx hby od_prog_39_method_4_104 (pc' := 105) rfl (hmg.fin (by omega)).noNaN rfl ?_
      refine own_gD X6 hx hby hZ e6 (PP.2.2.2.2.1 A hA r hr) (by rw [hrl]; exact hs.1) od_prog_39_method_4_105 (pc' := 106) rfl ?_
      intro T7 h7 X7 e7 W7 Vz
      replace PP := PP.wrR hA hr W7
      have sz8 := Nat.le_trans sz1 (Keep.of_wr W7).1
      replace A_w0 := A_w0.wr W7
      replace F_count := F_count.other W7 (Or.inl ne_w0_r)
      replace F_tables := F_tables.other W7 (Or.inl ne_w0_r)
      replace F_weights := F_weights.other W7 (Or.inl ne_w0_r)
      replace F_taught := F_taught.other W7 (Or.inl ne_w0_r)
      replace F_untaught := F_untaught.other W7 (Or.inl ne_w0_r)
      have N7 := own_fr1 (sl := SS) N6 (PN.2.2.2.2 A hA r hr)
      have hWab : own_W u tA tL tV rV A B = yV A SS := (WE A hA B hB).symm.trans (own_W_atT hrow hS hPr)
      have hWn : ∀ a, a < N → ∀ b, b < N → own_W u xA xL xV (own_up2 yV A SS (FP.dadd (yV A SS) sh)) a b = if a = A ∧ b = B then FP.dadd (own_W u tA tL tV rV A B) sh else own_W u tA tL tV rV a b := fun a ha b hb => by
        rw [own_W_addT (by omega) hrow hS hPr a b (by omega), hWab]
        by_cases z : a = A ∧ b = B
        · rw [if_pos z, if_pos z]
        · rw [if_neg z, if_neg z]; exact WE a ha b hb
      exact own_ret0 X7 hx hby hlk hrt od_prog_39_method_4_106 (by first | exact ⟨rfl, N7, sz8, A_w0, F_count, F_tables, F_weights, F_taught, F_untaught, _, _, _, _, _, _, _, PP, PN, OK, (BD.mono (by omega)).set hmg, hWn⟩ | (rw [e7]; exact ⟨rfl, N7, sz8, A_w0, F_count, F_tables, F_weights, F_taught, F_untaught, _, _, _, _, _, _, _, PP, PN, OK, (BD.mono (by omega)).set hmg, hWn⟩)) (by decide) (by decide)
  · intro J1
    refine own_aloadN X0 hx hby od_prog_39_method_4_0 (pc' := 1) rfl rfl rfl ?_
    refine own_getF X0 hx hby hZ hown (host := "") (Or.inl (ow_19 hw)) Via.refl e0 F_tables od_prog_39_method_4_1 (pc' := 4) rfl ?_
    intro T9 X9 e9
    refine own_iloadN X9 hx hby od_prog_39_method_4_4 (pc' := 5) rfl rfl ?_
    rcases OK A hA with ⟨ht, hr, hrl, -⟩ | ⟨ht, k2_, k3_, k4_, hr⟩ | ⟨t, q, ht, hn, ⟨r, hr⟩, hrl, k4_, hq1, hq2, hT, hNN, hcase⟩
    · refine own_fA X9 hx hby hZ e9 PP.1 rfl hA (v := .null) (by show own_ov (tA A) = _; rw [ht]; rfl) od_prog_39_method_4_5 (pc' := 6) rfl ?_
      refine own_ifnullY X9 hx hby od_prog_39_method_4_6 (by decide) (pc' := 72) (by decide) ?_
      exact J1 (T9, h0, _, tA, tL, tV, rA, rL, rV, tg) ⟨X9.mono (by decide) (by decide), e9, (Nat.le_refl _), N0, A_w0, F_count, F_tables, F_weights, F_taught, F_untaught, PP, PN, (OK.mono (by omega)), BD, hr, (fun _ _ _ _ => rfl), (Or.inl ht)⟩
    · refine own_fA X9 hx hby hZ e9 PP.1 rfl hA (v := (.ref nn)) (by show own_ov (tA A) = _; rw [ht]; rfl) od_prog_39_method_4_5 (pc' := 6) rfl ?_
      refine own_ifnullN X9 hx hby od_prog_39_method_4_6 (pc' := 9) rfl ?_
      refine own_aloadN X9 hx hby od_prog_39_method_4_9 (pc' := 10) rfl rfl rfl ?_
      refine own_getF X9 hx hby hZ hown (host := "") (Or.inl (ow_19 hw)) Via.refl e9 F_tables od_prog_39_method_4_10 (pc' := 13) rfl ?_
      intro T10 X10 e10
      refine own_iloadN X10 hx hby od_prog_39_method_4_13 (pc' := 14) rfl rfl ?_
      refine own_fA X10 hx hby hZ e10 PP.1 rfl hA (v := (.ref nn)) (by show own_ov (tA A) = _; rw [ht]; rfl) od_prog_39_method_4_14 (pc' := 15) rfl ?_
      refine own_aloadN X10 hx hby od_prog_39_method_4_15 (pc' := 16) rfl rfl rfl ?_
      refine own_getF X10 hx hby hZ hown (host := "") (Or.inl (ow_19 hw)) Via.refl e10 F_tables od_prog_39_method_4_16 (pc' := 19) rfl ?_
      intro T11 X11 e11
      refine own_iloadN X11 hx hby od_prog_39_method_4_19 (pc' := 20) rfl rfl ?_
      refine own_fA X11 hx hby hZ e11 PP.1 rfl hA (v := (.ref nn)) (by show own_ov (tA A) = _; rw [ht]; rfl) od_prog_39_method_4_20 (pc' := 21) rfl ?_
      refine own_iloadN X11 hx hby od_prog_39_method_4_21 (pc' := 22) rfl rfl ?_
      have fr := OK.free (by omega) hA ht
      have hs := own_slot_s (b := Int32.ofNat B) fr.1 fr.2
      refine own_callM X11 hx hby hml hZ hown (ow_47 hw) (ow_48 hw) (ow_8 hw) (ow_49 hw) (by decide) (cc := 0) (ss := 0) (rm_slot l Z a0 hw nn (Int32.ofNat B) (tL A) (tV A) h0 n0 Z0 fr.1 fr.2 (PP.2.2.2.1 A hA nn ht).1) 1 rfl rfl (by decide) (by decide) rfl (argsL := [(.ref nn), (.int (Int32.ofNat B))]) (rest := [(.ref nn)]) opd_0 rfl rfl (Nat.le_refl _) od_prog_39_method_4_22 (pc' := 25) rfl rfl e11 (by decide) (by decide) ?_
      rintro v12 T12 h12 L12 X12 e12 ⟨rfl, Nq12, rfl⟩
      have N12 := N0.app Nq12
      generalize hS : own_slot (tV A) (tL A) (Int32.ofNat B) = SS at hs ⊢
      have hS0 : SS = 0 := by have := hs.1; omega
      refine own_fI X12 hx hby hZ e12 (PP.2.2.2.1 A hA nn ht).1 hs.1 (v := (-1 : Int32)) (by show Value.int (tV A SS) = _; rw [hS0, k3_]) od_prog_39_method_4_25 (pc' := 26) rfl ?_
      refine own_iloadN X12 hx hby od_prog_39_method_4_26 (pc' := 27) rfl rfl ?_
      refine own_icmpN X12 hx hby od_prog_39_method_4_27 (pc' := 30) rfl (feq (own_m1ne (by omega))).1 ?_
      refine own_aloadN X12 hx hby od_prog_39_method_4_30 (pc' := 31) rfl rfl rfl ?_
      refine own_getF X12 hx hby hZ hown (host := "") (Or.inl (ow_15 hw)) Via.refl e12 F_count od_prog_39_method_4_31 (pc' := 34) rfl ?_
      intro T13 X13 e13
      refine own_sipush X13 hx hby od_prog_39_method_4_34 (pc' := 37) rfl (z := 2048) rfl ?_
      have hWu : ∀ b, b < N → own_W u tA tL tV rV A b = u := fun b hb => own_W_unt (by omega) ht k2_ k3_
      by_cases hN : N ≤ 2048
      · refine own_icmpY X13 hx hby od_prog_39_method_4_37 (by decide) (pc' := 58) (by decide) (flt (by rw [own_2048 hNb]; omega)).2.2.2 ?_
        refine own_aloadN X13 hx hby od_prog_39_method_4_58 (pc' := 59) rfl rfl rfl ?_
        refine own_iloadN X13 hx hby od_prog_39_method_4_59 (pc' := 60) rfl rfl ?_
        refine own_privM X13 hx hby hml hZ hown (ow_51 hw) (ow_52 hw) (own_selP (ow_52 hw) (ow_53 hw) (ow_40 hw) rfl (by decide)) (ow_53 hw) (ow_8 hw) (ow_54 hw) (by decide) (cc := 1) (ss := 2048) (rm_hw l Z a0 hw w0 tb wt ta nn N A u tA tL tV rA rL rV tg h0 n0 Z0 n0_w0 PN hA hN ht k2_ k3_ A_w0 F_count F_tables F_weights F_taught F_untaught PP) 0 rfl rfl (by decide) (by decide) rfl A_w0 (argsL := [(.int (Int32.ofNat A))]) (rest := []) opd_4 rfl rfl (Nat.le_refl _) od_prog_39_method_4_60 (pc' := 63) rfl rfl e13 (by decide) (by decide) ?_
        rintro v14 T14 h14 L14 X14 e14 ⟨rfl, Nq14, zz14, A_w0, F_count, F_tables, F_weights, F_taught, F_untaught, b, n0_b, PP⟩
        have N14 := N12.app Nq14
        have sz15 := Nat.le_trans (Nat.le_refl _) zz14
        refine own_goto X14 hx hby od_prog_39_method_4_63 (by decide) (pc' := 72) (by decide) ?_
        exact J1 (T14, h14, _, (own_up tA A none), (own_up tL A 0), (own_up tV A (fun _ => 0)), (own_up rA A (some b)), (own_up rL A N), (own_up rV A (fun _ => u)), tg) ⟨X14.mono (by decide) (by decide), e14, sz15, N14, A_w0, F_count, F_tables, F_weights, F_taught, F_untaught, PP, (PN.tnull.row n0_b), ((OK.whole hN).mono (by omega)), (BD.row (fun _ => BD.1)), ⟨b, own_up_same⟩, (own_W_whole hWu), (Or.inl own_up_same)⟩
      · refine own_icmpN X13 hx hby od_prog_39_method_4_37 (pc' := 40) rfl (tlt ((own_2048 hNb).mpr (by omega))).2.2.2 ?_
        refine own_bipush X13 hx hby od_prog_39_method_4_40 (pc' := 42) rfl (z := 16) rfl ?_
        refine own_aloadN X13 hx hby od_prog_39_method_4_42 (pc' := 43) rfl rfl rfl ?_
        refine own_getF X13 hx hby hZ hown (host := "") (Or.inl (ow_33 hw)) Via.refl e13 F_taught od_prog_39_method_4_43 (pc' := 46) rfl ?_
        intro T16 X16 e16
        refine own_iloadN X16 hx hby od_prog_39_method_4_46 (pc' := 47) rfl rfl ?_
        refine own_fI X16 hx hby hZ e16 PP.2.2.1 hA (v := (Int32.ofNat 0)) (by show Value.int (tg A) = _; rw [k4_]) od_prog_39_method_4_47 (pc' := 48) rfl ?_
        refine own_iconst X16 hx hby od_prog_39_method_4_48 (pc' := 49) rfl (z := 1) rfl ?_
        refine own_iadd X16 hx hby od_prog_39_method_4_49 (pc' := 50) rfl ?_
        refine own_imul X16 hx hby od_prog_39_method_4_50 (pc' := 51) rfl ?_
        refine own_aloadN X16 hx hby od_prog_39_method_4_51 (pc' := 52) rfl rfl rfl ?_
        refine own_getF X16 hx hby hZ hown (host := "") (Or.inl (ow_15 hw)) Via.refl e16 F_count od_prog_39_method_4_52 (pc' := 55) rfl ?_
        intro T17 X17 e17
        refine own_icmpY X17 hx hby od_prog_39_method_4_55 (by decide) (pc' := 66) (by decide) (tlt (own_16 (by decide) (by omega) hNb)).1 ?_
        refine own_aloadN X17 hx hby od_prog_39_method_4_66 (pc' := 67) rfl rfl rfl ?_
        refine own_iloadN X17 hx hby od_prog_39_method_4_67 (pc' := 68) rfl rfl ?_
        refine own_iloadN X17 hx hby od_prog_39_method_4_68 (pc' := 69) rfl rfl ?_
        refine own_privM X17 hx hby hml hZ hown (ow_65 hw) (ow_66 hw) (own_selP (ow_66 hw) (ow_67 hw) (ow_40 hw) rfl (by decide)) (ow_67 hw) (ow_8 hw) (ow_68 hw) (by decide) (cc := 2) (ss := 8) (rm_hta l Z a0 hw w0 tb wt ta nn N A B u tA tL tV rA rL rV tg h0 n0 Z0 n0_w0 PN hA ht k2_ k3_ k4_ hr A_w0 F_count F_tables F_weights F_taught F_untaught PP) 0 rfl rfl (by decide) (by decide) rfl A_w0 (argsL := [(.int (Int32.ofNat A)), (.int (Int32.ofNat B))]) (rest := []) opd_5 rfl rfl (Nat.le_refl _) od_prog_39_method_4_69 (pc' := 72) rfl rfl e17 (by decide) (by decide) ?_
        rintro v18 T18 h18 L18 X18 e18 ⟨rfl, Nq18, zz18, A_w0, F_count, F_tables, F_weights, F_taught, F_untaught, b, b2, S2, n0_b, n0_b2, hbn, hS2, PP⟩
        rw [own_up2i_up, own_up2_up] at PP
        have N18 := N12.app Nq18
        have sz19 := Nat.le_trans (Nat.le_refl _) zz18
        have hc1 : 3 ≤ own_cf (own_set (fun _ => (-1 : Int32)) S2 (Int32.ofNat B)) 4 := own_cf1 (by rw [own_cf_const]; decide)
        have hPRn : (own_up tV A (own_set (fun _ => (-1 : Int32)) S2 (Int32.ofNat B))) A (own_slot ((own_up tV A (own_set (fun _ => (-1 : Int32)) S2 (Int32.ofNat B))) A) (own_up tL A 4 A) (Int32.ofNat B)) = Int32.ofNat B := by rw [own_up_same, own_up_same]; exact own_pres hS2 rfl
        exact J1 (T18, h18, _, (own_up tA A (some b)), (own_up tL A 4), (own_up tV A (own_set (fun _ => (-1 : Int32)) S2 (Int32.ofNat B))), (own_up rA A (some b2)), (own_up rL A 4), (own_up rV A (own_setd (fun _ => 0) S2 u)), (own_up tg A (Int32.ofNat 1))) ⟨X18.mono (by decide) (by decide), e18, sz19, N18, A_w0, F_count, F_tables, F_weights, F_taught, F_untaught, PP, ((PN.tbl n0_b).row n0_b2), ((OK.mono (Nat.le_succ K1)).put (by omega) hbn (Nat.le_refl 1) (by omega) ((own_Tv_const 4).ins hS2 rfl) (Or.inl ⟨rfl, by decide, by omega⟩)), (BD.row (own_setd_mag (fun _ => own_mag0 hKp) BD.1)), ⟨b2, own_up_same⟩, (own_W_put (fun b hb => (own_w_first (by omega) (by omega) hS2).trans (hWu b hb).symm)), (Or.inr hPRn)⟩
    · obtain ⟨k2_, hq3, hc4⟩ : tL A = 4 ∧ q ≤ 2 ∧ 4 ≤ own_cf (tV A) 4 + q := hcase.resolve_right (fun z => by omega)
      have k5_ : rL A = 4 := hrl.trans k2_
      refine own_fA X9 hx hby hZ e9 PP.1 rfl hA (v := (.ref t)) (by show own_ov (tA A) = _; rw [ht]; rfl) od_prog_39_method_4_5 (pc' := 6) rfl ?_
      refine own_ifnullN X9 hx hby od_prog_39_method_4_6 (pc' := 9) rfl ?_
      refine own_aloadN X9 hx hby od_prog_39_method_4_9 (pc' := 10) rfl rfl rfl ?_
      refine own_getF X9 hx hby hZ hown (host := "") (Or.inl (ow_19 hw)) Via.refl e9 F_tables od_prog_39_method_4_10 (pc' := 13) rfl ?_
      intro T20 X20 e20
      refine own_iloadN X20 hx hby od_prog_39_method_4_13 (pc' := 14) rfl rfl ?_
      refine own_fA X20 hx hby hZ e20 PP.1 rfl hA (v := (.ref t)) (by show own_ov (tA A) = _; rw [ht]; rfl) od_prog_39_method_4_14 (pc' := 15) rfl ?_
      refine own_aloadN X20 hx hby od_prog_39_method_4_15 (pc' := 16) rfl rfl rfl ?_
      refine own_getF X20 hx hby hZ hown (host := "") (Or.inl (ow_19 hw)) Via.refl e20 F_tables od_prog_39_method_4_16 (pc' := 19) rfl ?_
      intro T21 X21 e21
      refine own_iloadN X21 hx hby od_prog_39_method_4_19 (pc' := 20) rfl rfl ?_
      refine own_fA X21 hx hby hZ e21 PP.1 rfl hA (v := (.ref t)) (by show own_ov (tA A) = _; rw [ht]; rfl) od_prog_39_method_4_20 (pc' := 21) rfl ?_
      refine own_iloadN X21 hx hby od_prog_39_method_4_21 (pc' := 22) rfl rfl ?_
      have fr := OK.free (by omega) hA ht
      have hs := own_slot_s (b := Int32.ofNat B) fr.1 fr.2
      refine own_callM X21 hx hby hml hZ hown (ow_47 hw) (ow_48 hw) (ow_8 hw) (ow_49 hw) (by decide) (cc := 0) (ss := 0) (rm_slot l Z a0 hw t (Int32.ofNat B) (tL A) (tV A) h0 n0 Z0 fr.1 fr.2 (PP.2.2.2.1 A hA t ht).1) 1 rfl rfl (by decide) (by decide) rfl (argsL := [(.ref t), (.int (Int32.ofNat B))]) (rest := [(.ref t)]) opd_0 rfl rfl (Nat.le_refl _) od_prog_39_method_4_22 (pc' := 25) rfl rfl e21 (by decide) (by decide) ?_
      rintro v22 T22 h22 L22 X22 e22 ⟨rfl, Nq22, rfl⟩
      have N22 := N0.app Nq22
      generalize hS : own_slot (tV A) (tL A) (Int32.ofNat B) = SS at hs ⊢
      refine own_fI X22 hx hby hZ e22 (PP.2.2.2.1 A hA t ht).1 hs.1 (v := (tV A SS)) rfl od_prog_39_method_4_25 (pc' := 26) rfl ?_
      refine own_iloadN X22 hx hby od_prog_39_method_4_26 (pc' := 27) rfl rfl ?_
      by_cases hq : (tV A SS) = (Int32.ofNat B)
      · refine own_icmpY X22 hx hby od_prog_39_method_4_27 (by decide) (pc' := 72) (by decide) (teq hq).1 ?_
        exact J1 (T22, h0, _, tA, tL, tV, rA, rL, rV, tg) ⟨X22.mono (by decide) (by decide), e22, (Nat.le_refl _), N22, A_w0, F_count, F_tables, F_weights, F_taught, F_untaught, PP, PN, (OK.mono (by omega)), BD, ⟨r, hr⟩, (fun _ _ _ _ => rfl), (Or.inr (by rw [hS]; exact hq))⟩
      · refine own_icmpN X22 hx hby od_prog_39_method_4_27 (pc' := 30) rfl (feq hq).1 ?_
        have hfS : tV A SS = (-1 : Int32) := hs.2.resolve_left hq
        refine own_aloadN X22 hx hby od_prog_39_method_4_30 (pc' := 31) rfl rfl rfl ?_
        refine own_getF X22 hx hby hZ hown (host := "") (Or.inl (ow_15 hw)) Via.refl e22 F_count od_prog_39_method_4_31 (pc' := 34) rfl ?_
        intro T23 X23 e23
        refine own_sipush X23 hx hby od_prog_39_method_4_34 (pc' := 37) rfl (z := 2048) rfl ?_
        refine own_icmpN X23 hx hby od_prog_39_method_4_37 (pc' := 40) rfl (tlt ((own_2048 hNb).mpr hNN)).2.2.2 ?_
        refine own_bipush X23 hx hby od_prog_39_method_4_40 (pc' := 42) rfl (z := 16) rfl ?_
        refine own_aloadN X23 hx hby od_prog_39_method_4_42 (pc' := 43) rfl rfl rfl ?_
        refine own_getF X23 hx hby hZ hown (host := "") (Or.inl (ow_33 hw)) Via.refl e23 F_taught od_prog_39_method_4_43 (pc' := 46) rfl ?_
        intro T24 X24 e24
        refine own_iloadN X24 hx hby od_prog_39_method_4_46 (pc' := 47) rfl rfl ?_
        refine own_fI X24 hx hby hZ e24 PP.2.2.1 hA (v := (Int32.ofNat q)) (by show Value.int (tg A) = _; rw [k4_]) od_prog_39_method_4_47 (pc' := 48) rfl ?_
        refine own_iconst X24 hx hby od_prog_39_method_4_48 (pc' := 49) rfl (z := 1) rfl ?_
        refine own_iadd X24 hx hby od_prog_39_method_4_49 (pc' := 50) rfl ?_
        refine own_imul X24 hx hby od_prog_39_method_4_50 (pc' := 51) rfl ?_
        refine own_aloadN X24 hx hby od_prog_39_method_4_51 (pc' := 52) rfl rfl rfl ?_
        refine own_getF X24 hx hby hZ hown (host := "") (Or.inl (ow_15 hw)) Via.refl e24 F_count od_prog_39_method_4_52 (pc' := 55) rfl ?_
        intro T25 X25 e25
        refine own_icmpY X25 hx hby od_prog_39_method_4_55 (by decide) (pc' := 66) (by decide) (tlt (own_16 hq3 hNN hNb)).1 ?_
        refine own_aloadN X25 hx hby od_prog_39_method_4_66 (pc' := 67) rfl rfl rfl ?_
        refine own_iloadN X25 hx hby od_prog_39_method_4_67 (pc' := 68) rfl rfl ?_
        refine own_iloadN X25 hx hby od_prog_39_method_4_68 (pc' := 69) rfl rfl ?_
        rw [k2_] at hS hT
        have fr4 : ∃ s0, s0 < 4 ∧ tV A s0 = (-1 : Int32) := own_cf_free 4 (by omega)
        by_cases hq1' : q = 1
        · subst hq1'
          refine own_privM X25 hx hby hml hZ hown (ow_65 hw) (ow_66 hw) (own_selP (ow_66 hw) (ow_67 hw) (ow_40 hw) rfl (by decide)) (ow_67 hw) (ow_8 hw) (ow_68 hw) (by decide) (cc := 0) (ss := 0) (rm_htb l Z a0 hw w0 tb wt ta nn t r N A B u tA tL tV rA rL rV tg h0 n0 Z0 n0_w0 PN hA ht hn k2_ k4_ hr k5_ fr A_w0 F_count F_tables F_weights F_taught F_untaught PP) 0 rfl rfl (by decide) (by decide) rfl A_w0 (argsL := [(.int (Int32.ofNat A)), (.int (Int32.ofNat B))]) (rest := []) opd_5 rfl rfl (Nat.le_refl _) od_prog_39_method_4_69 (pc' := 72) rfl rfl e25 (by decide) (by decide) ?_
          rintro v26 T26 h26 L26 X26 e26 ⟨rfl, Nq26, zz26, A_w0, F_count, F_tables, F_weights, F_taught, F_untaught, S2, hS2, PP⟩
          rw [k2_] at hS2
          obtain rfl : S2 = SS := hS2.symm.trans hS
          rw [own_up2i_row, own_up2_row] at PP
          have N26 := N22.app Nq26
          have sz27 := Nat.le_trans (Nat.le_refl _) zz26
          have hc1 : 2 ≤ own_cf (own_set (tV A) S2 (Int32.ofNat B)) 4 := own_cf1 (by omega)
          have OKn := (OK.mono (Nat.le_succ K1)).put (t := t) (r := r) (A := A) (q := 2) (L := 4) hNN hn (by decide) (by omega) (hT.ins hS hfS) (Or.inl ⟨rfl, by decide, by omega⟩)
          rw [own_up_id ht, own_up_id k2_, own_up_id hr, own_up_id k5_] at OKn
          have WEn := own_W_put (N := N) (u := u) (tA := tA) (tL := tL) (tV := tV) (rV := rV) (A := A) (t := t) (L := 4) (M := own_set (tV A) S2 (Int32.ofNat B)) (Y := own_setd (rV A) S2 u) (fun b hb => by rw [own_w_ins (by omega) (by omega) (Or.inr (Or.inl rfl)) hT fr4 hS hfS (own_cf_free 4 (by omega)), own_W_tab ht, k2_])
          rw [own_up_id ht, own_up_id k2_] at WEn
          have hPRn : (own_up tV A (own_set (tV A) S2 (Int32.ofNat B))) A (own_slot ((own_up tV A (own_set (tV A) S2 (Int32.ofNat B))) A) (tL A) (Int32.ofNat B)) = Int32.ofNat B := by rw [own_up_same, k2_]; exact own_pres hS hfS
          exact J1 (T26, h26, _, tA, tL, (own_up tV A (own_set (tV A) S2 (Int32.ofNat B))), rA, rL, (own_up rV A (own_setd (rV A) S2 u)), (own_up tg A (Int32.ofNat 2))) ⟨X26.mono (by decide) (by decide), e26, sz27, N26, A_w0, F_count, F_tables, F_weights, F_taught, F_untaught, PP, PN, OKn, (BD.row (own_setd_mag (BD.2 A) BD.1)), ⟨r, hr⟩, WEn, (Or.inr hPRn)⟩
        · obtain rfl : q = 2 := by omega
          have hq0 : ¬ tV A (own_slot (tV A) 4 (Int32.ofNat B)) = Int32.ofNat B := by rw [hS]; exact hq
          refine own_privM X25 hx hby hml hZ hown (ow_65 hw) (ow_66 hw) (own_selP (ow_66 hw) (ow_67 hw) (ow_40 hw) rfl (by decide)) (ow_67 hw) (ow_8 hw) (ow_68 hw) (by decide) (cc := 2) (ss := 16) (rm_htc l Z a0 hw w0 tb wt ta nn t r N A B KK u tA tL tV rA rL rV tg h0 n0 Z0 n0_w0 PN (fun x hx => hnn x (Nat.le_trans (Nat.le_refl _) hx)) BD hKp hA (by omega) ht hn k2_ k4_ hr k5_ hT hq0 A_w0 F_count F_tables F_weights F_taught F_untaught PP) 0 rfl rfl (by decide) (by decide) rfl A_w0 (argsL := [(.int (Int32.ofNat A)), (.int (Int32.ofNat B))]) (rest := []) opd_5 rfl rfl (Nat.le_refl _) od_prog_39_method_4_69 (pc' := 72) rfl rfl e25 (by decide) (by decide) ?_
          rintro v28 T28 h28 L28 X28 e28 ⟨rfl, Nq28, zz28, A_w0, F_count, F_tables, F_weights, F_taught, F_untaught, b, b2, S2, M, Y, n0_b, n0_b2, hbn, hT8, hrel, hcf, hS2, hfM, hY, PP⟩
          have N28 := N22.app Nq28
          have sz29 := Nat.le_trans (Nat.le_refl _) zz28
          have hc1 : 3 ≤ own_cf (own_set M S2 (Int32.ofNat B)) 8 := own_cf1 (by omega)
          have fr8 : ∃ s0, s0 < 8 ∧ M s0 = (-1 : Int32) := own_cf_free 8 (by omega)
          have hL8 : own_L 8 := Or.inr (Or.inr rfl)
          have hPRn : (own_up tV A (own_set M S2 (Int32.ofNat B))) A (own_slot ((own_up tV A (own_set M S2 (Int32.ofNat B))) A) (own_up tL A 8 A) (Int32.ofNat B)) = Int32.ofNat B := by rw [own_up_same, own_up_same]; exact own_pres hS2 hfM
          exact J1 (T28, h28, _, (own_up tA A (some b)), (own_up tL A 8), (own_up tV A (own_set M S2 (Int32.ofNat B))), (own_up rA A (some b2)), (own_up rL A 8), (own_up rV A (own_setd Y S2 u)), (own_up tg A (Int32.ofNat 3))) ⟨X28.mono (by decide) (by decide), e28, sz29, N28, A_w0, F_count, F_tables, F_weights, F_taught, F_untaught, PP, ((PN.tbl n0_b).row n0_b2), ((OK.mono (Nat.le_succ K1)).put hNN hbn (by decide) (by omega) (hT8.ins hS2 hfM) (Or.inr ⟨rfl, rfl, by omega⟩)), (BD.row (own_setd_mag hY BD.1)), ⟨b2, own_up_same⟩, (own_W_put (fun b hb => by rw [own_w_ins (by omega) (by omega) hL8 hT8 fr8 hS2 hfM (own_cf_free 8 (by omega)), hrel.w (by omega) hT hT8 fr4 fr8, own_W_tab ht, k2_])), (Or.inr hPRn)⟩
theorem ef_rm_init (m : MethodId) (x0 : Addr) (x1 : Int32) : entryFrame m #[(.ref x0), (.int x1)] 2 = mkF m 0 #[.val (.ref x0), .val (.int x1)] [] := by first | (simp [entryFrame, mkF, argsToLocals, Value.category]; done) | rfl
set_option maxRecDepth 65536 in
set_option maxHeartbeats 40000000 in
theorem rm_init (l : Launch) (Z : State) (a0 : Array Value) (hw : ∀ d ∈ tables_1, d.before a0 Z = true) (w0 nn : Addr) (N : Nat) (u : UInt64) (h0 : Heap) (n0 : Nat) (Z0 : n0 ≤ h0.size) (n0_w0 : n0 ≤ w0) (hN : N ≤ 2112) (A_w0 : Exa Z h0 w0 "com/example/shopwright/shopwright/search/PairWeights") (F_count : Fld Z h0 w0 "com/example/shopwright/shopwright/search/PairWeights" "count" "I" (.int (0 : Int32))) (F_tables : Fld Z h0 w0 "com/example/shopwright/shopwright/search/PairWeights" "tables" "[[I" .null) (F_weights : Fld Z h0 w0 "com/example/shopwright/shopwright/search/PairWeights" "weights" "[[D" .null) (F_taught : Fld Z h0 w0 "com/example/shopwright/shopwright/search/PairWeights" "taught" "[I" .null) (F_untaught : Fld Z h0 w0 "com/example/shopwright/shopwright/search/PairWeights" "untaught" "D" (.double (0 : UInt64))) (V_nn : own_Fa Z h0 nn .int "[I" (fun _ => True) 1 (fun _ => .int (-1 : Int32))) (S_nn : Sta Z h0 "com/example/shopwright/shopwright/search/PairWeights" "NONE" "[I" (.ref nn)) (hun : Jvm.Free.Fl.NoNaN64 (FP.ddiv (4607182418800017408 : UInt64) (FP.l2d (Int32.ofNat N).toInt64))) (hu : FP.ddiv (4607182418800017408 : UInt64) (FP.l2d (Int32.ofNat N).toInt64) = u) :
    own_Met l Z (⟨"com/example/shopwright/shopwright/search/PairWeights", "<init>", "(I)V"⟩ : MethodName) prog_39_method_1_code 2 none ({ frames := 1, cells := 3, slots := 6336, locals := 15 } : Room) #[(.ref w0), (.int (Int32.ofNat N))] h0 (fun v h L => v = none ∧ Fr n0 L ∧ h0.size ≤ h.size ∧ ∃ tb wt ta : Addr, n0 ≤ tb ∧ n0 ≤ wt ∧ n0 ≤ ta ∧ Exa Z h w0 "com/example/shopwright/shopwright/search/PairWeights" ∧ Fld Z h w0 "com/example/shopwright/shopwright/search/PairWeights" "count" "I" (.int (Int32.ofNat N)) ∧ Fld Z h w0 "com/example/shopwright/shopwright/search/PairWeights" "tables" "[[I" (.ref tb) ∧ Fld Z h w0 "com/example/shopwright/shopwright/search/PairWeights" "weights" "[[D" (.ref wt) ∧ Fld Z h w0 "com/example/shopwright/shopwright/search/PairWeights" "taught" "[I" (.ref ta) ∧ Fld Z h w0 "com/example/shopwright/shopwright/search/PairWeights" "untaught" "D" (.double u) ∧ own_PA Z h tb wt ta nn N (fun _ => some nn) (fun _ => 1) (fun _ _ => (-1 : Int32)) (fun _ => none) (fun _ => 0) (fun _ _ => (0 : UInt64)) (fun _ => (0 : Int32))) := by
  refine own_body (plainFor_of_name (by first | (simp [plainName, overriddenIn]; done) | decide +kernel)) ?_
  intro p e s m below meth c s₁ hx hby hml hown hnm hlk hrt hZ X0 e0
  refine own_enter (ef_rm_init m w0 (Int32.ofNat N)) ?_
  have N0 := Fr.nil n0
  have ne_w0_nn := Exa.ne A_w0 V_nn.exa (by decide)
  refine own_aloadN X0 hx hby od_prog_39_method_1_0 (pc' := 1) rfl rfl rfl ?_
  refine own_initO X0 hx hby hZ hml hown (ow_12 hw) (ow_13 hw) (ow_14 hw) e0 rfl od_prog_39_method_1_1 (pc' := 4) rfl (by decide) (W := 0) (Nat.le_refl _) (by decide) ?_
  intro T1 X1 e1
  refine own_aloadN X1 hx hby od_prog_39_method_1_4 (pc' := 5) rfl rfl rfl ?_
  refine own_iloadN X1 hx hby od_prog_39_method_1_5 (pc' := 6) rfl rfl ?_
  refine own_putF X1 hx hby hZ hown (host := "") (Or.inl (ow_15 hw)) Via.refl e1 F_count A_w0 (Or.inr ⟨(ow_16 hw), rfl, hnm⟩) (ow_7 hw) (ty := .int) (by decide) rfl rfl od_prog_39_method_1_6 (pc' := 9) rfl ?_
  intro T2 h2 X2 e2 W2 F2_count_w0 A2_w0
  replace F_tables := F_tables.other W2 (Or.inr (slot_ne (Or.inr (ow_20 hw)) (Or.inr (ow_16 hw)) (by decide) (t := (.array (.array .int))) (t' := .int) (by decide) (by decide)))
  replace F_weights := F_weights.other W2 (Or.inr (slot_ne (Or.inr (ow_31 hw)) (Or.inr (ow_16 hw)) (by decide) (t := (.array (.array .double))) (t' := .int) (by decide) (by decide)))
  replace F_taught := F_taught.other W2 (Or.inr (slot_ne (Or.inr (ow_34 hw)) (Or.inr (ow_16 hw)) (by decide) (t := (.array .int)) (t' := .int) (by decide) (by decide)))
  replace F_untaught := F_untaught.other W2 (Or.inr (slot_ne (Or.inl (ow_36 hw)) (Or.inr (ow_16 hw)) (by decide) (t := .double) (t' := .int) (by decide) (by decide)))
  have sz3 := Nat.le_trans (Nat.le_refl _) (Keep.of_wr W2).1
  replace V_nn := V_nn.other W2 (Ne.symm ne_w0_nn)
  replace S_nn := S_nn.wr W2
  have N2 := own_fr1 (sl := Jvm.RoadKit.slotOf Z "com/example/shopwright/shopwright/search/PairWeights" "count" "I") N0 n0_w0
  refine own_aloadN X2 hx hby od_prog_39_method_1_9 (pc' := 10) rfl rfl rfl ?_
  refine own_iloadN X2 hx hby od_prog_39_method_1_10 (pc' := 11) rfl rfl ?_
  refine own_nAI X2 hx hby hZ hown (ow_17 hw) (ow_18 hw) e2 od_prog_39_method_1_11 (pc' := 14) rfl (cap := 2112) hN (by decide) (by decide) (by decide) ?_
  intro T4 h4 b4 g4 X4 e4 E4 V_b4
  have ne_w0_b4 : w0 ≠ b4 := own_nl A2_w0.lt g4
  have ne_nn_b4 : nn ≠ b4 := own_nl V_nn.lt g4
  have n0_b4 : n0 ≤ b4 := Nat.le_trans (Nat.le_trans Z0 sz3) (Nat.le_of_eq g4.symm)
  have le0_b4 : h0.size ≤ b4 := Nat.le_trans sz3 (Nat.le_of_eq g4.symm)
  have sz5 := Nat.le_trans sz3 E4.1
  replace A2_w0 := A2_w0.ext E4
  replace F2_count_w0 := F2_count_w0.ext E4
  replace F_tables := F_tables.ext E4
  replace F_weights := F_weights.ext E4
  replace F_taught := F_taught.ext E4
  replace F_untaught := F_untaught.ext E4
  replace V_nn := V_nn.ext E4
  replace S_nn := S_nn.ext E4
  refine own_putF X4 hx hby hZ hown (host := "") (Or.inl (ow_19 hw)) Via.refl e4 F_tables A2_w0 (Or.inr ⟨(ow_20 hw), rfl, hnm⟩) (ow_7 hw) (ty := (.array (.array .int))) (by decide) rfl rfl od_prog_39_method_1_14 (pc' := 17) rfl ?_
  intro T6 h6 X6 e6 W6 F6_tables_w0 A6_w0
  replace F2_count_w0 := F2_count_w0.other W6 (Or.inr (slot_ne (Or.inr (ow_16 hw)) (Or.inr (ow_20 hw)) (by decide) (t := .int) (t' := (.array (.array .int))) (by decide) (by decide)))
  replace F_weights := F_weights.other W6 (Or.inr (slot_ne (Or.inr (ow_31 hw)) (Or.inr (ow_20 hw)) (by decide) (t := (.array (.array .double))) (t' := (.array (.array .int))) (by decide) (by decide)))
  replace F_taught := F_taught.other W6 (Or.inr (slot_ne (Or.inr (ow_34 hw)) (Or.inr (ow_20 hw)) (by decide) (t := (.array .int)) (t' := (.array (.array .int))) (by decide) (by decide)))
  replace F_untaught := F_untaught.other W6 (Or.inr (slot_ne (Or.inl (ow_36 hw)) (Or.inr (ow_20 hw)) (by decide) (t := .double) (t' := (.array (.array .int))) (by decide) (by decide)))
  have sz7 := Nat.le_trans sz5 (Keep.of_wr W6).1
  replace V_nn := V_nn.other W6 (Ne.symm ne_w0_nn)
  replace S_nn := S_nn.wr W6
  replace V_b4 := V_b4.other W6 (Ne.symm ne_w0_b4)
  have N6 := own_fr1 (sl := Jvm.RoadKit.slotOf Z "com/example/shopwright/shopwright/search/PairWeights" "tables" "[[I") N2 n0_w0
  refine own_aloadN X6 hx hby od_prog_39_method_1_17 (pc' := 18) rfl rfl rfl ?_
  refine own_getF X6 hx hby hZ hown (host := "") (Or.inl (ow_19 hw)) Via.refl e6 F6_tables_w0 od_prog_39_method_1_18 (pc' := 21) rfl ?_
  intro T8 X8 e8
  refine own_getS X8 hx hby hZ hown (host := "") (Or.inl (ow_21 hw)) Via.refl e8 S_nn od_prog_39_method_1_21 (pc' := 24) rfl ?_
  intro T9 X9 e9
  refine own_callM X9 hx hby hml hZ hown (ow_23 hw) (ow_24 hw) (ow_25 hw) (ow_26 hw) (by decide) (cc := 0) (ss := 0) (rm_fillO l Z a0 hw b4 nn N _ h6 n0 (Nat.le_trans Z0 sz7) n0_b4 V_b4 V_nn.exa) 0 rfl rfl (by decide) (by decide) rfl (argsL := [(.ref b4), (.ref nn)]) (rest := []) opd_6 rfl rfl (Nat.le_refl _) od_prog_39_method_1_24 (pc' := 27) rfl rfl e9 (by decide) (by decide) ?_
  rintro v10 T10 h10 L10 X10 e10 ⟨rfl, Nq10, Kq10, V_tb⟩
  have N10 := N6.app Nq10
  have sz11 := Nat.le_trans sz7 Kq10.1
  replace A6_w0 := A6_w0.keep Kq10
  replace F2_count_w0 := F2_count_w0.keep Kq10 (own_niS ne_w0_b4 own_ni0)
  replace F6_tables_w0 := F6_tables_w0.keep Kq10 (own_niS ne_w0_b4 own_ni0)
  replace F_weights := F_weights.keep Kq10 (own_niS ne_w0_b4 own_ni0)
  replace F_taught := F_taught.keep Kq10 (own_niS ne_w0_b4 own_ni0)
  replace F_untaught := F_untaught.keep Kq10 (own_niS ne_w0_b4 own_ni0)
  replace V_nn := V_nn.keep Kq10 (own_niS ne_nn_b4 own_ni0)
  refine own_aloadN X10 hx hby od_prog_39_method_1_27 (pc' := 28) rfl rfl rfl ?_
  refine own_iloadN X10 hx hby od_prog_39_method_1_28 (pc' := 29) rfl rfl ?_
  refine own_nAD X10 hx hby hZ hown (ow_28 hw) (ow_29 hw) e10 od_prog_39_method_1_29 (pc' := 32) rfl (cap := 2112) hN (by decide) (by decide) (by decide) ?_
  intro T12 h12 b12 g12 X12 e12 E12 V_b12
  have ne_w0_b12 : w0 ≠ b12 := own_nl A6_w0.lt g12
  have ne_nn_b12 : nn ≠ b12 := own_nl V_nn.lt g12
  have ne_b4_b12 : b4 ≠ b12 := own_nl V_tb.lt g12
  have n0_b12 : n0 ≤ b12 := Nat.le_trans (Nat.le_trans Z0 sz11) (Nat.le_of_eq g12.symm)
  have le0_b12 : h0.size ≤ b12 := Nat.le_trans sz11 (Nat.le_of_eq g12.symm)
  have sz13 := Nat.le_trans sz11 E12.1
  replace A6_w0 := A6_w0.ext E12
  replace F2_count_w0 := F2_count_w0.ext E12
  replace F6_tables_w0 := F6_tables_w0.ext E12
  replace F_weights := F_weights.ext E12
  replace F_taught := F_taught.ext E12
  replace F_untaught := F_untaught.ext E12
  replace V_nn := V_nn.ext E12
  replace V_tb := V_tb.ext E12
  refine own_putF X12 hx hby hZ hown (host := "") (Or.inl (ow_30 hw)) Via.refl e12 F_weights A6_w0 (Or.inr ⟨(ow_31 hw), rfl, hnm⟩) (ow_7 hw) (ty := (.array (.array .double))) (by decide) rfl rfl od_prog_39_method_1_32 (pc' := 35) rfl ?_
  intro T14 h14 X14 e14 W14 F14_weights_w0 A14_w0
  replace F2_count_w0 := F2_count_w0.other W14 (Or.inr (slot_ne (Or.inr (ow_16 hw)) (Or.inr (ow_31 hw)) (by decide) (t := .int) (t' := (.array (.array .double))) (by decide) (by decide)))
  replace F6_tables_w0 := F6_tables_w0.other W14 (Or.inr (slot_ne (Or.inr (ow_20 hw)) (Or.inr (ow_31 hw)) (by decide) (t := (.array (.array .int))) (t' := (.array (.array .double))) (by decide) (by decide)))
  replace F_taught := F_taught.other W14 (Or.inr (slot_ne (Or.inr (ow_34 hw)) (Or.inr (ow_31 hw)) (by decide) (t := (.array .int)) (t' := (.array (.array .double))) (by decide) (by decide)))
  replace F_untaught := F_untaught.other W14 (Or.inr (slot_ne (Or.inl (ow_36 hw)) (Or.inr (ow_31 hw)) (by decide) (t := .double) (t' := (.array (.array .double))) (by decide) (by decide)))
  have sz15 := Nat.le_trans sz13 (Keep.of_wr W14).1
  replace V_nn := V_nn.other W14 (Ne.symm ne_w0_nn)
  replace V_tb := V_tb.other W14 (Ne.symm ne_w0_b4)
  replace V_b12 := V_b12.other W14 (Ne.symm ne_w0_b12)
  have N14 := own_fr1 (sl := Jvm.RoadKit.slotOf Z "com/example/shopwright/shopwright/search/PairWeights" "weights" "[[D") N10 n0_w0
  refine own_aloadN X14 hx hby od_prog_39_method_1_35 (pc' := 36) rfl rfl rfl ?_
  refine own_iloadN X14 hx hby od_prog_39_method_1_36 (pc' := 37) rfl rfl ?_
  refine own_nI (N := N) X14 hx hby hZ (ow_32 hw) e14 od_prog_39_method_1_37 (pc' := 39) rfl (cap := 2112) hN (by decide) (by decide) (by decide) ?_
  intro T16 h16 b16 g16 X16 e16 E16 V_b16
  have ne_w0_b16 : w0 ≠ b16 := own_nl A14_w0.lt g16
  have ne_nn_b16 : nn ≠ b16 := own_nl V_nn.lt g16
  have ne_b4_b16 : b4 ≠ b16 := own_nl V_tb.lt g16
  have ne_b12_b16 : b12 ≠ b16 := own_nl V_b12.lt g16
  have n0_b16 : n0 ≤ b16 := Nat.le_trans (Nat.le_trans Z0 sz15) (Nat.le_of_eq g16.symm)
  have le0_b16 : h0.size ≤ b16 := Nat.le_trans sz15 (Nat.le_of_eq g16.symm)
  have sz17 := Nat.le_trans sz15 E16.1
  replace A14_w0 := A14_w0.ext E16
  replace F2_count_w0 := F2_count_w0.ext E16
  replace F6_tables_w0 := F6_tables_w0.ext E16
  replace F14_weights_w0 := F14_weights_w0.ext E16
  replace F_taught := F_taught.ext E16
  replace F_untaught := F_untaught.ext E16
  replace V_nn := V_nn.ext E16
  replace V_tb := V_tb.ext E16
  replace V_b12 := V_b12.ext E16
  refine own_putF X16 hx hby hZ hown (host := "") (Or.inl (ow_33 hw)) Via.refl e16 F_taught A14_w0 (Or.inr ⟨(ow_34 hw), rfl, hnm⟩) (ow_7 hw) (ty := (.array .int)) (by decide) rfl rfl od_prog_39_method_1_39 (pc' := 42) rfl ?_
  intro T18 h18 X18 e18 W18 F18_taught_w0 A18_w0
  replace F2_count_w0 := F2_count_w0.other W18 (Or.inr (slot_ne (Or.inr (ow_16 hw)) (Or.inr (ow_34 hw)) (by decide) (t := .int) (t' := (.array .int)) (by decide) (by decide)))
  replace F6_tables_w0 := F6_tables_w0.other W18 (Or.inr (slot_ne (Or.inr (ow_20 hw)) (Or.inr (ow_34 hw)) (by decide) (t := (.array (.array .int))) (t' := (.array .int)) (by decide) (by decide)))
  replace F14_weights_w0 := F14_weights_w0.other W18 (Or.inr (slot_ne (Or.inr (ow_31 hw)) (Or.inr (ow_34 hw)) (by decide) (t := (.array (.array .double))) (t' := (.array .int)) (by decide) (by decide)))
  replace F_untaught := F_untaught.other W18 (Or.inr (slot_ne (Or.inl (ow_36 hw)) (Or.inr (ow_34 hw)) (by decide) (t := .double) (t' := (.array .int)) (by decide) (by decide)))
  have sz19 := Nat.le_trans sz17 (Keep.of_wr W18).1
  replace V_nn := V_nn.other W18 (Ne.symm ne_w0_nn)
  replace V_tb := V_tb.other W18 (Ne.symm ne_w0_b4)
  replace V_b12 := V_b12.other W18 (Ne.symm ne_w0_b12)
  replace V_b16 := V_b16.other W18 (Ne.symm ne_w0_b16)
  have N18 := own_fr1 (sl := Jvm.RoadKit.slotOf Z "com/example/shopwright/shopwright/search/PairWeights" "taught" "[I") N14 n0_w0
  refine own_aloadN X18 hx hby od_prog_39_method_1_42 (pc' := 43) rfl rfl rfl ?_
  refine own_dconst1 X18 hx hby od_prog_39_method_1_43 (pc' := 44) rfl (v := (4607182418800017408 : UInt64)) rfl ?_
  refine own_iloadN X18 hx hby od_prog_39_method_1_44 (pc' := 45) rfl rfl ?_
  refine own_i2d X18 hx hby od_prog_39_method_1_45 (pc' := 46) rfl (i2d_w _) ?_
  refine own_ddiv X18 hx hby od_prog_39_method_1_46 (pc' := 47) rfl hun (v := u) hu ?_
  refine own_putF X18 hx hby hZ hown (host := "") (Or.inl (ow_35 hw)) Via.refl e18 F_untaught A18_w0 (Or.inl (ow_36 hw)) (ow_7 hw) (ty := .double) (by decide) rfl rfl od_prog_39_method_1_47 (pc' := 50) rfl ?_
  intro T20 h20 X20 e20 W20 F20_untaught_w0 A20_w0
  replace F2_count_w0 := F2_count_w0.other W20 (Or.inr (slot_ne (Or.inr (ow_16 hw)) (Or.inl (ow_36 hw)) (by decide) (t := .int) (t' := .double) (by decide) (by decide)))
  replace F6_tables_w0 := F6_tables_w0.other W20 (Or.inr (slot_ne (Or.inr (ow_20 hw)) (Or.inl (ow_36 hw)) (by decide) (t := (.array (.array .int))) (t' := .double) (by decide) (by decide)))
  replace F14_weights_w0 := F14_weights_w0.other W20 (Or.inr (slot_ne (Or.inr (ow_31 hw)) (Or.inl (ow_36 hw)) (by decide) (t := (.array (.array .double))) (t' := .double) (by decide) (by decide)))
  replace F18_taught_w0 := F18_taught_w0.other W20 (Or.inr (slot_ne (Or.inr (ow_34 hw)) (Or.inl (ow_36 hw)) (by decide) (t := (.array .int)) (t' := .double) (by decide) (by decide)))
  have sz21 := Nat.le_trans sz19 (Keep.of_wr W20).1
  replace V_nn := V_nn.other W20 (Ne.symm ne_w0_nn)
  replace V_tb := V_tb.other W20 (Ne.symm ne_w0_b4)
  replace V_b12 := V_b12.other W20 (Ne.symm ne_w0_b12)
  replace V_b16 := V_b16.other W20 (Ne.symm ne_w0_b16)
  have N20 := own_fr1 (sl := Jvm.RoadKit.slotOf Z "com/example/shopwright/shopwright/search/PairWeights" "untaught" "D") N18 n0_w0
  exact own_ret0 X20 hx hby hlk hrt od_prog_39_method_1_50 (by first | exact ⟨rfl, N20, sz21, b4, b12, b16, n0_b4, n0_b12, n0_b16, A20_w0, F2_count_w0, F6_tables_w0, F14_weights_w0, F18_taught_w0, F20_untaught_w0, ⟨V_tb, V_b12, V_b16, (fun i hi t ht => by cases ht; exact ⟨V_nn, ne_nn_b16⟩), (fun i hi r hr => by cases hr), (fun i hi k hk r h1 h2 => by cases h1), (fun i hi k hk t h1 h2 => by cases h1; exact Or.inr rfl)⟩⟩ | (rw [e20]; exact ⟨rfl, N20, sz21, b4, b12, b16, n0_b4, n0_b12, n0_b16, A20_w0, F2_count_w0, F6_tables_w0, F14_weights_w0, F18_taught_w0, F20_untaught_w0, ⟨V_tb, V_b12, V_b16, (fun i hi t ht => by cases ht; exact ⟨V_nn, ne_nn_b16⟩), (fun i hi r hr => by cases hr), (fun i hi k hk r h1 h2 => by cases h1), (fun i hi k hk t h1 h2 => by cases h1; exact Or.inr rfl)⟩⟩)) (by decide) (by decide)
theorem ef_rm_item (m : MethodId) (x0 : Int32) (x1 : Int32) : entryFrame m #[(.int x0), (.int x1)] 2 = mkF m 0 #[.val (.int x0), .val (.int x1)] [] := by first | (simp [entryFrame, mkF, argsToLocals, Value.category]; done) | rfl
set_option maxRecDepth 65536 in
set_option maxHeartbeats 40000000 in
theorem rm_item (l : Launch) (Z : State) (a0 : Array Value) (hw : ∀ d ∈ tables_1, d.before a0 Z = true) (x1 : Int32) (N : Nat) (h0 : Heap) (n0 : Nat) (Z0 : n0 ≤ h0.size) (hnz : Int32.ofNat N ≠ 0) :
    own_Met l Z (⟨"com/example/shopwright/shopwright/search/PairWeightsWeightPinLaw", "item", "(II)I"⟩ : MethodName) method_2_code 2 (some .int) ({ frames := 0, cells := 0, slots := 0, locals := 0 } : Room) #[(.int x1), (.int (Int32.ofNat N))] h0 (fun v h L => v = some (.int ((x1 &&& (65535 : Int32)) % Int32.ofNat N)) ∧ Fr n0 L ∧ h0 = h) := by
  refine own_body (plainFor_of_name (by first | (simp [plainName, overriddenIn]; done) | decide +kernel)) ?_
  intro p e s m below meth c s₁ hx hby hml hown hnm hlk hrt hZ X0 e0
  refine own_enter (ef_rm_item m x1 (Int32.ofNat N)) ?_
  have N0 := Fr.nil n0
  refine own_iloadN X0 hx hby od_method_2_0 (pc' := 1) rfl rfl ?_
  refine own_ldcI X0 hx hby hZ hown (ow_4 hw) od_method_2_1 (pc' := 3) rfl ?_
  refine own_iand X0 hx hby od_method_2_3 (pc' := 4) rfl ?_
  refine own_iloadN X0 hx hby od_method_2_4 (pc' := 5) rfl rfl ?_
  refine own_irem X0 hx hby od_method_2_5 (pc' := 6) rfl hnz ?_
  exact own_retI X0 hx hby hlk hrt od_method_2_6 (by first | exact ⟨rfl, N0, rfl⟩ | (rw [e0]; exact ⟨rfl, N0, rfl⟩)) (by decide) (by decide)
theorem ef_rm_law (m : MethodId) (x0 : Int32) (x1 : Int32) (x2 : Int32) (x3 : Int32) (x4 : Int32) (x5 : Int32) : entryFrame m #[(.int x0), (.int x1), (.int x2), (.int x3), (.int x4), (.int x5)] maxLocals = mkF m 0 #[.val (.int x0), .val (.int x1), .val (.int x2), .val (.int x3), .val (.int x4), .val (.int x5), .unset, .unset, .unset, .unset, .unset, .unset, .unset, .unset, .unset, .unset, .unset, .unset, .unset, .unset, .unset, .unset, .unset, .unset, .unset, .unset, .unset, .unset, .unset, .unset, .unset] [] := by first | (simp [entryFrame, mkF, argsToLocals, Value.category, maxLocals]; done) | rfl
set_option maxRecDepth 65536 in
set_option maxHeartbeats 40000000 in
theorem rm_law (l : Launch) (Z : State) (a0 : Array Value) (hw : ∀ d ∈ tables_1, d.before a0 Z = true) (p1 p2 p3 p4 p5 p6 : Int32) (nn : Addr) (h0 : Heap) (n0 : Nat) (Z0 : n0 ≤ h0.size) (V_nn : own_Fa Z h0 nn .int "[I" (fun _ => True) 1 (fun _ => .int (-1 : Int32))) (S_nn : Sta Z h0 "com/example/shopwright/shopwright/search/PairWeights" "NONE" "[I" (.ref nn)) :
    own_Met l Z x code maxLocals ret room_1 #[(.int p1), (.int p2), (.int p3), (.int p4), (.int p5), (.int p6)] h0 (fun v h L => v = some (.int 1) ∧ Fr n0 L) := by
  refine own_body (plainFor_of_name (by first | (simp [plainName, overriddenIn]; done) | decide +kernel)) ?_
  intro p e s m below meth c s₁ hx hby hml hown hnm hlk hrt hZ X0 e0
  have hml : c.maxLocals = 31 := hml
  refine own_enter (ef_rm_law m p1 p2 p3 p4 p5 p6) ?_
  have N0 := Fr.nil n0
  have hnn0 := V_nn.lt
  refine own_iloadN X0 hx hby at_0 (pc' := 1) rfl rfl ?_
  refine own_iconst X0 hx hby at_1 (pc' := 2) rfl (z := 1) rfl ?_
  refine own_iand X0 hx hby at_2 (pc' := 3) rfl ?_
  refine own_join (α := Int32) (F := fun nv => s₁.setTop (mkF m 27 #[.val (.int p1), .val (.int p2), .val (.int p3), .val (.int p4), .val (.int p5), .val (.int p6), .unset, .unset, .unset, .unset, .unset, .unset, .unset, .unset, .unset, .unset, .unset, .unset, .unset, .unset, .unset, .unset, .unset, .unset, .unset, .unset, .unset, .unset, .unset, .unset, .unset] [(.int nv)])) (P := fun nv => ∃ N : Nat, 1 ≤ N ∧ N ≤ 2112 ∧ nv = Int32.ofNat N) ?_ ?_
  · intro nv h_nv
    show own_E p.tables e below _ (s₁.setTop (mkF m 27 #[.val (.int p1), .val (.int p2), .val (.int p3), .val (.int p4), .val (.int p5), .val (.int p6), .unset, .unset, .unset, .unset, .unset, .unset, .unset, .unset, .unset, .unset, .unset, .unset, .unset, .unset, .unset, .unset, .unset, .unset, .unset, .unset, .unset, .unset, .unset, .unset, .unset] [(.int nv)]))
    obtain ⟨N, hN1, hN2, eN⟩ := h_nv
    subst eN
    have hnz := own_nz hN1 hN2
    refine own_istore X0 hx hby at_27 (pc' := 29) rfl (Ls' := #[.val (.int p1), .val (.int p2), .val (.int p3), .val (.int p4), .val (.int p5), .val (.int p6), .val (.int (Int32.ofNat N)), .unset, .unset, .unset, .unset, .unset, .unset, .unset, .unset, .unset, .unset, .unset, .unset, .unset, .unset, .unset, .unset, .unset, .unset, .unset, .unset, .unset, .unset, .unset, .unset]) rfl ?_
    refine own_iloadN X0 hx hby at_29 (pc' := 30) rfl rfl ?_
    refine own_iload X0 hx hby at_30 (pc' := 32) rfl rfl ?_
    refine own_callM X0 hx hby hml hZ hown (ow_0 hw) (ow_1 hw) (ow_2 hw) (ow_3 hw) (by decide) (cc := 0) (ss := 0) (rm_item l Z a0 hw p2 N h0 n0 Z0 hnz) 0 rfl rfl (by decide) (by decide) rfl (argsL := [(.int p2), (.int (Int32.ofNat N))]) (rest := []) opd_2 rfl rfl (Nat.le_refl _) at_32 (pc' := 35) rfl rfl e0 (by decide) (by decide) ?_
    rintro v2 T2 h2 L2 X2 e2 ⟨rfl, Nq2, rfl⟩
    have N2 := N0.app Nq2
    generalize hq_vA1 : ((p2 &&& (65535 : Int32)) % Int32.ofNat N) = vA1
    obtain ⟨A1, hA1, eA1⟩ := own_item hN1 hN2 (by decide) hq_vA1
    subst eA1
    refine own_istore X2 hx hby at_35 (pc' := 37) rfl (Ls' := #[.val (.int p1), .val (.int p2), .val (.int p3), .val (.int p4), .val (.int p5), .val (.int p6), .val (.int (Int32.ofNat N)), .val (.int (Int32.ofNat A1)), .unset, .unset, .unset, .unset, .unset, .unset, .unset, .unset, .unset, .unset, .unset, .unset, .unset, .unset, .unset, .unset, .unset, .unset, .unset, .unset, .unset, .unset, .unset]) rfl ?_
    refine own_iloadN X2 hx hby at_37 (pc' := 38) rfl rfl ?_
    refine own_bipush X2 hx hby at_38 (pc' := 40) rfl (z := 16) rfl ?_
    refine own_iushr X2 hx hby at_40 (pc' := 41) rfl ?_
    refine own_iload X2 hx hby at_41 (pc' := 43) rfl rfl ?_
    refine own_callM X2 hx hby hml hZ hown (ow_0 hw) (ow_1 hw) (ow_2 hw) (ow_3 hw) (by decide) (cc := 0) (ss := 0) (rm_item l Z a0 hw ((p2.toUInt32 >>> ((16 : Int32) &&& 31).toUInt32).toInt32) N h0 n0 Z0 hnz) 0 rfl rfl (by decide) (by decide) rfl (argsL := [(.int ((p2.toUInt32 >>> ((16 : Int32) &&& 31).toUInt32).toInt32)), (.int (Int32.ofNat N))]) (rest := []) opd_2 rfl rfl (Nat.le_refl _) at_43 (pc' := 46) rfl rfl e2 (by decide) (by decide) ?_
    rintro v3 T3 h3 L3 X3 e3 ⟨rfl, Nq3, rfl⟩
    have N3 := N2.app Nq3
    generalize hq_vB1 : ((((p2.toUInt32 >>> ((16 : Int32) &&& 31).toUInt32).toInt32) &&& (65535 : Int32)) % Int32.ofNat N) = vB1
    obtain ⟨B1, hB1, eB1⟩ := own_item hN1 hN2 (by decide) hq_vB1
    subst eB1
    refine own_istore X3 hx hby at_46 (pc' := 48) rfl (Ls' := #[.val (.int p1), .val (.int p2), .val (.int p3), .val (.int p4), .val (.int p5), .val (.int p6), .val (.int (Int32.ofNat N)), .val (.int (Int32.ofNat A1)), .val (.int (Int32.ofNat B1)), .unset, .unset, .unset, .unset, .unset, .unset, .unset, .unset, .unset, .unset, .unset, .unset, .unset, .unset, .unset, .unset, .unset, .unset, .unset, .unset, .unset, .unset]) rfl ?_
    refine own_iloadN X3 hx hby at_48 (pc' := 49) rfl rfl ?_
    refine own_iload X3 hx hby at_49 (pc' := 51) rfl rfl ?_
    refine own_callM X3 hx hby hml hZ hown (ow_0 hw) (ow_1 hw) (ow_2 hw) (ow_3 hw) (by decide) (cc := 0) (ss := 0) (rm_item l Z a0 hw p3 N h0 n0 Z0 hnz) 0 rfl rfl (by decide) (by decide) rfl (argsL := [(.int p3), (.int (Int32.ofNat N))]) (rest := []) opd_2 rfl rfl (Nat.le_refl _) at_51 (pc' := 54) rfl rfl e3 (by decide) (by decide) ?_
    rintro v4 T4 h4 L4 X4 e4 ⟨rfl, Nq4, rfl⟩
    have N4 := N3.app Nq4
    generalize hq_vA2 : ((p3 &&& (65535 : Int32)) % Int32.ofNat N) = vA2
    obtain ⟨A2, hA2, eA2⟩ := own_item hN1 hN2 (by decide) hq_vA2
    subst eA2
    refine own_istore X4 hx hby at_54 (pc' := 56) rfl (Ls' := #[.val (.int p1), .val (.int p2), .val (.int p3), .val (.int p4), .val (.int p5), .val (.int p6), .val (.int (Int32.ofNat N)), .val (.int (Int32.ofNat A1)), .val (.int (Int32.ofNat B1)), .val (.int (Int32.ofNat A2)), .unset, .unset, .unset, .unset, .unset, .unset, .unset, .unset, .unset, .unset, .unset, .unset, .unset, .unset, .unset, .unset, .unset, .unset, .unset, .unset, .unset]) rfl ?_
    refine own_iloadN X4 hx hby at_56 (pc' := 57) rfl rfl ?_
    refine own_bipush X4 hx hby at_57 (pc' := 59) rfl (z := 16) rfl ?_
    refine own_iushr X4 hx hby at_59 (pc' := 60) rfl ?_
    refine own_iload X4 hx hby at_60 (pc' := 62) rfl rfl ?_
    refine own_callM X4 hx hby hml hZ hown (ow_0 hw) (ow_1 hw) (ow_2 hw) (ow_3 hw) (by decide) (cc := 0) (ss := 0) (rm_item l Z a0 hw ((p3.toUInt32 >>> ((16 : Int32) &&& 31).toUInt32).toInt32) N h0 n0 Z0 hnz) 0 rfl rfl (by decide) (by decide) rfl (argsL := [(.int ((p3.toUInt32 >>> ((16 : Int32) &&& 31).toUInt32).toInt32)), (.int (Int32.ofNat N))]) (rest := []) opd_2 rfl rfl (Nat.le_refl _) at_62 (pc' := 65) rfl rfl e4 (by decide) (by decide) ?_
    rintro v5 T5 h5 L5 X5 e5 ⟨rfl, Nq5, rfl⟩
    have N5 := N4.app Nq5
    generalize hq_vB2 : ((((p3.toUInt32 >>> ((16 : Int32) &&& 31).toUInt32).toInt32) &&& (65535 : Int32)) % Int32.ofNat N) = vB2
    obtain ⟨B2, hB2, eB2⟩ := own_item hN1 hN2 (by decide) hq_vB2
    subst eB2
    refine own_istore X5 hx hby at_65 (pc' := 67) rfl (Ls' := #[.val (.int p1), .val (.int p2), .val (.int p3), .val (.int p4), .val (.int p5), .val (.int p6), .val (.int (Int32.ofNat N)), .val (.int (Int32.ofNat A1)), .val (.int (Int32.ofNat B1)), .val (.int (Int32.ofNat A2)), .val (.int (Int32.ofNat B2)), .unset, .unset, .unset, .unset, .unset, .unset, .unset, .unset, .unset, .unset, .unset, .unset, .unset, .unset, .unset, .unset, .unset, .unset, .unset, .unset]) rfl ?_
    refine own_iloadN X5 hx hby at_67 (pc' := 68) rfl rfl ?_
    refine own_iload X5 hx hby at_68 (pc' := 70) rfl rfl ?_
    refine own_callM X5 hx hby hml hZ hown (ow_0 hw) (ow_1 hw) (ow_2 hw) (ow_3 hw) (by decide) (cc := 0) (ss := 0) (rm_item l Z a0 hw p4 N h0 n0 Z0 hnz) 0 rfl rfl (by decide) (by decide) rfl (argsL := [(.int p4), (.int (Int32.ofNat N))]) (rest := []) opd_2 rfl rfl (Nat.le_refl _) at_70 (pc' := 73) rfl rfl e5 (by decide) (by decide) ?_
    rintro v6 T6 h6 L6 X6 e6 ⟨rfl, Nq6, rfl⟩
    have N6 := N5.app Nq6
    generalize hq_vA3 : ((p4 &&& (65535 : Int32)) % Int32.ofNat N) = vA3
    obtain ⟨A3, hA3, eA3⟩ := own_item hN1 hN2 (by decide) hq_vA3
    subst eA3
    refine own_istore X6 hx hby at_73 (pc' := 75) rfl (Ls' := #[.val (.int p1), .val (.int p2), .val (.int p3), .val (.int p4), .val (.int p5), .val (.int p6), .val (.int (Int32.ofNat N)), .val (.int (Int32.ofNat A1)), .val (.int (Int32.ofNat B1)), .val (.int (Int32.ofNat A2)), .val (.int (Int32.ofNat B2)), .val (.int (Int32.ofNat A3)), .unset, .unset, .unset, .unset, .unset, .unset, .unset, .unset, .unset, .unset, .unset, .unset, .unset, .unset, .unset, .unset, .unset, .unset, .unset]) rfl ?_
    refine own_iloadN X6 hx hby at_75 (pc' := 76) rfl rfl ?_
    refine own_bipush X6 hx hby at_76 (pc' := 78) rfl (z := 16) rfl ?_
    refine own_iushr X6 hx hby at_78 (pc' := 79) rfl ?_
    refine own_iload X6 hx hby at_79 (pc' := 81) rfl rfl ?_
    refine own_callM X6 hx hby hml hZ hown (ow_0 hw) (ow_1 hw) (ow_2 hw) (ow_3 hw) (by decide) (cc := 0) (ss := 0) (rm_item l Z a0 hw ((p4.toUInt32 >>> ((16 : Int32) &&& 31).toUInt32).toInt32) N h0 n0 Z0 hnz) 0 rfl rfl (by decide) (by decide) rfl (argsL := [(.int ((p4.toUInt32 >>> ((16 : Int32) &&& 31).toUInt32).toInt32)), (.int (Int32.ofNat N))]) (rest := []) opd_2 rfl rfl (Nat.le_refl _) at_81 (pc' := 84) rfl rfl e6 (by decide) (by decide) ?_
    rintro v7 T7 h7 L7 X7 e7 ⟨rfl, Nq7, rfl⟩
    have N7 := N6.app Nq7
    generalize hq_vB3 : ((((p4.toUInt32 >>> ((16 : Int32) &&& 31).toUInt32).toInt32) &&& (65535 : Int32)) % Int32.ofNat N) = vB3
    obtain ⟨B3, hB3, eB3⟩ := own_item hN1 hN2 (by decide) hq_vB3
    subst eB3
    refine own_istore X7 hx hby at_84 (pc' := 86) rfl (Ls' := #[.val (.int p1), .val (.int p2), .val (.int p3), .val (.int p4), .val (.int p5), .val (.int p6), .val (.int (Int32.ofNat N)), .val (.int (Int32.ofNat A1)), .val (.int (Int32.ofNat B1)), .val (.int (Int32.ofNat A2)), .val (.int (Int32.ofNat B2)), .val (.int (Int32.ofNat A3)), .val (.int (Int32.ofNat B3)), .unset, .unset, .unset, .unset, .unset, .unset, .unset, .unset, .unset, .unset, .unset, .unset, .unset, .unset, .unset, .unset, .unset, .unset]) rfl ?_
    refine own_iload X7 hx hby at_86 (pc' := 88) rfl rfl ?_
    refine own_iconst X7 hx hby at_88 (pc' := 89) rfl (z := 3) rfl ?_
    refine own_iand X7 hx hby at_89 (pc' := 90) rfl ?_
    refine own_istore X7 hx hby at_90 (pc' := 92) rfl (Ls' := #[.val (.int p1), .val (.int p2), .val (.int p3), .val (.int p4), .val (.int p5), .val (.int p6), .val (.int (Int32.ofNat N)), .val (.int (Int32.ofNat A1)), .val (.int (Int32.ofNat B1)), .val (.int (Int32.ofNat A2)), .val (.int (Int32.ofNat B2)), .val (.int (Int32.ofNat A3)), .val (.int (Int32.ofNat B3)), .val (.int (p5 &&& (3 : Int32))), .unset, .unset, .unset, .unset, .unset, .unset, .unset, .unset, .unset, .unset, .unset, .unset, .unset, .unset, .unset, .unset, .unset]) rfl ?_
    refine own_iload X7 hx hby at_92 (pc' := 94) rfl rfl ?_
    refine own_iconst X7 hx hby at_94 (pc' := 95) rfl (z := 2) rfl ?_
    refine own_iushr X7 hx hby at_95 (pc' := 96) rfl ?_
    refine own_sipush X7 hx hby at_96 (pc' := 99) rfl (z := 32767) rfl ?_
    refine own_iand X7 hx hby at_99 (pc' := 100) rfl ?_
    refine own_iload X7 hx hby at_100 (pc' := 102) rfl rfl ?_
    refine own_irem X7 hx hby at_102 (pc' := 103) rfl hnz ?_
    generalize hq_vQA : ((((p5.toUInt32 >>> ((2 : Int32) &&& 31).toUInt32).toInt32) &&& (32767 : Int32)) % (Int32.ofNat N)) = vQA
    obtain ⟨QA0, hQA0, eQA⟩ := own_item hN1 hN2 (by decide) hq_vQA
    subst eQA
    refine own_istore X7 hx hby at_103 (pc' := 105) rfl (Ls' := #[.val (.int p1), .val (.int p2), .val (.int p3), .val (.int p4), .val (.int p5), .val (.int p6), .val (.int (Int32.ofNat N)), .val (.int (Int32.ofNat A1)), .val (.int (Int32.ofNat B1)), .val (.int (Int32.ofNat A2)), .val (.int (Int32.ofNat B2)), .val (.int (Int32.ofNat A3)), .val (.int (Int32.ofNat B3)), .val (.int (p5 &&& (3 : Int32))), .val (.int (Int32.ofNat QA0)), .unset, .unset, .unset, .unset, .unset, .unset, .unset, .unset, .unset, .unset, .unset, .unset, .unset, .unset, .unset, .unset]) rfl ?_
    refine own_iload X7 hx hby at_105 (pc' := 107) rfl rfl ?_
    refine own_bipush X7 hx hby at_107 (pc' := 109) rfl (z := 17) rfl ?_
    refine own_iushr X7 hx hby at_109 (pc' := 110) rfl ?_
    refine own_sipush X7 hx hby at_110 (pc' := 113) rfl (z := 32767) rfl ?_
    refine own_iand X7 hx hby at_113 (pc' := 114) rfl ?_
    refine own_iload X7 hx hby at_114 (pc' := 116) rfl rfl ?_
    refine own_irem X7 hx hby at_116 (pc' := 117) rfl hnz ?_
    generalize hq_vQB : ((((p5.toUInt32 >>> ((17 : Int32) &&& 31).toUInt32).toInt32) &&& (32767 : Int32)) % (Int32.ofNat N)) = vQB
    obtain ⟨QB0, hQB0, eQB⟩ := own_item hN1 hN2 (by decide) hq_vQB
    subst eQB
    refine own_istore X7 hx hby at_117 (pc' := 119) rfl (Ls' := #[.val (.int p1), .val (.int p2), .val (.int p3), .val (.int p4), .val (.int p5), .val (.int p6), .val (.int (Int32.ofNat N)), .val (.int (Int32.ofNat A1)), .val (.int (Int32.ofNat B1)), .val (.int (Int32.ofNat A2)), .val (.int (Int32.ofNat B2)), .val (.int (Int32.ofNat A3)), .val (.int (Int32.ofNat B3)), .val (.int (p5 &&& (3 : Int32))), .val (.int (Int32.ofNat QA0)), .val (.int (Int32.ofNat QB0)), .unset, .unset, .unset, .unset, .unset, .unset, .unset, .unset, .unset, .unset, .unset, .unset, .unset, .unset, .unset]) rfl ?_
    refine own_join (α := Nat × Nat) (F := fun z => T7.setTop (mkF m 166 #[.val (.int p1), .val (.int p2), .val (.int p3), .val (.int p4), .val (.int p5), .val (.int p6), .val (.int (Int32.ofNat N)), .val (.int (Int32.ofNat A1)), .val (.int (Int32.ofNat B1)), .val (.int (Int32.ofNat A2)), .val (.int (Int32.ofNat B2)), .val (.int (Int32.ofNat A3)), .val (.int (Int32.ofNat B3)), .val (.int (p5 &&& (3 : Int32))), .val (.int (Int32.ofNat z.1)), .val (.int (Int32.ofNat z.2)), .unset, .unset, .unset, .unset, .unset, .unset, .unset, .unset, .unset, .unset, .unset, .unset, .unset, .unset, .unset] [])) (P := fun z => z.1 < N ∧ z.2 < N) ?_ ?_
    · rintro ⟨QA, QB⟩ hQ
      show own_E p.tables e below _ (T7.setTop (mkF m 166 #[.val (.int p1), .val (.int p2), .val (.int p3), .val (.int p4), .val (.int p5), .val (.int p6), .val (.int (Int32.ofNat N)), .val (.int (Int32.ofNat A1)), .val (.int (Int32.ofNat B1)), .val (.int (Int32.ofNat A2)), .val (.int (Int32.ofNat B2)), .val (.int (Int32.ofNat A3)), .val (.int (Int32.ofNat B3)), .val (.int (p5 &&& (3 : Int32))), .val (.int (Int32.ofNat QA)), .val (.int (Int32.ofNat QB)), .unset, .unset, .unset, .unset, .unset, .unset, .unset, .unset, .unset, .unset, .unset, .unset, .unset, .unset, .unset] []))
      obtain ⟨hQA, hQB⟩ : QA < N ∧ QB < N := hQ
      refine own_iload X7 hx hby at_166 (pc' := 168) rfl rfl ?_
      refine own_i2b X7 hx hby at_168 (pc' := 169) rfl ?_
      refine own_i2d X7 hx hby at_169 (pc' := 170) rfl (i2d_w _) ?_
      have m_s1 := Jvm.Free.Fl.l2d_mag (p6.toInt8.toInt32).toInt64
      generalize (FP.l2d (p6.toInt8.toInt32).toInt64) = s1 at m_s1 ⊢
      refine own_dstore X7 hx hby at_170 (pc' := 172) rfl (Ls' := #[.val (.int p1), .val (.int p2), .val (.int p3), .val (.int p4), .val (.int p5), .val (.int p6), .val (.int (Int32.ofNat N)), .val (.int (Int32.ofNat A1)), .val (.int (Int32.ofNat B1)), .val (.int (Int32.ofNat A2)), .val (.int (Int32.ofNat B2)), .val (.int (Int32.ofNat A3)), .val (.int (Int32.ofNat B3)), .val (.int (p5 &&& (3 : Int32))), .val (.int (Int32.ofNat QA)), .val (.int (Int32.ofNat QB)), .val (.double s1), .second, .unset, .unset, .unset, .unset, .unset, .unset, .unset, .unset, .unset, .unset, .unset, .unset, .unset]) rfl ?_
      refine own_iload X7 hx hby at_172 (pc' := 174) rfl rfl ?_
      refine own_bipush X7 hx hby at_174 (pc' := 176) rfl (z := 8) rfl ?_
      refine own_iushr X7 hx hby at_176 (pc' := 177) rfl ?_
      refine own_i2b X7 hx hby at_177 (pc' := 178) rfl ?_
      refine own_i2d X7 hx hby at_178 (pc' := 179) rfl (i2d_w _) ?_
      have m_s2 := Jvm.Free.Fl.l2d_mag (((p6.toUInt32 >>> ((8 : Int32) &&& 31).toUInt32).toInt32).toInt8.toInt32).toInt64
      generalize (FP.l2d (((p6.toUInt32 >>> ((8 : Int32) &&& 31).toUInt32).toInt32).toInt8.toInt32).toInt64) = s2 at m_s2 ⊢
      refine own_dstore X7 hx hby at_179 (pc' := 181) rfl (Ls' := #[.val (.int p1), .val (.int p2), .val (.int p3), .val (.int p4), .val (.int p5), .val (.int p6), .val (.int (Int32.ofNat N)), .val (.int (Int32.ofNat A1)), .val (.int (Int32.ofNat B1)), .val (.int (Int32.ofNat A2)), .val (.int (Int32.ofNat B2)), .val (.int (Int32.ofNat A3)), .val (.int (Int32.ofNat B3)), .val (.int (p5 &&& (3 : Int32))), .val (.int (Int32.ofNat QA)), .val (.int (Int32.ofNat QB)), .val (.double s1), .second, .val (.double s2), .second, .unset, .unset, .unset, .unset, .unset, .unset, .unset, .unset, .unset, .unset, .unset]) rfl ?_
      refine own_iload X7 hx hby at_181 (pc' := 183) rfl rfl ?_
      refine own_bipush X7 hx hby at_183 (pc' := 185) rfl (z := 16) rfl ?_
      refine own_iushr X7 hx hby at_185 (pc' := 186) rfl ?_
      refine own_i2b X7 hx hby at_186 (pc' := 187) rfl ?_
      refine own_i2d X7 hx hby at_187 (pc' := 188) rfl (i2d_w _) ?_
      have m_s3 := Jvm.Free.Fl.l2d_mag (((p6.toUInt32 >>> ((16 : Int32) &&& 31).toUInt32).toInt32).toInt8.toInt32).toInt64
      generalize (FP.l2d (((p6.toUInt32 >>> ((16 : Int32) &&& 31).toUInt32).toInt32).toInt8.toInt32).toInt64) = s3 at m_s3 ⊢
      refine own_dstore X7 hx hby at_188 (pc' := 190) rfl (Ls' := #[.val (.int p1), .val (.int p2), .val (.int p3), .val (.int p4), .val (.int p5), .val (.int p6), .val (.int (Int32.ofNat N)), .val (.int (Int32.ofNat A1)), .val (.int (Int32.ofNat B1)), .val (.int (Int32.ofNat A2)), .val (.int (Int32.ofNat B2)), .val (.int (Int32.ofNat A3)), .val (.int (Int32.ofNat B3)), .val (.int (p5 &&& (3 : Int32))), .val (.int (Int32.ofNat QA)), .val (.int (Int32.ofNat QB)), .val (.double s1), .second, .val (.double s2), .second, .val (.double s3), .second, .unset, .unset, .unset, .unset, .unset, .unset, .unset, .unset, .unset]) rfl ?_
      refine own_iloadN X7 hx hby at_190 (pc' := 191) rfl rfl ?_
      refine own_bipush X7 hx hby at_191 (pc' := 193) rfl (z := 7) rfl ?_
      refine own_iushr X7 hx hby at_193 (pc' := 194) rfl ?_
      refine own_sipush X7 hx hby at_194 (pc' := 197) rfl (z := 255) rfl ?_
      refine own_iand X7 hx hby at_197 (pc' := 198) rfl ?_
      refine own_i2d X7 hx hby at_198 (pc' := 199) rfl (i2d_w _) ?_
      refine own_ldcD X7 hx hby hZ hown (ow_5 hw) at_199 (pc' := 202) rfl ?_
      refine own_ddiv X7 hx hby at_202 (pc' := 203) rfl (own_dvn own_256 _) rfl ?_
      have m_k1 := own_dvm own_256 (((p1.toUInt32 >>> ((7 : Int32) &&& 31).toUInt32).toInt32) &&& (255 : Int32)).toInt64
      generalize (FP.ddiv (FP.l2d (((p1.toUInt32 >>> ((7 : Int32) &&& 31).toUInt32).toInt32) &&& (255 : Int32)).toInt64) (4643211215818981376 : UInt64)) = k1 at m_k1 ⊢
      refine own_dstore X7 hx hby at_203 (pc' := 205) rfl (Ls' := #[.val (.int p1), .val (.int p2), .val (.int p3), .val (.int p4), .val (.int p5), .val (.int p6), .val (.int (Int32.ofNat N)), .val (.int (Int32.ofNat A1)), .val (.int (Int32.ofNat B1)), .val (.int (Int32.ofNat A2)), .val (.int (Int32.ofNat B2)), .val (.int (Int32.ofNat A3)), .val (.int (Int32.ofNat B3)), .val (.int (p5 &&& (3 : Int32))), .val (.int (Int32.ofNat QA)), .val (.int (Int32.ofNat QB)), .val (.double s1), .second, .val (.double s2), .second, .val (.double s3), .second, .val (.double k1), .second, .unset, .unset, .unset, .unset, .unset, .unset, .unset]) rfl ?_
      refine own_iload X7 hx hby at_205 (pc' := 207) rfl rfl ?_
      refine own_bipush X7 hx hby at_207 (pc' := 209) rfl (z := 24) rfl ?_
      refine own_iushr X7 hx hby at_209 (pc' := 210) rfl ?_
      refine own_sipush X7 hx hby at_210 (pc' := 213) rfl (z := 255) rfl ?_
      refine own_iand X7 hx hby at_213 (pc' := 214) rfl ?_
      refine own_i2d X7 hx hby at_214 (pc' := 215) rfl (i2d_w _) ?_
      refine own_ldcD X7 hx hby hZ hown (ow_5 hw) at_215 (pc' := 218) rfl ?_
      refine own_ddiv X7 hx hby at_218 (pc' := 219) rfl (own_dvn own_256 _) rfl ?_
      have m_k2 := own_dvm own_256 (((p6.toUInt32 >>> ((24 : Int32) &&& 31).toUInt32).toInt32) &&& (255 : Int32)).toInt64
      generalize (FP.ddiv (FP.l2d (((p6.toUInt32 >>> ((24 : Int32) &&& 31).toUInt32).toInt32) &&& (255 : Int32)).toInt64) (4643211215818981376 : UInt64)) = k2 at m_k2 ⊢
      refine own_dstore X7 hx hby at_219 (pc' := 221) rfl (Ls' := #[.val (.int p1), .val (.int p2), .val (.int p3), .val (.int p4), .val (.int p5), .val (.int p6), .val (.int (Int32.ofNat N)), .val (.int (Int32.ofNat A1)), .val (.int (Int32.ofNat B1)), .val (.int (Int32.ofNat A2)), .val (.int (Int32.ofNat B2)), .val (.int (Int32.ofNat A3)), .val (.int (Int32.ofNat B3)), .val (.int (p5 &&& (3 : Int32))), .val (.int (Int32.ofNat QA)), .val (.int (Int32.ofNat QB)), .val (.double s1), .second, .val (.double s2), .second, .val (.double s3), .second, .val (.double k1), .second, .val (.double k2), .second, .unset, .unset, .unset, .unset, .unset]) rfl ?_
      refine own_newO X7 hx hby hZ hown (ow_6 hw) (ow_7 hw) (ow_8 hw) e7 at_221 (pc' := 224) rfl (by decide) (by decide) ?_
      intro T8 h8 b8 g8 X8 e8 E8 AX8 D8
      have ne_nn_b8 : nn ≠ b8 := own_nl V_nn.lt g8
      have n0_b8 : n0 ≤ b8 := Nat.le_trans Z0 (Nat.le_of_eq g8.symm)
      have le0_b8 : h0.size ≤ b8 := Nat.le_trans (Nat.le_refl _) (Nat.le_of_eq g8.symm)
      have sz9 := Nat.le_trans (Nat.le_refl _) E8.1
      replace V_nn := V_nn.ext E8
      replace S_nn := S_nn.ext E8
      have F_count_b8 : Fld Z h8 b8 "com/example/shopwright/shopwright/search/PairWeights" "count" "I" (.int (0 : Int32)) := D8 (Or.inr (ow_16 hw)) (ty := .int) (by decide)
      have F_tables_b8 : Fld Z h8 b8 "com/example/shopwright/shopwright/search/PairWeights" "tables" "[[I" .null := D8 (Or.inr (ow_20 hw)) (ty := (.array (.array .int))) (by decide)
      have F_weights_b8 : Fld Z h8 b8 "com/example/shopwright/shopwright/search/PairWeights" "weights" "[[D" .null := D8 (Or.inr (ow_31 hw)) (ty := (.array (.array .double))) (by decide)
      have F_taught_b8 : Fld Z h8 b8 "com/example/shopwright/shopwright/search/PairWeights" "taught" "[I" .null := D8 (Or.inr (ow_34 hw)) (ty := (.array .int)) (by decide)
      have F_untaught_b8 : Fld Z h8 b8 "com/example/shopwright/shopwright/search/PairWeights" "untaught" "D" (.double (0 : UInt64)) := D8 (Or.inl (ow_36 hw)) (ty := .double) (by decide)
      have hun := own_1n hN1 (by omega)
      have hum := own_1m hN1 (by omega)
      generalize hu : FP.ddiv (4607182418800017408 : UInt64) (FP.l2d (Int32.ofNat N).toInt64) = u at hun hum
      refine own_dup X8 hx hby at_224 (pc' := 225) rfl rfl ?_
      refine own_iload X8 hx hby at_225 (pc' := 227) rfl rfl ?_
      refine own_specM X8 hx hby hml hZ hown rfl (ow_9 hw) (ow_10 hw) (ow_8 hw) (ow_11 hw) (by decide) (cc := 3) (ss := 6336) (rm_init l Z a0 hw b8 nn N u h8 n0 (Nat.le_trans Z0 sz9) n0_b8 (by omega) AX8 F_count_b8 F_tables_b8 F_weights_b8 F_taught_b8 F_untaught_b8 V_nn S_nn (by rw [hu]; exact hun) hu) 1 rfl rfl (by decide) (by decide) rfl (argsL := [(.int (Int32.ofNat N))]) (rest := [(.ref b8)]) opd_4 rfl rfl (Nat.le_refl _) at_227 (pc' := 230) rfl rfl e8 (by decide) (by decide) ?_
      rintro v10 T10 h10 L10 X10 e10 ⟨rfl, Nq10, zz10, tb, wt, ta, n0_tb, n0_wt, n0_ta, A_w0, F_count, F_tables, F_weights, F_taught, F_untaught, PP⟩
      have N10 := N7.app Nq10
      have sz11 := Nat.le_trans sz9 zz10
      have PN : own_PN n0 tb wt ta nn N (fun _ => some nn) (fun _ => none) := ⟨n0_tb, n0_wt, n0_ta, (fun i hi t ht hn => by cases ht; exact absurd rfl hn), fun i hi r hr => by cases hr⟩
      have OK : own_Ok3 N nn (fun _ => some nn) (fun _ => 1) (fun _ _ => (-1 : Int32)) (fun _ => none) (fun _ => 0) (fun _ => (0 : Int32)) 0 := fun i hi => Or.inr (Or.inl ⟨rfl, rfl, rfl, rfl, rfl⟩)
      have BD0 : own_Bd 1089 u (fun _ _ => (0 : UInt64)) := ⟨hum, fun i j => own_mag0 (by decide)⟩
      refine own_astore X10 hx hby at_230 (pc' := 232) rfl rfl (Ls' := #[.val (.int p1), .val (.int p2), .val (.int p3), .val (.int p4), .val (.int p5), .val (.int p6), .val (.int (Int32.ofNat N)), .val (.int (Int32.ofNat A1)), .val (.int (Int32.ofNat B1)), .val (.int (Int32.ofNat A2)), .val (.int (Int32.ofNat B2)), .val (.int (Int32.ofNat A3)), .val (.int (Int32.ofNat B3)), .val (.int (p5 &&& (3 : Int32))), .val (.int (Int32.ofNat QA)), .val (.int (Int32.ofNat QB)), .val (.double s1), .second, .val (.double s2), .second, .val (.double s3), .second, .val (.double k1), .second, .val (.double k2), .second, .val (.ref b8), .unset, .unset, .unset, .unset]) rfl ?_
      refine own_aload X10 hx hby at_232 (pc' := 234) rfl rfl rfl ?_
      refine own_dload X10 hx hby at_234 (pc' := 236) rfl rfl ?_
      refine own_virtM X10 hx hby hml hZ hown (ow_37 hw) (ow_38 hw) (notFace_of_selects (args := #[]) (mvT hZ (ow_40 hw))) (ow_40 hw) (ow_39 hw) (ow_8 hw) (ow_41 hw) (by decide) (cc := 0) (ss := 0) (rm_decay l Z a0 hw b8 tb wt ta nn N 1089 u k1 (fun _ => some nn) (fun _ => 1) (fun _ _ => (-1 : Int32)) (fun _ => none) (fun _ => 0) (fun _ _ => (0 : UInt64)) (fun _ => (0 : Int32)) h10 n0 (Nat.le_trans Z0 sz11) n0_b8 BD0 m_k1 (by decide) PN A_w0 F_count F_tables F_weights F_taught F_untaught PP) 0 rfl rfl (by decide) (by decide) rfl A_w0 (argsL := [(.double k1)]) (rest := []) opd_7 rfl rfl (Nat.le_refl _) at_236 (pc' := 239) rfl rfl e10 (by decide) (by decide) ?_
      rintro v12 T12 h12 L12 X12 e12 ⟨rfl, Nq12, zz12, A_w0, F_count, F_tables, F_weights, F_taught, F_untaught, PP⟩
      have N12 := N10.app Nq12
      have sz13 := Nat.le_trans sz11 zz12
      have BD : own_Bd 1156 (FP.dmul u k1) (own_dec (fun _ _ => (0 : UInt64)) k1) := BD0.dec m_k1 (by decide)
      refine own_aload X12 hx hby at_239 (pc' := 241) rfl rfl rfl ?_
      refine own_iload X12 hx hby at_241 (pc' := 243) rfl rfl ?_
      refine own_iload X12 hx hby at_243 (pc' := 245) rfl rfl ?_
      refine own_dload X12 hx hby at_245 (pc' := 247) rfl rfl ?_
      refine own_virtM X12 hx hby hml hZ hown (ow_42 hw) (ow_43 hw) (notFace_of_selects (args := #[]) (mvT hZ (ow_45 hw))) (ow_45 hw) (ow_44 hw) (ow_8 hw) (ow_46 hw) (by decide) (cc := 2) (ss := 2048) (rm_add l Z a0 hw b8 tb wt ta nn N A1 B1 0 1156 (FP.dmul u k1) s1 (fun _ => some nn) (fun _ => 1) (fun _ _ => (-1 : Int32)) (fun _ => none) (fun _ => 0) (own_dec (fun _ _ => (0 : UInt64)) k1) (fun _ => (0 : Int32)) h12 n0 (Nat.le_trans Z0 sz13) n0_b8 PN OK (by decide) (fun x hx => own_hnn hnn0 (Nat.le_trans sz13 hx)) BD (m_s1.mono (by decide)) (by decide) (by decide) hA1 hB1 A_w0 F_count F_tables F_weights F_taught F_untaught PP) 0 rfl rfl (by decide) (by decide) rfl A_w0 (argsL := [(.int (Int32.ofNat A1)), (.int (Int32.ofNat B1)), (.double s1)]) (rest := []) opd_8 rfl rfl (Nat.le_refl _) at_247 (pc' := 250) rfl rfl e12 (by decide) (by decide) ?_
      rintro v14 T14 h14 L14 X14 e14 ⟨rfl, Nq14, zz14, A_w0, F_count, F_tables, F_weights, F_taught, F_untaught, tA1, tL1, tV1, rA1, rL1, rV1, tg1, PP, PN, OK, BD, hW1⟩
      have N14 := N12.app Nq14
      have sz15 := Nat.le_trans sz13 zz14
      have BD1 := BD
      refine own_aload X14 hx hby at_250 (pc' := 252) rfl rfl rfl ?_
      refine own_iload X14 hx hby at_252 (pc' := 254) rfl rfl ?_
      refine own_iload X14 hx hby at_254 (pc' := 256) rfl rfl ?_
      refine own_dload X14 hx hby at_256 (pc' := 258) rfl rfl ?_
      refine own_virtM X14 hx hby hml hZ hown (ow_42 hw) (ow_43 hw) (notFace_of_selects (args := #[]) (mvT hZ (ow_45 hw))) (ow_45 hw) (ow_44 hw) (ow_8 hw) (ow_46 hw) (by decide) (cc := 2) (ss := 2048) (rm_add l Z a0 hw b8 tb wt ta nn N A2 B2 1 1158 (FP.dmul u k1) s2 tA1 tL1 tV1 rA1 rL1 rV1 tg1 h14 n0 (Nat.le_trans Z0 sz15) n0_b8 PN OK (by decide) (fun x hx => own_hnn hnn0 (Nat.le_trans sz15 hx)) BD (m_s2.mono (by decide)) (by decide) (by decide) hA2 hB2 A_w0 F_count F_tables F_weights F_taught F_untaught PP) 0 rfl rfl (by decide) (by decide) rfl A_w0 (argsL := [(.int (Int32.ofNat A2)), (.int (Int32.ofNat B2)), (.double s2)]) (rest := []) opd_8 rfl rfl (Nat.le_refl _) at_258 (pc' := 261) rfl rfl e14 (by decide) (by decide) ?_
      rintro v16 T16 h16 L16 X16 e16 ⟨rfl, Nq16, zz16, A_w0, F_count, F_tables, F_weights, F_taught, F_untaught, tA2, tL2, tV2, rA2, rL2, rV2, tg2, PP, PN, OK, BD, hW2⟩
      have N16 := N14.app Nq16
      have sz17 := Nat.le_trans sz15 zz16
      have BD2 := BD
      refine own_aload X16 hx hby at_261 (pc' := 263) rfl rfl rfl ?_
      refine own_iload X16 hx hby at_263 (pc' := 265) rfl rfl ?_
      refine own_iload X16 hx hby at_265 (pc' := 267) rfl rfl ?_
      refine own_dload X16 hx hby at_267 (pc' := 269) rfl rfl ?_
      refine own_virtM X16 hx hby hml hZ hown (ow_42 hw) (ow_43 hw) (notFace_of_selects (args := #[]) (mvT hZ (ow_45 hw))) (ow_45 hw) (ow_44 hw) (ow_8 hw) (ow_46 hw) (by decide) (cc := 2) (ss := 2048) (rm_add l Z a0 hw b8 tb wt ta nn N A3 B3 2 1160 (FP.dmul u k1) s3 tA2 tL2 tV2 rA2 rL2 rV2 tg2 h16 n0 (Nat.le_trans Z0 sz17) n0_b8 PN OK (by decide) (fun x hx => own_hnn hnn0 (Nat.le_trans sz17 hx)) BD (m_s3.mono (by decide)) (by decide) (by decide) hA3 hB3 A_w0 F_count F_tables F_weights F_taught F_untaught PP) 0 rfl rfl (by decide) (by decide) rfl A_w0 (argsL := [(.int (Int32.ofNat A3)), (.int (Int32.ofNat B3)), (.double s3)]) (rest := []) opd_8 rfl rfl (Nat.le_refl _) at_269 (pc' := 272) rfl rfl e16 (by decide) (by decide) ?_
      rintro v18 T18 h18 L18 X18 e18 ⟨rfl, Nq18, zz18, A_w0, F_count, F_tables, F_weights, F_taught, F_untaught, tA3, tL3, tV3, rA3, rL3, rV3, tg3, PP, PN, OK, BD, hW3⟩
      have N18 := N16.app Nq18
      have sz19 := Nat.le_trans sz17 zz18
      have BD3 := BD
      refine own_aload X18 hx hby at_272 (pc' := 274) rfl rfl rfl ?_
      refine own_dload X18 hx hby at_274 (pc' := 276) rfl rfl ?_
      refine own_virtM X18 hx hby hml hZ hown (ow_37 hw) (ow_38 hw) (notFace_of_selects (args := #[]) (mvT hZ (ow_40 hw))) (ow_40 hw) (ow_39 hw) (ow_8 hw) (ow_41 hw) (by decide) (cc := 0) (ss := 0) (rm_decay l Z a0 hw b8 tb wt ta nn N 1162 (FP.dmul u k1) k2 tA3 tL3 tV3 rA3 rL3 rV3 tg3 h18 n0 (Nat.le_trans Z0 sz19) n0_b8 BD m_k2 (by decide) PN A_w0 F_count F_tables F_weights F_taught F_untaught PP) 0 rfl rfl (by decide) (by decide) rfl A_w0 (argsL := [(.double k2)]) (rest := []) opd_7 rfl rfl (Nat.le_refl _) at_276 (pc' := 279) rfl rfl e18 (by decide) (by decide) ?_
      rintro v20 T20 h20 L20 X20 e20 ⟨rfl, Nq20, zz20, A_w0, F_count, F_tables, F_weights, F_taught, F_untaught, PP⟩
      have N20 := N18.app Nq20
      have sz21 := Nat.le_trans sz19 zz20
      refine own_aload X20 hx hby at_279 (pc' := 281) rfl rfl rfl ?_
      refine own_iload X20 hx hby at_281 (pc' := 283) rfl rfl ?_
      refine own_iload X20 hx hby at_283 (pc' := 285) rfl rfl ?_
      refine own_virtM X20 hx hby hml hZ hown (ow_60 hw) (ow_61 hw) (notFace_of_selects (args := #[]) (mvT hZ (ow_63 hw))) (ow_63 hw) (ow_62 hw) (ow_8 hw) (ow_64 hw) (by decide) (cc := 0) (ss := 0) (rm_weight l Z a0 hw b8 tb wt ta nn N QA QB 3 (FP.dmul (FP.dmul u k1) k2) tA3 tL3 tV3 rA3 rL3 (own_dec rV3 k2) tg3 h20 n0 (Nat.le_trans Z0 sz21) hQA hQB A_w0 F_count F_tables F_weights F_taught F_untaught OK (by decide) PP) 0 rfl rfl (by decide) (by decide) rfl A_w0 (argsL := [(.int (Int32.ofNat QA)), (.int (Int32.ofNat QB))]) (rest := []) opd_9 rfl rfl (Nat.le_refl _) at_285 (pc' := 288) rfl rfl e20 (by decide) (by decide) ?_
      rintro v22 T22 h22 L22 X22 e22 ⟨rfl, Nq22, rfl⟩
      have N22 := N20.app Nq22
      refine own_dstore X22 hx hby at_288 (pc' := 290) rfl (Ls' := #[.val (.int p1), .val (.int p2), .val (.int p3), .val (.int p4), .val (.int p5), .val (.int p6), .val (.int (Int32.ofNat N)), .val (.int (Int32.ofNat A1)), .val (.int (Int32.ofNat B1)), .val (.int (Int32.ofNat A2)), .val (.int (Int32.ofNat B2)), .val (.int (Int32.ofNat A3)), .val (.int (Int32.ofNat B3)), .val (.int (p5 &&& (3 : Int32))), .val (.int (Int32.ofNat QA)), .val (.int (Int32.ofNat QB)), .val (.double s1), .second, .val (.double s2), .second, .val (.double s3), .second, .val (.double k1), .second, .val (.double k2), .second, .val (.ref b8), .val (.double (own_W (FP.dmul (FP.dmul u k1) k2) tA3 tL3 tV3 (own_dec rV3 k2) QA QB)), .second, .unset, .unset]) rfl ?_
      refine own_dconst1 X22 hx hby at_290 (pc' := 291) rfl (v := (4607182418800017408 : UInt64)) rfl ?_
      refine own_iload X22 hx hby at_291 (pc' := 293) rfl rfl ?_
      refine own_i2d X22 hx hby at_293 (pc' := 294) rfl (i2d_w _) ?_
      refine own_ddiv X22 hx hby at_294 (pc' := 295) rfl (by rw [hu]; exact hun) (v := u) hu ?_
      refine own_dstore X22 hx hby at_295 (pc' := 297) rfl (Ls' := #[.val (.int p1), .val (.int p2), .val (.int p3), .val (.int p4), .val (.int p5), .val (.int p6), .val (.int (Int32.ofNat N)), .val (.int (Int32.ofNat A1)), .val (.int (Int32.ofNat B1)), .val (.int (Int32.ofNat A2)), .val (.int (Int32.ofNat B2)), .val (.int (Int32.ofNat A3)), .val (.int (Int32.ofNat B3)), .val (.int (p5 &&& (3 : Int32))), .val (.int (Int32.ofNat QA)), .val (.int (Int32.ofNat QB)), .val (.double s1), .second, .val (.double s2), .second, .val (.double s3), .second, .val (.double k1), .second, .val (.double k2), .second, .val (.ref b8), .val (.double (own_W (FP.dmul (FP.dmul u k1) k2) tA3 tL3 tV3 (own_dec rV3 k2) QA QB)), .second, .val (.double u), .second]) rfl ?_
      refine own_dload X22 hx hby at_297 (pc' := 299) rfl rfl ?_
      refine own_dload X22 hx hby at_299 (pc' := 301) rfl rfl ?_
      refine own_dmul X22 hx hby at_301 (pc' := 302) rfl (own_mulnn BD0.1 m_k1 (by decide)) rfl ?_
      refine own_dstore X22 hx hby at_302 (pc' := 304) rfl (Ls' := #[.val (.int p1), .val (.int p2), .val (.int p3), .val (.int p4), .val (.int p5), .val (.int p6), .val (.int (Int32.ofNat N)), .val (.int (Int32.ofNat A1)), .val (.int (Int32.ofNat B1)), .val (.int (Int32.ofNat A2)), .val (.int (Int32.ofNat B2)), .val (.int (Int32.ofNat A3)), .val (.int (Int32.ofNat B3)), .val (.int (p5 &&& (3 : Int32))), .val (.int (Int32.ofNat QA)), .val (.int (Int32.ofNat QB)), .val (.double s1), .second, .val (.double s2), .second, .val (.double s3), .second, .val (.double k1), .second, .val (.double k2), .second, .val (.ref b8), .val (.double (own_W (FP.dmul (FP.dmul u k1) k2) tA3 tL3 tV3 (own_dec rV3 k2) QA QB)), .second, .val (.double (FP.dmul u k1)), .second]) rfl ?_
      have hz0 : (FP.dmul u k1) = (own_W (FP.dmul u k1) (fun _ => some nn) (fun _ => 1) (fun _ _ => (-1 : Int32)) (own_dec (fun _ _ => (0 : UInt64)) k1) QA QB) := (own_W_unt (nn := nn) (A := QA) (b := QB) (by omega) rfl rfl rfl).symm
      have BDz : own_Bd 1156 (FP.dmul u k1) (own_dec (fun _ _ => (0 : UInt64)) k1) := BD0.dec m_k1 (by decide)
      refine own_join (α := UInt64) (F := fun zr1 => T22.setTop (mkF m 325 #[.val (.int p1), .val (.int p2), .val (.int p3), .val (.int p4), .val (.int p5), .val (.int p6), .val (.int (Int32.ofNat N)), .val (.int (Int32.ofNat A1)), .val (.int (Int32.ofNat B1)), .val (.int (Int32.ofNat A2)), .val (.int (Int32.ofNat B2)), .val (.int (Int32.ofNat A3)), .val (.int (Int32.ofNat B3)), .val (.int (p5 &&& (3 : Int32))), .val (.int (Int32.ofNat QA)), .val (.int (Int32.ofNat QB)), .val (.double s1), .second, .val (.double s2), .second, .val (.double s3), .second, .val (.double k1), .second, .val (.double k2), .second, .val (.ref b8), .val (.double (own_W (FP.dmul (FP.dmul u k1) k2) tA3 tL3 tV3 (own_dec rV3 k2) QA QB)), .second, .val (.double zr1), .second] [])) (P := fun zr1 => zr1 = (own_W (FP.dmul u k1) tA1 tL1 tV1 rV1 QA QB)) ?_ ?_
      · intro zr1 hzr1
        show own_E p.tables e below _ (T22.setTop (mkF m 325 #[.val (.int p1), .val (.int p2), .val (.int p3), .val (.int p4), .val (.int p5), .val (.int p6), .val (.int (Int32.ofNat N)), .val (.int (Int32.ofNat A1)), .val (.int (Int32.ofNat B1)), .val (.int (Int32.ofNat A2)), .val (.int (Int32.ofNat B2)), .val (.int (Int32.ofNat A3)), .val (.int (Int32.ofNat B3)), .val (.int (p5 &&& (3 : Int32))), .val (.int (Int32.ofNat QA)), .val (.int (Int32.ofNat QB)), .val (.double s1), .second, .val (.double s2), .second, .val (.double s3), .second, .val (.double k1), .second, .val (.double k2), .second, .val (.ref b8), .val (.double (own_W (FP.dmul (FP.dmul u k1) k2) tA3 tL3 tV3 (own_dec rV3 k2) QA QB)), .second, .val (.double zr1), .second] []))
        refine own_join (α := UInt64) (F := fun zr2 => T22.setTop (mkF m 346 #[.val (.int p1), .val (.int p2), .val (.int p3), .val (.int p4), .val (.int p5), .val (.int p6), .val (.int (Int32.ofNat N)), .val (.int (Int32.ofNat A1)), .val (.int (Int32.ofNat B1)), .val (.int (Int32.ofNat A2)), .val (.int (Int32.ofNat B2)), .val (.int (Int32.ofNat A3)), .val (.int (Int32.ofNat B3)), .val (.int (p5 &&& (3 : Int32))), .val (.int (Int32.ofNat QA)), .val (.int (Int32.ofNat QB)), .val (.double s1), .second, .val (.double s2), .second, .val (.double s3), .second, .val (.double k1), .second, .val (.double k2), .second, .val (.ref b8), .val (.double (own_W (FP.dmul (FP.dmul u k1) k2) tA3 tL3 tV3 (own_dec rV3 k2) QA QB)), .second, .val (.double zr2), .second] [])) (P := fun zr2 => zr2 = (own_W (FP.dmul u k1) tA2 tL2 tV2 rV2 QA QB)) ?_ ?_
        · intro zr2 hzr2
          show own_E p.tables e below _ (T22.setTop (mkF m 346 #[.val (.int p1), .val (.int p2), .val (.int p3), .val (.int p4), .val (.int p5), .val (.int p6), .val (.int (Int32.ofNat N)), .val (.int (Int32.ofNat A1)), .val (.int (Int32.ofNat B1)), .val (.int (Int32.ofNat A2)), .val (.int (Int32.ofNat B2)), .val (.int (Int32.ofNat A3)), .val (.int (Int32.ofNat B3)), .val (.int (p5 &&& (3 : Int32))), .val (.int (Int32.ofNat QA)), .val (.int (Int32.ofNat QB)), .val (.double s1), .second, .val (.double s2), .second, .val (.double s3), .second, .val (.double k1), .second, .val (.double k2), .second, .val (.ref b8), .val (.double (own_W (FP.dmul (FP.dmul u k1) k2) tA3 tL3 tV3 (own_dec rV3 k2) QA QB)), .second, .val (.double zr2), .second] []))
          refine own_join (α := UInt64) (F := fun zr3 => T22.setTop (mkF m 367 #[.val (.int p1), .val (.int p2), .val (.int p3), .val (.int p4), .val (.int p5), .val (.int p6), .val (.int (Int32.ofNat N)), .val (.int (Int32.ofNat A1)), .val (.int (Int32.ofNat B1)), .val (.int (Int32.ofNat A2)), .val (.int (Int32.ofNat B2)), .val (.int (Int32.ofNat A3)), .val (.int (Int32.ofNat B3)), .val (.int (p5 &&& (3 : Int32))), .val (.int (Int32.ofNat QA)), .val (.int (Int32.ofNat QB)), .val (.double s1), .second, .val (.double s2), .second, .val (.double s3), .second, .val (.double k1), .second, .val (.double k2), .second, .val (.ref b8), .val (.double (own_W (FP.dmul (FP.dmul u k1) k2) tA3 tL3 tV3 (own_dec rV3 k2) QA QB)), .second, .val (.double zr3), .second] [])) (P := fun zr3 => zr3 = (own_W (FP.dmul u k1) tA3 tL3 tV3 rV3 QA QB)) ?_ ?_
          · intro zr3 hzr3
            show own_E p.tables e below _ (T22.setTop (mkF m 367 #[.val (.int p1), .val (.int p2), .val (.int p3), .val (.int p4), .val (.int p5), .val (.int p6), .val (.int (Int32.ofNat N)), .val (.int (Int32.ofNat A1)), .val (.int (Int32.ofNat B1)), .val (.int (Int32.ofNat A2)), .val (.int (Int32.ofNat B2)), .val (.int (Int32.ofNat A3)), .val (.int (Int32.ofNat B3)), .val (.int (p5 &&& (3 : Int32))), .val (.int (Int32.ofNat QA)), .val (.int (Int32.ofNat QB)), .val (.double s1), .second, .val (.double s2), .second, .val (.double s3), .second, .val (.double k1), .second, .val (.double k2), .second, .val (.ref b8), .val (.double (own_W (FP.dmul (FP.dmul u k1) k2) tA3 tL3 tV3 (own_dec rV3 k2) QA QB)), .second, .val (.double zr3), .second] []))
            refine own_dload X22 hx hby at_367 (pc' := 369) rfl rfl ?_
            refine own_dload X22 hx hby at_369 (pc' := 371) rfl rfl ?_
            have hmf : Jvm.Free.Fl.NoNaN64 (FP.dmul zr3 k2) := own_mulnn (K := 1162) (by rw [hzr3]; exact own_W_bd BD3) m_k2 (by decide)
            refine own_dmul X22 hx hby at_371 (pc' := 372) rfl hmf rfl ?_
            refine own_dstore X22 hx hby at_372 (pc' := 374) rfl (Ls' := #[.val (.int p1), .val (.int p2), .val (.int p3), .val (.int p4), .val (.int p5), .val (.int p6), .val (.int (Int32.ofNat N)), .val (.int (Int32.ofNat A1)), .val (.int (Int32.ofNat B1)), .val (.int (Int32.ofNat A2)), .val (.int (Int32.ofNat B2)), .val (.int (Int32.ofNat A3)), .val (.int (Int32.ofNat B3)), .val (.int (p5 &&& (3 : Int32))), .val (.int (Int32.ofNat QA)), .val (.int (Int32.ofNat QB)), .val (.double s1), .second, .val (.double s2), .second, .val (.double s3), .second, .val (.double k1), .second, .val (.double k2), .second, .val (.ref b8), .val (.double (own_W (FP.dmul (FP.dmul u k1) k2) tA3 tL3 tV3 (own_dec rV3 k2) QA QB)), .second, .val (.double (FP.dmul zr3 k2)), .second]) rfl ?_
            refine own_dload X22 hx hby at_374 (pc' := 376) rfl rfl ?_
            refine own_dload X22 hx hby at_376 (pc' := 378) rfl rfl ?_
            refine own_dcmp X22 hx hby at_378 (pc' := 379) rfl (v := (0 : Int32)) (by rw [own_W_dec, ← hzr3]; exact dcmpV_self hmf _) ?_
            refine own_ifN X22 hx hby at_379 (pc' := 382) rfl (teq rfl).2 ?_
            refine own_iconst X22 hx hby at_382 (pc' := 383) rfl (z := 1) rfl ?_
            refine own_goto X22 hx hby at_383 (by decide) (pc' := 387) (by decide) ?_
            exact own_retN X22 hx hby hlk hrt (by simp) at_387 (z' := (1 : Int32)) rfl ⟨rfl, N22⟩ (by decide) (by decide)
          · intro JR
            have hWq := hW3 QA hQA QB hQB
            refine own_iload X22 hx hby at_346 (pc' := 348) rfl rfl ?_
            refine own_iload X22 hx hby at_348 (pc' := 350) rfl rfl ?_
            by_cases hq : QA = A3 ∧ QB = B3
            · refine own_icmpN X22 hx hby at_350 (pc' := 353) rfl (teq (congrArg Int32.ofNat hq.1)).2 ?_
              refine own_iload X22 hx hby at_353 (pc' := 355) rfl rfl ?_
              refine own_iload X22 hx hby at_355 (pc' := 357) rfl rfl ?_
              refine own_icmpN X22 hx hby at_357 (pc' := 360) rfl (teq (congrArg Int32.ofNat hq.2)).2 ?_
              refine own_dload X22 hx hby at_360 (pc' := 362) rfl rfl ?_
              refine own_dload X22 hx hby at_362 (pc' := 364) rfl rfl ?_
              have hmm : Jvm.Free.Fl.Mag64 1162 (FP.dadd zr2 s3) := own_addmag (K := 1160) (by rw [hzr2]; exact own_W_bd BD2) (m_s3.mono (by decide)) (by decide)
              refine own_dadd X22 hx hby at_364 (pc' := 365) rfl (hmm.fin (by decide)).noNaN rfl ?_
              refine own_dstore X22 hx hby at_365 (pc' := 367) rfl (Ls' := #[.val (.int p1), .val (.int p2), .val (.int p3), .val (.int p4), .val (.int p5), .val (.int p6), .val (.int (Int32.ofNat N)), .val (.int (Int32.ofNat A1)), .val (.int (Int32.ofNat B1)), .val (.int (Int32.ofNat A2)), .val (.int (Int32.ofNat B2)), .val (.int (Int32.ofNat A3)), .val (.int (Int32.ofNat B3)), .val (.int (p5 &&& (3 : Int32))), .val (.int (Int32.ofNat QA)), .val (.int (Int32.ofNat QB)), .val (.double s1), .second, .val (.double s2), .second, .val (.double s3), .second, .val (.double k1), .second, .val (.double k2), .second, .val (.ref b8), .val (.double (own_W (FP.dmul (FP.dmul u k1) k2) tA3 tL3 tV3 (own_dec rV3 k2) QA QB)), .second, .val (.double (FP.dadd zr2 s3)), .second]) rfl ?_
              exact JR _ (by rw [hWq, if_pos hq, ← hq.1, ← hq.2]; exact congrArg (fun y => FP.dadd y s3) hzr2)
            · by_cases hq1 : QA = A3
              · refine own_icmpN X22 hx hby at_350 (pc' := 353) rfl (teq (congrArg Int32.ofNat hq1)).2 ?_
                refine own_iload X22 hx hby at_353 (pc' := 355) rfl rfl ?_
                refine own_iload X22 hx hby at_355 (pc' := 357) rfl rfl ?_
                refine own_icmpY X22 hx hby at_357 (by decide) (pc' := 367) (by decide) (feq (fun q => hq ⟨hq1, own_inj (by omega) (by omega) q⟩)).2 ?_
                exact JR _ (by rw [hWq, if_neg hq]; exact hzr2)
              · refine own_icmpY X22 hx hby at_350 (by decide) (pc' := 367) (by decide) (feq (fun q => hq1 (own_inj (by omega) (by omega) q))).2 ?_
                exact JR _ (by rw [hWq, if_neg hq]; exact hzr2)
        · intro JR
          have hWq := hW2 QA hQA QB hQB
          refine own_iload X22 hx hby at_325 (pc' := 327) rfl rfl ?_
          refine own_iload X22 hx hby at_327 (pc' := 329) rfl rfl ?_
          by_cases hq : QA = A2 ∧ QB = B2
          · refine own_icmpN X22 hx hby at_329 (pc' := 332) rfl (teq (congrArg Int32.ofNat hq.1)).2 ?_
            refine own_iload X22 hx hby at_332 (pc' := 334) rfl rfl ?_
            refine own_iload X22 hx hby at_334 (pc' := 336) rfl rfl ?_
            refine own_icmpN X22 hx hby at_336 (pc' := 339) rfl (teq (congrArg Int32.ofNat hq.2)).2 ?_
            refine own_dload X22 hx hby at_339 (pc' := 341) rfl rfl ?_
            refine own_dload X22 hx hby at_341 (pc' := 343) rfl rfl ?_
            have hmm : Jvm.Free.Fl.Mag64 1160 (FP.dadd zr1 s2) := own_addmag (K := 1158) (by rw [hzr1]; exact own_W_bd BD1) (m_s2.mono (by decide)) (by decide)
            refine own_dadd X22 hx hby at_343 (pc' := 344) rfl (hmm.fin (by decide)).noNaN rfl ?_
            refine own_dstore X22 hx hby at_344 (pc' := 346) rfl (Ls' := #[.val (.int p1), .val (.int p2), .val (.int p3), .val (.int p4), .val (.int p5), .val (.int p6), .val (.int (Int32.ofNat N)), .val (.int (Int32.ofNat A1)), .val (.int (Int32.ofNat B1)), .val (.int (Int32.ofNat A2)), .val (.int (Int32.ofNat B2)), .val (.int (Int32.ofNat A3)), .val (.int (Int32.ofNat B3)), .val (.int (p5 &&& (3 : Int32))), .val (.int (Int32.ofNat QA)), .val (.int (Int32.ofNat QB)), .val (.double s1), .second, .val (.double s2), .second, .val (.double s3), .second, .val (.double k1), .second, .val (.double k2), .second, .val (.ref b8), .val (.double (own_W (FP.dmul (FP.dmul u k1) k2) tA3 tL3 tV3 (own_dec rV3 k2) QA QB)), .second, .val (.double (FP.dadd zr1 s2)), .second]) rfl ?_
            exact JR _ (by rw [hWq, if_pos hq, ← hq.1, ← hq.2]; exact congrArg (fun y => FP.dadd y s2) hzr1)
          · by_cases hq1 : QA = A2
            · refine own_icmpN X22 hx hby at_329 (pc' := 332) rfl (teq (congrArg Int32.ofNat hq1)).2 ?_
              refine own_iload X22 hx hby at_332 (pc' := 334) rfl rfl ?_
              refine own_iload X22 hx hby at_334 (pc' := 336) rfl rfl ?_
              refine own_icmpY X22 hx hby at_336 (by decide) (pc' := 346) (by decide) (feq (fun q => hq ⟨hq1, own_inj (by omega) (by omega) q⟩)).2 ?_
              exact JR _ (by rw [hWq, if_neg hq]; exact hzr1)
            · refine own_icmpY X22 hx hby at_329 (by decide) (pc' := 346) (by decide) (feq (fun q => hq1 (own_inj (by omega) (by omega) q))).2 ?_
              exact JR _ (by rw [hWq, if_neg hq]; exact hzr1)
      · intro JR
        have hWq := hW1 QA hQA QB hQB
        refine own_iload X22 hx hby at_304 (pc' := 306) rfl rfl ?_
        refine own_iload X22 hx hby at_306 (pc' := 308) rfl rfl ?_
        by_cases hq : QA = A1 ∧ QB = B1
        · refine own_icmpN X22 hx hby at_308 (pc' := 311) rfl (teq (congrArg Int32.ofNat hq.1)).2 ?_
          refine own_iload X22 hx hby at_311 (pc' := 313) rfl rfl ?_
          refine own_iload X22 hx hby at_313 (pc' := 315) rfl rfl ?_
          refine own_icmpN X22 hx hby at_315 (pc' := 318) rfl (teq (congrArg Int32.ofNat hq.2)).2 ?_
          refine own_dload X22 hx hby at_318 (pc' := 320) rfl rfl ?_
          refine own_dload X22 hx hby at_320 (pc' := 322) rfl rfl ?_
          have hmm : Jvm.Free.Fl.Mag64 1158 (FP.dadd (FP.dmul u k1) s1) := own_addmag (K := 1156) (by rw [hz0]; exact own_W_bd BDz) (m_s1.mono (by decide)) (by decide)
          refine own_dadd X22 hx hby at_322 (pc' := 323) rfl (hmm.fin (by decide)).noNaN rfl ?_
          refine own_dstore X22 hx hby at_323 (pc' := 325) rfl (Ls' := #[.val (.int p1), .val (.int p2), .val (.int p3), .val (.int p4), .val (.int p5), .val (.int p6), .val (.int (Int32.ofNat N)), .val (.int (Int32.ofNat A1)), .val (.int (Int32.ofNat B1)), .val (.int (Int32.ofNat A2)), .val (.int (Int32.ofNat B2)), .val (.int (Int32.ofNat A3)), .val (.int (Int32.ofNat B3)), .val (.int (p5 &&& (3 : Int32))), .val (.int (Int32.ofNat QA)), .val (.int (Int32.ofNat QB)), .val (.double s1), .second, .val (.double s2), .second, .val (.double s3), .second, .val (.double k1), .second, .val (.double k2), .second, .val (.ref b8), .val (.double (own_W (FP.dmul (FP.dmul u k1) k2) tA3 tL3 tV3 (own_dec rV3 k2) QA QB)), .second, .val (.double (FP.dadd (FP.dmul u k1) s1)), .second]) rfl ?_
          exact JR _ (by rw [hWq, if_pos hq, ← hq.1, ← hq.2]; exact congrArg (fun y => FP.dadd y s1) hz0)
        · by_cases hq1 : QA = A1
          · refine own_icmpN X22 hx hby at_308 (pc' := 311) rfl (teq (congrArg Int32.ofNat hq1)).2 ?_
            refine own_iload X22 hx hby at_311 (pc' := 313) rfl rfl ?_
            refine own_iload X22 hx hby at_313 (pc' := 315) rfl rfl ?_
            refine own_icmpY X22 hx hby at_315 (by decide) (pc' := 325) (by decide) (feq (fun q => hq ⟨hq1, own_inj (by omega) (by omega) q⟩)).2 ?_
            exact JR _ (by rw [hWq, if_neg hq]; exact hz0)
          · refine own_icmpY X22 hx hby at_308 (by decide) (pc' := 325) (by decide) (feq (fun q => hq1 (own_inj (by omega) (by omega) q))).2 ?_
            exact JR _ (by rw [hWq, if_neg hq]; exact hz0)
    · intro JQ
      refine own_iload X7 hx hby at_119 (pc' := 121) rfl rfl ?_
      by_cases hs0 : (p5 &&& (3 : Int32)) = (0 : Int32)
      · refine own_ifN X7 hx hby at_121 (pc' := 124) rfl (teq hs0).2 ?_
        refine own_iload X7 hx hby at_124 (pc' := 126) rfl rfl ?_
        refine own_istore X7 hx hby at_126 (pc' := 128) rfl (Ls' := #[.val (.int p1), .val (.int p2), .val (.int p3), .val (.int p4), .val (.int p5), .val (.int p6), .val (.int (Int32.ofNat N)), .val (.int (Int32.ofNat A1)), .val (.int (Int32.ofNat B1)), .val (.int (Int32.ofNat A2)), .val (.int (Int32.ofNat B2)), .val (.int (Int32.ofNat A3)), .val (.int (Int32.ofNat B3)), .val (.int (p5 &&& (3 : Int32))), .val (.int (Int32.ofNat A1)), .val (.int (Int32.ofNat QB0)), .unset, .unset, .unset, .unset, .unset, .unset, .unset, .unset, .unset, .unset, .unset, .unset, .unset, .unset, .unset]) rfl ?_
        refine own_iload X7 hx hby at_128 (pc' := 130) rfl rfl ?_
        refine own_istore X7 hx hby at_130 (pc' := 132) rfl (Ls' := #[.val (.int p1), .val (.int p2), .val (.int p3), .val (.int p4), .val (.int p5), .val (.int p6), .val (.int (Int32.ofNat N)), .val (.int (Int32.ofNat A1)), .val (.int (Int32.ofNat B1)), .val (.int (Int32.ofNat A2)), .val (.int (Int32.ofNat B2)), .val (.int (Int32.ofNat A3)), .val (.int (Int32.ofNat B3)), .val (.int (p5 &&& (3 : Int32))), .val (.int (Int32.ofNat A1)), .val (.int (Int32.ofNat B1)), .unset, .unset, .unset, .unset, .unset, .unset, .unset, .unset, .unset, .unset, .unset, .unset, .unset, .unset, .unset]) rfl ?_
        refine own_goto X7 hx hby at_132 (by decide) (pc' := 166) (by decide) ?_
        exact JQ (A1, B1) ⟨hA1, hB1⟩
      · refine own_ifY X7 hx hby at_121 (by decide) (pc' := 135) (by decide) (feq hs0).2 ?_
        refine own_iload X7 hx hby at_135 (pc' := 137) rfl rfl ?_
        refine own_iconst X7 hx hby at_137 (pc' := 138) rfl (z := 1) rfl ?_
        by_cases hs1 : (p5 &&& (3 : Int32)) = (1 : Int32)
        · refine own_icmpN X7 hx hby at_138 (pc' := 141) rfl (teq hs1).2 ?_
          refine own_iload X7 hx hby at_141 (pc' := 143) rfl rfl ?_
          refine own_istore X7 hx hby at_143 (pc' := 145) rfl (Ls' := #[.val (.int p1), .val (.int p2), .val (.int p3), .val (.int p4), .val (.int p5), .val (.int p6), .val (.int (Int32.ofNat N)), .val (.int (Int32.ofNat A1)), .val (.int (Int32.ofNat B1)), .val (.int (Int32.ofNat A2)), .val (.int (Int32.ofNat B2)), .val (.int (Int32.ofNat A3)), .val (.int (Int32.ofNat B3)), .val (.int (p5 &&& (3 : Int32))), .val (.int (Int32.ofNat A2)), .val (.int (Int32.ofNat QB0)), .unset, .unset, .unset, .unset, .unset, .unset, .unset, .unset, .unset, .unset, .unset, .unset, .unset, .unset, .unset]) rfl ?_
          refine own_iload X7 hx hby at_145 (pc' := 147) rfl rfl ?_
          refine own_istore X7 hx hby at_147 (pc' := 149) rfl (Ls' := #[.val (.int p1), .val (.int p2), .val (.int p3), .val (.int p4), .val (.int p5), .val (.int p6), .val (.int (Int32.ofNat N)), .val (.int (Int32.ofNat A1)), .val (.int (Int32.ofNat B1)), .val (.int (Int32.ofNat A2)), .val (.int (Int32.ofNat B2)), .val (.int (Int32.ofNat A3)), .val (.int (Int32.ofNat B3)), .val (.int (p5 &&& (3 : Int32))), .val (.int (Int32.ofNat A2)), .val (.int (Int32.ofNat B2)), .unset, .unset, .unset, .unset, .unset, .unset, .unset, .unset, .unset, .unset, .unset, .unset, .unset, .unset, .unset]) rfl ?_
          refine own_goto X7 hx hby at_149 (by decide) (pc' := 166) (by decide) ?_
          exact JQ (A2, B2) ⟨hA2, hB2⟩
        · refine own_icmpY X7 hx hby at_138 (by decide) (pc' := 152) (by decide) (feq hs1).2 ?_
          refine own_iload X7 hx hby at_152 (pc' := 154) rfl rfl ?_
          refine own_iconst X7 hx hby at_154 (pc' := 155) rfl (z := 2) rfl ?_
          by_cases hs2 : (p5 &&& (3 : Int32)) = (2 : Int32)
          · refine own_icmpN X7 hx hby at_155 (pc' := 158) rfl (teq hs2).2 ?_
            refine own_iload X7 hx hby at_158 (pc' := 160) rfl rfl ?_
            refine own_istore X7 hx hby at_160 (pc' := 162) rfl (Ls' := #[.val (.int p1), .val (.int p2), .val (.int p3), .val (.int p4), .val (.int p5), .val (.int p6), .val (.int (Int32.ofNat N)), .val (.int (Int32.ofNat A1)), .val (.int (Int32.ofNat B1)), .val (.int (Int32.ofNat A2)), .val (.int (Int32.ofNat B2)), .val (.int (Int32.ofNat A3)), .val (.int (Int32.ofNat B3)), .val (.int (p5 &&& (3 : Int32))), .val (.int (Int32.ofNat A3)), .val (.int (Int32.ofNat QB0)), .unset, .unset, .unset, .unset, .unset, .unset, .unset, .unset, .unset, .unset, .unset, .unset, .unset, .unset, .unset]) rfl ?_
            refine own_iload X7 hx hby at_162 (pc' := 164) rfl rfl ?_
            refine own_istore X7 hx hby at_164 (pc' := 166) rfl (Ls' := #[.val (.int p1), .val (.int p2), .val (.int p3), .val (.int p4), .val (.int p5), .val (.int p6), .val (.int (Int32.ofNat N)), .val (.int (Int32.ofNat A1)), .val (.int (Int32.ofNat B1)), .val (.int (Int32.ofNat A2)), .val (.int (Int32.ofNat B2)), .val (.int (Int32.ofNat A3)), .val (.int (Int32.ofNat B3)), .val (.int (p5 &&& (3 : Int32))), .val (.int (Int32.ofNat A3)), .val (.int (Int32.ofNat B3)), .unset, .unset, .unset, .unset, .unset, .unset, .unset, .unset, .unset, .unset, .unset, .unset, .unset, .unset, .unset]) rfl ?_
            exact JQ (A3, B3) ⟨hA3, hB3⟩
          · refine own_icmpY X7 hx hby at_155 (by decide) (pc' := 166) (by decide) (feq hs2).2 ?_
            exact JQ (QA0, QB0) ⟨hQA0, hQB0⟩
  · intro J1
    by_cases hb1 : (p1 &&& (1 : Int32)) = (0 : Int32)
    · refine own_ifY X0 hx hby at_3 (by decide) (pc' := 19) (by decide) (teq hb1).1 ?_
      refine own_iconst X0 hx hby at_19 (pc' := 20) rfl (z := 1) rfl ?_
      refine own_iloadN X0 hx hby at_20 (pc' := 21) rfl rfl ?_
      refine own_iconst X0 hx hby at_21 (pc' := 22) rfl (z := 1) rfl ?_
      refine own_iushr X0 hx hby at_22 (pc' := 23) rfl ?_
      refine own_bipush X0 hx hby at_23 (pc' := 25) rfl (z := 7) rfl ?_
      refine own_iand X0 hx hby at_25 (pc' := 26) rfl ?_
      refine own_iadd X0 hx hby at_26 (pc' := 27) rfl ?_
      exact J1 _ (own_nv7 rfl)
    · refine own_ifN X0 hx hby at_3 (pc' := 6) rfl (feq hb1).1 ?_
      refine own_sipush X0 hx hby at_6 (pc' := 9) rfl (z := 2049) rfl ?_
      refine own_iloadN X0 hx hby at_9 (pc' := 10) rfl rfl ?_
      refine own_iconst X0 hx hby at_10 (pc' := 11) rfl (z := 1) rfl ?_
      refine own_iushr X0 hx hby at_11 (pc' := 12) rfl ?_
      refine own_bipush X0 hx hby at_12 (pc' := 14) rfl (z := 63) rfl ?_
      refine own_iand X0 hx hby at_14 (pc' := 15) rfl ?_
      refine own_iadd X0 hx hby at_15 (pc' := 16) rfl ?_
      refine own_goto X0 hx hby at_16 (by decide) (pc' := 27) (by decide) ?_
      exact J1 _ (own_nv63 rfl)
set_option maxRecDepth 65536 in
set_option maxHeartbeats 40000000 in
theorem comes_1 {Post : Tables → Env → Array Value → State → Outcome → State → Prop} (hpost : ∀ tb e args s v u, (limb_1_1.after args s (.returned v) u = true ∧ limb_1_2.after args s (.returned v) u = true ∧ True) → FrameEnd s (.returned v) u (Jvm.fieldLocs frame_1_writes args s ++ Jvm.arrayLocs frame_1_arrays args s ++ Jvm.staticLocs frame_1_statics s) 32 12800 → Post tb e args s (.returned v) u) :
    ArmFor flags0 classFile x code maxLocals ret World_1 tables_1 room_1 Calls_1 rest_1 Pre_1 Post := by
  intro l hfl _ _ p e ha hc hk s m args below hf hA hF happ hP
  obtain ⟨hcalls, hrest, hpre⟩ := hP
  obtain ⟨-, -, -, hnamed, -, -, -, hat⟩ := (Spec.applies_iff hf).mp happ
  obtain ⟨hg, hn⟩ := and_e (Cond.before_iff.mp (show (Jvm.Cond.and given_1 narrow_1).before args s = true from hpre))
  obtain ⟨g1, g2⟩ := and_e hg
  obtain ⟨g3, g4⟩ := and_e g2
  obtain ⟨g5, g6⟩ := and_e g4
  obtain ⟨g7, g8⟩ := and_e g6
  obtain ⟨g9, g10⟩ := and_e g8
  obtain ⟨g11, g12⟩ := and_e g10
  obtain ⟨w0, w1, w2, w3, w4, w5, rfl⟩ : ∃ w0 w1 w2 w3 w4 w5 : Value, args = #[w0, w1, w2, w3, w4, w5] := by
    have hs : args.size = 6 := by simpa [Cond.value, given_1] using g1
    obtain ⟨L⟩ := args
    match L, hs with
    | [w0, w1, w2, w3, w4, w5], _ => exact ⟨w0, w1, w2, w3, w4, w5, rfl⟩
  have hw := fun d (hd : d ∈ tables_1) => atoms_spec (ws := Jvm.Cond.code x code maxLocals ret :: tables_1) hat d (List.mem_cons_of_mem _ hd)
  have hfit : Fit s := fun {y c} hc i hi => by
    obtain ⟨ha, rfl⟩ := Array.getElem?_eq_some_iff.mp hc
    have q := List.all_eq_true.mp ((Array.all_eq_true_iff_forall_mem.mp hF) _ (Array.getElem_mem ha)) i (List.mem_range.mpr hi)
    simpa [Array.getElem?_eq_getElem hi] using q
  obtain ⟨i0, ei0⟩ := is_v g3
  obtain rfl : w0 = (.int i0) := Option.some.inj ei0
  obtain ⟨i1, ei1⟩ := is_v g5
  obtain rfl : w1 = (.int i1) := Option.some.inj ei1
  obtain ⟨i2, ei2⟩ := is_v g7
  obtain rfl : w2 = (.int i2) := Option.some.inj ei2
  obtain ⟨i3, ei3⟩ := is_v g9
  obtain rfl : w3 = (.int i3) := Option.some.inj ei3
  obtain ⟨i4, ei4⟩ := is_v g11
  obtain rfl : w4 = (.int i4) := Option.some.inj ei4
  obtain ⟨i5, ei5⟩ := is_v g12
  obtain rfl : w5 = (.int i5) := Option.some.inj ei5
  obtain ⟨k1, k234⟩ := and_e hn
  obtain ⟨k2, k34⟩ := and_e k234
  obtain ⟨k3, k4⟩ := and_e k34
  obtain ⟨nn, e_nn⟩ := exa_v k2
  have S_nn := Sta.start e_nn (Or.inr ⟨(ow_8 hw), (ow_22 hw)⟩)
  have V_nn := own_none e_nn k1 k2 k3 k4
  obtain ⟨n, o, h1, h2, h3, _, L, rfl, ⟨rfl, N⟩, hq⟩ := rm_law l s _ hw i0 i1 i2 i3 i4 i5 nn s.heap s.heap.size (Nat.le_refl _) V_nn S_nn tables_1 p e ha hc hk s m _ below hf ((Spec.applies_iff_loose hf).mp happ).1 ⟨rfl, State.Warmed39.refl s, rfl⟩ trivial
  refine ⟨n, _, h1, h2, h3, hpost _ _ _ _ _ _ ⟨Cond.after_iff.mpr rfl, Cond.after_iff.mpr (eq_i res_at (Term.int_eval (1)) rfl), trivial⟩ ⟨hq.1, hq.2.1, (hq.2.2.sift fun y hy => Or.inr (N y hy)).mono (by decide) (by decide)⟩⟩
theorem main_1_1 : Claimed_1_1 := comes_1 fun _ _ _ _ _ _ h hF => ⟨h.1, hF⟩
theorem main_1_2 : Claimed_1_2 := comes_1 fun _ _ _ _ _ _ h hF => ⟨h.2.1, hF⟩
end Jvm.Pilot.@@N@@
namespace Jvm.Pilot.@@N@@
open Jvm Jvm.ClassFile Sem Op Lib Jvm.Free Jvm.Stand Jvm.Pilot.@@N@@.Jvm.D
/-! MADE BY PROGRAM (witnessworld.py) out of the Statement's table words and the real class files: 15 classes; the members and pool entries that the words name. The judged class is class 1, her method 2. -/
namespace start1
open Jvm.ClassFile
def u (s : String) : CpInfo := .utf8 (stringToUtf16 s)
/-- a pool by its gaps: so many unusable entries, then the entry; so many at the end -/
def gap : Nat → List CpInfo → List CpInfo
  | 0, r => r
  | n + 1, r => .unusable :: gap n r
def poolList (es : List (Nat × CpInfo)) (last : Nat) : List CpInfo := es.foldr (fun e r => gap e.1 (e.2 :: r)) (gap last [])
def pool (es : List (Nat × CpInfo)) (last : Nat) : Array CpInfo := ⟨poolList es last⟩
def fileOf (pool : Array CpInfo) (this : Nat) (attrs : Array Attribute := #[]) (ms : Array MethodInfo := #[]) (fl : Nat := 33) (sup : Nat := 0) (ifs : Array Nat := #[]) (fds : Array FieldInfo := #[]) : ClassFile where
  minorVersion := 0
  majorVersion := 65
  constantPool := pool
  accessFlags := fl
  thisClass := this
  superClass := sup
  interfaces := ifs
  fields := fds
  methods := ms
  attributes := attrs
def plain (name : String) (sup : Option ClassId) : Class where
  name := name
  kind := .ordinary
  loader := none
  accessFlags := 33
  super := sup
  interfaces := #[]
  cf := none
  fields := #[]
  methods := #[]
  instanceTypes := #[]
  staticTypes := #[]
  resolved := #[]
  callSites := []
  init := .initialized
  statics := none
  mirror := none

def pool0 : Array CpInfo := pool [(5, u "<init>"), (0, u "()V"), (1, .class_ 10), (1, u "java/lang/Object")] 113

def k0c0 : Code := { maxStack := 0, maxLocals := 1, code := object_method_1_code, exceptionTable := #[], attributes := #[] }
def k0m0 : Method := { name := "<init>", desc := "()V", sig := { parameters := [], returnType := none }, accessFlags := 1, code := some k0c0 }
/-- java/lang/Object -/
def k0 : Class := { plain "java/lang/Object" none with
  accessFlags := 33
  interfaces := #[]
  cf := some (fileOf pool0 8 #[] #[{ accessFlags := 1, nameIndex := 5, descriptorIndex := 6, attributes := #[] }] 33 0 #[] #[])
  fields := #[]
  methods := #[k0m0]
  instanceTypes := #[]
  staticTypes := #[]
  resolved := Array.replicate 124 none
  statics := none }

def pool1 : Array CpInfo := pool [(2, .class_ 4), (1, u "java/lang/Object"), (0, u "<init>"), (0, u "()V"), (0, .integer 65535), (0, .methodref 9 10), (0, .class_ 11), (0, .nameAndType 12 13), (0, u "com/example/shopwright/shopwright/search/PairWeightsWeightPinLaw"), (0, u "item"), (0, u "(II)I"), (0, .double 4643211215818981376), (1, .class_ 17), (0, u "com/example/shopwright/shopwright/search/PairWeights"), (0, .methodref 16 19), (0, .nameAndType 5 20), (0, u "(I)V"), (0, .methodref 16 22), (0, .nameAndType 23 24), (0, u "decay"), (0, u "(D)V"), (0, .methodref 16 26), (0, .nameAndType 27 28), (0, u "add"), (0, u "(IID)V"), (0, .methodref 16 30), (0, .nameAndType 31 32), (0, u "weight"), (0, u "(II)D"), (2, u "law"), (0, u "(IIIIII)Z")] 3

def k1m0 : Method := { name := "<init>", desc := "()V", sig := { parameters := [], returnType := none }, accessFlags := 1, code := none }
def k1c1 : Code := { maxStack := 2, maxLocals := 2, code := method_2_code, exceptionTable := #[], attributes := #[] }
def k1m1 : Method := { name := "item", desc := "(II)I", sig := { parameters := [.int, .int], returnType := some .int }, accessFlags := 10, code := some k1c1 }
def k1c2 : Code := { maxStack := 5, maxLocals := 31, code := code, exceptionTable := #[], attributes := #[] }
def k1m2 : Method := { name := "law", desc := "(IIIIII)Z", sig := { parameters := [.int, .int, .int, .int, .int, .int], returnType := some .boolean }, accessFlags := 9, code := some k1c2 }
/-- com/example/shopwright/shopwright/search/PairWeightsWeightPinLaw -/
def k1 : Class := { plain "com/example/shopwright/shopwright/search/PairWeightsWeightPinLaw" (some 0) with
  accessFlags := 49
  interfaces := #[]
  cf := some (fileOf pool1 9 #[] #[{ accessFlags := 1, nameIndex := 5, descriptorIndex := 6, attributes := #[] }, { accessFlags := 10, nameIndex := 12, descriptorIndex := 13, attributes := #[] }, { accessFlags := 9, nameIndex := 35, descriptorIndex := 36, attributes := #[] }] 49 2 #[] #[])
  fields := #[]
  methods := #[k1m0, k1m1, k1m2]
  instanceTypes := #[]
  staticTypes := #[]
  resolved := Array.replicate 40 none
  statics := none }

def pool2 : Array CpInfo := pool [(1, .methodref 2 3), (0, .class_ 4), (0, .nameAndType 5 6), (0, u "java/lang/Object"), (0, u "<init>"), (0, u "()V"), (0, .fieldref 8 9), (0, .class_ 10), (0, .nameAndType 11 12), (0, u "com/example/shopwright/shopwright/search/PairWeights"), (0, u "count"), (0, u "I"), (0, .class_ 14), (0, u "[I"), (0, .fieldref 8 16), (0, .nameAndType 17 18), (0, u "tables"), (0, u "[[I"), (0, .fieldref 8 20), (0, .nameAndType 21 14), (0, u "NONE"), (0, .methodref 23 24), (0, .class_ 25), (0, .nameAndType 26 27), (0, u "java/util/Arrays"), (0, u "fill"), (0, u "([Ljava/lang/Object;Ljava/lang/Object;)V"), (0, .class_ 29), (0, u "[D"), (0, .fieldref 8 31), (0, .nameAndType 32 33), (0, u "weights"), (0, u "[[D"), (0, .fieldref 8 35), (0, .nameAndType 36 14), (0, u "taught"), (0, .fieldref 8 38), (0, .nameAndType 39 40), (0, u "untaught"), (0, u "D"), (0, .methodref 8 42), (0, .nameAndType 43 44), (0, u "slot"), (0, u "([II)I"), (0, .methodref 8 46), (0, .nameAndType 47 48), (0, u "holdWhole"), (0, u "(I)V"), (0, .methodref 8 50), (0, .nameAndType 51 52), (0, u "holdInTable"), (0, u "(II)V"), (2, u "add"), (0, u "(IID)V"), (0, .integer 2654435769), (0, .methodref 59 60), (0, .class_ 61), (0, .nameAndType 62 63), (0, u "java/lang/Math"), (0, u "max"), (0, u "(II)I"), (0, .methodref 23 65), (0, .nameAndType 26 66), (0, u "([II)V"), (0, .methodref 23 68), (0, .nameAndType 26 69), (0, u "([DD)V"), (0, u "SMALL"), (2, u "WHOLE"), (1, u "FREE"), (3, u "weight"), (0, u "(II)D"), (1, u "decay"), (0, u "(D)V")] 6

def k2c0 : Code := { maxStack := 5, maxLocals := 2, code := prog_39_method_1_code, exceptionTable := #[], attributes := #[] }
def k2m0 : Method := { name := "<init>", desc := "(I)V", sig := { parameters := [.int], returnType := none }, accessFlags := 0, code := some k2c0 }
def k2c1 : Code := { maxStack := 2, maxLocals := 7, code := prog_39_method_2_code, exceptionTable := #[], attributes := #[] }
def k2m1 : Method := { name := "weight", desc := "(II)D", sig := { parameters := [.int, .int], returnType := some .double }, accessFlags := 0, code := some k2c1 }
def k2c2 : Code := { maxStack := 6, maxLocals := 8, code := prog_39_method_3_code, exceptionTable := #[], attributes := #[] }
def k2m2 : Method := { name := "decay", desc := "(D)V", sig := { parameters := [.double], returnType := none }, accessFlags := 0, code := some k2c2 }
def k2c3 : Code := { maxStack := 6, maxLocals := 5, code := prog_39_method_4_code, exceptionTable := #[], attributes := #[] }
def k2m3 : Method := { name := "add", desc := "(IID)V", sig := { parameters := [.int, .int, .double], returnType := none }, accessFlags := 0, code := some k2c3 }
def k2c4 : Code := { maxStack := 3, maxLocals := 5, code := prog_39_method_6_code, exceptionTable := #[], attributes := #[] }
def k2m4 : Method := { name := "slot", desc := "([II)I", sig := { parameters := [(.array .int), .int], returnType := some .int }, accessFlags := 10, code := some k2c4 }
def k2c5 : Code := { maxStack := 5, maxLocals := 7, code := prog_39_method_7_code, exceptionTable := #[], attributes := #[] }
def k2m5 : Method := { name := "holdInTable", desc := "(II)V", sig := { parameters := [.int, .int], returnType := none }, accessFlags := 2, code := some k2c5 }
def k2c6 : Code := { maxStack := 4, maxLocals := 4, code := prog_39_method_8_code, exceptionTable := #[], attributes := #[] }
def k2m6 : Method := { name := "holdWhole", desc := "(I)V", sig := { parameters := [.int], returnType := none }, accessFlags := 2, code := some k2c6 }
/-- com/example/shopwright/shopwright/search/PairWeights -/
def k2 : Class := { plain "com/example/shopwright/shopwright/search/PairWeights" (some 0) with
  accessFlags := 32
  interfaces := #[]
  cf := some (fileOf pool2 8 #[] #[{ accessFlags := 0, nameIndex := 5, descriptorIndex := 48, attributes := #[] }, { accessFlags := 0, nameIndex := 79, descriptorIndex := 80, attributes := #[] }, { accessFlags := 0, nameIndex := 82, descriptorIndex := 83, attributes := #[] }, { accessFlags := 0, nameIndex := 55, descriptorIndex := 56, attributes := #[] }, { accessFlags := 10, nameIndex := 43, descriptorIndex := 44, attributes := #[] }, { accessFlags := 2, nameIndex := 51, descriptorIndex := 52, attributes := #[] }, { accessFlags := 2, nameIndex := 47, descriptorIndex := 48, attributes := #[] }] 32 2 #[] #[{ accessFlags := 26, nameIndex := 70, descriptorIndex := 12, attributes := #[] }, { accessFlags := 26, nameIndex := 73, descriptorIndex := 12, attributes := #[] }, { accessFlags := 26, nameIndex := 75, descriptorIndex := 12, attributes := #[] }, { accessFlags := 26, nameIndex := 21, descriptorIndex := 14, attributes := #[] }, { accessFlags := 18, nameIndex := 11, descriptorIndex := 12, attributes := #[] }, { accessFlags := 18, nameIndex := 17, descriptorIndex := 18, attributes := #[] }, { accessFlags := 18, nameIndex := 32, descriptorIndex := 33, attributes := #[] }, { accessFlags := 18, nameIndex := 36, descriptorIndex := 14, attributes := #[] }, { accessFlags := 2, nameIndex := 39, descriptorIndex := 40, attributes := #[] }])
  fields := #[{ name := "SMALL", type := .int, accessFlags := 26, slot := 0, constantValue := 0 }, { name := "WHOLE", type := .int, accessFlags := 26, slot := 1, constantValue := 0 }, { name := "FREE", type := .int, accessFlags := 26, slot := 2, constantValue := 0 }, { name := "NONE", type := (.array .int), accessFlags := 26, slot := 3, constantValue := 0 }, { name := "count", type := .int, accessFlags := 18, slot := 0, constantValue := 0 }, { name := "tables", type := (.array (.array .int)), accessFlags := 18, slot := 1, constantValue := 0 }, { name := "weights", type := (.array (.array .double)), accessFlags := 18, slot := 2, constantValue := 0 }, { name := "taught", type := (.array .int), accessFlags := 18, slot := 3, constantValue := 0 }, { name := "untaught", type := .double, accessFlags := 2, slot := 4, constantValue := 0 }]
  methods := #[k2m0, k2m1, k2m2, k2m3, k2m4, k2m5, k2m6]
  instanceTypes := #[.int, (.array (.array .int)), (.array (.array .double)), (.array .int), .double]
  staticTypes := #[.int, .int, .int, (.array .int)]
  resolved := Array.replicate 90 none
  statics := some 0 }

def pool3 : Array CpInfo := pool [(2, .class_ 4), (1, u "java/lang/Object"), (0, u "<init>"), (0, u "()V"), (7, .class_ 16), (1, u "java/util/Arrays"), (57, .class_ 76), (1, u "java/util/Arrays$NaturalOrder"), (36, .class_ 115), (1, u "java/util/Arrays$LegacyMergeSort"), (1, u "Z"), (257, .class_ 376), (0, u "java/util/Arrays$ArrayList"), (68, u "$assertionsDisabled"), (269, u "MIN_ARRAY_SORT_GRAN"), (0, u "I"), (2, u "INSERTIONSORT_THRESHOLD"), (120, u "fill"), (4, u "([II)V"), (8, u "([DD)V"), (3, u "([Ljava/lang/Object;Ljava/lang/Object;)V"), (116, .class_ 976), (0, u "java/util/Arrays$ArrayItr")] 52

def k3m0 : Method := { name := "<init>", desc := "()V", sig := { parameters := [], returnType := none }, accessFlags := 2, code := none }
def k3c1 : Code := { maxStack := 3, maxLocals := 4, code := jdk_65_method_103_code, exceptionTable := #[], attributes := #[] }
def k3m1 : Method := { name := "fill", desc := "([II)V", sig := { parameters := [(.array .int), .int], returnType := none }, accessFlags := 9, code := some k3c1 }
def k3c2 : Code := { maxStack := 4, maxLocals := 5, code := jdk_65_method_113_code, exceptionTable := #[], attributes := #[] }
def k3m2 : Method := { name := "fill", desc := "([DD)V", sig := { parameters := [(.array .double), .double], returnType := none }, accessFlags := 9, code := some k3c2 }
def k3c3 : Code := { maxStack := 3, maxLocals := 4, code := jdk_65_method_117_code, exceptionTable := #[], attributes := #[] }
def k3m3 : Method := { name := "fill", desc := "([Ljava/lang/Object;Ljava/lang/Object;)V", sig := { parameters := [(.array (.object "java/lang/Object")), (.object "java/lang/Object")], returnType := none }, accessFlags := 9, code := some k3c3 }
/-- java/util/Arrays -/
def k3 : Class := { plain "java/util/Arrays" (some 0) with
  accessFlags := 49
  interfaces := #[]
  cf := some (fileOf pool3 14 #[.nestMembers #[975, 375, 113, 74]] #[{ accessFlags := 2, nameIndex := 5, descriptorIndex := 6, attributes := #[] }, { accessFlags := 9, nameIndex := 840, descriptorIndex := 845, attributes := #[] }, { accessFlags := 9, nameIndex := 840, descriptorIndex := 854, attributes := #[] }, { accessFlags := 9, nameIndex := 840, descriptorIndex := 858, attributes := #[] }] 49 2 #[] #[{ accessFlags := 26, nameIndex := 715, descriptorIndex := 716, attributes := #[] }, { accessFlags := 26, nameIndex := 719, descriptorIndex := 716, attributes := #[] }, { accessFlags := 4120, nameIndex := 445, descriptorIndex := 117, attributes := #[] }])
  fields := #[{ name := "MIN_ARRAY_SORT_GRAN", type := .int, accessFlags := 26, slot := 0, constantValue := 0 }, { name := "INSERTIONSORT_THRESHOLD", type := .int, accessFlags := 26, slot := 1, constantValue := 0 }, { name := "$assertionsDisabled", type := .boolean, accessFlags := 4120, slot := 2, constantValue := 0 }]
  methods := #[k3m0, k3m1, k3m2, k3m3]
  instanceTypes := #[]
  staticTypes := #[.int, .int, .boolean]
  resolved := Array.replicate 1029 none
  statics := none }

def pool4 : Array CpInfo := pool [(1, .class_ 2), (0, u "java/lang/Math"), (1, .class_ 6), (1, u "java/lang/Object"), (0, u "<init>"), (0, u "()V"), (89, .class_ 100), (1, u "java/lang/Math$RandomNumberGeneratorHolder"), (71, u "negativeZeroFloatBits"), (0, u "J"), (2, u "negativeZeroDoubleBits"), (21, u "max"), (46, u "$assertionsDisabled"), (0, u "Z"), (88, u "(II)I"), (2, u "twoToTheDoubleScaleDown"), (0, u "D"), (4, u "twoToTheDoubleScaleUp"), (9, u "E"), (3, u "PI"), (2, u "TAU"), (2, u "DEGREES_TO_RADIANS"), (0, u "RADIANS_TO_DEGREES")] 94

def k4m0 : Method := { name := "<init>", desc := "()V", sig := { parameters := [], returnType := none }, accessFlags := 2, code := none }
def k4c1 : Code := { maxStack := 2, maxLocals := 2, code := jdk_29_method_65_code, exceptionTable := #[], attributes := #[] }
def k4m1 : Method := { name := "max", desc := "(II)I", sig := { parameters := [.int, .int], returnType := some .int }, accessFlags := 9, code := some k4c1 }
/-- java/lang/Math -/
def k4 : Class := { plain "java/lang/Math" (some 0) with
  accessFlags := 49
  interfaces := #[]
  cf := some (fileOf pool4 1 #[.nestMembers #[98]] #[{ accessFlags := 2, nameIndex := 7, descriptorIndex := 8, attributes := #[] }, { accessFlags := 9, nameIndex := 198, descriptorIndex := 335, attributes := #[] }] 49 4 #[] #[{ accessFlags := 25, nameIndex := 354, descriptorIndex := 339, attributes := #[] }, { accessFlags := 25, nameIndex := 358, descriptorIndex := 339, attributes := #[] }, { accessFlags := 25, nameIndex := 361, descriptorIndex := 339, attributes := #[] }, { accessFlags := 26, nameIndex := 364, descriptorIndex := 339, attributes := #[] }, { accessFlags := 26, nameIndex := 365, descriptorIndex := 339, attributes := #[] }, { accessFlags := 26, nameIndex := 172, descriptorIndex := 173, attributes := #[] }, { accessFlags := 26, nameIndex := 176, descriptorIndex := 173, attributes := #[] }, { accessFlags := 8, nameIndex := 344, descriptorIndex := 339, attributes := #[] }, { accessFlags := 8, nameIndex := 338, descriptorIndex := 339, attributes := #[] }, { accessFlags := 4120, nameIndex := 245, descriptorIndex := 246, attributes := #[] }])
  fields := #[{ name := "E", type := .double, accessFlags := 25, slot := 0, constantValue := 0 }, { name := "PI", type := .double, accessFlags := 25, slot := 1, constantValue := 0 }, { name := "TAU", type := .double, accessFlags := 25, slot := 2, constantValue := 0 }, { name := "DEGREES_TO_RADIANS", type := .double, accessFlags := 26, slot := 3, constantValue := 0 }, { name := "RADIANS_TO_DEGREES", type := .double, accessFlags := 26, slot := 4, constantValue := 0 }, { name := "negativeZeroFloatBits", type := .long, accessFlags := 26, slot := 5, constantValue := 0 }, { name := "negativeZeroDoubleBits", type := .long, accessFlags := 26, slot := 6, constantValue := 0 }, { name := "twoToTheDoubleScaleUp", type := .double, accessFlags := 8, slot := 7, constantValue := 0 }, { name := "twoToTheDoubleScaleDown", type := .double, accessFlags := 8, slot := 8, constantValue := 0 }, { name := "$assertionsDisabled", type := .boolean, accessFlags := 4120, slot := 9, constantValue := 0 }]
  methods := #[k4m0, k4m1]
  instanceTypes := #[]
  staticTypes := #[.double, .double, .double, .double, .double, .long, .long, .double, .double, .boolean]
  resolved := Array.replicate 460 none
  statics := none }

def pool5 : Array CpInfo := pool [(1, u "java/lang/Cloneable"), (0, .class_ 1), (0, u "java/lang/Object"), (0, .class_ 3)] 3

/-- java/lang/Cloneable -/
def k5 : Class := { plain "java/lang/Cloneable" (some 0) with
  accessFlags := 1537
  interfaces := #[]
  cf := some (fileOf pool5 2 #[] #[] 1537 4 #[] #[])
  fields := #[]
  methods := #[]
  instanceTypes := #[]
  staticTypes := #[]
  resolved := Array.replicate 8 none
  statics := none }

def pool6 : Array CpInfo := pool [(1, u "java/io/Serializable"), (0, .class_ 1), (0, u "java/lang/Object"), (0, .class_ 3)] 3

/-- java/io/Serializable -/
def k6 : Class := { plain "java/io/Serializable" (some 0) with
  accessFlags := 1537
  interfaces := #[]
  cf := some (fileOf pool6 2 #[] #[] 1537 4 #[] #[])
  fields := #[]
  methods := #[]
  instanceTypes := #[]
  staticTypes := #[]
  resolved := Array.replicate 8 none
  statics := none }

/-- the primitive byte -/
def k7 : Class := { plain "byte" none with kind := .primitive 'B', accessFlags := 0x411 }
/-- [B -/
def k8 : Class := { plain "[B" (some 0) with kind := .array 7 .byte, interfaces := #[5, 6], accessFlags := 1041 }

/-- the primitive double -/
def k9 : Class := { plain "double" none with kind := .primitive 'D', accessFlags := 0x411 }
/-- [D -/
def k10 : Class := { plain "[D" (some 0) with kind := .array 9 .double, interfaces := #[5, 6], accessFlags := 1041 }

/-- the primitive int -/
def k11 : Class := { plain "int" none with kind := .primitive 'I', accessFlags := 0x411 }
/-- [I -/
def k12 : Class := { plain "[I" (some 0) with kind := .array 11 .int, interfaces := #[5, 6], accessFlags := 1041 }

/-- [[D -/
def k13 : Class := { plain "[[D" (some 0) with kind := .array 10 (.array .double), interfaces := #[5, 6], accessFlags := 1041 }

/-- [[I -/
def k14 : Class := { plain "[[I" (some 0) with kind := .array 12 (.array .int), interfaces := #[5, 6], accessFlags := 1041 }

def heap : Heap := #[{ cls := 2, slots := #[.int 0, .int 0, .int 0, .ref 1], vm := .statics 2 },
  { cls := 12, slots := #[.int (-1)], vm := .none }]
def classes : Array Class := #[k0, k1, k2, k3, k4, k5, k6, k7, k8, k9, k10, k11, k12, k13, k14]
def interned : List (Array UInt16 × Addr) := []
def slotsUsed : Nat := 5
def theMethod : MethodId := ⟨1, 2⟩
def args0 : Array Value := #[.int 5, .int 1, .int 2, .int 3, .int 4, .int 5]
def aboutOver (below : List Frame) : State where
  vm := { classes := classes, interned := interned.toArray }
  heap := heap
  slotsUsed := slotsUsed
  threads := #[{ frames := .invoking theMethod args0 :: below }]
def below0 : List Frame := [.native { method := ⟨0, 0⟩, args := #[] }]
def about1 : State := aboutOver below0
def p0 : Program := .bare "" "" ""
def e0 : Env := launch0.env 0 0 0
theorem w_frames : about1.frames = Frame.invoking theMethod args0 :: below0 := rfl
set_option maxRecDepth 65536 in
theorem w_args : argsFit about1.vm theMethod args0 = true := by decide +kernel
set_option maxRecDepth 65536 in
theorem w_heap : heapFits about1 = true := by decide +kernel
set_option maxRecDepth 65536 in
theorem w_runnable : about1.curStatus? = some .runnable := by decide +kernel
set_option maxRecDepth 65536 in
theorem w_alone : about1.alone = true := by decide +kernel
set_option maxRecDepth 65536 in
theorem w_named : about1.methodNamed? x = some theMethod := by decide +kernel
set_option maxRecDepth 65536 in
theorem w_hears : about1.hears theMethod below0 = true := by decide +kernel
set_option maxRecDepth 65536 in
theorem w_ripe : about1.ripe theMethod args0 below0 = true := by decide +kernel
theorem w_running : about1.status = .running := rfl
set_option maxRecDepth 65536 in
theorem w_room : about1.hasRoom e0.platform room_1 = true :=
  launch0.hasRoom_least _ room_1 (by decide +kernel) (by decide +kernel) (by decide +kernel) (by decide +kernel) (by decide +kernel) (by decide +kernel)
theorem allAtoms_all (ts : List Jvm.Cond) (a : Array Jvm.Value) (st : Jvm.State) : (allAtoms ts).before a st = ts.all (fun c => c.before a st) := by
  induction ts with
  | nil => rfl
  | cons c t ih =>
    show (Jvm.Cond.and c (allAtoms t)).before a st = _
    rw [Jvm.Cond.before_and, ih, List.all_cons]
def words1 : List Jvm.Cond := Jvm.Cond.code x code maxLocals ret :: tables_1
/-- a 'code' word, met by the world's own term for the bytes: nothing is compared byte by byte -/
theorem code_word {y : MethodName} {bytes : ByteArray} {mx : Nat} {rt : Option FieldType} {a : Array Value} {s : State} {m : MethodId} {meth : Method} {c : Code} (h1 : s.methodNamed? y = some m) (h2 : s.vm.method? m = some meth) (h3 : meth.code = some c) (h4 : c.code = bytes)
    (h5 : (c.maxLocals == mx && c.exceptionTable.isEmpty && decide (c.maxStack ≤ mostOperands) && decide (meth.sig.returnType = rt) && !meth.locks && decide (parseMethodDescriptor y.desc = some meth.sig)) = true) : (Jvm.Cond.code y bytes mx rt).before a s = true := by
  simp only [Bool.and_eq_true, beq_iff_eq, Bool.not_eq_true', decide_eq_true_eq] at h5
  obtain ⟨⟨⟨⟨⟨g1, g2⟩, g3⟩, g4⟩, g5⟩, g6⟩ := h5
  simp [Cond.before, Cond.holds, Cond.value, h1, h2, h3, h4, g1, g2, g3, g4, g5, g6]
def isCode : Jvm.Cond → Bool
  | .code _ _ _ _ => true
  | _ => false
theorem all_split {L : List Jvm.Cond} {P : Jvm.Cond → Bool} (h1 : L.all (fun c => isCode c || P c) = true) (h2 : ∀ c ∈ L.filter isCode, P c = true) : L.all P = true := by
  refine List.all_eq_true.mpr fun c hc => ?_
  have h := List.all_eq_true.mp h1 c hc
  rcases Bool.eq_false_or_eq_true (isCode c) with hi | hi
  · exact h2 c (List.mem_filter.mpr ⟨hc, hi⟩)
  · simpa [hi] using h
set_option maxRecDepth 65536 in
theorem w_c0 : (Jvm.Cond.code x code maxLocals ret).before args0 about1 = true := code_word (m := ⟨1, 2⟩) (meth := k1m2) (c := k1c2) (by decide +kernel) rfl rfl rfl (by decide +kernel)
set_option maxRecDepth 65536 in
theorem w_c1 : (Jvm.Cond.code ({ cls := "com/example/shopwright/shopwright/search/PairWeightsWeightPinLaw", name := "item", desc := "(II)I" } : Jvm.MethodName) method_2_code (2 : Nat) (Option.some Jvm.ClassFile.FieldType.int)).before args0 about1 = true := code_word (m := ⟨1, 1⟩) (meth := k1m1) (c := k1c1) (by decide +kernel) rfl rfl rfl (by decide +kernel)
set_option maxRecDepth 65536 in
theorem w_c2 : (Jvm.Cond.code ({ cls := "com/example/shopwright/shopwright/search/PairWeights", name := "<init>", desc := "(I)V" } : Jvm.MethodName) prog_39_method_1_code (2 : Nat) (Option.none : Option Jvm.ClassFile.FieldType)).before args0 about1 = true := code_word (m := ⟨2, 0⟩) (meth := k2m0) (c := k2c0) (by decide +kernel) rfl rfl rfl (by decide +kernel)
set_option maxRecDepth 65536 in
theorem w_c3 : (Jvm.Cond.code ({ cls := "java/lang/Object", name := "<init>", desc := "()V" } : Jvm.MethodName) object_method_1_code (1 : Nat) (Option.none : Option Jvm.ClassFile.FieldType)).before args0 about1 = true := code_word (m := ⟨0, 0⟩) (meth := k0m0) (c := k0c0) (by decide +kernel) rfl rfl rfl (by decide +kernel)
set_option maxRecDepth 65536 in
theorem w_c4 : (Jvm.Cond.code ({ cls := "java/util/Arrays", name := "fill", desc := "([Ljava/lang/Object;Ljava/lang/Object;)V" } : Jvm.MethodName) jdk_65_method_117_code (4 : Nat) (Option.none : Option Jvm.ClassFile.FieldType)).before args0 about1 = true := code_word (m := ⟨3, 3⟩) (meth := k3m3) (c := k3c3) (by decide +kernel) rfl rfl rfl (by decide +kernel)
set_option maxRecDepth 65536 in
theorem w_c5 : (Jvm.Cond.code ({ cls := "com/example/shopwright/shopwright/search/PairWeights", name := "decay", desc := "(D)V" } : Jvm.MethodName) prog_39_method_3_code (8 : Nat) (Option.none : Option Jvm.ClassFile.FieldType)).before args0 about1 = true := code_word (m := ⟨2, 2⟩) (meth := k2m2) (c := k2c2) (by decide +kernel) rfl rfl rfl (by decide +kernel)
set_option maxRecDepth 65536 in
theorem w_c6 : (Jvm.Cond.code ({ cls := "com/example/shopwright/shopwright/search/PairWeights", name := "add", desc := "(IID)V" } : Jvm.MethodName) prog_39_method_4_code (5 : Nat) (Option.none : Option Jvm.ClassFile.FieldType)).before args0 about1 = true := code_word (m := ⟨2, 3⟩) (meth := k2m3) (c := k2c3) (by decide +kernel) rfl rfl rfl (by decide +kernel)
set_option maxRecDepth 65536 in
theorem w_c7 : (Jvm.Cond.code ({ cls := "com/example/shopwright/shopwright/search/PairWeights", name := "slot", desc := "([II)I" } : Jvm.MethodName) prog_39_method_6_code (5 : Nat) (Option.some Jvm.ClassFile.FieldType.int)).before args0 about1 = true := code_word (m := ⟨2, 4⟩) (meth := k2m4) (c := k2c4) (by decide +kernel) rfl rfl rfl (by decide +kernel)
set_option maxRecDepth 65536 in
theorem w_c8 : (Jvm.Cond.code ({ cls := "com/example/shopwright/shopwright/search/PairWeights", name := "holdWhole", desc := "(I)V" } : Jvm.MethodName) prog_39_method_8_code (4 : Nat) (Option.none : Option Jvm.ClassFile.FieldType)).before args0 about1 = true := code_word (m := ⟨2, 6⟩) (meth := k2m6) (c := k2c6) (by decide +kernel) rfl rfl rfl (by decide +kernel)
set_option maxRecDepth 65536 in
theorem w_c9 : (Jvm.Cond.code ({ cls := "java/util/Arrays", name := "fill", desc := "([DD)V" } : Jvm.MethodName) jdk_65_method_113_code (5 : Nat) (Option.none : Option Jvm.ClassFile.FieldType)).before args0 about1 = true := code_word (m := ⟨3, 2⟩) (meth := k3m2) (c := k3c2) (by decide +kernel) rfl rfl rfl (by decide +kernel)
set_option maxRecDepth 65536 in
theorem w_c10 : (Jvm.Cond.code ({ cls := "com/example/shopwright/shopwright/search/PairWeights", name := "weight", desc := "(II)D" } : Jvm.MethodName) prog_39_method_2_code (7 : Nat) (Option.some Jvm.ClassFile.FieldType.double)).before args0 about1 = true := code_word (m := ⟨2, 1⟩) (meth := k2m1) (c := k2c1) (by decide +kernel) rfl rfl rfl (by decide +kernel)
set_option maxRecDepth 65536 in
theorem w_c11 : (Jvm.Cond.code ({ cls := "com/example/shopwright/shopwright/search/PairWeights", name := "holdInTable", desc := "(II)V" } : Jvm.MethodName) prog_39_method_7_code (7 : Nat) (Option.none : Option Jvm.ClassFile.FieldType)).before args0 about1 = true := code_word (m := ⟨2, 5⟩) (meth := k2m5) (c := k2c5) (by decide +kernel) rfl rfl rfl (by decide +kernel)
set_option maxRecDepth 65536 in
theorem w_c12 : (Jvm.Cond.code ({ cls := "java/lang/Math", name := "max", desc := "(II)I" } : Jvm.MethodName) jdk_29_method_65_code (2 : Nat) (Option.some Jvm.ClassFile.FieldType.int)).before args0 about1 = true := code_word (m := ⟨4, 1⟩) (meth := k4m1) (c := k4c1) (by decide +kernel) rfl rfl rfl (by decide +kernel)
set_option maxRecDepth 65536 in
theorem w_c13 : (Jvm.Cond.code ({ cls := "java/util/Arrays", name := "fill", desc := "([II)V" } : Jvm.MethodName) jdk_65_method_103_code (4 : Nat) (Option.none : Option Jvm.ClassFile.FieldType)).before args0 about1 = true := code_word (m := ⟨3, 1⟩) (meth := k3m1) (c := k3c1) (by decide +kernel) rfl rfl rfl (by decide +kernel)
def codes1 : List Jvm.Cond := [Jvm.Cond.code x code maxLocals ret, Jvm.Cond.code ({ cls := "com/example/shopwright/shopwright/search/PairWeightsWeightPinLaw", name := "item", desc := "(II)I" } : Jvm.MethodName) method_2_code (2 : Nat) (Option.some Jvm.ClassFile.FieldType.int), Jvm.Cond.code ({ cls := "com/example/shopwright/shopwright/search/PairWeights", name := "<init>", desc := "(I)V" } : Jvm.MethodName) prog_39_method_1_code (2 : Nat) (Option.none : Option Jvm.ClassFile.FieldType), Jvm.Cond.code ({ cls := "java/lang/Object", name := "<init>", desc := "()V" } : Jvm.MethodName) object_method_1_code (1 : Nat) (Option.none : Option Jvm.ClassFile.FieldType), Jvm.Cond.code ({ cls := "java/util/Arrays", name := "fill", desc := "([Ljava/lang/Object;Ljava/lang/Object;)V" } : Jvm.MethodName) jdk_65_method_117_code (4 : Nat) (Option.none : Option Jvm.ClassFile.FieldType), Jvm.Cond.code ({ cls := "com/example/shopwright/shopwright/search/PairWeights", name := "decay", desc := "(D)V" } : Jvm.MethodName) prog_39_method_3_code (8 : Nat) (Option.none : Option Jvm.ClassFile.FieldType), Jvm.Cond.code ({ cls := "com/example/shopwright/shopwright/search/PairWeights", name := "add", desc := "(IID)V" } : Jvm.MethodName) prog_39_method_4_code (5 : Nat) (Option.none : Option Jvm.ClassFile.FieldType), Jvm.Cond.code ({ cls := "com/example/shopwright/shopwright/search/PairWeights", name := "slot", desc := "([II)I" } : Jvm.MethodName) prog_39_method_6_code (5 : Nat) (Option.some Jvm.ClassFile.FieldType.int), Jvm.Cond.code ({ cls := "com/example/shopwright/shopwright/search/PairWeights", name := "holdWhole", desc := "(I)V" } : Jvm.MethodName) prog_39_method_8_code (4 : Nat) (Option.none : Option Jvm.ClassFile.FieldType), Jvm.Cond.code ({ cls := "java/util/Arrays", name := "fill", desc := "([DD)V" } : Jvm.MethodName) jdk_65_method_113_code (5 : Nat) (Option.none : Option Jvm.ClassFile.FieldType), Jvm.Cond.code ({ cls := "com/example/shopwright/shopwright/search/PairWeights", name := "weight", desc := "(II)D" } : Jvm.MethodName) prog_39_method_2_code (7 : Nat) (Option.some Jvm.ClassFile.FieldType.double), Jvm.Cond.code ({ cls := "com/example/shopwright/shopwright/search/PairWeights", name := "holdInTable", desc := "(II)V" } : Jvm.MethodName) prog_39_method_7_code (7 : Nat) (Option.none : Option Jvm.ClassFile.FieldType), Jvm.Cond.code ({ cls := "java/lang/Math", name := "max", desc := "(II)I" } : Jvm.MethodName) jdk_29_method_65_code (2 : Nat) (Option.some Jvm.ClassFile.FieldType.int), Jvm.Cond.code ({ cls := "java/util/Arrays", name := "fill", desc := "([II)V" } : Jvm.MethodName) jdk_65_method_103_code (4 : Nat) (Option.none : Option Jvm.ClassFile.FieldType)]
set_option maxRecDepth 65536 in
theorem codes_eq : words1.filter isCode = codes1 := rfl
theorem w_codes : ∀ c ∈ words1.filter isCode, c.before args0 about1 = true := by
  rw [codes_eq]
  intro c hc
  simp only [codes1, List.mem_cons, List.not_mem_nil, or_false] at hc
  rcases hc with rfl | rfl | rfl | rfl | rfl | rfl | rfl | rfl | rfl | rfl | rfl | rfl | rfl | rfl
  · exact w_c0
  · exact w_c1
  · exact w_c2
  · exact w_c3
  · exact w_c4
  · exact w_c5
  · exact w_c6
  · exact w_c7
  · exact w_c8
  · exact w_c9
  · exact w_c10
  · exact w_c11
  · exact w_c12
  · exact w_c13
set_option maxRecDepth 65536 in
theorem w_t1 : (words1.take 24).all (fun c => isCode c || c.before args0 about1) = true := by decide +kernel
set_option maxRecDepth 65536 in
theorem w_t2 : ((words1.drop 24).take 24).all (fun c => isCode c || c.before args0 about1) = true := by decide +kernel
set_option maxRecDepth 65536 in
theorem w_t3 : (((words1.drop 24).drop 24).take 24).all (fun c => isCode c || c.before args0 about1) = true := by decide +kernel
set_option maxRecDepth 65536 in
theorem w_t4 : (((words1.drop 24).drop 24).drop 24).all (fun c => isCode c || c.before args0 about1) = true := by decide +kernel
theorem w_tables : (allAtoms (Jvm.Cond.code x code maxLocals ret :: tables_1)).before args0 about1 = true := by
  rw [allAtoms_all]
  show words1.all (fun c => c.before args0 about1) = true
  refine all_split ?_ w_codes
  rw [← List.take_append_drop 24 words1, List.all_append, w_t1, ← List.take_append_drop 24 (words1.drop 24), List.all_append, w_t2, ← List.take_append_drop 24 ((words1.drop 24).drop 24), List.all_append, w_t3, w_t4]
  rfl
set_option maxRecDepth 65536 in
theorem w_case : (Jvm.Cond.and given_1 narrow_1).before args0 about1 = true := by decide +kernel
theorem w_applies : (headSpec (Jvm.Cond.code x code maxLocals ret :: tables_1) room_1).applies x e0.platform about1 = true :=
  (Spec.applies_iff w_frames).mpr ⟨w_running, w_runnable, w_alone, w_named, w_hears, w_ripe, w_room, w_tables⟩
theorem atStart : AtStart classFile x code maxLocals ret World_1 tables_1 room_1 Calls_1 rest_1 Pre_1 launch0 p0 e0 about1 theMethod args0 below0 :=
  ⟨lists_1, trivial, launch0.admits_env _ _ _, launch0.least_env, fairChoices_fair.cas, fairChoices_fair.clock, w_frames, w_args, w_heap, w_applies, trivial, trivial, w_case⟩
end start1
theorem witness_1 : WitnessClaimed_1 := ⟨start1.p0, start1.e0, start1.about1, start1.theMethod, start1.args0, start1.below0, start1.atStart⟩
end Jvm.Pilot.@@N@@
